/-
  (*graph).components: what its walk needs.
-/
import Derived.Test.YbulkcxvoEnter
namespace Go.Proofs.Ybulkcxvo
open Go.RowKit

/-- A node's successors. -/
def adjF (n : Nat) (at_ val : Nat → Nat) (u : Nat) : List Nat := if u < n then (List.range (at_ (u + 1) - at_ u)).map fun i => val (at_ u + i) else []
theorem adjF_len {n : Nat} {at_ val : Nat → Nat} {u : Nat} (h : u < n) : (adjF n at_ val u).length = at_ (u + 1) - at_ u := by simp [adjF, h]
theorem adjF_at {n : Nat} {at_ val : Nat → Nat} {u k : Nat} (h : u < n) (hk : k < at_ (u + 1) - at_ u) : (adjF n at_ val u)[k]? = some (val (at_ u + k)) := by simp [adjF, h, hk]

/-- The bounds that the walk's arithmetic asks. -/
structure Bd (n : Nat) (adj : Nat → List Nat) (s : St) : Prop where
  b1 : s.stk.length + s.size.length ≤ s.vis
  b2 : s.path.length ≤ s.vis
  b3 : 2 * s.vis + unv n adj s.idx ≤ 600000
theorem Bd.enter {n : Nat} {adj : Nat → List Nat} {s : St} (h : Bd n adj s) {P : List (Nat × Nat)} {v : Nat} (hP : P.length = s.path.length) (hv : s.idx v = 0) (hvn : v < n) : Bd n adj (s.enter P v) := by
  have h1 := h.b1
  have h2 := h.b2
  have h3 := h.b3
  have h4 := unv_enter adj s.idx v s.vis hv n hvn
  refine ⟨?_, ?_, ?_⟩
  · show (s.stk ++ [v]).length + s.size.length ≤ s.vis + 1
    simp; omega
  · show (P ++ [(v, 0)]).length ≤ s.vis + 1
    simp; omega
  · show 2 * (s.vis + 1) + unv n adj (upd s.idx v (s.vis + 1)) ≤ 600000
    omega
/-- What is left at a node's entering is less. -/
theorem left_enter {n : Nat} {adj : Nat → List Nat} {s : St} {pre : List (Nat × Nat)} {u k v : Nat} (hp : s.path = pre ++ [(u, k)]) (hk : k < (adj u).length) (hv : s.idx v = 0) (hvn : v < n) :
    unv n adj (s.enter (pre ++ [(u, k + 1)]) v).idx + wt adj (s.enter (pre ++ [(u, k + 1)]) v).path < unv n adj s.idx + wt adj s.path := by
  have h4 := unv_enter adj s.idx v s.vis hv n hvn
  show unv n adj (upd s.idx v (s.vis + 1)) + wt adj (pre ++ [(u, k + 1)] ++ [(v, 0)]) < _
  rw [wt_snoc, wt_snoc, hp, wt_snoc]
  omega
theorem left_bump {n : Nat} {adj : Nat → List Nat} {s : St} {pre : List (Nat × Nat)} {u k : Nat} (hp : s.path = pre ++ [(u, k)]) (hk : k < (adj u).length) :
    unv n adj s.idx + wt adj (pre ++ [(u, k + 1)]) < unv n adj s.idx + wt adj s.path := by
  rw [hp, wt_snoc, wt_snoc]; omega
theorem left_pop {n : Nat} {adj : Nat → List Nat} {s : St} {pre : List (Nat × Nat)} {u k : Nat} (hp : s.path = pre ++ [(u, k)]) :
    unv n adj s.idx + wt adj pre < unv n adj s.idx + wt adj s.path := by
  rw [hp, wt_snoc]; omega

theorem own_val {w : World} {B e sz n : Nat} {v : Value} {xs : List Value} (h : w.ownsRow B e sz v n xs) : ∃ ao cap, v = .slice ao n cap := by
  rcases h.2 with ⟨rfl, rfl⟩ | ⟨g, cap, cu, rfl, _⟩
  · exact ⟨_, _, rfl⟩
  · exact ⟨_, _, rfl⟩
theorem pc_at (pre : List (Nat × Nat)) (u k : Nat) : (pc (pre ++ [(u, k)]))[pre.length * 2]? = some (.int .i64 (u : Int)) ∧ (pc (pre ++ [(u, k)]))[pre.length * 2 + 1]? = some (.int .i64 (k : Int)) := by
  rw [pc_append]
  have hl := pc_len pre
  constructor
  · rw [List.getElem?_append_right (by omega), hl, Nat.sub_self]; rfl
  · rw [List.getElem?_append_right (by omega), hl, show pre.length * 2 + 1 - pre.length * 2 = 1 by omega]; rfl
theorem pc_set (pre : List (Nat × Nat)) (u k k' : Nat) : (pc (pre ++ [(u, k)])).set (pre.length * 2 + 1) (.int .i64 (k' : Int)) = pc (pre ++ [(u, k')]) := by
  rw [pc_append, pc_append]
  have hl := pc_len pre
  rw [List.set_append_right _ _ (by omega), hl, show pre.length * 2 + 1 - pre.length * 2 = 1 by omega]
  rfl
section tm
variable {w0 w : World} {n : Nat} {vs vp vz : Value} {s : St}
/-- The counter of the path's last node turned. -/
theorem Tm.top {g cap u k : Nat} {pre : List (Nat × Nat)} (h : Tm w0 w n vs (.slice (some ⟨g, 0, none⟩) (pre.length + 1) cap) vz s) (hp : s.path = pre ++ [(u, k)]) (k' : Nat) :
    Tm w0 (w.setCell ⟨g, pre.length * 2 + 1, none⟩ (.int .i64 (k' : Int))) n vs (.slice (some ⟨g, 0, none⟩) (pre.length + 1) cap) vz { s with path := pre ++ [(u, k')] } := by
  have hg := (own_ge h.path g rfl)
  have kb : ∀ b, b ≠ g → (w.setCell ⟨g, pre.length * 2 + 1, none⟩ (.int .i64 (k' : Int))).heap[b]? = w.heap[b]? := fun b hb => heap_setCell_other _ _ _ _ hb
  have hpa := h.path
  rw [hp, List.length_append, List.length_singleton] at hpa
  refine ⟨h.bel.setCell (by show w0.heap.size ≤ g; omega) _, fun i hi => ?_, own_keep h.stk (fun b e => kb b (fun e' => h.a1 b e (by rw [e']; rfl))), ?_, own_keep h.size (fun b e => kb b (fun e' => h.a3 g rfl (by rw [← e']; exact e))), h.a1, h.a2, h.a3, by simpa using h.Bw⟩
  · rw [kb _ (by omega), h.obj i hi]
    match i, hi with
    | 0, _ => rfl
    | 1, _ => rfl
    | 2, _ => rfl
    | 3, _ => rfl
    | 4, _ => rfl
    | 5, _ => rfl
    | 6, _ => rfl
    | 7, _ => rfl
    | 8, _ => rfl
    | 9, _ => rfl
  · show (w.setCell _ _).ownsRow _ 90 2 _ (pre ++ [(u, k')]).length (pc (pre ++ [(u, k')]))
    rw [List.length_append, List.length_singleton, ← pc_set pre u k k']
    exact own_set hpa _
/-- The path's last node taken off. -/
theorem Tm.popPath {g cap u k : Nat} {pre : List (Nat × Nat)} (h : Tm w0 w n vs (.slice (some ⟨g, 0, none⟩) (pre.length + 1) cap) vz s) (hp : s.path = pre ++ [(u, k)]) :
    Tm w0 (w.setCell ⟨w0.heap.size + 8, 0, none⟩ (.slice (some ⟨g, 0, none⟩) pre.length cap)) n vs (.slice (some ⟨g, 0, none⟩) pre.length cap) vz { s with path := pre } := by
  have hpa := h.path
  rw [hp, List.length_append, List.length_singleton] at hpa
  refine h.pathTo _ pre (Below.refl _ _) (Nat.le_refl _) (fun _ _ _ => rfl) ?_ (.inl rfl)
  have := own_take hpa (m := pre.length) (by omega)
  rw [pc_append, ← pc_len, List.take_left] at this
  exact this
/-- The stack's last node taken off. -/
theorem Tm.popStk {g cap x : Nat} {l : List Nat} (h : Tm w0 w n (.slice (some ⟨g, 0, none⟩) (l.length + 1) cap) vp vz s) (hl : s.stk = l ++ [x]) :
    Tm w0 (w.setCell ⟨w0.heap.size + 7, 0, none⟩ (.slice (some ⟨g, 0, none⟩) l.length cap)) n (.slice (some ⟨g, 0, none⟩) l.length cap) vp vz { s with stk := l } := by
  have hpa := h.stk
  rw [hl, List.length_append, List.length_singleton] at hpa
  refine h.stkTo _ l (Below.refl _ _) (Nat.le_refl _) (fun _ _ _ => rfl) ?_ (.inl rfl)
  have := own_take hpa (m := l.length) (by omega)
  rw [ic_append, Nat.mul_one, ← ic_len, List.take_left] at this
  rw [ic_len] at this
  exact this
/-- The row of sizes turned. -/
theorem Tm.sizeTo {W : World} {v' : Value} {l : List Nat} (h : Tm w0 w n vs vp vz s) (hb : Below w0.heap.size w W) (hs : w.heap.size ≤ W.heap.size) (hk : ∀ b, b < w.heap.size → vz.ownBlock ≠ some b → W.heap[b]? = w.heap[b]?) (hown : W.ownsRow (w0.heap.size + 10) 3 1 v' l.length (ic l))
    (hat : v'.ownBlock = vz.ownBlock ∨ ∀ g, v'.ownBlock = some g → w.heap.size ≤ g) : Tm w0 W n vs vp v' { s with size := l } := by
  have hB := h.Bw
  have hvz := own_ge h.size
  refine ⟨h.bel.trans hb, fun i hi => ?_, own_keep h.stk (fun g e => hk g (own_ge h.stk g e).2 (h.a2 g e)), own_keep h.path (fun g e => hk g (own_ge h.path g e).2 (h.a3 g e)), hown, h.a1, ?_, ?_, Nat.le_trans hB hs⟩
  · rw [hk _ (by omega) (fun e' => by have := (hvz _ e').1; omega), h.obj i hi]
    match i, hi with
    | 0, _ => rfl
    | 1, _ => rfl
    | 2, _ => rfl
    | 3, _ => rfl
    | 4, _ => rfl
    | 5, _ => rfl
    | 6, _ => rfl
    | 7, _ => rfl
    | 8, _ => rfl
    | 9, _ => rfl
  · intro g e e'
    rcases hat with ha | ha
    · exact h.a2 g e (by rw [← ha]; exact e')
    · have := ha g e'; have := (own_ge h.stk g e).2; omega
  · intro g e e'
    rcases hat with ha | ha
    · exact h.a3 g e (by rw [← ha]; exact e')
    · have := ha g e'; have := (own_ge h.path g e).2; omega
end tm
end Go.Proofs.Ybulkcxvo
