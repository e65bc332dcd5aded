/-
  The memory of (*graph).components, told by the plain state.
-/
import Derived.Test.YbulkcxvoOf
import Derived.Deep.AppendLies
namespace Go.Proofs.Ybulkcxvo
open Go.RowKit

def ic (l : List Nat) : List Value := l.map fun (x : Nat) => Value.int .i64 (x : Int)
def pc (l : List (Nat × Nat)) : List Value := l.flatMap fun p => [Value.int .i64 (p.1 : Int), Value.int .i64 (p.2 : Int)]
theorem ic_len (l : List Nat) : (ic l).length = l.length := by simp [ic]
theorem pc_len (l : List (Nat × Nat)) : (pc l).length = l.length * 2 := by
  induction l with
  | nil => rfl
  | cons a r ih =>
    have e : pc (a :: r) = [Value.int .i64 (a.1 : Int), Value.int .i64 (a.2 : Int)] ++ pc r := rfl
    rw [e, List.length_append, ih]; simp; omega
theorem ic_append (a b : List Nat) : ic (a ++ b) = ic a ++ ic b := by simp [ic]
theorem pc_append (a b : List (Nat × Nat)) : pc (a ++ b) = pc a ++ pc b := by simp [pc]

section own
variable {w w' : World} {B e sz n : Nat} {v : Value} {xs : List Value}
theorem own_keep (h : w.ownsRow B e sz v n xs) (hk : ∀ g, v.ownBlock = some g → w'.heap[g]? = w.heap[g]?) : w'.ownsRow B e sz v n xs := by
  obtain ⟨o1, o2⟩ := h
  refine ⟨o1, ?_⟩
  rcases o2 with o2 | ⟨g, cap, cu, ev, hB, hh, r⟩
  · exact .inl o2
  · exact .inr ⟨g, cap, cu, ev, hB, (hk g (by rw [ev]; rfl)).trans hh, r⟩
theorem own_is (h : w.ownsRow B e sz v n xs) (hn : 0 < n) : ∃ g cap cu, v = .slice (some ⟨g, 0, none⟩) n cap ∧ B ≤ g ∧ w.heap[g]? = some (.cells cu e (0, 0)) ∧ n ≤ cap ∧ cap ≤ maxLen ∧ cu.size = cap * sz ∧ cu.toList.take (n * sz) = xs := by
  rcases h.2 with ⟨_, h0⟩ | h
  · omega
  · exact h
/-- A slot of the row turned. -/
theorem own_set {g cap j : Nat} (h : w.ownsRow B e sz (.slice (some ⟨g, 0, none⟩) n cap) n xs) (x : Value) : (w.setCell ⟨g, j, none⟩ x).ownsRow B e sz (.slice (some ⟨g, 0, none⟩) n cap) n (xs.set j x) := by
  obtain ⟨o1, o2⟩ := h
  refine ⟨by simpa using o1, ?_⟩
  rcases o2 with ⟨o2, _⟩ | ⟨g', cap', cu, ev, hB, hh, h1, h2, h3, h4⟩
  · cases o2
  · cases ev
    refine .inr ⟨g, cap, cu.setIfInBounds j x, rfl, hB, heap_setCell_same _ _ _ _ _ _ hh, h1, h2, by simpa using h3, ?_⟩
    rw [← h4]
    simp [List.take_set]
theorem own_cell {g cap j : Nat} {u : Value} (h : w.ownsRow B e sz (.slice (some ⟨g, 0, none⟩) n cap) n xs) (hj : xs[j]? = some u) : w.cell? ⟨g, j, none⟩ = some u ∧ w.frozen? ⟨g, j, none⟩ = false := by
  rcases h.2 with ⟨o2, _⟩ | ⟨g', cap', cu, ev, hB, hh, h1, h2, h3, h4⟩
  · cases o2
  · cases ev
    refine ⟨?_, frozen_of_row _ _ _ _ _ hh⟩
    rw [cell_of_row _ _ _ _ _ _ hh]
    rw [← h4] at hj
    have hl := (List.getElem?_eq_some_iff.1 hj).1
    rw [List.length_take] at hl
    rw [List.getElem?_take_of_lt (by omega)] at hj
    simpa using hj
/-- The row's head alone. -/
theorem own_take {g cap m : Nat} (h : w.ownsRow B e sz (.slice (some ⟨g, 0, none⟩) n cap) n xs) (hm : m ≤ n) : w.ownsRow B e sz (.slice (some ⟨g, 0, none⟩) m cap) m (xs.take (m * sz)) := by
  have hmm : m * sz ≤ n * sz := Nat.mul_le_mul_right sz hm
  obtain ⟨o1, o2⟩ := h
  refine ⟨by rw [List.length_take, o1]; exact Nat.min_eq_left hmm, ?_⟩
  rcases o2 with ⟨o2, _⟩ | ⟨g', cap', cu, ev, hB, hh, h1, h2, h3, h4⟩
  · cases o2
  · cases ev
    refine .inr ⟨g, cap, cu, rfl, hB, hh, by omega, h2, h3, ?_⟩
    rw [← h4, List.take_take, Nat.min_eq_left hmm]
end own

/-- What lies in the call's own blocks. -/
def tobj (N n : Nat) (vs vp : Value) (s : St) : Nat → Obj
  | 0 => .cells (ir n s.comp) 3 (0, 0)
  | 1 => .cells (ir n s.idx) 3 (0, 0)
  | 2 => .cells #[.slice (some ⟨N + 1, 0, none⟩) n n] 34 (0, 0)
  | 3 => .cells (ir n s.low) 3 (0, 0)
  | 4 => .cells #[.slice (some ⟨N + 3, 0, none⟩) n n] 34 (0, 0)
  | 5 => .cells (br n s.on) 4 (0, 0)
  | 6 => .cells #[.slice (some ⟨N + 5, 0, none⟩) n n] 79 (0, 0)
  | 7 => .cells #[vs] 34 (0, 0)
  | 8 => .cells #[vp] 88 (0, 0)
  | _ => .cells #[.int .i64 (s.vis : Int)] 3 (0, 0)

/-- The world w behind w0, in which components began, holds the state s. -/
structure Tm (w0 w : World) (n : Nat) (vs vp vz : Value) (s : St) : Prop where
  bel : Below w0.heap.size w0 w
  obj : ∀ i, i < 10 → w.heap[w0.heap.size + i]? = some (tobj w0.heap.size n vs vp s i)
  stk : w.ownsRow (w0.heap.size + 10) 3 1 vs s.stk.length (ic s.stk)
  path : w.ownsRow (w0.heap.size + 10) 90 2 vp s.path.length (pc s.path)
  size : w.ownsRow (w0.heap.size + 10) 3 1 vz s.size.length (ic s.size)
  a1 : ∀ g, vs.ownBlock = some g → vp.ownBlock ≠ some g
  a2 : ∀ g, vs.ownBlock = some g → vz.ownBlock ≠ some g
  a3 : ∀ g, vp.ownBlock = some g → vz.ownBlock ≠ some g
  Bw : w0.heap.size + 10 ≤ w.heap.size

section tm
variable {w0 w W : World} {n : Nat} {vs vp vz : Value} {s : St}
theorem own_ge {B e sz m : Nat} {v : Value} {xs : List Value} (h : w.ownsRow B e sz v m xs) : ∀ g, v.ownBlock = some g → B ≤ g ∧ g < w.heap.size := h.lt
theorem Tm.keep (h : Tm w0 w n vs vp vz s) (hb : Below w.heap.size w W) : Tm w0 W n vs vp vz s := by
  have k : ∀ b, b < w.heap.size → W.heap[b]? = w.heap[b]? := hb.block
  have hB := h.Bw
  refine ⟨h.bel.trans (hb.mono (by omega)), fun i hi => (k _ (by omega)).trans (h.obj i hi), own_keep h.stk (fun g e => k g (own_ge h.stk g e).2), own_keep h.path (fun g e => k g (own_ge h.path g e).2), own_keep h.size (fun g e => k g (own_ge h.size g e).2), h.a1, h.a2, h.a3, Nat.le_trans hB hb.size⟩
/-- One of the ten blocks turned. -/
theorem Tm.turn {s' : St} (h : Tm w0 w n vs vp vz s) (j k : Nat) (x : Value) (hj : j < 10) (hn : (w.setCell ⟨w0.heap.size + j, k, none⟩ x).heap[w0.heap.size + j]? = some (tobj w0.heap.size n vs vp s' j))
    (ho : ∀ i, i < 10 → i ≠ j → tobj w0.heap.size n vs vp s' i = tobj w0.heap.size n vs vp s i) (h1 : s'.stk = s.stk) (h2 : s'.path = s.path) (h3 : s'.size = s.size) :
    Tm w0 (w.setCell ⟨w0.heap.size + j, k, none⟩ x) n vs vp vz s' := by
  have kb : ∀ b, b ≠ w0.heap.size + j → (w.setCell ⟨w0.heap.size + j, k, none⟩ x).heap[b]? = w.heap[b]? := fun b hb => heap_setCell_other _ _ _ _ hb
  refine ⟨h.bel.setCell (by show w0.heap.size ≤ w0.heap.size + j; omega) _, fun i hi => ?_, ?_, ?_, ?_, h.a1, h.a2, h.a3, by simpa using h.Bw⟩
  · by_cases e : i = j
    · subst e; exact hn
    · rw [kb _ (by omega), h.obj i hi, ho i hi e]
  · rw [h1]; exact own_keep h.stk (fun g e => kb g (by have := (own_ge h.stk g e).1; omega))
  · rw [h2]; exact own_keep h.path (fun g e => kb g (by have := (own_ge h.path g e).1; omega))
  · rw [h3]; exact own_keep h.size (fun g e => kb g (by have := (own_ge h.size g e).1; omega))
theorem Tm.rIdx (h : Tm w0 w n vs vp vz s) : IR w (w0.heap.size + 1) n s.idx := h.obj 1 (by omega)
theorem Tm.rLow (h : Tm w0 w n vs vp vz s) : IR w (w0.heap.size + 3) n s.low := h.obj 3 (by omega)
theorem Tm.rComp (h : Tm w0 w n vs vp vz s) : IR w w0.heap.size n s.comp := h.obj 0 (by omega)
theorem Tm.rOn (h : Tm w0 w n vs vp vz s) : BR w (w0.heap.size + 5) n s.on := h.obj 5 (by omega)
theorem only {N n : Nat} {vs vp : Value} {s s' : St} (j : Nat) (h0 : j ≠ 0 → s'.comp = s.comp) (h1 : j ≠ 1 → s'.idx = s.idx) (h3 : j ≠ 3 → s'.low = s.low) (h5 : j ≠ 5 → s'.on = s.on) (h9 : j ≠ 9 → s'.vis = s.vis) :
    ∀ i, i < 10 → i ≠ j → tobj N n vs vp s' i = tobj N n vs vp s i := by
  intro i hi hne
  match i, hi with
  | 0, _ => simp only [tobj]; rw [h0 (fun e => hne e.symm)]
  | 1, _ => simp only [tobj]; rw [h1 (fun e => hne e.symm)]
  | 2, _ => rfl
  | 3, _ => simp only [tobj]; rw [h3 (fun e => hne e.symm)]
  | 4, _ => rfl
  | 5, _ => simp only [tobj]; rw [h5 (fun e => hne e.symm)]
  | 6, _ => rfl
  | 7, _ => rfl
  | 8, _ => rfl
  | 9, _ =>
    simp only [tobj]
    rw [h9 (fun e => hne e.symm)]
theorem Tm.setVis (h : Tm w0 w n vs vp vz s) (a : Nat) : Tm w0 (w.setCell ⟨w0.heap.size + 9, 0, none⟩ (.int .i64 (a : Int))) n vs vp vz { s with vis := a } :=
  h.turn (s' := { s with vis := a }) 9 0 _ (by omega) (by rw [heap_setCell_same _ _ _ _ _ _ (h.obj 9 (by omega))]; rfl) (only 9 (fun _ => rfl) (fun _ => rfl) (fun _ => rfl) (fun _ => rfl) (fun e => absurd rfl e)) rfl rfl rfl
theorem Tm.setIdx (h : Tm w0 w n vs vp vz s) (u a : Nat) : Tm w0 (w.setCell ⟨w0.heap.size + 1, u, none⟩ (.int .i64 (a : Int))) n vs vp vz { s with idx := upd s.idx u a } :=
  h.turn (s' := { s with idx := upd s.idx u a }) 1 u _ (by omega) (h.rIdx.set u a) (only 1 (fun _ => rfl) (fun e => absurd rfl e) (fun _ => rfl) (fun _ => rfl) (fun _ => rfl)) rfl rfl rfl
theorem Tm.setLow (h : Tm w0 w n vs vp vz s) (u a : Nat) : Tm w0 (w.setCell ⟨w0.heap.size + 3, u, none⟩ (.int .i64 (a : Int))) n vs vp vz { s with low := upd s.low u a } :=
  h.turn (s' := { s with low := upd s.low u a }) 3 u _ (by omega) (h.rLow.set u a) (only 3 (fun _ => rfl) (fun _ => rfl) (fun e => absurd rfl e) (fun _ => rfl) (fun _ => rfl)) rfl rfl rfl
theorem Tm.setOn (h : Tm w0 w n vs vp vz s) (u : Nat) (a : Bool) : Tm w0 (w.setCell ⟨w0.heap.size + 5, u, none⟩ (.bool a)) n vs vp vz { s with on := upd s.on u a } :=
  h.turn (s' := { s with on := upd s.on u a }) 5 u _ (by omega) (h.rOn.set u a) (only 5 (fun _ => rfl) (fun _ => rfl) (fun _ => rfl) (fun e => absurd rfl e) (fun _ => rfl)) rfl rfl rfl
theorem Tm.setComp (h : Tm w0 w n vs vp vz s) (u a : Nat) : Tm w0 (w.setCell ⟨w0.heap.size, u, none⟩ (.int .i64 (a : Int))) n vs vp vz { s with comp := upd s.comp u a } :=
  h.turn (s' := { s with comp := upd s.comp u a }) 0 u _ (by omega) (h.rComp.set u a) (only 0 (fun e => absurd rfl e) (fun _ => rfl) (fun _ => rfl) (fun _ => rfl) (fun _ => rfl)) rfl rfl rfl
/-- The same memory behind a draw. -/
theorem Tm.same (h : Tm w0 w n vs vp vz s) (e : W.heap = w.heap) (e1 : W.os = w.os) (e2 : W.tape = w.tape) (e3 : W.output = w.output) : Tm w0 W n vs vp vz s :=
  h.keep ⟨e1, e2, e3, by rw [e]; exact Nat.le_refl _, fun b _ => by rw [e]⟩
/-- The stack's variable and row turned, all else as it was. -/
theorem Tm.stkTo (h : Tm w0 w n vs vp vz s) (v' : Value) (l : List Nat) (hb : Below w0.heap.size w W) (hs : w.heap.size ≤ W.heap.size) (hk : ∀ b, b < w.heap.size → vs.ownBlock ≠ some b → W.heap[b]? = w.heap[b]?) (hown : W.ownsRow (w0.heap.size + 10) 3 1 v' l.length (ic l))
    (hat : v'.ownBlock = vs.ownBlock ∨ ∀ g, v'.ownBlock = some g → w.heap.size ≤ g) : Tm w0 (W.setCell ⟨w0.heap.size + 7, 0, none⟩ v') n v' vp vz { s with stk := l } := by
  have hB := h.Bw
  have hvs := own_ge h.stk
  have k1 : ∀ b, b < w.heap.size → b ≠ w0.heap.size + 7 → vs.ownBlock ≠ some b → (W.setCell ⟨w0.heap.size + 7, 0, none⟩ v').heap[b]? = w.heap[b]? := fun b h1 h2 h3 => by
    rw [heap_setCell_other _ _ _ _ h2]; exact hk b h1 h3
  have h7 : W.heap[w0.heap.size + 7]? = some (.cells #[vs] 34 (0, 0)) := (hk _ (by omega) (fun e => by have := (hvs _ e).1; omega)).trans (h.obj 7 (by omega))
  refine ⟨(h.bel.trans hb).setCell (by show w0.heap.size ≤ w0.heap.size + 7; omega) _, fun i hi => ?_, ?_, ?_, ?_, ?_, ?_, h.a3, by simpa using Nat.le_trans hB hs⟩
  · by_cases e : i = 7
    · subst e
      rw [heap_setCell_same _ _ _ _ _ _ h7]; rfl
    · rw [k1 _ (by omega) (by omega) (fun e' => by have := (hvs _ e').1; omega), h.obj i hi]
      match i, hi with
      | 0, _ => rfl
      | 1, _ => rfl
      | 2, _ => rfl
      | 3, _ => rfl
      | 4, _ => rfl
      | 5, _ => rfl
      | 6, _ => rfl
      | 7, _ => exact absurd rfl e
      | 8, _ => rfl
      | 9, _ => rfl
  · exact own_keep hown (fun g e => heap_setCell_other _ _ _ _ (by have := (own_ge hown g e).1; show g ≠ w0.heap.size + 7; omega))
  · exact own_keep h.path (fun g e => k1 g (own_ge h.path g e).2 (by have := (own_ge h.path g e).1; omega) (fun e' => h.a1 g e' e))
  · exact own_keep h.size (fun g e => k1 g (own_ge h.size g e).2 (by have := (own_ge h.size g e).1; omega) (fun e' => h.a2 g e' e))
  · intro g e e'
    rcases hat with ha | ha
    · exact h.a1 g (by rw [← ha]; exact e) e'
    · have := ha g e; have := (own_ge h.path g e').2; omega
  · intro g e e'
    rcases hat with ha | ha
    · exact h.a2 g (by rw [← ha]; exact e) e'
    · have := ha g e; have := (own_ge h.size g e').2; omega
theorem Tm.pathTo (h : Tm w0 w n vs vp vz s) (v' : Value) (l : List (Nat × Nat)) (hb : Below w0.heap.size w W) (hs : w.heap.size ≤ W.heap.size) (hk : ∀ b, b < w.heap.size → vp.ownBlock ≠ some b → W.heap[b]? = w.heap[b]?) (hown : W.ownsRow (w0.heap.size + 10) 90 2 v' l.length (pc l))
    (hat : v'.ownBlock = vp.ownBlock ∨ ∀ g, v'.ownBlock = some g → w.heap.size ≤ g) : Tm w0 (W.setCell ⟨w0.heap.size + 8, 0, none⟩ v') n vs v' vz { s with path := l } := by
  have hB := h.Bw
  have hvs := own_ge h.path
  have k1 : ∀ b, b < w.heap.size → b ≠ w0.heap.size + 8 → vp.ownBlock ≠ some b → (W.setCell ⟨w0.heap.size + 8, 0, none⟩ v').heap[b]? = w.heap[b]? := fun b h1 h2 h3 => by
    rw [heap_setCell_other _ _ _ _ h2]; exact hk b h1 h3
  have h8 : W.heap[w0.heap.size + 8]? = some (.cells #[vp] 88 (0, 0)) := (hk _ (by omega) (fun e => by have := (hvs _ e).1; omega)).trans (h.obj 8 (by omega))
  refine ⟨(h.bel.trans hb).setCell (by show w0.heap.size ≤ w0.heap.size + 8; omega) _, fun i hi => ?_, ?_, ?_, ?_, ?_, h.a2, ?_, by simpa using Nat.le_trans hB hs⟩
  · by_cases e : i = 8
    · subst e
      rw [heap_setCell_same _ _ _ _ _ _ h8]; rfl
    · rw [k1 _ (by omega) (by omega) (fun e' => by have := (hvs _ e').1; omega), h.obj i hi]
      match i, hi with
      | 0, _ => rfl
      | 1, _ => rfl
      | 2, _ => rfl
      | 3, _ => rfl
      | 4, _ => rfl
      | 5, _ => rfl
      | 6, _ => rfl
      | 7, _ => rfl
      | 8, _ => exact absurd rfl e
      | 9, _ => rfl
  · exact own_keep h.stk (fun g e => k1 g (own_ge h.stk g e).2 (by have := (own_ge h.stk g e).1; omega) (fun e' => h.a1 g e e'))
  · exact own_keep hown (fun g e => heap_setCell_other _ _ _ _ (by have := (own_ge hown g e).1; show g ≠ w0.heap.size + 8; omega))
  · exact own_keep h.size (fun g e => k1 g (own_ge h.size g e).2 (by have := (own_ge h.size g e).1; omega) (fun e' => h.a3 g e' e))
  · intro g e e'
    rcases hat with ha | ha
    · exact h.a1 g e (by rw [← ha]; exact e')
    · have := ha g e'; have := (own_ge h.stk g e).2; omega
  · intro g e e'
    rcases hat with ha | ha
    · exact h.a3 g (by rw [← ha]; exact e) e'
    · have := ha g e; have := (own_ge h.size g e').2; omega
end tm
end Go.Proofs.Ybulkcxvo
