/-
  zzs4967breach: the plain law of the search, and its memory.
-/
import Derived.Test.YbulkcxvoCompsWalk
namespace Go.Proofs.Ybulkcxvo
open Go.RowKit

structure Bf (n : Nat) (adj : Nat → List Nat) (s : Nat) (seen : Nat → Bool) (q : List Nat) (h j : Nat) : Prop where
  mem : ∀ x, seen x = true ↔ x ∈ q
  lt : ∀ x ∈ q, x < n
  nd : q.Nodup
  rc : ∀ x ∈ q, Reach adj s x
  st : s ∈ q
  cl : ∀ i x, i < h → q[i]? = some x → ∀ y ∈ adj x, y ∈ q
  cu : ∀ i x y, q[h]? = some x → i < j → (adj x)[i]? = some y → y ∈ q
section
variable {n : Nat} {adj : Nat → List Nat} {s : Nat} {seen : Nat → Bool} {q : List Nat} {h j : Nat}
theorem Bf.init (hs : s < n) : Bf n adj s (upd (fun _ => false) s true) [s] 0 0 := by
  refine ⟨fun x => ?_, ?_, by simp, ?_, by simp, fun i x hi => absurd hi (by omega), fun i x y _ hi => absurd hi (by omega)⟩
  · by_cases e : x = s
    · rw [e, upd_same]; simp
    · rw [upd_ne _ _ e]; simp [e]
  · intro x hx; rw [List.mem_singleton] at hx; rw [hx]; exact hs
  · intro x hx; rw [List.mem_singleton] at hx; rw [hx]; exact Reach.refl _ _
theorem Bf.old (b : Bf n adj s seen q h j) {u v : Nat} (hu : q[h]? = some u) (hv : (adj u)[j]? = some v) (hs : seen v = true) : Bf n adj s seen q h (j + 1) := by
  refine ⟨b.mem, b.lt, b.nd, b.rc, b.st, b.cl, fun i x y hx hi hy => ?_⟩
  by_cases e : i = j
  · subst e
    rw [hu] at hx; cases hx
    rw [hv] at hy; cases hy
    exact (b.mem v).1 hs
  · exact b.cu i x y hx (by omega) hy
theorem Bf.new (b : Bf n adj s seen q h j) {u v : Nat} (hu : q[h]? = some u) (hv : (adj u)[j]? = some v) (hs : seen v = false) (hvn : v < n) : Bf n adj s (upd seen v true) (q ++ [v]) h (j + 1) := by
  have hnq : v ∉ q := fun e => by rw [(b.mem v).2 e] at hs; cases hs
  have hh : h < q.length := (List.getElem?_eq_some_iff.1 hu).1
  refine ⟨fun x => ?_, fun x hx => ?_, ?_, fun x hx => ?_, by simp [b.st], fun i x hi hx y hy => ?_, fun i x y hx hi hy => ?_⟩
  · by_cases e : x = v
    · rw [e, upd_same]; simp
    · rw [upd_ne _ _ e, b.mem]; simp [e]
  · rw [List.mem_append, List.mem_singleton] at hx
    rcases hx with hx | hx
    · exact b.lt x hx
    · rw [hx]; exact hvn
  · rw [List.nodup_append]
    refine ⟨b.nd, by simp, fun a ha c hc e => ?_⟩
    rw [List.mem_singleton] at hc
    exact hnq (by rw [← hc, ← e]; exact ha)
  · rw [List.mem_append, List.mem_singleton] at hx
    rcases hx with hx | hx
    · exact b.rc x hx
    · rw [hx]
      exact (b.rc u (List.mem_of_getElem? hu)).trans (Reach.edge (List.mem_of_getElem? hv))
  · rw [List.getElem?_append_left (by omega)] at hx
    exact List.mem_append_left _ (b.cl i x hi hx y hy)
  · rw [List.getElem?_append_left hh] at hx
    by_cases e : i = j
    · subst e
      rw [hu] at hx; cases hx
      rw [hv] at hy; cases hy
      simp
    · exact List.mem_append_left _ (b.cu i x y hx (by omega) hy)
theorem Bf.next (b : Bf n adj s seen q h j) {u : Nat} (hu : q[h]? = some u) (hj : (adj u).length ≤ j) : Bf n adj s seen q (h + 1) 0 := by
  refine ⟨b.mem, b.lt, b.nd, b.rc, b.st, fun i x hi hx y hy => ?_, fun i x y _ hi => absurd hi (by omega)⟩
  by_cases e : i = h
  · subst e
    rw [hu] at hx; cases hx
    obtain ⟨k, hk, hky⟩ := List.getElem_of_mem hy
    exact b.cu k u y hu (by omega) (by rw [List.getElem?_eq_getElem hk, hky])
  · exact b.cl i x (by omega) hx y hy
theorem Bf.len (b : Bf n adj s seen q h j) : q.length ≤ n := by
  rw [← count_list q b.nd b.lt]
  refine Nat.le_trans (List.length_filter_le _ _) ?_
  simp
theorem Bf.fin (b : Bf n adj s seen q h j) (hh : q.length ≤ h) (x : Nat) : seen x = true ↔ Reach adj s x := by
  rw [b.mem]
  refine ⟨b.rc x, fun hr => hr (fun y => y ∈ q) b.st fun a y ha hy => ?_⟩
  obtain ⟨k, hk, hky⟩ := List.getElem_of_mem ha
  exact b.cl k a (by omega) (by rw [List.getElem?_eq_getElem hk, hky]) y hy
end

def sr (n : Nat) (F : Nat → Value) : Array Value := ((List.range n).map F).toArray
theorem made_sr (n : Nat) : madeCells #[.slice none 0 0] n = sr n (fun _ => .slice none 0 0) := by
  apply Array.ext_getElem?
  intro j
  by_cases hj : j < n
  · simp [madeCells, sr, hj, Nat.mod_one]
  · simp [madeCells, sr, hj]
theorem info79 : (Yba.prog.info? 79).map (fun i => (i.zero, i.size, i.bytes)) = some (some (.slice none 0 0), 1, 24) := by kernel_rfl
theorem make77 (n : Nat) (hn : n ≤ 1000000) (w : World) : (Instr.makeSlice 77 (.int .i64 (n : Int)) (.int .i64 (n : Int))).run Yba.prog w = .ok (.slice (some ⟨w.heap.size, 0, none⟩) n n) (w.alloc (.cells (sr n fun _ => .slice none 0 0) 79)) := by
  obtain ⟨i, hi, hz, hs, hb⟩ := info_parts info79
  have := run_make (P := Yba.prog) w 77 79 i _ Yba.underlying77 hi hz .i64 .i64 n n (by omega) (Int.le_refl _) (by rw [hb]; omega) (by omega)
  rw [hs, Nat.mul_one] at this
  rw [← made_sr]
  exact this
/-- The rows found so far. -/
def rowF (n k : Nat) (F : Nat → Nat) (u : Nat) : Value := if u < k then .slice (some ⟨F u, 0, none⟩) n n else .slice none 0 0
theorem sr_upd (n k : Nat) (F : Nat → Nat) (g : Nat) : (sr n (rowF n k F)).setIfInBounds k (.slice (some ⟨g, 0, none⟩) n n) = sr n (rowF n (k + 1) (upd F k g)) := by
  apply Array.ext_getElem?
  intro j
  rw [Array.getElem?_setIfInBounds]
  by_cases hj : j < n
  · by_cases e : k = j
    · subst e
      simp [sr, hj, rowF, upd_same]
    · have e' : j ≠ k := fun x => e x.symm
      simp only [e, if_false]
      have h1 : rowF n (k + 1) (upd F k g) j = rowF n k F j := by
        unfold rowF
        rw [upd_ne _ _ e']
        by_cases hk : j < k
        · rw [if_pos hk, if_pos (by omega)]
        · rw [if_neg hk, if_neg (by omega)]
      simp [sr, hj, h1]
  · simp [sr, hj]
    intro e; omega
structure Rm (w wr : World) (n t ab vb : Nat) (adj : Nat → List Nat) (k : Nat) (F : Nat → Nat) (R : Nat → Nat → Bool) : Prop where
  bel : Below w.heap.size w wr
  box : wr.heap[w.heap.size]? = some (.cells #[.slice (some ⟨ab, 0, none⟩) (n + 1) (n + 1), .slice (some ⟨vb, 0, none⟩) t t] 43 (0, 0))
  row : wr.heap[w.heap.size + 1]? = some (.cells (sr n (rowF n k F)) 79 (0, 0))
  rows : ∀ u, u < k → w.heap.size + 2 ≤ F u ∧ BR wr (F u) n (R u)
  rch : ∀ u v, u < k → v < n → (R u v = true ↔ Reach adj u v)
section
variable {w wr W : World} {n t ab vb k : Nat} {adj : Nat → List Nat} {F : Nat → Nat} {R : Nat → Nat → Bool}
theorem Rm.sz (h : Rm w wr n t ab vb adj k F R) : w.heap.size + 2 ≤ wr.heap.size := by
  have := lt_of_block h.row; omega
theorem Rm.keep (h : Rm w wr n t ab vb adj k F R) (hb : Below wr.heap.size wr W) : Rm w W n t ab vb adj k F R := by
  have hs := h.sz
  refine ⟨h.bel.trans (hb.mono (by omega)), (hb.block _ (by omega)).trans h.box, (hb.block _ (by omega)).trans h.row, fun u hu => ?_, h.rch⟩
  have := h.rows u hu
  exact ⟨this.1, this.2.keep (hb.block _ this.2.lt)⟩
theorem Rm.step (h : Rm w wr n t ab vb adj k F R) {g : Nat} {seen : Nat → Bool} (hg : w.heap.size + 2 ≤ g) (hr : BR wr g n seen) (hs : ∀ v, v < n → (seen v = true ↔ Reach adj k v)) :
    Rm w (wr.setCell ⟨w.heap.size + 1, k, none⟩ (.slice (some ⟨g, 0, none⟩) n n)) n t ab vb adj (k + 1) (upd F k g) (fun u => if u = k then seen else R u) := by
  have kb : ∀ b, b ≠ w.heap.size + 1 → (wr.setCell ⟨w.heap.size + 1, k, none⟩ (.slice (some ⟨g, 0, none⟩) n n)).heap[b]? = wr.heap[b]? := fun b hb => heap_setCell_other _ _ _ _ hb
  refine ⟨h.bel.setCell (by show w.heap.size ≤ w.heap.size + 1; omega) _, (kb _ (by omega)).trans h.box, ?_, fun u hu => ?_, fun u v hu hv => ?_⟩
  · rw [heap_setCell_same _ _ _ _ _ _ h.row, sr_upd]
  · by_cases e : u = k
    · rw [e, upd_same, if_pos rfl]
      exact ⟨hg, hr.keep (kb _ (by omega))⟩
    · rw [upd_ne _ _ e, if_neg e]
      have := h.rows u (by omega)
      exact ⟨this.1, this.2.keep (kb _ (by omega))⟩
  · by_cases e : u = k
    · rw [if_pos e, e]; exact hs v hv
    · rw [if_neg e]; exact h.rch u v (by omega) hv
theorem Rm.b0 (h : Rm w wr n t ab vb adj k F R) : wr.cell? ⟨w.heap.size, 0, none⟩ = some (.slice (some ⟨ab, 0, none⟩) (n + 1) (n + 1)) := by
  rw [cell_of_row _ _ _ _ _ _ h.box]; rfl
theorem Rm.b1 (h : Rm w wr n t ab vb adj k F R) : wr.cell? ⟨w.heap.size, 1, none⟩ = some (.slice (some ⟨vb, 0, none⟩) t t) := by
  rw [cell_of_row _ _ _ _ _ _ h.box]; rfl
theorem Rm.r (h : Rm w wr n t ab vb adj k F R) {u : Nat} (hu : u < n) : wr.cell? ⟨w.heap.size + 1, u, none⟩ = some (rowF n k F u) ∧ wr.frozen? ⟨w.heap.size + 1, u, none⟩ = false := by
  refine ⟨?_, frozen_of_row _ _ _ _ _ h.row⟩
  rw [cell_of_row _ _ _ _ _ _ h.row]
  simp [sr, hu]
theorem rm_start (w : World) (n t ab vb : Nat) (adj : Nat → List Nat) : Rm w ((w.alloc (.cells #[.slice (some ⟨ab, 0, none⟩) (n + 1) (n + 1), .slice (some ⟨vb, 0, none⟩) t t] 43)).alloc (.cells (sr n fun _ => .slice none 0 0) 79)) n t ab vb adj 0 (fun _ => 0) (fun _ _ => false) := by
  refine ⟨((Below.refl w.heap.size w).alloc (Nat.le_refl _) _).alloc (by simp) _, ?_, ?_, fun u hu => absurd hu (by omega), fun u v hu => absurd hu (by omega)⟩
  · simp only [alloc_at, size_up]
    rw [if_neg (by omega), if_pos trivial]
  · simp only [alloc_at, size_up]
    rw [if_pos trivial]
    have : rowF n 0 (fun _ => 0) = fun _ => Value.slice none 0 0 := by
      funext u; simp [rowF]
    rw [this]
end
/-- The memory of one search. -/
structure Qm (wr wx : World) (n : Nat) (seen : Nat → Bool) (vq : Value) (q : List Nat) : Prop where
  bel : Below wr.heap.size wr wx
  seen : BR wx wr.heap.size n seen
  row : wx.ownsRow (wr.heap.size + 1) 3 1 vq q.length (ic q)
  sz : wr.heap.size + 1 ≤ wx.heap.size
section
variable {wr wx : World} {n : Nat} {seen : Nat → Bool} {vq : Value} {q : List Nat}
theorem Qm.set (h : Qm wr wx n seen vq q) (v : Nat) : Qm wr (wx.setCell ⟨wr.heap.size, v, none⟩ (.bool true)) n (upd seen v true) vq q := by
  refine ⟨h.bel.setCell (Nat.le_refl _) _, h.seen.set v true, own_keep h.row fun g e => heap_setCell_other _ _ _ _ ?_, by simpa using h.sz⟩
  have := (own_ge h.row g e).1
  show g ≠ wr.heap.size
  omega
theorem Qm.push {W : World} {v' : Value} {u : Nat} (h : Qm wr wx n seen vq q) (hg : Gx vq v' wx W) (ho : W.ownsRow (wr.heap.size + 1) 3 1 v' (q ++ [u]).length (ic (q ++ [u]))) : Qm wr W n seen v' (q ++ [u]) := by
  have hge := own_ge h.row
  refine ⟨h.bel.trans (hg.below h.bel.size fun g e => by have := (hge g e).1; omega), h.seen.keep (hg.block _ (by have := h.sz; omega) fun e => by have := (hge _ e).1; omega), ho, Nat.le_trans h.sz hg.size⟩
theorem Qm.cell {g cap i x : Nat} (h : Qm wr wx n seen (.slice (some ⟨g, 0, none⟩) q.length cap) q) (hx : q[i]? = some x) : wx.cell? ⟨g, i, none⟩ = some (.int .i64 (x : Int)) := by
  refine (own_cell h.row ?_).1
  simp [ic, hx]
theorem qm_start (wr : World) (n s : Nat) : Qm wr ((wr.alloc (.cells ((br n fun _ => false).setIfInBounds s (.bool true)) 4)).alloc (.cells #[.int .i64 (s : Int)] 3)) n (upd (fun _ => false) s true) (.slice (some ⟨wr.heap.size + 1, 0, none⟩) 1 1) [s] := by
  rw [br_upd]
  refine ⟨((Below.refl _ wr).alloc (Nat.le_refl _) _).alloc (by rw [size_up]; omega) _, (BR.new wr n _).keep (by rw [alloc_at, if_neg (by rw [size_up]; omega)]), ⟨rfl, .inr ⟨wr.heap.size + 1, 1, #[.int .i64 (s : Int)], rfl, Nat.le_refl _, ?_, Nat.le_refl _, by unfold maxLen; omega, rfl, rfl⟩⟩, ?_⟩
  · rw [alloc_at, if_pos (size_up _ _).symm]
  · rw [size_up, size_up]; omega
end
end Go.Proofs.Ybulkcxvo
