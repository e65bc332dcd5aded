/-
  The walk over (*graph).components.
-/
import Derived.Test.YbulkcxvoComps
namespace Go.Proofs.Ybulkcxvo
open Go.RowKit

/-- The graph in memory. -/
structure Gm (w : World) (pg n t ab vb : Nat) (at_ val : Nat → Nat) : Prop where
  g0 : ∃ nm c, w.cell? ⟨pg, 0, none⟩ = some (.slice nm n c)
  g1 : w.cell? ⟨pg, 1, none⟩ = some (.slice (some ⟨ab, 0, none⟩) (n + 1) (n + 1))
  g2 : w.cell? ⟨pg, 2, none⟩ = some (.slice (some ⟨vb, 0, none⟩) t t)
  rat : IR w ab (n + 1) at_
  rval : IR w vb t val
  mono : ∀ u, u < n → at_ u ≤ at_ (u + 1)
  le : ∀ u, u ≤ n → at_ u ≤ t
  vlt : ∀ i, i < t → val i < n
theorem Gm.keep {w w' : World} {pg n t ab vb : Nat} {at_ val : Nat → Nat} (h : Gm w pg n t ab vb at_ val) (hb : Below w.heap.size w w') : Gm w' pg n t ab vb at_ val := by
  obtain ⟨⟨nm, c, h0⟩, h1, h2, h3, h4, h5, h6, h7⟩ := h
  have hp : w'.heap[pg]? = w.heap[pg]? := hb.block pg (World.block_lt_of_cell? w ⟨pg, 0, none⟩ h0)
  refine ⟨⟨nm, c, ?_⟩, ?_, ?_, h3.keep (hb.block _ h3.lt), h4.keep (hb.block _ h4.lt), h5, h6, h7⟩
  · rw [← h0]; simp only [World.cell?, hp]
  · rw [← h1]; simp only [World.cell?, hp]
  · rw [← h2]; simp only [World.cell?, hp]

/-- Where the walk stands between two rounds. -/
structure At (w0 w : World) (n : Nat) (adj : Nat → List Nat) (vs vp vz : Value) (s : St) : Prop where
  tm : Tm w0 w n vs vp vz s
  inv : Inv n adj s
  bd : Bd n adj s

theorem Tm.pathCells {w0 w : World} {n g cap u k : Nat} {vs vz : Value} {s : St} {pre : List (Nat × Nat)} (h : Tm w0 w n vs (.slice (some ⟨g, 0, none⟩) (pre.length + 1) cap) vz s) (hp : s.path = pre ++ [(u, k)]) :
    w.cell? ⟨g, pre.length * 2, none⟩ = some (.int .i64 (u : Int)) ∧ w.cell? ⟨g, pre.length * 2 + 1, none⟩ = some (.int .i64 (k : Int)) ∧ w.frozen? ⟨g, pre.length * 2 + 1, none⟩ = false := by
  have hpa := h.path
  rw [hp, List.length_append, List.length_singleton] at hpa
  have h1 := own_cell hpa (pc_at pre u k).1
  have h2 := own_cell hpa (pc_at pre u k).2
  exact ⟨h1.1, h2.1, h2.2⟩
theorem Tm.stkTop {w0 w : World} {n g cap x : Nat} {vp vz : Value} {s : St} {l : List Nat} (h : Tm w0 w n (.slice (some ⟨g, 0, none⟩) (l.length + 1) cap) vp vz s) (hl : s.stk = l ++ [x]) : w.cell? ⟨g, l.length, none⟩ = some (.int .i64 (x : Int)) := by
  have hpa := h.stk
  rw [hl, List.length_append, List.length_singleton] at hpa
  refine (own_cell hpa ?_).1
  rw [ic_append, List.getElem?_append_right (by rw [ic_len]; exact Nat.le_refl _), ic_len, Nat.sub_self]; rfl
theorem size_up (w : World) (o : Obj) : (w.alloc o).heap.size = w.heap.size + 1 := by simp
theorem alloc_at (w : World) (o : Obj) (b : Nat) : (w.alloc o).heap[b]? = if b = w.heap.size then some o else w.heap[b]? := by
  show (w.heap.push o)[b]? = _
  rw [Array.getElem?_push]
theorem tm_start (w : World) (n : Nat) : Tm w ((((((((((w.alloc (.cells (ir n fun _ => 0) 3)).alloc (.cells (ir n fun _ => 0) 3)).alloc (.cells #[.slice (some ⟨w.heap.size + 1, 0, none⟩) n n] 34)).alloc (.cells (ir n fun _ => 0) 3)).alloc
    (.cells #[.slice (some ⟨w.heap.size + 3, 0, none⟩) n n] 34)).alloc (.cells (br n fun _ => false) 4)).alloc (.cells #[.slice (some ⟨w.heap.size + 5, 0, none⟩) n n] 79)).alloc (.cells #[.slice none 0 0] 34)).alloc (.cells #[.slice none 0 0] 88)).alloc (.cells #[.int .i64 0] 3)) n (.slice none 0 0) (.slice none 0 0) (.slice none 0 0) St.init := by
  refine ⟨?_, fun i hi => ?_, World.ownsRow_nil _ _ _ _, World.ownsRow_nil _ _ _ _, World.ownsRow_nil _ _ _ _, ?_, ?_, ?_, ?_⟩
  · refine ((((((((((Below.refl w.heap.size w).alloc ?_ _).alloc ?_ _).alloc ?_ _).alloc ?_ _).alloc ?_ _).alloc ?_ _).alloc ?_ _).alloc ?_ _).alloc ?_ _).alloc ?_ _ <;> simp <;> omega
  · simp only [alloc_at, size_up]
    match i, hi with
    | 0, _ => (repeat (first | rw [if_pos (by omega)] | rw [if_neg (by omega)])); rfl
    | 1, _ => (repeat (first | rw [if_pos (by omega)] | rw [if_neg (by omega)])); rfl
    | 2, _ => (repeat (first | rw [if_pos (by omega)] | rw [if_neg (by omega)])); rfl
    | 3, _ => (repeat (first | rw [if_pos (by omega)] | rw [if_neg (by omega)])); rfl
    | 4, _ => (repeat (first | rw [if_pos (by omega)] | rw [if_neg (by omega)])); rfl
    | 5, _ => (repeat (first | rw [if_pos (by omega)] | rw [if_neg (by omega)])); rfl
    | 6, _ => (repeat (first | rw [if_pos (by omega)] | rw [if_neg (by omega)])); rfl
    | 7, _ => (repeat (first | rw [if_pos (by omega)] | rw [if_neg (by omega)])); rfl
    | 8, _ => (repeat (first | rw [if_pos (by omega)] | rw [if_neg (by omega)])); rfl
    | 9, _ => (repeat (first | rw [if_pos (by omega)] | rw [if_neg (by omega)])); rfl
  · intro g e; cases e
  · intro g e; cases e
  · intro g e; cases e
  · simp
end Go.Proofs.Ybulkcxvo
