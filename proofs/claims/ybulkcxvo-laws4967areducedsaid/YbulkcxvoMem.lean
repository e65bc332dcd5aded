/-
  Rows of integers and of bools in memory, told by plain functions.
-/
import Derived.Test.YbulkcxvoProg
import Derived.Test.YbulkcxvoTarjanLabel
import Derived.WalkKit
import Derived.WalkSpells
import Derived.Deep.QuietTactic
import Derived.BigQuiet
import Derived.Deep.LoopGhost
import Derived.Deep.RegionHeld3
import Derived.Laws.CopyOwn
import Derived.Laws.AppendOwn
namespace Go.Proofs.Ybulkcxvo
open Go.RowKit

def ir (n : Nat) (f : Nat → Nat) : Array Value := ((List.range n).map fun i => Value.int .i64 (f i : Int)).toArray
def br (n : Nat) (f : Nat → Bool) : Array Value := ((List.range n).map fun i => Value.bool (f i)).toArray
/-- Block b is a row of n integers, the i-th f i. -/
def IR (w : World) (b n : Nat) (f : Nat → Nat) : Prop := w.heap[b]? = some (.cells (ir n f) 3 (0, 0))
/-- Block b is a row of n bools, the i-th f i. -/
def BR (w : World) (b n : Nat) (f : Nat → Bool) : Prop := w.heap[b]? = some (.cells (br n f) 4 (0, 0))
section
variable {w w' : World} {b n : Nat}
theorem IR.cell {f : Nat → Nat} (h : IR w b n f) {i : Nat} (hi : i < n) : w.cell? ⟨b, i, none⟩ = some (.int .i64 (f i : Int)) := by
  rw [cell_of_row _ _ _ _ _ _ h]
  simp [ir, hi]
theorem IR.fz {f : Nat → Nat} (h : IR w b n f) (i : Nat) : w.frozen? ⟨b, i, none⟩ = false := frozen_of_row _ _ _ _ _ h
theorem IR.lt {f : Nat → Nat} (h : IR w b n f) : b < w.heap.size := lt_of_block h
theorem IR.keep {f : Nat → Nat} (h : IR w b n f) (e : w'.heap[b]? = w.heap[b]?) : IR w' b n f := e.trans h
theorem ir_upd (n : Nat) (f : Nat → Nat) (i a : Nat) : (ir n f).setIfInBounds i (.int .i64 (a : Int)) = ir n (upd f i a) := by
  apply Array.ext_getElem?
  intro j
  rw [Array.getElem?_setIfInBounds]
  by_cases e : i = j
  · subst e
    by_cases hi : i < n
    · simp [ir, hi, upd_same]
    · simp [ir, hi]
  · simp only [e, if_false]
    by_cases hj : j < n
    · simp [ir, hj, upd_ne f a (fun x => e x.symm)]
    · simp [ir, hj]
theorem IR.set {f : Nat → Nat} (h : IR w b n f) (i a : Nat) : IR (w.setCell ⟨b, i, none⟩ (.int .i64 (a : Int))) b n (upd f i a) := by
  unfold IR
  rw [heap_setCell_same _ _ _ _ _ _ h, ir_upd]
theorem BR.cell {f : Nat → Bool} (h : BR w b n f) {i : Nat} (hi : i < n) : w.cell? ⟨b, i, none⟩ = some (.bool (f i)) := by
  rw [cell_of_row _ _ _ _ _ _ h]
  simp [br, hi]
theorem BR.fz {f : Nat → Bool} (h : BR w b n f) (i : Nat) : w.frozen? ⟨b, i, none⟩ = false := frozen_of_row _ _ _ _ _ h
theorem BR.lt {f : Nat → Bool} (h : BR w b n f) : b < w.heap.size := lt_of_block h
theorem BR.keep {f : Nat → Bool} (h : BR w b n f) (e : w'.heap[b]? = w.heap[b]?) : BR w' b n f := e.trans h
theorem br_upd (n : Nat) (f : Nat → Bool) (i : Nat) (a : Bool) : (br n f).setIfInBounds i (.bool a) = br n (upd f i a) := by
  apply Array.ext_getElem?
  intro j
  rw [Array.getElem?_setIfInBounds]
  by_cases e : i = j
  · subst e
    by_cases hi : i < n
    · simp [br, hi, upd_same]
    · simp [br, hi]
  · simp only [e, if_false]
    by_cases hj : j < n
    · simp [br, hj, upd_ne f a (fun x => e x.symm)]
    · simp [br, hj]
theorem BR.set {f : Nat → Bool} (h : BR w b n f) (i : Nat) (a : Bool) : BR (w.setCell ⟨b, i, none⟩ (.bool a)) b n (upd f i a) := by
  unfold BR
  rw [heap_setCell_same _ _ _ _ _ _ h, br_upd]
end
theorem made_ir (n : Nat) : madeCells #[.int .i64 0] n = ir n (fun _ => 0) := by
  apply Array.ext_getElem?
  intro j
  by_cases hj : j < n
  · simp [madeCells, ir, hj, Nat.mod_one]
  · simp [madeCells, ir, hj]
theorem made_br (n : Nat) : madeCells #[.bool false] n = br n (fun _ => false) := by
  apply Array.ext_getElem?
  intro j
  by_cases hj : j < n
  · simp [madeCells, br, hj, Nat.mod_one]
  · simp [madeCells, br, hj]
theorem info3 : (Yba.prog.info? 3).map (fun i => (i.zero, i.size, i.bytes)) = some (some (.int .i64 0), 1, 8) := by kernel_rfl
theorem info4 : (Yba.prog.info? 4).map (fun i => (i.zero, i.size, i.bytes)) = some (some (.bool false), 1, 1) := by kernel_rfl
theorem make34 (n : Nat) (hn : n ≤ 1000000) (w : World) : (Instr.makeSlice 34 (.int .i64 (n : Int)) (.int .i64 (n : Int))).run Yba.prog w = .ok (.slice (some ⟨w.heap.size, 0, none⟩) n n) (w.alloc (.cells (ir n fun _ => 0) 3)) := by
  obtain ⟨i, hi, hz, hs, hb⟩ := info_parts info3
  have := run_make (P := Yba.prog) w 34 3 i _ Yba.underlying34 hi hz .i64 .i64 n n (by omega) (Int.le_refl _) (by rw [hb]; omega) (by omega)
  rw [hs, Nat.mul_one] at this
  rw [← made_ir]
  exact this
theorem make79 (n : Nat) (hn : n ≤ 1000000) (w : World) : (Instr.makeSlice 79 (.int .i64 (n : Int)) (.int .i64 (n : Int))).run Yba.prog w = .ok (.slice (some ⟨w.heap.size, 0, none⟩) n n) (w.alloc (.cells (br n fun _ => false) 4)) := by
  obtain ⟨i, hi, hz, hs, hb⟩ := info_parts info4
  have := run_make (P := Yba.prog) w 79 4 i _ Yba.underlying79 hi hz .i64 .i64 n n (by omega) (Int.le_refl _) (by rw [hb]; omega) (by omega)
  rw [hs, Nat.mul_one] at this
  rw [← made_br]
  exact this
theorem IR.new (w : World) (n : Nat) (f : Nat → Nat) : IR (w.alloc (.cells (ir n f) 3)) w.heap.size n f := heap_alloc_new w _
theorem BR.new (w : World) (n : Nat) (f : Nat → Bool) : BR (w.alloc (.cells (br n f) 4)) w.heap.size n f := heap_alloc_new w _
end Go.Proofs.Ybulkcxvo
