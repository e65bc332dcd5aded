/-
  bufio.NewWriter over the law's sink; bytes.Equal.
-/
import Derived.Test.YbulkcxvaDoorString
import Derived.Test.YbulkcxvaDoorSum
import Derived.Laws.BytesArg
namespace Go.Proofs.YbulkcxvaDoor
open Go.RowKit

theorem noWriter (a : Addr) (w : World) : (Instr.typeAssert (.iface 26 (.pointer (some a))) 45 30 true).run Ybad.prog w = .ok (.tuple #[.pointer none, .bool false]) w := by kernel_rfl
theorem make4096 (w : World) : (Instr.makeSlice 27 (.int .i64 4096) (.int .i64 4096)).run Ybad.prog w = .ok (.slice (some ⟨w.heap.size, 0, none⟩) 4096 4096) (w.alloc (.cells (madeCells #[.int .u8 0] 4096) 5)) := by
  obtain ⟨i, hi, hz, hs, hb⟩ := info_parts info5
  have := run_make (P := Ybad.prog) w 27 5 i _ Ybad.underlying27 hi hz .i64 .i64 4096 4096 (by omega) (Int.le_refl _) (by rw [hb]; omega) (by omega)
  rw [hs] at this
  exact this

set_option maxRecDepth 100000 in
theorem new_any (pw : Nat) (w : World) (hw : w.heap[pw]? = some (.cells #[.slice none 0 0] 29 (0, 0))) :
    Calls Ybad.prog 5 #[.iface 26 (.pointer (some ⟨pw, 0, none⟩))] w fun e w' => e = .returned (.pointer (some ⟨w.heap.size + 1, 0, none⟩)) ∧ Buf w' w'.heap.size (w.heap.size + 1) w.heap.size pw [] [] (.slice none 0 0) ∧ Below w.heap.size w w' ∧ w'.heap.size = w.heap.size + 2 := by
  have h1 := noWriter
  have h2 := make4096
  have hz := lt_of_block hw
  obtain ⟨cs, hcs⟩ : ∃ cs, cs = madeCells #[.int .u8 0] 4096 := ⟨_, rfl⟩
  rw [← hcs] at h2
  have hsz : cs.size = 4096 := by rw [hcs]; exact size_madeCells _ _
  have HC : Hid (cs.size = 4096 ∧ w.heap[pw]? = some (.cells #[.slice none 0 0] 29 (0, 0))) := ⟨hsz, hw⟩
  clear hcs hsz hw
  go_enter Ybad.func5, Ybad.ntmps5
  go_wp2
  go_ret
  refine ⟨rfl, ⟨?_, ⟨cs.toList, ?_, by simpa using HC.out.1⟩, ?_, World.ownsRow_nil _ _ _ _, by simp, by simp; omega, by simp; omega, Nat.le_refl _⟩, ((Below.refl _ w).alloc (Nat.le_refl _) _).alloc (by simp) _, by simp⟩
  · have := heap_alloc_new (w.alloc (.cells cs 5)) (.cells #[.nilIface, .slice (some ⟨w.heap.size, 0, none⟩) 4096 4096, .int .i64 0, .iface 26 (.pointer (some ⟨pw, 0, none⟩))] 54)
    rw [size_up] at this
    exact this
  · rw [Below.heap_alloc _ _ _ (by simp), heap_alloc_new]
    simp [bc]
  · rw [Below.heap_alloc _ _ _ (by simp; omega), Below.heap_alloc _ _ _ hz]
    exact HC.out.2

/-- What string(b) gives of an owned row of bytes. -/
theorem owned_string {w : World} {B : Nat} {v : Value} {xs : List UInt8} (h : w.ownsRow B 5 1 v xs.length (bc xs)) : (convert 27 9 v).run Ybad.prog w = .ok (.string ⟨xs.toArray⟩) w := by
  rcases own_form h with ⟨rfl, hn⟩ | ⟨g, cap, rfl, _, _⟩
  · obtain rfl : xs = [] := List.eq_nil_of_length_eq_zero hn
    exact run_convert_bytes_nil (P := Ybad.prog) w 27 5 Ybad.underlying27 Ybad.underlying5 0 0 9 Ybad.underlying9
  · have := run_convert_bytes_arg (P := Ybad.prog) w 27 5 Ybad.underlying27 Ybad.underlying5 g 0 xs.length cap (xs.map fun b => (b.toNat : Int)) (by simp) (fun i hi => by
      have hc := h.cellAt (g := g) i (by omega)
      rw [Nat.zero_add, hc]
      simp [bc, List.getD, hi]) 9 Ybad.underlying9
    rw [this]
    have e : strOfNums (xs.map fun b => (b.toNat : Int)) = ⟨xs.toArray⟩ := by
      unfold strOfNums
      rw [List.map_map]
      have e : ((fun n : Int => UInt8.ofNat n.toNat) ∘ fun b : UInt8 => (b.toNat : Int)) = id := by
        funext b
        simp
      rw [e, List.map_id]
    rw [e]

theorem equal_any {w : World} {B B' : Nat} {v v' : Value} {xs : List UInt8} (h : w.ownsRow B 5 1 v xs.length (bc xs)) (h' : w.ownsRow B' 5 1 v' xs.length (bc xs)) :
    Calls Ybad.prog 8 #[v, v'] w fun e w' => e = .returned (.bool true) ∧ w' = w := by
  have e1 := owned_string h
  have e2 := owned_string h'
  clear h h'
  go_enter Ybad.func8, Ybad.ntmps8
  go_wp2
  go_ret
  exact ⟨by simp, rfl⟩
end Go.Proofs.YbulkcxvaDoor
