/-
  encoding/binary.PutUvarint over this program, after the guide's own walk of it.
-/
import Derived.Test.YbulkcxvaDoorState
import Derived.Lib.VarintMem
import Derived.Lib.Walk
namespace Go.Proofs.YbulkcxvaDoor
open Go.RowKit

set_option maxHeartbeats 8000000 in
set_option maxRecDepth 100000 in
theorem put_uvarint (g o n c x : Nat) (hx : x < 18446744073709551616) (w : World) (hn : (Lib.uvarint x).length ≤ n)
    (hcell : ∀ j, j < (Lib.uvarint x).length → (w.cell? ⟨g, o + j, none⟩).isSome = true ∧ w.frozen? ⟨g, o + j, none⟩ = false) :
    Calls Ybad.prog 13 #[.slice (some ⟨g, o, none⟩) n c, .int .u64 x] w fun e w' => e = .returned (.int .i64 (Lib.uvarint x).length) ∧ w' = w.setCells g o (Lib.byteCells (Lib.uvarint x)) := by
  have hlen := Lib.uvarint_length64 hx
  go_enter Ybad.func13, Ybad.ntmps13
  go_wp2
  go_loopw [1, 5] (fun vx vi wr => ∃ (y : Nat) (pre : List UInt8), vx = .int .u64 y ∧ vi = .int .i64 pre.length ∧ y ≤ x ∧ Lib.uvarint x = pre ++ Lib.uvarint y ∧ wr = w.setCells g o (Lib.byteCells pre))
    (fun vx _ _ => (intOf vx).toNat)
  case atStart => exact ⟨x, [], rfl, rfl, Nat.le_refl _, rfl, rfl⟩
  case round =>
    obtain ⟨y, pre, rfl, rfl, hy, hsplit, rfl⟩ := hrel
    have hpl : pre.length + (Lib.uvarint y).length = (Lib.uvarint x).length := by
      have h2 := congrArg List.length hsplit
      rw [List.length_append] at h2
      omega
    have hyp := Lib.uvarint_pos y
    by_cases h128 : 128 ≤ y
    · have hor : bits .or .u8 ((y : Int) % 256) 128 = ((y % 128 + 128 : Nat) : Int) := by
        rw [Lib.u8_or128_any _ (by omega) (by omega)]
        omega
      have hcx := hcell pre.length (by omega)
      obtain ⟨u0, hu0⟩ := Option.isSome_iff_exists.1 hcx.1
      have hc1 : (w.setCells g o (Lib.byteCells pre)).cell? ⟨g, o + pre.length, none⟩ = some u0 := by
        rw [World.cell?_setCells_out g _ o w _ (fun _ _ => Or.inr (by rw [Lib.byteCells_length]; exact Nat.le_refl _))]; exact hu0
      have hf1 : (w.setCells g o (Lib.byteCells pre)).frozen? ⟨g, o + pre.length, none⟩ = false := by rw [World.frozen?_setCells]; exact hcx.2
      have hsn : (w.setCells g o (Lib.byteCells pre)).setCell ⟨g, o + pre.length, none⟩ (Value.int .u8 ((y % 128 + 128 : Nat) : Int)) = w.setCells g o (Lib.byteCells (pre ++ [(y % 128 + 128).toUInt8])) := by
        have h3 := Lib.setCells_snoc_w g (Value.int .u8 ((y % 128 + 128 : Nat) : Int)) (Lib.byteCells pre) o w
        rw [Lib.byteCells_length] at h3
        rw [h3, Lib.byteCells_snoc pre (by omega)]
      go_wp2
      go_roundw
      case rel =>
        refine ⟨y / 128, pre ++ [(y % 128 + 128).toUInt8], by go_num, by simp, by omega, by rw [hsplit, Lib.uvarint_big h128]; simp, ?_⟩
        rw [← hsn]
        first | rfl | (congr 2; push_cast; omega)
      case measure => simp [intOf]; omega
    · have hsm : Lib.uvarint y = [y.toUInt8] := Lib.uvarint_small (by omega)
      have hcx := hcell pre.length (by omega)
      obtain ⟨u0, hu0⟩ := Option.isSome_iff_exists.1 hcx.1
      have hc1 : (w.setCells g o (Lib.byteCells pre)).cell? ⟨g, o + pre.length, none⟩ = some u0 := by
        rw [World.cell?_setCells_out g _ o w _ (fun _ _ => Or.inr (by rw [Lib.byteCells_length]; exact Nat.le_refl _))]; exact hu0
      have hf1 : (w.setCells g o (Lib.byteCells pre)).frozen? ⟨g, o + pre.length, none⟩ = false := by rw [World.frozen?_setCells]; exact hcx.2
      have hsn : (w.setCells g o (Lib.byteCells pre)).setCell ⟨g, o + pre.length, none⟩ (Value.int .u8 (y : Int)) = w.setCells g o (Lib.byteCells (pre ++ [y.toUInt8])) := by
        have h3 := Lib.setCells_snoc_w g (Value.int .u8 (y : Int)) (Lib.byteCells pre) o w
        rw [Lib.byteCells_length] at h3
        rw [h3, Lib.byteCells_snoc pre (by omega)]
      go_wp2
      go_ret
      refine ⟨?_, ?_⟩
      · rw [hsplit, hsm]; simp
      · rw [hsplit, hsm, ← hsn]

theorem bc_byteCells (l : List UInt8) : Lib.byteCells l = bc l := rfl
theorem uv_pos (x : Nat) : 0 < (Lib.uvarint x).length := Lib.uvarint_pos x
end Go.Proofs.YbulkcxvaDoor
