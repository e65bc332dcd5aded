/-
  slices.Equal and slices.Clone, the rows told cell by cell.
-/
import Derived.Test.YbulkcxvoBuildS
namespace Go.Proofs.Ybulkcxvo
open Go.RowKit

/-- Integers from an address on. -/
def Ints (w : World) (ao : Option Addr) (n : Nat) (f : Nat → Int) : Prop := 0 < n → ∃ b off, ao = some ⟨b, off, none⟩ ∧ b < w.heap.size ∧ ∀ i, i < n → w.cell? ⟨b, off + i, none⟩ = some (.int .i64 (f i))
theorem Ints.keep {w w' : World} {ao : Option Addr} {n : Nat} {f : Nat → Int} (h : Ints w ao n f) (hb : Below w.heap.size w w') : Ints w' ao n f := by
  intro h0
  obtain ⟨b, off, e, hlt, hc⟩ := h h0
  exact ⟨b, off, e, Nat.lt_of_lt_of_le hlt hb.size, fun i hi => (World.cell?_of_block (hb.block b hlt)).trans (hc i hi)⟩
theorem IR.ints {w : World} {b n : Nat} {f : Nat → Nat} (h : IR w b n f) : Ints w (some ⟨b, 0, none⟩) n (fun i => (f i : Int)) := fun _ => ⟨b, 0, rfl, h.lt, fun i hi => by rw [Nat.zero_add]; exact h.cell hi⟩
set_option maxRecDepth 100000 in
theorem eq_cells (ao bo : Option Addr) (n ca cb : Nat) (f : Nat → Int) (w : World) (hn : n ≤ 1000000) (h1 : Ints w ao n f) (h2 : Ints w bo n f) :
    Calls Yba.prog 12 #[.slice ao n ca, .slice bo n cb] w fun e w' => e = .returned (.bool true) ∧ ∃ m, w' = w.drewN m := by
  have hni : (n : Int) ≤ 1000000 := by omega
  have HI : Hid (Ints w ao n f ∧ Ints w bo n f) := ⟨h1, h2⟩
  clear h1 h2
  go_enter Yba.func12, Yba.ntmps12
  go_wp2
  go_loopw [13] (fun i wr => ∃ k m : Nat, k ≤ n ∧ i = .int .i64 (k : Int) ∧ wr = w.drewN m) (fun i _ => n - (intOf i).toNat)
  case atStart => exact ⟨0, 0, Nat.zero_le _, rfl, rfl⟩
  case round =>
    obtain ⟨k, m, hk, rfl, rfl⟩ := hrel
    by_cases hlt : k < n
    · have hki : (k : Int) < (n : Int) := by omega
      obtain ⟨a, oa, rfl, _, ha⟩ := HI.out.1 (by omega)
      obtain ⟨b, ob, rfl, _, hb⟩ := HI.out.2 (by omega)
      have c1 := ha k hlt
      have c2 := hb k hlt
      generalize f k = X at *
      clear ha hb
      go_wp2
      go_quiet (fail)
      go_wp2
      go_round
      case rel => exact ⟨k + 1, m + nq, by omega, by go_num, rfl⟩
      case measure => simp [intOf]; omega
    · obtain rfl : n = k := by omega
      go_wp2
      go_ret
      exact ⟨rfl, m, rfl⟩
set_option maxRecDepth 100000 in
theorem eq_steps (ao bo : Option Addr) (n ca cb : Nat) (tx : Nat → Nat) (it : Nat → Int) (kd : Nat → Nat) (w : World) (hn : n ≤ 1000000) (h1 : Steps w ao n tx it kd) (h2 : Steps w bo n tx it kd) :
    Calls Yba.prog 11 #[.slice ao n ca, .slice bo n cb] w fun e w' => e = .returned (.bool true) ∧ ∃ m, w' = w.drewN m := by
  have hni : (n : Int) ≤ 1000000 := by omega
  have HI : Hid (Steps w ao n tx it kd ∧ Steps w bo n tx it kd) := ⟨h1, h2⟩
  clear h1 h2
  go_enter Yba.func11, Yba.ntmps11
  go_wp2
  go_loopw [13] (fun i wr => ∃ k m : Nat, k ≤ n ∧ i = .int .i64 (k : Int) ∧ wr = w.drewN m) (fun i _ => n - (intOf i).toNat)
  case atStart => exact ⟨0, 0, Nat.zero_le _, rfl, rfl⟩
  case round =>
    obtain ⟨k, m, hk, rfl, rfl⟩ := hrel
    by_cases hlt : k < n
    · have hki : (k : Int) < (n : Int) := by omega
      obtain ⟨a, oa, rfl, _, ha⟩ := HI.out.1 (by omega)
      obtain ⟨b, ob, rfl, _, hb⟩ := HI.out.2 (by omega)
      obtain ⟨c1, c2, c3⟩ := ha k hlt
      obtain ⟨d1, d2, d3⟩ := hb k hlt
      clear ha hb
      generalize tx k = X at *
      generalize it k = Y at *
      generalize kd k = Z at *
      go_wp2
      go_quiet (fail)
      go_wp2
      go_round
      case rel => exact ⟨k + 1, m + nq, by omega, by go_num, rfl⟩
      case measure => simp [intOf]; omega
    · obtain rfl : n = k := by omega
      go_wp2
      go_ret
      exact ⟨rfl, m, rfl⟩
end Go.Proofs.Ybulkcxvo
