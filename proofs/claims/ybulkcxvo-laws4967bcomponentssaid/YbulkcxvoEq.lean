/-
  slices.Equal of two rows that hold the same.
-/
import Derived.Test.YbulkcxvoBrows
namespace Go.Proofs.Ybulkcxvo
open Go.RowKit

set_option maxRecDepth 100000 in
theorem eq_any (ab bb n ca cb : Nat) (f : Nat → Nat) (w : World) (hn : n ≤ 1000000) (h1 : IR w ab n f) (h2 : IR w bb n f) :
    Calls Yba.prog 12 #[.slice (some ⟨ab, 0, none⟩) n ca, .slice (some ⟨bb, 0, none⟩) n cb] w fun e w' => e = .returned (.bool true) ∧ ∃ m, w' = w.drewN m := by
  have hni : (n : Int) ≤ 1000000 := by omega
  have HI : Hid (IR w ab n f ∧ IR w bb n f) := ⟨h1, h2⟩
  clear h1 h2
  go_enter Yba.func12, Yba.ntmps12
  go_wp2
  go_loopw [13] (fun i wr => ∃ k m : Nat, k ≤ n ∧ i = .int .i64 (k : Int) ∧ wr = w.drewN m) (fun i _ => n - (intOf i).toNat)
  case atStart => exact ⟨0, 0, Nat.zero_le _, rfl, rfl⟩
  case round =>
    obtain ⟨k, m, hk, rfl, rfl⟩ := hrel
    by_cases hlt : k < n
    · have hki : (k : Int) < (n : Int) := by omega
      have c1 := HI.out.1.cell hlt
      have c2 := HI.out.2.cell hlt
      go_wp2
      go_quiet (fail)
      go_wp2
      go_round
      case rel => exact ⟨k + 1, m + nq, by omega, by go_num, rfl⟩
      case measure => simp [intOf]; omega
    · obtain rfl : n = k := by omega
      go_wp2
      go_ret
      exact ⟨rfl, m, rfl⟩
end Go.Proofs.Ybulkcxvo
