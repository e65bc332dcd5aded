/-
  reduce's closure edge.
-/
import Derived.Test.YbulkcxvoTab
namespace Go.Proofs.Ybulkcxvo
open Go.RowKit

theorem edge_skip (a b : Int) (p : Value) (w : World) (h : a < 0 ∨ a = b) : Calls Yba.prog 22 #[.int .i64 a, .int .i64 b, p] w fun e w' => e = .returned (.tuple #[]) ∧ w' = w := by
  by_cases h0 : a < 0
  · have h1 : decide (0 ≤ a) = false := decide_eq_false (by omega)
    go_enter Yba.func22, Yba.ntmps22
    go_wp2
    go_end0
    exact ⟨rfl, rfl⟩
  · have h1 : 0 ≤ a := by omega
    obtain rfl : a = b := by omega
    go_enter Yba.func22, Yba.ntmps22
    go_wp2
    go_end0
    exact ⟨rfl, rfl⟩
theorem edge_put (a b : Int) (bx f : Nat) (cv : Value) (w : World) (Q : World → Prop) (hf : f = 24 ∨ f = 26) (h0 : 0 ≤ a) (hne : a ≠ b) (hb : w.cell? ⟨bx, 0, none⟩ = some (.func (.func f) #[] #[cv]))
    (hc : Calls Yba.prog f #[.int .i64 a, .int .i64 b, cv] w fun e w' => e = .returned (.tuple #[]) ∧ Q w') : Calls Yba.prog 22 #[.int .i64 a, .int .i64 b, .pointer (some ⟨bx, 0, none⟩)] w fun e w' => e = .returned (.tuple #[]) ∧ Q w' := by
  have h1 : (a != b) = true := by simp [hne]
  have HC : Hid (Calls Yba.prog f #[.int .i64 a, .int .i64 b, cv] w fun e w' => e = .returned (.tuple #[]) ∧ Q w') := hc
  clear hc
  rcases hf with rfl | rfl
  · go_enter Yba.func22, Yba.ntmps22
    go_wp2_with fail
    refine HC.out.mono ?_
    rintro e w' ⟨rfl, hq⟩
    go_wp2
    go_end0
    exact ⟨rfl, hq⟩
  · go_enter Yba.func22, Yba.ntmps22
    go_wp2_with fail
    refine HC.out.mono ?_
    rintro e w' ⟨rfl, hq⟩
    go_wp2
    go_end0
    exact ⟨rfl, hq⟩
end Go.Proofs.Ybulkcxvo
