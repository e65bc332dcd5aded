/-
  The walks over LawS4971CCount and its callee.
-/
import Derived.Test.YbulkcxxsProg
import Derived.WalkKit
import Derived.WalkSpells
import Derived.Deep.QuietTactic
import Derived.BigQuiet
import Derived.Laws.CopyOwn
namespace Go.Proofs.Ybulkcxxs
open Go.RowKit

/-- How many of the first m marks are false. -/
def cnt (bs : List Bool) (m : Nat) : Nat := ((bs.take m).filter (fun b => !b)).length
theorem cnt_le (bs : List Bool) (m : Nat) : cnt bs m ≤ m := by
  unfold cnt
  exact Nat.le_trans (List.length_filter_le _ _) (List.length_take_le _ _)
theorem cnt_succ (bs : List Bool) (m : Nat) (h : m < bs.length) : cnt bs (m + 1) = cnt bs m + (if bs.getD m false = true then 0 else 1) := by
  unfold cnt
  rw [List.take_succ_eq_append_getElem h, List.filter_append]
  have e : bs.getD m false = bs[m] := by simp [h]
  rw [e]
  cases bs[m] <;> simp

set_option maxHeartbeats 400000 in
theorem unsettled_any (bs : List Bool) (pc pr g h n m : Nat) (w : World) (hn : n ≤ 4096) (hl : bs.length = n) (hm : m ≤ n)
    (c1 : w.cell? ⟨pc, 3, none⟩ = some (.slice (some ⟨g, 0, none⟩) n n)) (c2 : w.cell? ⟨pr, 1, none⟩ = some (.slice (some ⟨h, 0, none⟩) m m))
    (hb : ∀ j, j < n → w.cell? ⟨g, j, none⟩ = some (.bool (bs.getD j false))) :
    Calls Yba.prog 4 #[.pointer (some ⟨pc, 0, none⟩), .pointer (some ⟨pr, 0, none⟩)] w fun e w' => e = .returned (.int .i64 (cnt bs m)) ∧ ∃ q, w' = w.drewN q := by
  have hmn : (m : Int) ≤ (n : Int) := by omega
  go_enter Yba.func4, Yba.ntmps4
  go_wp2
  go_quiet (fail)
  go_wp2
  go_loop [5, 19] (fun c i => ∃ j : Nat, j ≤ m ∧ i = .int .i64 j ∧ c = .int .i64 (cnt bs j)) (fun _ i => m - (intOf i).toNat)
  case atStart => exact ⟨0, Nat.zero_le _, rfl, rfl⟩
  case round =>
    obtain ⟨j, hj, rfl, rfl⟩ := hrel
    have hc := cnt_le bs j
    by_cases hlt : j < m
    · have hcell := hb j (by omega)
      have hjn : (j : Int) < (m : Int) := by omega
      have HS : Hid (cnt bs (j + 1) = cnt bs j + (if bs.getD j false = true then 0 else 1)) := cnt_succ bs j (by omega)
      generalize bs.getD j false = b at *
      cases b
      · go_wp2
        go_round
        case rel => exact ⟨j + 1, by omega, by go_num, by rw [HS.out]; go_num⟩
        case measure => simp [intOf]; omega
      · go_wp2
        go_round
        case rel => exact ⟨j + 1, by omega, by go_num, by rw [HS.out]; go_num⟩
        case measure => simp [intOf]; omega
    · have : j = m := by omega
      subst this
      go_wp2
      go_ret
      exact ⟨rfl, _, rfl⟩
end Go.Proofs.Ybulkcxxs
