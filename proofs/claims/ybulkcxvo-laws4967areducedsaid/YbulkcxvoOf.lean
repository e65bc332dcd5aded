/-
  rows.of: an owner's values.
-/
import Derived.Test.YbulkcxvoBrows
namespace Go.Proofs.Ybulkcxvo
open Go.RowKit

set_option maxRecDepth 100000 in
theorem of_any (ab vb n t u : Nat) (at_ : Nat → Nat) (w : World) (hu : u < n) (hn : n ≤ 256) (h1 : IR w ab (n + 1) at_) (hm1 : at_ u ≤ at_ (u + 1)) (hm2 : at_ (u + 1) ≤ t) :
    Calls Yba.prog 19 #[.agg #[.slice (some ⟨ab, 0, none⟩) (n + 1) (n + 1), .slice (some ⟨vb, 0, none⟩) t t], .int .i64 (u : Int)] w fun e w' => ∃ o c, e = .returned (.slice (some ⟨vb, o, none⟩) (at_ (u + 1) - at_ u) c) ∧ (at_ u < at_ (u + 1) → o = at_ u) ∧ Below w.heap.size w w' := by
  have hui : (u : Int) < (n : Int) := by omega
  have hni : (n : Int) ≤ 256 := by omega
  have hA : ∀ o, (w.alloc o).cell? ⟨ab, u, none⟩ = some (.int .i64 (at_ u : Int)) := fun o => (h1.keep (Below.heap_alloc w o _ h1.lt)).cell (by omega)
  have hB : ∀ o, (w.alloc o).cell? ⟨ab, u + 1, none⟩ = some (.int .i64 (at_ (u + 1) : Int)) := fun o => (h1.keep (Below.heap_alloc w o _ h1.lt)).cell (by omega)
  have HW : Hid (∀ o, Below w.heap.size w (w.alloc o)) := fun o => (Below.refl _ _).alloc (Nat.le_refl _) o
  clear h1
  generalize at_ (u + 1) = q at *
  generalize at_ u = p at *
  have h3 : (p : Int) ≤ (q : Int) := by omega
  have h4 : (q : Int) ≤ (t : Int) := by omega
  go_enter Yba.func19, Yba.ntmps19
  go_wp2
  go_quiet (fail)
  go_wp2
  · go_ret
    exact ⟨_, ⟨_, rfl⟩, fun h => absurd h (by omega), (HW.out _).trans ⟨rfl, rfl, rfl, Nat.le_refl _, fun _ _ => rfl⟩⟩
  · go_ret
    exact ⟨_, ⟨_, rfl⟩, fun _ => rfl, (HW.out _).trans ⟨rfl, rfl, rfl, Nat.le_refl _, fun _ _ => rfl⟩⟩
end Go.Proofs.Ybulkcxvo
