/-
  The row of LawS4971CCount.
-/
import Derived.Test.YbulkcxxsRows
import Derived.Test.YbulkcxxsLaw
import Derived.ProofKit
import Derived.OpenShut
import Derived.ChangeOld
import Derived.Deep.Grids
namespace Go.Proofs.Ybulkcxxs
open Go.ChangeShapes Go.WideShapes Go.ChangeAt Go.RowKit

theorem own : ownKnob Yba.prog.godebug = none := by kernel_rfl
theorem laidOut : laidOutB Yba.prog = true := by kernel_rfl

theorem law_big (ao : Option Addr) (n c : Nat) (k : Int) (w : World) (hn : 4096 < n) :
    Calls Yba.prog 3 #[.slice ao n c, .int .u64 k] w fun e w' => e = .returned (.bool true) ∧ Below w.heap.size w w' := by
  have h1 : (4096 : Int) < (n : Int) := by omega
  go_enter Yba.func3, Yba.ntmps3
  go_wp2
  go_ret
  exact ⟨rfl, Below.refl _ _⟩

theorem law_any (ao : Option Addr) (n c : Nat) (k : Int) (w : World) (hk0 : 0 ≤ k) (hk1 : k < 18446744073709551616)
    (hc : 0 < n → ∃ (b off : Nat) (B : Nat → Bool), ao = some ⟨b, off, none⟩ ∧ b < w.heap.size ∧ ∀ j, j < n → w.cell? ⟨b, off + j, none⟩ = some (.bool (B j))) :
    Calls Yba.prog 3 #[.slice ao n c, .int .u64 k] w fun e w' => e = .returned (.bool true) ∧ Below w.heap.size w w' := by
  by_cases hn : 4096 < n
  · exact law_big ao n c k w hn
  · have h0 : 0 ≤ k % ((n : Int) + 1) := Int.emod_nonneg _ (by omega)
    have h1 : k % ((n : Int) + 1) < (n : Int) + 1 := Int.emod_lt_of_pos _ (by omega)
    obtain ⟨m, hm⟩ := Int.eq_ofNat_of_zero_le h0
    by_cases hz : n = 0
    · subst hz
      exact law_small ao 0 c m [] k w (by omega) rfl hk0 hk1 (by omega) hm (fun h => absurd h (by omega))
    · obtain ⟨b, off, B, ha, hb, hcell⟩ := hc (by omega)
      refine law_small ao n c m ((List.range n).map B) k w (by omega) (by simp) hk0 hk1 (by omega) hm (fun _ => ⟨b, off, ha, hb, fun j hj => ?_⟩)
      rw [hcell j hj]
      simp [List.getD, hj]

set_option maxRecDepth 100000 in
theorem lifted (os : Os) (started : os.Started) (H : Type) (enc : TypeId × Value → H) :
    ReturnsInHanded {} Yba.checked os 3 .any (Rows.lawS4971CCountSpec.pre6 enc Yba.prog Yba.f3 Rows.lawS4971CCountRow.domain false) (Rows.lawS4971CCountSpec.post enc Yba.prog Yba.f3 false true false false) := by
  refine returnsInHanded_of_change (C := Yba.checked) own started (by kernel_rfl) Yba.func3
    (ChangeSpec.witness6 (enc := enc) (C := Yba.checked) false ⟨#[], #[.slice none 0 0, .int .u64 0], []⟩ 8 (by kernel_rfl) (by kernel_rfl) (by kernel_rfl) (by kernel_rfl)) ?_
  intro W base args ds gs before hval0 hW hcnd _
  have hval : ∀ (j : Nat) t v, Yba.f3.params[j]? = some t → args[j]? = some v → Value.okWide Yba.prog W .any base t v := hval0
  have hW' := hW
  obtain ⟨p, q, hA0, hV, rfl, hfz, hnd⟩ := hW
  have hA : DataW.TrodAll enc Yba.prog W 0 (fun _ => true) true Yba.f3.params.toList args.toList ds p := hA0
  rw [Yba.params3] at hA hval
  obtain ⟨v0, vs0, d0, ds0, p0, q0, hargs, rfl, rfl, h0, r0⟩ := trodAll_cons hA
  obtain ⟨v1, vs1, d1, ds1, p1, q1, rfl, rfl, rfl, h1, r1⟩ := trodAll_cons r0
  obtain ⟨rfl, rfl, rfl⟩ := trodAll_nil r1
  obtain rfl : args = #[v0, v1] := by cases args; simp_all
  obtain ⟨rfl, rfl⟩ := trodVars_none hV
  obtain ⟨a0, len0, cap0, rfl⟩ := okWide_slice Yba.underlying22 (hval 0 22 v0 rfl rfl)
  have k0 := h0
  have lt0 : ∀ x ∈ p0, x.block < W.heap.size := by obtain ⟨m, hm⟩ := k0; exact DataW.trod_lt m _ _ _ hm
  have w0 : 0 < len0 → ∃ (b off : Nat) (B : Nat → Bool), a0 = some ⟨b, off, none⟩ ∧ b < W.heap.size ∧ ∀ j, j < len0 → W.cell? ⟨b, off + j, none⟩ = some (.bool (B j)) := by
    intro hpos
    obtain ⟨fuel, hf⟩ := h0
    rcases Deep.open_bools Yba.underlying22 Yba.underlying4 (by kernel_rfl) hf with ⟨hcs, _⟩ | ⟨x, l, c, B, hcs, _, hl, hm, _, hcell⟩
    · simp [Value.cells] at hcs
      omega
    · simp [Value.cells] at hcs
      obtain ⟨rfl, rfl, rfl⟩ := hcs
      obtain ⟨b, off, spot⟩ := x
      have hspot : spot = none := by simpa [Addr.add] using World.cell?_spot (hcell 0 (by omega))
      subst hspot
      have hc0 := hcell 0 (by omega)
      rw [add_plain] at hc0
      exact ⟨b, off, B, rfl, World.block_lt_of_cell? _ _ hc0, fun j hj => by rw [← add_plain]; exact hcell j (by omega)⟩
  obtain ⟨a1, rfl, rfl, rfl, w1⟩ := open_int Yba.underlying23 (hval 1 23 v1 rfl rfl) h1
  clear hA0 hval0
  have b1 := bounds_u64 w1
  refine (law_any a0 len0 cap0 a1 W (by omega) (by omega) w0).mono fun e W' ⟨he, bel⟩ => ?_
  subst he
  exact ⟨_, rfl, _, _, _, [], _, [], hW', trodAll_mk1 (shut_bool Yba.underlying4 _), (trodAll_cons_mk (Below.trod laidOut (by kernel_rfl) (of_decide_eq_true (by kernel_rfl)) k0 bel lt0) (trodAll_cons_mk (shut_int Yba.underlying23 w1) trodAll_mk0)), rfl, bel.frame _, fun h => by cases h⟩

theorem count_said : Rows.LawS4971CCountSaid :=
  OpenClaim.holds_of_wide 3 Yba.f3 rfl rfl rfl rfl rfl rfl rfl ⟨rfl, rfl, rfl, rfl, rfl⟩ rfl rfl rfl rfl rfl (by kernel_rfl) Yba.func3 (by kernel_rfl)
    (of_decide_eq_true (by kernel_rfl)) (by unfold Func.isWrapper; first | (rw [if_pos (by decide +kernel)]; kernel_rfl) | (rw [if_neg (by decide +kernel)]; exact ⟨rfl, rfl⟩))
    (fun os started H enc _ => lifted os started H enc)
end Go.Proofs.Ybulkcxxs
