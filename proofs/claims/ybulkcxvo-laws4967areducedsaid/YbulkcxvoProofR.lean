/-
  The row of LawS4967AReduced.
-/
import Derived.Test.YbulkcxvoOpen
import Derived.Test.YbulkcxvoReduced
namespace Go.Proofs.Ybulkcxvo
open Go.ChangeShapes Go.WideShapes Go.ChangeAt Go.RowKit

theorem ownR : ownKnob Yba.prog.godebug = none := by kernel_rfl
theorem laidOutR : laidOutB Yba.prog = true := by kernel_rfl
set_option maxRecDepth 100000 in
theorem reduced_n (w : World) (n nc en ec pn pc on oc iv : Nat) (na ea pa oa : Option Addr) (hn : 512 < n) :
    Calls Yba.prog 4 #[.slice na n nc, .slice ea en ec, .slice pa pn pc, .slice oa on oc, .int .u8 (iv : Int)] w fun e w' => e = .returned (.bool true) ∧ Below w.heap.size w w' := by
  have h1 : (512 : Int) < (n : Int) := by omega
  go_enter Yba.func4, Yba.ntmps4
  go_wp2
  go_ret
  exact ⟨rfl, Below.refl _ _⟩
set_option maxRecDepth 100000 in
theorem reduced_m (w : World) (n nc en ec pn pc on oc iv : Nat) (na ea pa oa : Option Addr) (hn : n ≤ 512) (hm : 512 < on) :
    Calls Yba.prog 4 #[.slice na n nc, .slice ea en ec, .slice pa pn pc, .slice oa on oc, .int .u8 (iv : Int)] w fun e w' => e = .returned (.bool true) ∧ Below w.heap.size w w' := by
  have h1 : (n : Int) ≤ 512 := by omega
  have h2 : (512 : Int) < (on : Int) := by omega
  go_enter Yba.func4, Yba.ntmps4
  go_wp2
  go_ret
  exact ⟨rfl, Below.refl _ _⟩
theorem reduced_all (w : World) (n nc en ec pn pc on oc iv : Nat) (na ea pa oa : Option Addr) (nm : Nat → ByteArray) (hiv : iv < 256) (h0 : na = none → n = 0 ∧ nc = 0) (hnm : Strs w na n nm) (ev pv f g h : Nat → Nat) (he : U8s w ea en ev) (hp : U16s w pa pn pv) (hops : Ops w oa on f g h) :
    Calls Yba.prog 4 #[.slice na n nc, .slice ea en ec, .slice pa pn pc, .slice oa on oc, .int .u8 (iv : Int)] w fun e w' => e = .returned (.bool true) ∧ Below w.heap.size w w' := by
  by_cases hn : n ≤ 512
  · by_cases hm : on ≤ 512
    · exact reduced_any w n nc en ec pn pc on oc iv na ea pa oa nm hn hm hiv h0 hnm ev pv f g h he hp hops
    · exact reduced_m w n nc en ec pn pc on oc iv na ea pa oa hn (by omega)
  · exact reduced_n w n nc en ec pn pc on oc iv na ea pa oa (by omega)

set_option maxRecDepth 100000 in
theorem liftedR (os : Os) (started : os.Started) (H : Type) (enc : TypeId × Value → H) :
    ReturnsInHanded {} Yba.checked os 4 .any (Rows.lawS4967AReducedSpec.pre6 enc Yba.prog Yba.f4 Rows.lawS4967AReducedRow.domain false) (Rows.lawS4967AReducedSpec.post enc Yba.prog Yba.f4 false true false false) := by
  refine returnsInHanded_of_change (C := Yba.checked) ownR started (by kernel_rfl) Yba.func4
    (ChangeSpec.witness6 (enc := enc) (C := Yba.checked) false ⟨#[], #[.slice none 0 0, .slice none 0 0, .slice none 0 0, .slice none 0 0, .int .u8 0], []⟩ 8 (by kernel_rfl) (by kernel_rfl) (by kernel_rfl) (by kernel_rfl)) ?_
  intro W base args ds gs before hval0 hW hcnd _
  have hval : ∀ (j : Nat) t v, Yba.f4.params[j]? = some t → args[j]? = some v → Value.okWide Yba.prog W .any base t v := hval0
  have hW' := hW
  obtain ⟨p, q, hA0, hV, rfl, hfz, hnd⟩ := hW
  have hA : DataW.TrodAll enc Yba.prog W 0 (fun _ => true) true Yba.f4.params.toList args.toList ds p := hA0
  rw [Yba.params4] at hA hval
  obtain ⟨v0, vs0, d0, ds0, p0, q0, hargs, rfl, rfl, h0, r0⟩ := trodAll_cons hA
  obtain ⟨v1, vs1, d1, ds1, p1, q1, rfl, rfl, rfl, h1, r1⟩ := trodAll_cons r0
  obtain ⟨v2, vs2, d2, ds2, p2, q2, rfl, rfl, rfl, h2, r2⟩ := trodAll_cons r1
  obtain ⟨v3, vs3, d3, ds3, p3, q3, rfl, rfl, rfl, h3, r3⟩ := trodAll_cons r2
  obtain ⟨v4, vs4, d4, ds4, p4, q4, rfl, rfl, rfl, h4, r4⟩ := trodAll_cons r3
  obtain ⟨rfl, rfl, rfl⟩ := trodAll_nil r4
  obtain rfl : args = #[v0, v1, v2, v3, v4] := by cases args; simp_all
  obtain ⟨rfl, rfl⟩ := trodVars_none hV
  obtain ⟨a0, len0, cap0, rfl⟩ := okWide_slice Yba.underlying22 (hval 0 22 v0 rfl rfl)
  obtain ⟨a1, len1, cap1, rfl⟩ := okWide_slice Yba.underlying23 (hval 1 23 v1 rfl rfl)
  obtain ⟨a2, len2, cap2, rfl⟩ := okWide_slice Yba.underlying24 (hval 2 24 v2 rfl rfl)
  obtain ⟨a3, len3, cap3, rfl⟩ := okWide_slice Yba.underlying25 (hval 3 25 v3 rfl rfl)
  have k0 := h0
  have k1 := h1
  have k2 := h2
  have k3 := h3
  have lt0 : ∀ x ∈ p0, x.block < W.heap.size := by obtain ⟨m, hm⟩ := k0; exact DataW.trod_lt m _ _ _ hm
  have lt1 : ∀ x ∈ p1, x.block < W.heap.size := by obtain ⟨m, hm⟩ := k1; exact DataW.trod_lt m _ _ _ hm
  have lt2 : ∀ x ∈ p2, x.block < W.heap.size := by obtain ⟨m, hm⟩ := k2; exact DataW.trod_lt m _ _ _ hm
  have lt3 : ∀ x ∈ p3, x.block < W.heap.size := by obtain ⟨m, hm⟩ := k3; exact DataW.trod_lt m _ _ _ hm
  obtain ⟨f0, hf0⟩ := h0
  obtain ⟨f1, hf1⟩ := h1
  obtain ⟨f2, hf2⟩ := h2
  obtain ⟨f3, hf3⟩ := h3
  obtain ⟨hna, nm, hnm⟩ := open_strs hf0
  obtain ⟨ev, hev⟩ := open_u8s hf1
  obtain ⟨pv, hpv⟩ := open_u16s hf2
  obtain ⟨f, g, h, hops⟩ := open_ops hf3
  obtain ⟨a4, rfl, rfl, rfl, w4⟩ := open_int Yba.underlying5 (hval 4 5 v4 rfl rfl) h4
  clear hA0 hval0
  have b4 := bounds_u8 w4
  obtain ⟨iv, rfl⟩ := Int.eq_ofNat_of_zero_le b4.1
  refine (reduced_all W len0 cap0 len1 cap1 len2 cap2 len3 cap3 iv a0 a1 a2 a3 nm (by have := b4.2; omega) hna hnm ev pv f g h hev hpv hops).mono fun e W' ⟨he, bel⟩ => ?_
  subst he
  exact ⟨_, rfl, _, _, _, [], _, [], hW', trodAll_mk1 (shut_bool Yba.underlying4 _),
    (trodAll_cons_mk (Below.trod laidOutR (by kernel_rfl) (of_decide_eq_true (by kernel_rfl)) k0 bel lt0) (trodAll_cons_mk (Below.trod laidOutR (by kernel_rfl) (of_decide_eq_true (by kernel_rfl)) k1 bel lt1) (trodAll_cons_mk (Below.trod laidOutR (by kernel_rfl) (of_decide_eq_true (by kernel_rfl)) k2 bel lt2)
      (trodAll_cons_mk (Below.trod laidOutR (by kernel_rfl) (of_decide_eq_true (by kernel_rfl)) k3 bel lt3) (trodAll_cons_mk (shut_int Yba.underlying5 w4) trodAll_mk0))))), rfl, bel.frame _, fun h => by cases h⟩

theorem reduced_said : Rows.LawS4967AReducedSaid :=
  OpenClaim.holds_of_wide 4 Yba.f4 rfl rfl rfl rfl rfl rfl rfl ⟨rfl, rfl, rfl, rfl, rfl⟩ rfl rfl rfl rfl rfl (by kernel_rfl) Yba.func4 (by kernel_rfl)
    (of_decide_eq_true (by kernel_rfl)) (by unfold Func.isWrapper; first | (rw [if_pos (by decide +kernel)]; kernel_rfl) | (rw [if_neg (by decide +kernel)]; exact ⟨rfl, rfl⟩))
    (fun os started H enc _ => liftedR os started H enc)
end Go.Proofs.Ybulkcxvo
