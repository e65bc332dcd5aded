/-
  The row of LawS4967BComponents.
-/
import Derived.Test.YbulkcxvoRows
import Derived.Test.YbulkcxvoLawWalk
import Derived.ProofKit
import Derived.OpenShut
import Derived.ChangeOld
import Derived.Deep.Slices
namespace Go.Proofs.Ybulkcxvo
open Go.ChangeShapes Go.WideShapes Go.ChangeAt Go.RowKit

theorem own : ownKnob Yba.prog.godebug = none := by kernel_rfl
theorem laidOut : laidOutB Yba.prog = true := by kernel_rfl

set_option maxRecDepth 100000 in
theorem lawB_n (n m c : Nat) (ao : Option Addr) (w : World) (hn : 256 < n) :
    Calls Yba.prog 5 #[.int .u16 (n : Int), .slice ao m c] w fun e w' => e = .returned (.bool true) ∧ Below w.heap.size w w' := by
  have h1 : (256 : Int) < (n : Int) := by omega
  go_enter Yba.func5, Yba.ntmps5
  go_wp2
  go_ret
  exact ⟨rfl, Below.refl _ _⟩
set_option maxRecDepth 100000 in
theorem lawB_m (n m c : Nat) (ao : Option Addr) (w : World) (hn : n ≤ 256) (hm : 2048 < m) :
    Calls Yba.prog 5 #[.int .u16 (n : Int), .slice ao m c] w fun e w' => e = .returned (.bool true) ∧ Below w.heap.size w w' := by
  have h1 : (n : Int) ≤ 256 := by omega
  have h2 : (2048 : Int) < (m : Int) := by omega
  go_enter Yba.func5, Yba.ntmps5
  go_wp2
  go_ret
  exact ⟨rfl, Below.refl _ _⟩
theorem lawB_all (n m c : Nat) (ao : Option Addr) (fr to : Nat → Nat) (w : World) (he : Edges w ao m fr to) :
    Calls Yba.prog 5 #[.int .u16 (n : Int), .slice ao m c] w fun e w' => e = .returned (.bool true) ∧ Below w.heap.size w w' := by
  by_cases hn : n ≤ 256
  · by_cases hm : m ≤ 2048
    · exact lawB_any n m c ao fr to w hn hm he
    · exact lawB_m n m c ao w hn (by omega)
  · exact lawB_n n m c ao w (by omega)

theorem two_of {cs a b : List Value} (hl : cs.length = 2) (h0 : (cs.drop 0).take 1 = a) (h1 : (cs.drop 1).take 1 = b) : cs = a ++ b := by
  subst h0 h1
  match cs, hl with
  | [x, y], _ => rfl
section
variable {H : Type} {enc : TypeId × Value → H} {W : World} {base : Nat} {sp : Nat → Bool} {held : Bool} {fuel : Nat}
theorem open_edge {cs : List Value} {x : DataW H × List MemPlace} (h : DataW.trod enc Yba.prog W base sp held fuel 87 cs = some x) :
    ∃ f t : Nat, cs = [.int .u16 (f : Int), .int .u16 (t : Int)] ∧ f < 65536 ∧ t < 65536 := by
  obtain ⟨xs, m, _, _, hl, hx, hat⟩ := DataW.trod_struct Yba.underlying87 h
  have hl : cs.length = 2 := hl.trans (by kernel_rfl)
  have hx : xs.length = 2 := hx
  have c72 : Yba.prog.cellsOf 72 = 1 := by kernel_rfl
  have g0 := hat 0 _ rfl
  have g1 := hat 1 _ rfl
  rw [List.getElem?_eq_getElem (by omega)] at g0 g1
  obtain ⟨f, k0, _, w0⟩ := DataW.trod_int Yba.underlying72 g0
  obtain ⟨t, k1, _, w1⟩ := DataW.trod_int Yba.underlying72 g1
  have b0 := bounds_u16 w0
  have b1 := bounds_u16 w1
  obtain ⟨f, rfl⟩ := Int.eq_ofNat_of_zero_le b0.1
  obtain ⟨t, rfl⟩ := Int.eq_ofNat_of_zero_le b1.1
  refine ⟨f, t, ?_, by have := b0.2; omega, by have := b1.2; omega⟩
  have k0 : (cs.drop 0).take (Yba.prog.cellsOf 72) = [.int .u16 (f : Int)] := k0
  have k1 : (cs.drop 1).take (Yba.prog.cellsOf 72) = [.int .u16 (t : Int)] := k1
  rw [c72] at k0 k1
  exact two_of hl k0 k1
end

set_option maxRecDepth 100000 in
theorem liftedB (os : Os) (started : os.Started) (H : Type) (enc : TypeId × Value → H) :
    ReturnsInHanded {} Yba.checked os 5 .any (Rows.lawS4967BComponentsSpec.pre6 enc Yba.prog Yba.f5 Rows.lawS4967BComponentsRow.domain false) (Rows.lawS4967BComponentsSpec.post enc Yba.prog Yba.f5 false true false false) := by
  refine returnsInHanded_of_change (C := Yba.checked) own started (by kernel_rfl) Yba.func5
    (ChangeSpec.witness6 (enc := enc) (C := Yba.checked) false ⟨#[], #[.int .u16 0, .slice none 0 0], []⟩ 8 (by kernel_rfl) (by kernel_rfl) (by kernel_rfl) (by kernel_rfl)) ?_
  intro W base args ds gs before hval0 hW hcnd _
  have hval : ∀ (j : Nat) t v, Yba.f5.params[j]? = some t → args[j]? = some v → Value.okWide Yba.prog W .any base t v := hval0
  have hW' := hW
  obtain ⟨p, q, hA0, hV, rfl, hfz, hnd⟩ := hW
  have hA : DataW.TrodAll enc Yba.prog W 0 (fun _ => true) true Yba.f5.params.toList args.toList ds p := hA0
  rw [Yba.params5] at hA hval
  obtain ⟨v0, vs0, d0, ds0, p0, q0, hargs, rfl, rfl, h0, r0⟩ := trodAll_cons hA
  obtain ⟨v1, vs1, d1, ds1, p1, q1, rfl, rfl, rfl, h1, r1⟩ := trodAll_cons r0
  obtain ⟨rfl, rfl, rfl⟩ := trodAll_nil r1
  obtain rfl : args = #[v0, v1] := by cases args; simp_all
  obtain ⟨rfl, rfl⟩ := trodVars_none hV
  obtain ⟨a1, len1, cap1, rfl⟩ := okWide_slice Yba.underlying73 (hval 1 73 v1 rfl rfl)
  have k1 := h1
  have lt1 : ∀ x ∈ p1, x.block < W.heap.size := by obtain ⟨m, hm⟩ := k1; exact DataW.trod_lt m _ _ _ hm
  have ex : ∃ fr to : Nat → Nat, Edges W a1 len1 fr to := by
    obtain ⟨fuel, hf⟩ := h1
    rcases Deep.open_slice Yba.underlying73 hf with ⟨hcs, _⟩ | ⟨x, l, c, m, n, D, Pl, hcs, _, hl, hm, hmm, hx, hat⟩
    · simp [Value.cells] at hcs
      obtain ⟨rfl, rfl, rfl⟩ := hcs
      exact ⟨fun _ => 0, fun _ => 0, fun h => absurd h (by omega)⟩
    · simp [Value.cells] at hcs
      obtain ⟨rfl, rfl, rfl⟩ := hcs
      have c87 : Yba.prog.cellsOf 87 = 2 := by kernel_rfl
      rw [c87] at hat
      have hml : len1 ≤ m := by simp at hmm; omega
      have each : ∀ i, ∃ ft : Nat × Nat, i < len1 → ft.1 < 65536 ∧ ft.2 < 65536 ∧ W.cells? 0 (x.add (i * 2)) 2 = some [.int .u16 (ft.1 : Int), .int .u16 (ft.2 : Int)] := by
        intro i
        by_cases hi : i < len1
        · obtain ⟨cs', h1, h2⟩ := hat i (by omega)
          obtain ⟨f, t, rfl, hf1, hf2⟩ := open_edge h2
          exact ⟨(f, t), fun _ => ⟨hf1, hf2, h1⟩⟩
        · exact ⟨(0, 0), fun h => absurd h hi⟩
      obtain ⟨f, hfx⟩ := Classical.axiomOfChoice each
      refine ⟨fun i => (f i).1, fun i => (f i).2, fun hpos => ?_⟩
      obtain ⟨b, off, spot⟩ := x
      have hc0 := (World.cells?_some (hfx 0 hpos).2.2).2.2 0 (by omega)
      have hc1 : W.cell? ((({ block := b, off := off, spot := spot } : Addr).add (0 * 2)).add 0) = some (.int .u16 ((f 0).1 : Int)) := hc0
      have hspot : spot = none := by simpa [Addr.add] using World.cell?_spot hc1
      subst hspot
      refine ⟨b, off, rfl, ?_, fun i hi => ?_⟩
      · rw [Addr.add_mid, Addr.add_mid] at hc1
        exact World.block_lt_of_cell? _ _ hc1
      · have hi2 := hfx i hi
        have e0 : W.cell? ((({ block := b, off := off, spot := none } : Addr).add (i * 2)).add 0) = some (.int .u16 ((f i).1 : Int)) := (World.cells?_some hi2.2.2).2.2 0 (by omega)
        have e1 : W.cell? ((({ block := b, off := off, spot := none } : Addr).add (i * 2)).add 1) = some (.int .u16 ((f i).2 : Int)) := (World.cells?_some hi2.2.2).2.2 1 (by omega)
        rw [Addr.add_mid, Addr.add_mid] at e0 e1
        exact ⟨e0, e1, hi2.1, hi2.2.1⟩
  obtain ⟨a0, rfl, rfl, rfl, w0⟩ := open_int Yba.underlying72 (hval 0 72 v0 rfl rfl) h0
  clear hA0 hval0
  have b0 := bounds_u16 w0
  obtain ⟨n, rfl⟩ := Int.eq_ofNat_of_zero_le b0.1
  obtain ⟨fr, to, he⟩ := ex
  refine (lawB_all n len1 cap1 a1 fr to W he).mono fun e W' ⟨he, bel⟩ => ?_
  subst he
  exact ⟨_, rfl, _, _, _, [], _, [], hW', trodAll_mk1 (shut_bool Yba.underlying4 _), (trodAll_cons_mk (shut_int Yba.underlying72 w0) (trodAll_cons_mk (Below.trod laidOut (by kernel_rfl) (of_decide_eq_true (by kernel_rfl)) k1 bel lt1) trodAll_mk0)), rfl, bel.frame _, fun h => by cases h⟩

theorem comps_said : Rows.LawS4967BComponentsSaid :=
  OpenClaim.holds_of_wide 5 Yba.f5 rfl rfl rfl rfl rfl rfl rfl ⟨rfl, rfl, rfl, rfl, rfl⟩ rfl rfl rfl rfl rfl (by kernel_rfl) Yba.func5 (by kernel_rfl)
    (of_decide_eq_true (by kernel_rfl)) (by unfold Func.isWrapper; first | (rw [if_pos (by decide +kernel)]; kernel_rfl) | (rw [if_neg (by decide +kernel)]; exact ⟨rfl, rfl⟩))
    (fun os started H enc _ => liftedB os started H enc)
end Go.Proofs.Ybulkcxvo
