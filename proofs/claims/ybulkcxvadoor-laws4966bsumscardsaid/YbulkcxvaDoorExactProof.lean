/-
  The row and the tied card of LawS4966BExact.
-/
import Derived.Test.YbulkcxvaDoorRows
import Derived.Test.YbulkcxvaDoorCards
import Derived.Test.YbulkcxvaDoorTie
import Derived.Test.YbulkcxvaDoorExact
import Derived.ProofKit
import Derived.OpenShut
import Derived.OpenVars
import Derived.LaidLaws
import Derived.LaidHandle
import Derived.ChangeOld
import Derived.SevenTiedAt
namespace Go.Proofs.YbulkcxvaDoor
open Go.ChangeShapes Go.WideShapes Go.ChangeAt Go.RowKit

theorem own : ownKnob Ybad.prog.godebug = none := by kernel_rfl
theorem laidOut : laidOutB Ybad.prog = true := by kernel_rfl

set_option maxRecDepth 100000 in
theorem exact_big (key : ByteArray) (held rem : Bool) (ver : Int) (D : Array Value) (w : World) (hk : 1048576 < key.size) :
    Calls Ybad.prog 3 #[.string key, .bool held, .int .u64 ver, .agg D, .bool rem] w fun e w' => e = .returned (.bool true) ∧ Below w.heap.size w w' := by
  have hki : (1048576 : Int) < (key.size : Int) := by omega
  go_enter Ybad.func3, Ybad.ntmps3
  go_wp2
  go_ret
  exact ⟨rfl, (Below.refl _ _).alloc (Nat.le_refl _) _⟩

theorem dig_at (d : Nat → Int) (j : Nat) (hj : j < 32) : (digCells d)[j]? = some (.int .u8 (d j)) := by
  match j, hj with
  | 0, _ => rfl
  | 1, _ => rfl
  | 2, _ => rfl
  | 3, _ => rfl
  | 4, _ => rfl
  | 5, _ => rfl
  | 6, _ => rfl
  | 7, _ => rfl
  | 8, _ => rfl
  | 9, _ => rfl
  | 10, _ => rfl
  | 11, _ => rfl
  | 12, _ => rfl
  | 13, _ => rfl
  | 14, _ => rfl
  | 15, _ => rfl
  | 16, _ => rfl
  | 17, _ => rfl
  | 18, _ => rfl
  | 19, _ => rfl
  | 20, _ => rfl
  | 21, _ => rfl
  | 22, _ => rfl
  | 23, _ => rfl
  | 24, _ => rfl
  | 25, _ => rfl
  | 26, _ => rfl
  | 27, _ => rfl
  | 28, _ => rfl
  | 29, _ => rfl
  | 30, _ => rfl
  | 31, _ => rfl
  | n + 32, h => exact absurd h (by omega)
theorem open_dig {H : Type} {enc : TypeId × Value → H} {W : World} {base b0 : Nat} {sp : Nat → Bool} {held : Bool} {v : Value} {x : DataW H} {p : List MemPlace} (hv : Value.okWide Ybad.prog W .any b0 23 v) (h : DataW.Trod enc Ybad.prog W base sp held 23 v x p) :
    ∃ d : Nat → Int, v = .agg (digCells d) ∧ ∀ i, 0 ≤ d i ∧ d i ≤ 255 := by
  simp only [Value.okWide, Ybad.underlying23] at hv
  obtain ⟨cs, rfl, hs, _⟩ := hv
  have hs' : cs.size = 32 := hs.trans (by kernel_rfl)
  obtain ⟨fuel, hf⟩ := h
  obtain ⟨xs, m, _, _, _, hx, hat⟩ := DataW.trod_array Ybad.underlying23 hf
  have hc5 : Ybad.prog.cellsOf 5 = 1 := by kernel_rfl
  have key : ∀ i, i < 32 → ∃ n, cs[i]? = some (.int .u8 n) ∧ 0 ≤ n ∧ n ≤ 255 := by
    intro i hi
    have h1 := hat i hi
    rw [hc5, List.getElem?_eq_getElem (by omega)] at h1
    obtain ⟨n, hn, _, wf⟩ := DataW.trod_int Ybad.underlying5 h1
    refine ⟨n, ?_, bounds_u8 wf⟩
    simp only [Value.cells, Nat.mul_one] at hn
    have h2 : (cs.toList.drop i)[0]? = some (.int .u8 n) := by
      cases hd : cs.toList.drop i with
      | nil => rw [hd] at hn; simp at hn
      | cons a r => rw [hd] at hn; simp at hn; simp [hn]
    simpa using h2
  refine ⟨fun i => match cs[i]? with | some (.int .u8 n) => n | _ => 0, ?_, fun i => ?_⟩
  · congr 1
    apply Array.ext
    · rw [hs']; rfl
    · intro i h1 h2
      have hi : i < 32 := by omega
      obtain ⟨n, hn, _⟩ := key i hi
      have := dig_at (fun i => match cs[i]? with | some (.int .u8 n) => n | _ => 0) i hi
      simp only [hn] at this
      rw [Array.getElem?_eq_getElem h2] at this
      rw [Array.getElem?_eq_getElem h1] at hn
      exact (Option.some.inj hn).trans (Option.some.inj this).symm
  · by_cases hi : i < 32
    · obtain ⟨n, hn, hb⟩ := key i hi
      simp only [hn]; exact hb
    · have hn : cs[i]? = none := Array.getElem?_eq_none (by omega)
      simp only [hn]; exact ⟨Int.le_refl _, by omega⟩

theorem exact_any (key : ByteArray) (held rem : Bool) (ver : Int) (d : Nat → Int) (w : World) (hv0 : 0 ≤ ver) (hv1 : ver < 18446744073709551616) (hd : ∀ i, 0 ≤ d i ∧ d i ≤ 255) :
    Calls Ybad.prog 3 #[.string key, .bool held, .int .u64 ver, .agg (digCells d), .bool rem] w fun e w' => e = .returned (.bool true) ∧ Below w.heap.size w w' := by
  obtain ⟨n, rfl⟩ := Int.eq_ofNat_of_zero_le hv0
  by_cases hk : 1048576 < key.size
  · exact exact_big key held rem n (digCells d) w hk
  · exact exact_small key held rem n (digBytes d) (digCells d) (sumCells key held n d rem).toList w (by omega) (size_dig d) (built_sum key held n d rem) (size_sum key held n d rem) rfl
      (fun v hv => (Array.all_eq_true_iff_forall_mem.1 (one_sum key held n d rem)) v (by simpa using hv)) (isSum_cells key held n d rem (by omega) hd)

/-- The sentinel's text. -/
def textW : ByteArray := ⟨#[115, 104, 111, 114, 116, 32, 119, 114, 105, 116, 101]⟩
/-- A world with the variable laid: the block of the sentinel's text is the last. -/
def laidOver (w0 : World) (low : Nat) : World :=
  { w0 with heap := w0.heap.modify 0 fun
      | .cells _ t frozen => .cells #[.iface 62 (.pointer (some ⟨low, 0, none⟩))] t frozen
      | o => o }
theorem laid_met (os : Os) (args : Array Value) :
    laidMet Ybad.prog Rows.lawS4966BExactRow.laid ((laidOver (World.holding Ybad.prog os ⟨#[.cells #[.string textW] 81], #[], []⟩) (World.holding Ybad.prog default ⟨#[], #[], []⟩).heap.size).forCall (fun _ _ => 0) ⟨#[], args, []⟩).memory :=
  laidMet_of_run (ps := [.cell 0 0, .cell (World.holding Ybad.prog default ⟨#[], #[], []⟩).heap.size 0]) 8 (by kernel_rfl) (by kernel_rfl) (by kernel_rfl)
theorem laid_metH (os : Os) (args : Array Value) :
    laidMetH Ybad.prog Rows.lawS4966BExactRow.laid ((laidOver (World.holding Ybad.prog os ⟨#[.cells #[.string textW] 81], #[], []⟩) (World.holding Ybad.prog default ⟨#[], #[], []⟩).heap.size).forCall (fun _ _ => 0) ⟨#[], args, []⟩).memory := laid_met os args
/-- Thirty-two nought bytes. -/
def dig0 : Array Value := digCells fun _ => 0

set_option maxRecDepth 100000 in
theorem exact_lifted (os : Os) (started : os.Started) (H : Type) (enc : TypeId × Value → H) :
    ReturnsInHanded {} Ybad.checked os 3 .any (fun w args => (Rows.lawS4966BExactSpec.pre enc Ybad.prog Ybad.f3 [] false w args ∧ laidMetH Ybad.prog Rows.lawS4966BExactRow.laid w) ∧ sizedMet enc Ybad.prog Ybad.f3 (OpenSpec.ofChange Rows.lawS4966BExactSpec) false w args)
      (Rows.lawS4966BExactSpec.post enc Ybad.prog Ybad.f3 false true false false) := by
  refine returnsInHanded_of_change_and (C := Ybad.checked) (X := fun w _ => laidMetH Ybad.prog Rows.lawS4966BExactRow.laid w) (fun _ _ _ hh h => h.of_heap hh) own started (by kernel_rfl) Ybad.func3
    (ChangeSpec.witness_at (enc := enc) (C := Ybad.checked) (os := os) (X := fun w _ => laidMetH Ybad.prog Rows.lawS4966BExactRow.laid w) false
      (laidOver (World.holding Ybad.prog os ⟨#[.cells #[.string textW] 81], #[], []⟩) (World.holding Ybad.prog default ⟨#[], #[], []⟩).heap.size) #[.string ⟨#[]⟩, .bool false, .int .u64 0, .agg dig0, .bool false] 8 rfl (by kernel_rfl) (by kernel_rfl) (by kernel_rfl) (by kernel_rfl) (by kernel_rfl) (laid_metH os _)) ?_
  intro W base args ds gs before hval0 hW _ _ _ _
  have hval : ∀ (j : Nat) t v, Ybad.f3.params[j]? = some t → args[j]? = some v → Value.okWide Ybad.prog W .any base t v := hval0
  have hW' := hW
  obtain ⟨p, q, hA0, hV, rfl, hfz, hnd⟩ := hW
  have hA : DataW.TrodAll enc Ybad.prog W 0 (fun _ => true) true Ybad.f3.params.toList args.toList ds p := hA0
  rw [Ybad.params3] at hA hval
  obtain ⟨v0, vs0, d0, ds0, p0, q0, hargs, rfl, rfl, h0, r0⟩ := trodAll_cons hA
  obtain ⟨v1, vs1, d1, ds1, p1, q1, rfl, rfl, rfl, h1, r1⟩ := trodAll_cons r0
  obtain ⟨v2, vs2, d2, ds2, p2, q2, rfl, rfl, rfl, h2, r2⟩ := trodAll_cons r1
  obtain ⟨v3, vs3, d3, ds3, p3, q3, rfl, rfl, rfl, h3, r3⟩ := trodAll_cons r2
  obtain ⟨v4, vs4, d4, ds4, p4, q4, rfl, rfl, rfl, h4, r4⟩ := trodAll_cons r3
  obtain ⟨rfl, rfl, rfl⟩ := trodAll_nil r4
  obtain rfl : args = #[v0, v1, v2, v3, v4] := by cases args; simp_all
  obtain ⟨rfl, rfl⟩ := trodVars_none hV
  have k0 := h0
  have k3 := h3
  have lt0 : ∀ x ∈ p0, x.block < W.heap.size := by obtain ⟨m, hm⟩ := k0; exact DataW.trod_lt m _ _ _ hm
  have lt3 : ∀ x ∈ p3, x.block < W.heap.size := by obtain ⟨m, hm⟩ := k3; exact DataW.trod_lt m _ _ _ hm
  have o0 := okWide_string Ybad.underlying9 (hval 0 9 v0 rfl rfl)
  obtain ⟨key, rfl⟩ := o0
  obtain ⟨held, rfl, rfl, rfl⟩ := open_bool Ybad.underlying4 (hval 1 4 v1 rfl rfl) h1
  obtain ⟨ver, rfl, rfl, rfl, w2⟩ := open_int Ybad.underlying22 (hval 2 22 v2 rfl rfl) h2
  obtain ⟨d, rfl, hd⟩ := open_dig (hval 3 23 v3 rfl rfl) h3
  obtain ⟨rem, rfl, rfl, rfl⟩ := open_bool Ybad.underlying4 (hval 4 4 v4 rfl rfl) h4
  clear hA0 hval0
  have b2 := bounds_u64 w2
  refine (exact_any key held rem ver d W (by omega) (by omega) hd).mono fun e W' ⟨he, bel⟩ => ?_
  subst he
  exact ⟨_, rfl, _, _, _, [], _, [], hW', trodAll_mk1 (shut_bool Ybad.underlying4 _), (trodAll_cons_mk (Below.trod laidOut (by kernel_rfl) (of_decide_eq_true (by kernel_rfl)) k0 bel lt0) (trodAll_cons_mk (shut_bool Ybad.underlying4 _) (trodAll_cons_mk (shut_int Ybad.underlying22 w2) (trodAll_cons_mk (Below.trod laidOut (by kernel_rfl) (of_decide_eq_true (by kernel_rfl)) k3 bel lt3) (trodAll_cons_mk (shut_bool Ybad.underlying4 _) trodAll_mk0))))), rfl, bel.frame _, fun h => by cases h⟩

theorem exact_said : Rows.LawS4966BExactSaid :=
  OpenClaim.holds_of_wide 3 Ybad.f3 rfl rfl rfl rfl rfl rfl rfl ⟨rfl, rfl, rfl, rfl, rfl⟩ rfl rfl rfl rfl rfl (by kernel_rfl) Ybad.func3 (by kernel_rfl)
    (of_decide_eq_true (by kernel_rfl)) (by unfold Func.isWrapper; first | (rw [if_pos (by decide +kernel)]; kernel_rfl) | (rw [if_neg (by decide +kernel)]; exact ⟨rfl, rfl⟩))
    (fun os started H enc _ => exact_lifted os started H enc)

theorem exact_card : Rows.LawS4966BExactCardSaid :=
  Claim7.holds_tied_plain_at .later [] [.sentinel] true _ true
    exact_said (fun _ h => by cases h) (by kernel_rfl) (fun _ h => by cases h) lawS4966BExact_row_tie rfl ⟨rfl, rfl⟩ (by kernel_rfl) rfl
    (fun f fn hf hfn => by
      obtain rfl : f = 3 := Option.some.inj ((show Ybad.prog.funcNamed Rows.lawS4966BExactRow.func = some 3 by kernel_rfl).symm.trans hf) |>.symm
      obtain rfl : fn = Ybad.f3 := (Option.some.inj (Ybad.func3.symm.trans hfn)).symm
      exact ⟨by kernel_rfl, fun j t ht => by
        rw [Ybad.params3] at ht
        have hm : t ∈ [9, 4, 22, 23, 4] := by
          have := List.mem_of_getElem? (l := [9, 4, 22, 23, 4]) (i := j) (a := t) (by simpa using ht)
          exact this
        have ha : ([9, 4, 22, 23, 4] : List TypeId).all (fun t => !Ybad.prog.wantsStandIn t) = true := by kernel_rfl
        have := List.all_eq_true.1 ha t hm
        exact (by simpa using this : Ybad.prog.wantsStandIn t = false)⟩)
    (by kernel_rfl)
end Go.Proofs.YbulkcxvaDoor
