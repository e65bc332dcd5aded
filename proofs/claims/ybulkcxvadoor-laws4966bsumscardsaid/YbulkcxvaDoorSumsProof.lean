/-
  The row and the tied card of LawS4966BSums.
-/
import Derived.Test.YbulkcxvaDoorExactProof
import Derived.Test.YbulkcxvaDoorSumsLaw
import Derived.Deep.Slices
namespace Go.Proofs.YbulkcxvaDoor
open Go.ChangeShapes Go.WideShapes Go.ChangeAt Go.RowKit

section
variable {H : Type} {enc : TypeId × Value → H} {W : World} {base : Nat} {sp : Nat → Bool} {held : Bool} {fuel : Nat}
theorem dig_of_trod {l : List Value} {x : DataW H × List MemPlace} (h : DataW.trod enc Ybad.prog W base sp held fuel 23 l = some x) : ∃ d : Nat → Int, l = (digCells d).toList ∧ ∀ i, 0 ≤ d i ∧ d i ≤ 255 := by
  obtain ⟨xs, m, _, _, hl, hx, hat⟩ := DataW.trod_array Ybad.underlying23 h
  have hl : l.length = 32 := hl.trans (by kernel_rfl)
  have hc5 : Ybad.prog.cellsOf 5 = 1 := by kernel_rfl
  have key : ∀ i, i < 32 → ∃ n, l[i]? = some (.int .u8 n) ∧ 0 ≤ n ∧ n ≤ 255 := by
    intro i hi
    have h1 := hat i hi
    rw [hc5, List.getElem?_eq_getElem (by omega)] at h1
    obtain ⟨n, hn, _, wf⟩ := DataW.trod_int Ybad.underlying5 h1
    refine ⟨n, ?_, bounds_u8 wf⟩
    simp only [Nat.mul_one] at hn
    have h2 : (l.drop i)[0]? = some (.int .u8 n) := by
      cases hd : l.drop i with
      | nil => rw [hd] at hn; simp at hn
      | cons a r => rw [hd] at hn; simp at hn; simp [hn]
    simpa using h2
  refine ⟨fun i => match l[i]? with | some (.int .u8 n) => n | _ => 0, ?_, fun i => ?_⟩
  · apply List.ext_getElem?
    intro i
    by_cases hi : i < 32
    · obtain ⟨n, hn, _⟩ := key i hi
      have := dig_at (fun i => match l[i]? with | some (.int .u8 n) => n | _ => 0) i hi
      simp only [hn] at this
      rw [hn, Array.getElem?_toList]
      exact this.symm
    · rw [List.getElem?_eq_none (by omega)]
      exact (List.getElem?_eq_none (by have e : ∀ d, (digCells d).toList.length = 32 := fun _ => rfl; rw [e]; omega)).symm
  · by_cases hi : i < 32
    · obtain ⟨n, hn, hb⟩ := key i hi
      simp only [hn]; exact hb
    · have hn : l[i]? = none := List.getElem?_eq_none (by omega)
      simp only [hn]; exact ⟨Int.le_refl _, by omega⟩

theorem parts5 {cs a b c d e : List Value} (hl : cs.length = 36) (h0 : (cs.drop 0).take 1 = a) (h1 : (cs.drop 1).take 1 = b) (h2 : (cs.drop 2).take 1 = c) (h3 : (cs.drop 3).take 32 = d) (h4 : (cs.drop 35).take 1 = e) : cs = a ++ (b ++ (c ++ (d ++ e))) := by
  have e0 := List.take_append_drop 1 cs
  have e1 := List.take_append_drop 1 (cs.drop 1)
  have e2 := List.take_append_drop 1 (cs.drop 2)
  have e3 := List.take_append_drop 32 (cs.drop 3)
  have e4 := List.take_append_drop 1 (cs.drop 35)
  rw [List.drop_drop] at e1 e2 e3 e4
  have e5 : cs.drop (35 + 1) = [] := List.drop_eq_nil_of_le (by omega)
  rw [h0.symm, h1.symm, h2.symm, h3.symm, h4.symm]
  rw [e5, List.append_nil] at e4
  rw [e4, e3, e2, e1, List.drop_zero, e0]

theorem open_sx {cs : List Value} {x : DataW H × List MemPlace} (h : DataW.trod enc Ybad.prog W base sp held fuel 40 cs = some x) :
    ∃ s : Sx, cs = s.cells ∧ s.ok ∧ ∃ r, x.1 = .agg (.lit (.string s.key.data.toList) :: r) := by
  obtain ⟨xs, m, _, hxx, hl, hx, hat⟩ := DataW.trod_struct Ybad.underlying40 h
  have hl : cs.length = 36 := hl.trans (by kernel_rfl)
  have hx : xs.length = 5 := hx
  have c9 : Ybad.prog.cellsOf 9 = 1 := by kernel_rfl
  have c4 : Ybad.prog.cellsOf 4 = 1 := by kernel_rfl
  have c22 : Ybad.prog.cellsOf 22 = 1 := by kernel_rfl
  have c23 : Ybad.prog.cellsOf 23 = 32 := by kernel_rfl
  have g0 := hat 0 _ rfl
  have g1 := hat 1 _ rfl
  have g2 := hat 2 _ rfl
  have g3 := hat 3 _ rfl
  have g4 := hat 4 _ rfl
  rw [List.getElem?_eq_getElem (by omega)] at g0 g1 g2 g3 g4
  obtain ⟨key, k0, kx, _⟩ := DataW.trod_string Ybad.underlying9 g0
  obtain ⟨hd, k1, _⟩ := DataW.trod_bool Ybad.underlying4 g1
  obtain ⟨ver, k2, _, wf⟩ := DataW.trod_int Ybad.underlying22 g2
  obtain ⟨d, k3, hdg⟩ := dig_of_trod g3
  obtain ⟨rem, k4, _⟩ := DataW.trod_bool Ybad.underlying4 g4
  have b2 := bounds_u64 wf
  obtain ⟨n, rfl⟩ := Int.eq_ofNat_of_zero_le b2.1
  have hv : n < 18446744073709551616 := by have := b2.2; omega
  refine ⟨⟨key, hd, n, d, rem⟩, ?_, ⟨hv, hdg⟩, ?_⟩
  · have k0 : (cs.drop 0).take (Ybad.prog.cellsOf 9) = [.string key] := k0
    have k1 : (cs.drop 1).take (Ybad.prog.cellsOf 4) = [.bool hd] := k1
    have k2 : (cs.drop 2).take (Ybad.prog.cellsOf 22) = [.int .u64 (n : Int)] := k2
    have k3 : (cs.drop 3).take (Ybad.prog.cellsOf 23) = (digCells d).toList := k3
    have k4 : (cs.drop 35).take (Ybad.prog.cellsOf 4) = [.bool rem] := k4
    rw [c9] at k0
    rw [c4] at k1 k4
    rw [c22] at k2
    rw [c23] at k3
    rw [parts5 hl k0 k1 k2 k3 k4]
    rfl
  · rw [hxx]
    cases xs with
    | nil => simp at hx
    | cons y r =>
      have hy : y = (DataW.lit (Lit.string key.data.toList), []) := kx
      exact ⟨r.map (·.1), by rw [hy]; rfl⟩

theorem all_weights {e : TypeId} {R : Nat} : ∀ (l : List (DataW H)), (DataW.weightsAll Ybad.prog e l).all (· ≤ R) = true → ∀ d ∈ l, (d.weights Ybad.prog e).all (· ≤ R) = true
  | [], _, _, hd => by cases hd
  | a :: r, h, d, hd => by
    rw [DataW.weightsAll, List.all_append, Bool.and_eq_true] at h
    rcases List.mem_cons.1 hd with rfl | hd
    · exact h.1
    · exact all_weights r h.2 d hd
theorem key_weight {bs : List UInt8} {r : List (DataW H)} {R : Nat} (h : ((DataW.agg (.lit (.string bs) :: r)).weights Ybad.prog 40).all (· ≤ R) = true) : bs.length ≤ R := by
  rw [DataW.weights, Ybad.underlying40] at h
  simp [DataW.weightsEach, DataW.weights] at h
  exact h.1
end

theorem range_of_cells {W : World} {base b o n : Nat} {cs : List Value} (h : W.cells? base ⟨b, o, none⟩ n = some cs) : W.rangeAt b o cs := by
  intro j v hv
  obtain ⟨_, h2, h3⟩ := World.cells?_some h
  have hj := (List.getElem?_eq_some_iff.1 hv).1
  have := h3 j (by omega)
  rw [Addr.add_mid] at this
  rw [this]; exact hv
theorem range_rows {W : World} {b off : Nat} (f : Nat → Sx) : ∀ len, (∀ i, i < len → W.rangeAt b (off + i * 36) (f i).cells) → W.rangeAt b off (flat ((List.range len).map f))
  | 0, _ => fun j v hv => by simp [flat] at hv
  | len + 1, h => by
    have ih := range_rows f len (fun i hi => h i (by omega))
    have e : flat ((List.range (len + 1)).map f) = flat ((List.range len).map f) ++ (f len).cells := by
      rw [List.range_succ, List.map_append]
      unfold flat
      rw [List.flatMap_append]; simp
    rw [e]
    refine range_append ih ?_
    rw [flat_len, List.length_map, List.length_range]
    exact h len (by omega)

theorem sums_any_in (ao : Option Addr) (n c : Nat) (w : World) (f : Nat → Sx) (hf : ∀ i, i < n → (f i).ok ∧ (f i).key.size ≤ 4611686018427387904)
    (hin : 0 < n → ∃ b off, ao = some ⟨b, off, none⟩ ∧ b < w.heap.size ∧ ∀ i, i < n → w.rangeAt b (off + i * 36) (f i).cells) :
    Calls Ybad.prog 4 #[.slice ao n c] w fun e w' => e = .returned (.bool true) ∧ Below w.heap.size w w' := by
  by_cases hn : 1024 < n
  · exact sums_big ao n c w hn
  · refine sums_small ao ((List.range n).map f) n c w (by omega) (by simp) (fun x hx => ?_) (fun x hx => ?_) (fun h0 => ?_)
    · simp only [List.mem_map, List.mem_range] at hx
      obtain ⟨i, hi, rfl⟩ := hx
      exact (hf i hi).1
    · simp only [List.mem_map, List.mem_range] at hx
      obtain ⟨i, hi, rfl⟩ := hx
      exact (hf i hi).2
    · obtain ⟨b, off, h1, h2, h3⟩ := hin h0
      exact ⟨b, off, h1, h2, range_rows f n h3⟩

set_option maxRecDepth 100000 in
theorem sums_lifted (os : Os) (started : os.Started) (H : Type) (enc : TypeId × Value → H) :
    ReturnsInHanded {} Ybad.checked os 4 .any (fun w args => (Rows.lawS4966BSumsSpec.pre enc Ybad.prog Ybad.f4 [] false w args ∧ laidMetH Ybad.prog Rows.lawS4966BSumsRow.laid w) ∧ sizedMet enc Ybad.prog Ybad.f4 (OpenSpec.ofChange Rows.lawS4966BSumsSpec) false w args)
      (Rows.lawS4966BSumsSpec.post enc Ybad.prog Ybad.f4 false true false false) := by
  refine returnsInHanded_of_change_and (C := Ybad.checked) (X := fun w _ => laidMetH Ybad.prog Rows.lawS4966BSumsRow.laid w) (fun _ _ _ hh h => h.of_heap hh) own started (by kernel_rfl) Ybad.func4
    (ChangeSpec.witness_at (enc := enc) (C := Ybad.checked) (os := os) (X := fun w _ => laidMetH Ybad.prog Rows.lawS4966BSumsRow.laid w) false
      (laidOver (World.holding Ybad.prog os ⟨#[.cells #[.string textW] 81], #[], []⟩) (World.holding Ybad.prog default ⟨#[], #[], []⟩).heap.size) #[.slice none 0 0] 8 rfl (by kernel_rfl) (by kernel_rfl) (by kernel_rfl) (by kernel_rfl) (by kernel_rfl) (laid_metH os _)) ?_
  intro W base args ds gs before hval0 hW _ hwt0 _ _
  have hval : ∀ (j : Nat) t v, Ybad.f4.params[j]? = some t → args[j]? = some v → Value.okWide Ybad.prog W .any base t v := hval0
  have hwt : (DataW.weightsEach Ybad.prog (Ybad.f4.params.toList ++ Rows.lawS4966BSumsSpec.plain.varTypes Ybad.prog) (ds ++ gs)).all (· ≤ reachBytes) = true := hwt0
  have hW' := hW
  obtain ⟨p, q, hA0, hV, rfl, hfz, hnd⟩ := hW
  have hA : DataW.TrodAll enc Ybad.prog W 0 (fun _ => true) true Ybad.f4.params.toList args.toList ds p := hA0
  rw [Ybad.params4] at hA hval hwt
  obtain ⟨v0, vs0, d0, ds0, p0, q0, hargs, rfl, rfl, h0, r0⟩ := trodAll_cons hA
  obtain ⟨rfl, rfl, rfl⟩ := trodAll_nil r0
  obtain rfl : args = #[v0] := by cases args; simp_all
  obtain ⟨rfl, rfl⟩ := trodVars_none hV
  have k0 := h0
  have lt0 : ∀ x ∈ p0, x.block < W.heap.size := by obtain ⟨m, hm⟩ := k0; exact DataW.trod_lt m _ _ _ hm
  obtain ⟨a0, len0, cap0, rfl⟩ := okWide_slice Ybad.underlying39 (hval 0 39 v0 rfl rfl)
  have hw0 : (d0.weights Ybad.prog 39).all (· ≤ reachBytes) = true := by
    rw [List.append_nil] at hwt
    have : DataW.weightsEach Ybad.prog ([39] ++ Rows.lawS4966BSumsSpec.plain.varTypes Ybad.prog) [d0] = d0.weights Ybad.prog 39 ++ DataW.weightsEach (H := H) Ybad.prog (Rows.lawS4966BSumsSpec.plain.varTypes Ybad.prog) [] := by
      rw [List.singleton_append, DataW.weightsEach]
    have h1 : (DataW.weightsEach Ybad.prog ([39] ++ Rows.lawS4966BSumsSpec.plain.varTypes Ybad.prog) [d0]).all (· ≤ reachBytes) = true := hwt
    rw [this, List.all_append, Bool.and_eq_true] at h1
    exact h1.1
  have ex : ∃ f : Nat → Sx, (∀ i, i < len0 → (f i).ok ∧ (f i).key.size ≤ 4611686018427387904) ∧ (0 < len0 → ∃ b off, a0 = some ⟨b, off, none⟩ ∧ b < W.heap.size ∧ ∀ i, i < len0 → W.rangeAt b (off + i * 36) (f i).cells) := by
    obtain ⟨fuel, hf⟩ := h0
    rcases Deep.open_slice Ybad.underlying39 hf with ⟨hcs, _⟩ | ⟨x, l, c, m, n, D, Pl, hcs, _, hl, hm, hmm, hx, hat⟩
    · simp [Value.cells] at hcs
      obtain ⟨rfl, rfl, rfl⟩ := hcs
      exact ⟨fun _ => ⟨⟨#[]⟩, false, 0, fun _ => 0, false⟩, fun i hi => absurd hi (by omega), fun h => absurd h (by omega)⟩
    · simp [Value.cells] at hcs
      obtain ⟨rfl, rfl, rfl⟩ := hcs
      have c40 : Ybad.prog.cellsOf 40 = 36 := by kernel_rfl
      rw [c40] at hat
      have hml : len0 ≤ m := by simp at hmm; omega
      have each : ∀ i, ∃ s : Sx, i < len0 → s.ok ∧ s.key.size ≤ 4611686018427387904 ∧ W.cells? 0 (x.add (i * 36)) 36 = some s.cells := by
        intro i
        by_cases hi : i < len0
        · obtain ⟨cs', h1, h2⟩ := hat i (by omega)
          obtain ⟨s, rfl, hok, r, hr⟩ := open_sx h2
          refine ⟨s, fun _ => ⟨hok, ?_, h1⟩⟩
          have hd0 : d0 = .slice ((List.range len0).map D) ((List.range (m - len0)).map fun j => D (len0 + j)) := congrArg Prod.fst hx
          rw [hd0, DataW.weights, Ybad.underlying39] at hw0
          simp only [List.all_cons, List.all_append, Bool.and_eq_true] at hw0
          have h3 := all_weights _ hw0.2.1 (D i) (by simp only [List.mem_map, List.mem_range]; exact ⟨i, hi, rfl⟩)
          have hr' : D i = .agg (.lit (.string s.key.data.toList) :: r) := hr
          rw [hr'] at h3
          have h4 := key_weight h3
          have h5 : s.key.data.toList.length = s.key.size := rfl
          unfold reachBytes at h4
          omega
        · exact ⟨⟨⟨#[]⟩, false, 0, fun _ => 0, false⟩, fun h => absurd h hi⟩
      obtain ⟨f, hfx⟩ := Classical.axiomOfChoice each
      refine ⟨f, fun i hi => ⟨(hfx i hi).1, (hfx i hi).2.1⟩, fun hpos => ?_⟩
      obtain ⟨b, off, spot⟩ := x
      have hc0 := (World.cells?_some (hfx 0 hpos).2.2).2.2 0 (by omega)
      have hc1 : W.cell? ((({ block := b, off := off, spot := spot } : Addr).add (0 * 36)).add 0) = some (.string (f 0).key) := hc0
      have hspot : spot = none := by simpa [Addr.add] using World.cell?_spot hc1
      subst hspot
      refine ⟨b, off, rfl, ?_, fun i hi => ?_⟩
      · rw [Addr.add_mid, Addr.add_mid] at hc1
        exact World.block_lt_of_cell? _ _ hc1
      · have := (hfx i hi).2.2
        rw [Addr.add_mid] at this
        exact range_of_cells this
  clear hA0 hval0
  obtain ⟨f, hf1, hf2⟩ := ex
  refine (sums_any_in a0 len0 cap0 W f hf1 hf2).mono fun e W' ⟨he, bel⟩ => ?_
  subst he
  exact ⟨_, rfl, _, _, _, [], _, [], hW', trodAll_mk1 (shut_bool Ybad.underlying4 _), (trodAll_cons_mk (Below.trod laidOut (by kernel_rfl) (of_decide_eq_true (by kernel_rfl)) k0 bel lt0) trodAll_mk0), rfl, bel.frame _, fun h => by cases h⟩

theorem sums_said : Rows.LawS4966BSumsSaid :=
  OpenClaim.holds_of_wide 4 Ybad.f4 rfl rfl rfl rfl rfl rfl rfl ⟨rfl, rfl, rfl, rfl, rfl⟩ rfl rfl rfl rfl rfl (by kernel_rfl) Ybad.func4 (by kernel_rfl)
    (of_decide_eq_true (by kernel_rfl)) (by unfold Func.isWrapper; first | (rw [if_pos (by decide +kernel)]; kernel_rfl) | (rw [if_neg (by decide +kernel)]; exact ⟨rfl, rfl⟩))
    (fun os started H enc _ => sums_lifted os started H enc)

theorem sums_card : Rows.LawS4966BSumsCardSaid :=
  Claim7.holds_tied_plain_at .later [] [.sentinel] true _ true
    sums_said (fun _ h => by cases h) (by kernel_rfl) (fun _ h => by cases h) lawS4966BSums_row_tie rfl ⟨rfl, rfl⟩ (by kernel_rfl) rfl
    (fun f fn hf hfn => by
      obtain rfl : f = 4 := Option.some.inj ((show Ybad.prog.funcNamed Rows.lawS4966BSumsRow.func = some 4 by kernel_rfl).symm.trans hf) |>.symm
      obtain rfl : fn = Ybad.f4 := (Option.some.inj (Ybad.func4.symm.trans hfn)).symm
      exact ⟨by kernel_rfl, fun j t ht => by
        rw [Ybad.params4] at ht
        have hm : t ∈ [39] := by
          have := List.mem_of_getElem? (l := [39]) (i := j) (a := t) (by simpa using ht)
          exact this
        have ha : ([39] : List TypeId).all (fun t => !Ybad.prog.wantsStandIn t) = true := by kernel_rfl
        have := List.all_eq_true.1 ha t hm
        exact (by simpa using this : Ybad.prog.wantsStandIn t = false)⟩)
    (by kernel_rfl)
end Go.Proofs.YbulkcxvaDoor
