/-
  The told and tied card of LawS4964CRound.
-/
import Derived.Test.YbulkcxtyFmtCards
import Derived.Test.YbulkcxtyFmtTie
import Derived.Test.YbulkcxtyFmtLaid
import Derived.Test.YbulkcxtyFmtRoundWalk
namespace Go.Proofs.YbulkcxtyFmt
open Go.ChangeShapes Go.WideShapes Go.ChangeAt Go.RowKit Go.Kit
open Go.Extern.Stop Go.Stop Go.Extern

set_option maxRecDepth 100000 in
theorem round_lifted (os : Os) (started : os.Started) (H : Type) (enc : TypeId × Value → H) :
    ReturnsInTold none {} Ybaf.checked os 4 .any Input.okWide ((OpenSpec.ofChange Rows.lawS4964CRoundSpec).preRow enc Ybaf.prog Ybaf.f4 [] false Rows.lawS4964CRoundRow.laid) (fun F => ((OpenSpec.ofChange Rows.lawS4964CRoundSpec).at F).post enc Ybaf.prog Ybaf.f4 false true false false) (aloneAtReturn Ybaf.prog) nothingAlways := by
  refine returnsInTold_of_row (C := Ybaf.checked) (s := OpenSpec.ofChange Rows.lawS4964CRoundSpec) (by kernel_rfl) own started (by kernel_rfl) Ybaf.func4
    (OpenSpec.witness_stopped_at (enc := enc) (C := Ybaf.checked) false (laidOver (World.holding Ybaf.prog os ⟨#[.cells #[.string textE] 62], #[], []⟩) (World.holding Ybaf.prog default ⟨#[], #[], []⟩).heap.size) #[.int .u8 0] rfl (by kernel_rfl) (by kernel_rfl) (by kernel_rfl)
      (OpenSpec.preRow_of_B rfl 8 (by kernel_rfl) (by kernel_rfl) (laid_met os _))) ?_
  intro F W base args ds gs before _ hF hval0 hW _ _ _ hL _
  have hval : ∀ (j : Nat) t v, Ybaf.f4.params[j]? = some t → args[j]? = some v → Value.okWide Ybaf.prog W .any base t v := hval0
  have hW' := hW
  obtain ⟨p, q, hA0, hV0, rfl, hfz, hnd⟩ := hW
  have hA : DataW.TrodAll enc Ybaf.prog W 0 (fun _ => true) true Ybaf.f4.params.toList args.toList ds p := hA0
  have hV : DataW.TrodVars enc Ybaf.prog W (fun _ => true) [vE, vD] gs q := hV0
  rw [Ybaf.params4] at hA hval
  obtain ⟨v0, d0, rfl, rfl, h0⟩ := trodAll_one hA
  obtain ⟨n, rfl, rfl, rfl, wn⟩ := open_int Ybaf.underlying5 (hval 0 5 v0 rfl rfl) h0
  have hL1 : laidMet Ybaf.prog [(vE, .iface "*errors.errorString" (.ptr (.agg [.lit (.string [117, 110, 107, 110, 111, 119, 110, 32, 100, 105, 97, 108, 101, 99, 116])]))), (vD, Rows.laid_example_com_ensolv_ensolv_dialectNames)] W := hL
  obtain ⟨a, s, hv, hc, hs, hz⟩ := laid_sentinel hL1 gE gEType Ybaf.underlying25 row60 Ybaf.underlying60 Ybaf.underlying62 rfl rfl Ybaf.underlying9 cells62 cells9
  have hvD := cells_of_laid hL1.tail
  have hg : W.cell? ⟨0, 0, none⟩ = some (.iface 60 (.pointer (some a))) := by simpa using World.var?_cell gE hv 0
  have k1 : W.cell? ⟨1, 1, none⟩ = some (.string ⟨#[103, 111]⟩) := by simpa [cells4] using World.var?_cell gD hvD 1
  have k2 : W.cell? ⟨1, 2, none⟩ = some (.string ⟨#[110, 112, 109]⟩) := by simpa [cells4] using World.var?_cell gD hvD 2
  have k3 : W.cell? ⟨1, 3, none⟩ = some (.string ⟨#[99, 97, 114, 103, 111]⟩) := by simpa [cells4] using World.var?_cell gD hvD 3
  obtain ⟨_, _, _, _, g1, _, _, _, _, _, g2, _, rfl, _⟩ := trodVars_two hV
  clear hA0 hV0 hval0
  have fin : ∀ (e : Ending) (W' : World), (e = .returned (.bool true) ∧ Below W.heap.size W W') → ∃ v, e = .returned v ∧ ((OpenSpec.ofChange Rows.lawS4964CRoundSpec).at F.told).post enc Ybaf.checked.prog Ybaf.f4 false true false false W #[.int .u8 n] v W' := by
    rintro e W' ⟨rfl, hb⟩
    refine ⟨_, rfl, _, _, _, [], [], q, hW', ?_, ?_, ?_, hb.frame _, fun h => by cases h⟩
    · exact trodAll_mk1 (shut_bool Ybaf.underlying4 true)
    · exact trodAll_mk1 (shut_int Ybaf.underlying5 wn)
    · exact Below.trodVars laidOut hb rowed hV
  have bn := bounds_u8 wn
  have hN : Names W := ⟨k1, k2, k3⟩
  have h1 : 1 < W.heap.size := World.block_lt_of_cell? _ _ k1
  have hn' : n % 3 + 1 = 1 ∨ n % 3 + 1 = 2 ∨ n % 3 + 1 = 3 := by omega
  rcases hn' with h | h | h
  · exact (round_any n 1 _ a W (by omega) (by omega) h hN hg h1 parse_1 k1).mono fin
  · exact (round_any n 2 _ a W (by omega) (by omega) h hN hg h1 parse_2 k2).mono fin
  · exact (round_any n 3 _ a W (by omega) (by omega) h hN hg h1 parse_3 k3).mono fin

theorem round_card : Rows.LawS4964CRoundToldSaid :=
  Claim7.holds_of_told_tied_any_at .later 4 Ybaf.f4 _ _ [] _ _ _ _ _ (by kernel_rfl) rfl rfl rfl laidOut (by kernel_rfl) rfl ⟨rfl, rfl, rfl, rfl, rfl, rfl, rfl⟩ rfl rfl (by kernel_rfl) (by kernel_rfl) Ybaf.func4 (by kernel_rfl)
    (of_decide_eq_true (by kernel_rfl)) (of_decide_eq_true (by kernel_rfl)) (by kernel_rfl) rfl stopKnobs.symm (by kernel_rfl)
    (by kernel_rfl) (by kernel_rfl) (by kernel_rfl) (by kernel_rfl) (by kernel_rfl) (by kernel_rfl) (by kernel_rfl) (by kernel_rfl) (by kernel_rfl) rfl (by kernel_rfl) rfl rfl
    rfl rfl
    rfl (by kernel_rfl) (by kernel_rfl) (by kernel_rfl) (by decide) (by kernel_rfl) lawS4964CRound_row_tie
    (OpenClaim.moreEntering_of (by kernel_rfl) (by kernel_rfl) (by kernel_rfl) (by kernel_rfl) (by kernel_rfl) (by kernel_rfl) (by kernel_rfl) (by kernel_rfl) (by kernel_rfl) (by kernel_rfl))
    ⟨_, WideRow.started_initial, quietOs _⟩
    (fun os started _ H enc _ => round_lifted os started H enc)
end Go.Proofs.YbulkcxtyFmt
