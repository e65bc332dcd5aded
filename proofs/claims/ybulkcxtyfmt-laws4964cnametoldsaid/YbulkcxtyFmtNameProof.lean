/-
  The told and tied card of LawS4964CName.
-/
import Derived.Test.YbulkcxtyFmtCards
import Derived.Test.YbulkcxtyFmtTie
import Derived.Test.YbulkcxtyFmtLaid
import Derived.Test.YbulkcxtyFmtNameWalk
namespace Go.Proofs.YbulkcxtyFmt
open Go.ChangeShapes Go.WideShapes Go.ChangeAt Go.RowKit Go.Kit
open Go.Extern.Stop Go.Stop Go.Extern

set_option maxRecDepth 100000 in
theorem name_lifted (os : Os) (started : os.Started) (H : Type) (enc : TypeId × Value → H) :
    ReturnsInTold none {} Ybaf.checked os 3 .any Input.okWide ((OpenSpec.ofChange Rows.lawS4964CNameSpec).preRow enc Ybaf.prog Ybaf.f3 [] false Rows.lawS4964CNameRow.laid) (fun F => ((OpenSpec.ofChange Rows.lawS4964CNameSpec).at F).post enc Ybaf.prog Ybaf.f3 false true false false) (aloneAtReturn Ybaf.prog) nothingAlways := by
  refine returnsInTold_of_row (C := Ybaf.checked) (s := OpenSpec.ofChange Rows.lawS4964CNameSpec) (by kernel_rfl) own started (by kernel_rfl) Ybaf.func3
    (OpenSpec.witness_stopped_at (enc := enc) (C := Ybaf.checked) false (laidOver (World.holding Ybaf.prog os ⟨#[.cells #[.string textE] 62], #[], []⟩) (World.holding Ybaf.prog default ⟨#[], #[], []⟩).heap.size) #[.int .i64 0] rfl (by kernel_rfl) (by kernel_rfl) (by kernel_rfl)
      (OpenSpec.preRow_of_B rfl 8 (by kernel_rfl) (by kernel_rfl) (laid_met os _))) ?_
  intro F W base args ds gs before _ hF hval0 hW _ _ _ hL _
  have hval : ∀ (j : Nat) t v, Ybaf.f3.params[j]? = some t → args[j]? = some v → Value.okWide Ybaf.prog W .any base t v := hval0
  have hW' := hW
  obtain ⟨p, q, hA0, hV0, rfl, hfz, hnd⟩ := hW
  have hA : DataW.TrodAll enc Ybaf.prog W 0 (fun _ => true) true Ybaf.f3.params.toList args.toList ds p := hA0
  have hV : DataW.TrodVars enc Ybaf.prog W (fun _ => true) [vE, vD] gs q := hV0
  rw [Ybaf.params3] at hA hval
  obtain ⟨v0, d0, rfl, rfl, h0⟩ := trodAll_one hA
  obtain ⟨n, rfl, rfl, rfl, wn⟩ := open_int Ybaf.underlying3 (hval 0 3 v0 rfl rfl) h0
  have hL1 : laidMet Ybaf.prog [(vE, .iface "*errors.errorString" (.ptr (.agg [.lit (.string [117, 110, 107, 110, 111, 119, 110, 32, 100, 105, 97, 108, 101, 99, 116])]))), (vD, Rows.laid_example_com_ensolv_ensolv_dialectNames)] W := hL
  obtain ⟨a, s, hv, hc, hs, hz⟩ := laid_sentinel hL1 gE gEType Ybaf.underlying25 row60 Ybaf.underlying60 Ybaf.underlying62 rfl rfl Ybaf.underlying9 cells62 cells9
  have hvD := cells_of_laid hL1.tail
  have hg : W.cell? ⟨0, 0, none⟩ = some (.iface 60 (.pointer (some a))) := by simpa using World.var?_cell gE hv 0
  have k1 : W.cell? ⟨1, 1, none⟩ = some (.string ⟨#[103, 111]⟩) := by simpa [cells4] using World.var?_cell gD hvD 1
  have k2 : W.cell? ⟨1, 2, none⟩ = some (.string ⟨#[110, 112, 109]⟩) := by simpa [cells4] using World.var?_cell gD hvD 2
  have k3 : W.cell? ⟨1, 3, none⟩ = some (.string ⟨#[99, 97, 114, 103, 111]⟩) := by simpa [cells4] using World.var?_cell gD hvD 3
  obtain ⟨_, _, _, _, g1, _, _, _, _, _, g2, _, rfl, _⟩ := trodVars_two hV
  clear hA0 hV0 hval0
  have fin : ∀ (e : Ending) (W' : World), (e = .returned (.bool true) ∧ Below W.heap.size W W') → ∃ v, e = .returned v ∧ ((OpenSpec.ofChange Rows.lawS4964CNameSpec).at F.told).post enc Ybaf.checked.prog Ybaf.f3 false true false false W #[.int .i64 n] v W' := by
    rintro e W' ⟨rfl, hb⟩
    refine ⟨_, rfl, _, _, _, [], [], q, hW', ?_, ?_, ?_, hb.frame _, fun h => by cases h⟩
    · exact trodAll_mk1 (shut_bool Ybaf.underlying4 true)
    · exact trodAll_mk1 (shut_int Ybaf.underlying3 wn)
    · exact Below.trodVars laidOut hb rowed hV
  by_cases hn : n < 1 ∨ 4 ≤ n
  · exact (name_no F.told n a s W hF hn (World.block_lt_of_cell? _ _ hg) hg (fun o => cell?_alloc_old _ hc)).mono fin
  · have hn' : n = 1 ∨ n = 2 ∨ n = 3 := by omega
    rcases hn' with rfl | rfl | rfl
    · exact (name_yes 1 _ W (by decide) (by decide) k1 cname_1).mono fin
    · exact (name_yes 2 _ W (by decide) (by decide) k2 cname_2).mono fin
    · exact (name_yes 3 _ W (by decide) (by decide) k3 cname_3).mono fin

theorem name_card : Rows.LawS4964CNameToldSaid :=
  Claim7.holds_of_told_tied_any_at .later 3 Ybaf.f3 _ _ [] _ _ _ _ _ (by kernel_rfl) rfl rfl rfl laidOut (by kernel_rfl) rfl ⟨rfl, rfl, rfl, rfl, rfl, rfl, rfl⟩ rfl rfl (by kernel_rfl) (by kernel_rfl) Ybaf.func3 (by kernel_rfl)
    (of_decide_eq_true (by kernel_rfl)) (of_decide_eq_true (by kernel_rfl)) (by kernel_rfl) rfl stopKnobs.symm (by kernel_rfl)
    (by kernel_rfl) (by kernel_rfl) (by kernel_rfl) (by kernel_rfl) (by kernel_rfl) (by kernel_rfl) (by kernel_rfl) (by kernel_rfl) (by kernel_rfl) rfl (by kernel_rfl) rfl rfl
    rfl rfl
    rfl (by kernel_rfl) (by kernel_rfl) (by kernel_rfl) (by decide) (by kernel_rfl) lawS4964CName_row_tie
    (OpenClaim.moreEntering_of (by kernel_rfl) (by kernel_rfl) (by kernel_rfl) (by kernel_rfl) (by kernel_rfl) (by kernel_rfl) (by kernel_rfl) (by kernel_rfl) (by kernel_rfl) (by kernel_rfl))
    ⟨_, WideRow.started_initial, quietOs _⟩
    (fun os started _ H enc _ => name_lifted os started H enc)
end Go.Proofs.YbulkcxtyFmt
