/-
  What the two listed variables give, and a start at which the rows' lists are met. After the guide's Sentry and Caps texts.
-/
import Derived.Test.YbulkcxtyFmtRows
import Derived.Test.YbulkcxtyFmtFacts
import Derived.ProofKit
import Derived.Stop.JoinedAt
import Derived.Stop.JoinedTold
import Derived.Stop.Texts
import Derived.Stop.LaidErr
import Derived.OpenVars
import Derived.OpenShut
namespace Go.Proofs.YbulkcxtyFmt
open Go.ChangeShapes Go.WideShapes Go.ChangeAt Go.RowKit Go.Kit
open Go.Extern.Stop Go.Stop Go.Extern

theorem own : ownKnob Ybaf.prog.godebug = none := by kernel_rfl
theorem laidOut : laidOutB Ybaf.pinned.checked.prog = true := by kernel_rfl
theorem stopKnobs : Ybaf.pinned.checked.prog.stopKnobs = [] := by kernel_rfl
theorem quietOs (os : Os) : Stop.quiet Ybaf.pinned.checked.prog os := by
  intro k hk
  rw [stopKnobs] at hk
  cases hk
/-- The two variables' names, as the given specification has them. -/
def vE : String := Rows.lawS4964CNameSpec.vars.headD default
def vD : String := Rows.lawS4964CNameSpec.vars.tail.headD default
theorem gE : Ybaf.prog.globalNamed vE = some 0 := by kernel_rfl
theorem gD : Ybaf.prog.globalNamed vD = some 1 := by kernel_rfl
theorem gEType : (Ybaf.prog.globals[0]?).map (·.type) = some 25 := by kernel_rfl
theorem gDType : (Ybaf.prog.globals[1]?).map (·.type) = some 36 := by kernel_rfl
theorem cells62 : Ybaf.prog.cellsOf 62 = 1 := by kernel_rfl
theorem cells36 : Ybaf.prog.cellsOf 36 = 4 := by kernel_rfl
theorem cells9 : Ybaf.prog.cellsOf 9 = 1 := by kernel_rfl
theorem star : "*" ++ "errors.errorString" = "*errors.errorString" := by decide
theorem row60 (u : TypeId) (h : Ybaf.prog.typeName? 3 u = some "*errors.errorString") : u = 60 :=
  typeName_ptr_named (nm := "errors.errorString") (by rw [star]; kernel_rfl) (by kernel_rfl) (by decide) u (by rw [star]; exact h)
theorem rowed : varsRowed Ybaf.prog [vE, vD] = true := by kernel_rfl

/-- The cells of the table of names. -/
def cells4 : Array Value := #[.string ⟨#[]⟩, .string ⟨#[103, 111]⟩, .string ⟨#[110, 112, 109]⟩, .string ⟨#[99, 97, 114, 103, 111]⟩]

theorem str_of_trod {H : Type} {enc : TypeId × Value → H} {w : World} {base : Nat} {sp : Nat → Bool} {held : Bool} {fuel : Nat} {c : Value} {y : DataW H × List MemPlace}
    (h : DataW.trod enc Ybaf.prog w base sp held fuel 9 [c] = some y) : ∃ s : ByteArray, c = .string s ∧ y = (.lit (.string s.data.toList), []) := by
  obtain ⟨s, hc, hy, _⟩ := DataW.trod_string Ybaf.underlying9 h
  simp only [List.cons.injEq, and_true] at hc
  exact ⟨s, hc, hy⟩
theorem ba_of_list {s : ByteArray} {l : List UInt8} (h : s.data.toList = l) : s = ⟨l.toArray⟩ := by
  cases s with
  | mk d => rw [← h]

theorem cells_of_laid {W : World} (h : laidMet Ybaf.prog [(vD, Rows.laid_example_com_ensolv_ensolv_dialectNames)] W) : W.var? Ybaf.prog vD = some cells4 := by
  obtain ⟨ps, ⟨g, t, cs, fuel, p, q, hg, ht, hvar, hd, _, _⟩, _⟩ := h
  obtain rfl := Option.some.inj (gD.symm.trans hg)
  obtain rfl := Option.some.inj (gDType.symm.trans ht)
  rw [hvar]
  congr 1
  obtain ⟨l⟩ := cs
  cases fuel with
  | zero => simp [DataW.trod] at hd
  | succ fuel =>
    simp only [DataW.trod, Ybaf.underlying36, cells36, cells9] at hd
    split at hd
    · rename_i hl
      obtain ⟨c0, c1, c2, c3, rfl⟩ : ∃ c0 c1 c2 c3, l = [c0, c1, c2, c3] := by
        match l, hl with
        | [a, b, c, d], _ => exact ⟨a, b, c, d, rfl⟩
      have e : List.range 4 = [0, 1, 2, 3] := rfl
      rw [e] at hd
      simp only [Option.map_eq_some_iff, List.mapM_cons, List.mapM_nil, Option.bind_eq_bind, Option.bind_eq_some_iff, Option.pure_def, Option.some.injEq] at hd
      obtain ⟨xs, ⟨y0, h0, _, ⟨y1, h1, _, ⟨y2, h2, _, ⟨y3, h3, _, rfl, rfl⟩, rfl⟩, rfl⟩, rfl⟩, hx⟩ := hd
      obtain ⟨n0, rfl, rfl⟩ := str_of_trod h0
      obtain ⟨n1, rfl, rfl⟩ := str_of_trod h1
      obtain ⟨n2, rfl, rfl⟩ := str_of_trod h2
      obtain ⟨n3, rfl, rfl⟩ := str_of_trod h3
      simp [Rows.laid_example_com_ensolv_ensolv_dialectNames] at hx
      obtain ⟨⟨e0, e1, e2, e3⟩, _⟩ := hx
      have e0' : n0 = ⟨#[]⟩ := by
        cases n0 with
        | mk d => exact congrArg ByteArray.mk e0
      rw [e0', ba_of_list e1, ba_of_list e2, ba_of_list e3]
      rfl
    · cases hd


/-- The sentinel's text. -/
def textE : ByteArray := ⟨#[117, 110, 107, 110, 111, 119, 110, 32, 100, 105, 97, 108, 101, 99, 116]⟩
/-- A world with the two variables laid: the block of the sentinel's text is the last. -/
def laidOver (w0 : World) (low : Nat) : World :=
  { w0 with heap := (w0.heap.modify 0 fun
      | .cells _ t frozen => .cells #[.iface 60 (.pointer (some ⟨low, 0, none⟩))] t frozen
      | o => o).modify 1 fun
      | .cells _ t frozen => .cells cells4 t frozen
      | o => o }
theorem laid_met (os : Os) (args : Array Value) :
    laidMet Ybaf.prog Rows.lawS4964CNameRow.laid ((laidOver (World.holding Ybaf.prog os ⟨#[.cells #[.string textE] 62], #[], []⟩) (World.holding Ybaf.prog default ⟨#[], #[], []⟩).heap.size).forCall (fun _ _ => 0) ⟨#[], args, []⟩).memory :=
  laidMet_of_run (ps := [.cell 0 0, .cell (World.holding Ybaf.prog default ⟨#[], #[], []⟩).heap.size 0, .cell 1 0, .cell 1 1, .cell 1 2, .cell 1 3]) 8 (by kernel_rfl) (by kernel_rfl) (by kernel_rfl)

end Go.Proofs.YbulkcxtyFmt
