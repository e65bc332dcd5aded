/-
  errors.Is at the error that MarshalText makes: a fmt.wrapError that wraps the sentinel. Turned to this program after the guide's SentryIs text.
-/
import Derived.Test.YbulkcxtyFmtFacts
namespace Go.Proofs.YbulkcxtyFmt
open Go.RowKit Go.Extern.Stop Go.Stop Go.Extern

theorem isMethodComparable (v : Value) (w : World) : (Go.method 218 48 v "Comparable").run Ybaf.prog w = .ok (47, v) w := by kernel_rfl
theorem methodUnwrap (v : Value) (w : World) : (Go.method 218 46 v "Unwrap").run Ybaf.prog w = .ok (43, v) w := by kernel_rfl

theorem is_wrap_same (pb po : Nat) (b : Addr) (w : World) (h1 : w.cell? ⟨pb, po + 1, none⟩ = some (.iface 60 (.pointer (some b)))) :
    Calls Ybaf.prog 7 #[.iface 46 (.pointer (some ⟨pb, po, none⟩)), .iface 60 (.pointer (some b))] w fun e w' => e = .returned (.bool true) ∧ w' = w := by
  obtain ⟨i, hi, hcmp⟩ := Option.map_eq_some_iff.1 isComp
  obtain ⟨j, hj, hjs⟩ := Option.map_eq_some_iff.1 isSize
  have tT := isTypeOf
  have cT := isComparable
  have mR := isMethodComparable
  have nW := noIsW
  have uW := hasUnwrapW
  have mU := methodUnwrap
  have heq := run_eql_iface_ptr_same (P := Ybaf.prog) w b Ybaf.underlying25 Ybaf.underlying60 hi hcmp hj
  have hty := run_eql_iface_types (P := Ybaf.prog) 46 60 (.pointer (some ⟨pb, po, none⟩)) (.pointer (some b)) Ybaf.underlying25 (by decide) w
  go_enter Ybaf.func7, Ybaf.ntmps7
  go_wp2
  refine wp_loop_rounds 2 ?_
  rw [rounds_succ]
  go_wp2
  rw [rounds_succ]
  go_wp2
  go_ret
  exact ⟨rfl, rfl⟩
end Go.Proofs.YbulkcxtyFmt
