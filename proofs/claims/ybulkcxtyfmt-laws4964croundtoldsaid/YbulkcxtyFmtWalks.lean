/-
  The walks over MarshalText and the law LawS4964CName.
-/
import Derived.Test.YbulkcxtyFmtIs
import Derived.Deep.RegionWith
import Derived.Deep.QuietTactic
import Derived.BigQuiet
import Derived.Laws.IdiomStrings
import Derived.Laws.BytesArg
namespace Go.Proofs.YbulkcxtyFmt
open Go.RowKit Go.Extern.Stop Go.Stop Go.Extern
attribute [local go_sem] call14 call18 guardF fmtA fmtAr fmtA0 fmtA0r fmtB fmtBr fmtB0 fmtB0r act22_118w isString22 str22 act3_100 op3_100 strict3 str3 act60_119w isError60 str60 ptr60 elem60 ptr46 elem46 isError46

theorem known_no (d : Int) (w : World) (h : d < 1 ∨ 4 ≤ d) : Calls Ybaf.prog 9 #[.int .i64 d] w fun e w' => e = .returned (.bool false) ∧ w' = w := by
  rcases h with h | h
  · go_enter Ybaf.func9, Ybaf.ntmps9
    go_wp2
    go_ret
    exact ⟨rfl, rfl⟩
  · have h1 : 1 ≤ d := by omega
    have h2 : decide (d < 4) = false := by simp; omega
    go_enter Ybaf.func9, Ybaf.ntmps9
    go_wp2
    go_ret
    exact ⟨rfl, rfl⟩
theorem known_yes (d : Int) (w : World) (h0 : 1 ≤ d) (h : d < 4) : Calls Ybaf.prog 9 #[.int .i64 d] w fun e w' => e = .returned (.bool true) ∧ w' = w := by
  go_enter Ybaf.func9, Ybaf.ntmps9
  go_wp2
  go_ret
  exact ⟨rfl, rfl⟩

def readingD (d : Int) : List (List UInt8) := [[68, 105, 97, 108, 101, 99, 116, 40, 37, 100, 41], shape3, digits 8 (d % 18446744073709551616).toNat]

theorem string_no (F : Interp) (d : Int) (w : World) (hF : F.answers w.tape) (h : d < 1 ∨ 4 ≤ d) :
    Calls Ybaf.prog 16 #[.int .i64 d] w fun e w' => e = .returned (.string (FmtStop.textOf (F "fmt.Sprintf" (readingD d) 0))) ∧ w' = (w.alloc (.cells #[.iface 3 (.int .i64 d)] 20)).drew := by
  have hF' := answers_open hF
  go_enter Ybaf.func16, Ybaf.ntmps16
  go_wp2_with (go_at_call 9; refine (known_no d _ h).mono ?_; rintro e w' ⟨rfl, hw⟩; rw [hw]; clear hw)
  go_wp2
  go_ret
  exact ⟨rfl, rfl⟩

theorem marshal_no (F : Interp) (d : Int) (a : Addr) (s : ByteArray) (w : World) (hF : F.answers w.tape) (h : d < 1 ∨ 4 ≤ d)
    (hg : w.cell? ⟨0, 0, none⟩ = some (.iface 60 (.pointer (some a)))) (hs : ∀ o, (w.alloc o).cell? a = some (.string s)) :
    Calls Ybaf.prog 5 #[.int .i64 d] w fun e w' => e = .returned (.tuple #[.slice none 0 0, .iface 46 (.pointer (some ⟨w.heap.size + 2, 0, none⟩))]) ∧
      ∃ o1 o2 tx, w' = (((w.alloc o1).alloc o2).alloc (.cells #[.string tx, .iface 60 (.pointer (some a))] 99)).drew.drew := by
  have hF' := answers_open hF
  go_enter Ybaf.func5, Ybaf.ntmps5
  go_wp2_with (go_at_call 9; refine (known_no d _ h).mono ?_; rintro e w' ⟨rfl, hw⟩; rw [hw]; clear hw)
  have hop := fun o => opPlain60_119w "fmt.errorf" a s (w.alloc o) (hs o)
  go_wp2
  apply rows_call nextTurns
  case hr =>
    go_simp
    exact ⟨⟨rfl, rfl, rfl⟩, rfl⟩
  case hi => exact invokeString22 _ _
  case hc =>
    refine (string_no F d _ (by exact hF) h).mono fun e w₃ ⟨he, hx⟩ => ?_
    subst he; subst hx
    apply rows_value nextReturned
    case hr =>
      go_simp
      exact ⟨rfl, rfl⟩
    case h =>
      go_wp2
      go_ret2
      exact ⟨rfl, _, _, _, rfl⟩

/-- The bytes of the three names. -/
def nameOf (d : Int) : ByteArray := if d = 1 then ⟨#[103, 111]⟩ else if d = 2 then ⟨#[110, 112, 109]⟩ else ⟨#[99, 97, 114, 103, 111]⟩

theorem cname_1 (w : World) : Calls Ybaf.prog 6 #[.int .i64 1] w fun e w' => e = .returned (.tuple #[.string ⟨#[103, 111]⟩, .bool true]) ∧ w' = w := by
  go_enter Ybaf.func6, Ybaf.ntmps6
  go_wp2
  go_ret2
  exact ⟨rfl, rfl⟩
theorem cname_2 (w : World) : Calls Ybaf.prog 6 #[.int .i64 2] w fun e w' => e = .returned (.tuple #[.string ⟨#[110, 112, 109]⟩, .bool true]) ∧ w' = w := by
  go_enter Ybaf.func6, Ybaf.ntmps6
  go_wp2
  go_ret2
  exact ⟨rfl, rfl⟩
theorem cname_3 (w : World) : Calls Ybaf.prog 6 #[.int .i64 3] w fun e w' => e = .returned (.tuple #[.string ⟨#[99, 97, 114, 103, 111]⟩, .bool true]) ∧ w' = w := by
  go_enter Ybaf.func6, Ybaf.ntmps6
  go_wp2
  go_ret2
  exact ⟨rfl, rfl⟩
theorem cname_no (d : Int) (w : World) (h : d < 1 ∨ 4 ≤ d) : Calls Ybaf.prog 6 #[.int .i64 d] w fun e w' => e = .returned (.tuple #[.string ⟨#[]⟩, .bool false]) ∧ w' = w := by
  have h1 : (d == 1) = false := by rw [beq_eq_false_iff_ne]; omega
  have h2 : (d == 2) = false := by rw [beq_eq_false_iff_ne]; omega
  have h3 : (d == 3) = false := by rw [beq_eq_false_iff_ne]; omega
  go_enter Ybaf.func6, Ybaf.ntmps6
  go_wp2
  go_ret2
  exact ⟨rfl, rfl⟩

theorem marshal_yes (d : Int) (s : ByteArray) (w : World) (h0 : 1 ≤ d) (h1 : d < 4) (hc : w.cell? ⟨1, d.toNat, none⟩ = some (.string s)) :
    Calls Ybaf.prog 5 #[.int .i64 d] w fun e w' => ∃ cap, e = .returned (.tuple #[.slice (some ⟨w.heap.size, 0, none⟩) s.size cap, .nilIface]) ∧ Below w.heap.size w w' ∧ w.heap.size < w'.heap.size ∧
      ∀ i (hi : i < s.data.size), w'.cell? ⟨w.heap.size, i, none⟩ = some (.int .u8 (s.data[i].toNat : Int)) := by
  have hcv2 := fun w s => run_bytes_of_string (P := Ybaf.prog) w 9 23 5 s Ybaf.underlying9 Ybaf.underlying23 Ybaf.underlying5
  go_enter Ybaf.func5, Ybaf.ntmps5
  go_wp2_with (go_at_call 9; refine (known_yes d _ h0 h1).mono ?_; rintro e w' ⟨rfl, hw⟩; rw [hw]; clear hw)
  go_ret2
  refine ⟨_, rfl, ?_, ?_, ?_⟩
  · exact ((Below.refl _ _).alloc (Nat.le_refl _) _).drew
  · simp
  · intro i hi
    show (World.alloc _ _).cell? _ = _
    rw [World.cell?_alloc_mark]
    exact bytesRow_at s _ i hi
end Go.Proofs.YbulkcxtyFmt
