/-
  The walk over the law LawS4964CRound.
-/
import Derived.Test.YbulkcxtyFmtNameWalk
namespace Go.Proofs.YbulkcxtyFmt
open Go.RowKit Go.Extern.Stop Go.Stop Go.Extern

theorem below_drewN {B : Nat} {a w : World} (h : Below B a w) (n : Nat) : Below B a (w.drewN n) := h.trans ⟨rfl, rfl, rfl, Nat.le_refl _, fun _ _ => rfl⟩

/-- The table of names lies in the variable's cells. -/
def Names (w : World) : Prop := w.cell? ⟨1, 1, none⟩ = some (.string ⟨#[103, 111]⟩) ∧ w.cell? ⟨1, 2, none⟩ = some (.string ⟨#[110, 112, 109]⟩) ∧ w.cell? ⟨1, 3, none⟩ = some (.string ⟨#[99, 97, 114, 103, 111]⟩)

theorem parse_1 (sv : Value) (w : World) (h : Names w) :
    Calls Ybaf.prog 17 #[.string ⟨#[103, 111]⟩, .slice (some ⟨1, 0, none⟩) 4 4, .int .i64 1, sv] w fun e w' => e = .returned (.tuple #[.int .i64 1, .nilIface]) ∧ w' = w := by
  obtain ⟨h1, h2, h3⟩ := h
  go_enter Ybaf.func17, Ybaf.ntmps17
  go_wp2
  refine wp_loop_rounds 1 ?_
  rw [rounds_succ]
  go_wp2
  go_ret2
  exact ⟨rfl, rfl⟩
theorem parse_2 (sv : Value) (w : World) (h : Names w) :
    Calls Ybaf.prog 17 #[.string ⟨#[110, 112, 109]⟩, .slice (some ⟨1, 0, none⟩) 4 4, .int .i64 1, sv] w fun e w' => e = .returned (.tuple #[.int .i64 2, .nilIface]) ∧ w' = w := by
  obtain ⟨h1, h2, h3⟩ := h
  go_enter Ybaf.func17, Ybaf.ntmps17
  go_wp2
  refine wp_loop_rounds 2 ?_
  rw [rounds_succ]
  go_wp2
  rw [rounds_succ]
  go_wp2
  go_ret2
  exact ⟨rfl, rfl⟩
theorem parse_3 (sv : Value) (w : World) (h : Names w) :
    Calls Ybaf.prog 17 #[.string ⟨#[99, 97, 114, 103, 111]⟩, .slice (some ⟨1, 0, none⟩) 4 4, .int .i64 1, sv] w fun e w' => e = .returned (.tuple #[.int .i64 3, .nilIface]) ∧ w' = w := by
  obtain ⟨h1, h2, h3⟩ := h
  go_enter Ybaf.func17, Ybaf.ntmps17
  go_wp2
  refine wp_loop_rounds 3 ?_
  rw [rounds_succ]
  go_wp2
  rw [rounds_succ]
  go_wp2
  rw [rounds_succ]
  go_wp2
  go_ret2
  exact ⟨rfl, rfl⟩

/-- ParseDialect, whichever of the three names. -/
theorem parseD (s : ByteArray) (d : Int) (a : Addr) (w : World) (hN : Names w) (hg : w.cell? ⟨0, 0, none⟩ = some (.iface 60 (.pointer (some a))))
    (hp : ∀ (sv : Value) (w : World), Names w → Calls Ybaf.prog 17 #[.string s, .slice (some ⟨1, 0, none⟩) 4 4, .int .i64 1, sv] w fun e w' => e = .returned (.tuple #[.int .i64 d, .nilIface]) ∧ w' = w) :
    Calls Ybaf.prog 13 #[.string s] w fun e w' => e = .returned (.tuple #[.int .i64 d, .nilIface]) ∧ ∃ q, w' = w.drewN q := by
  go_enter Ybaf.func13, Ybaf.ntmps13
  go_wp2
  go_quiet ((go_at_call 17; exact Calls.quiet_of_same (hp _ _ hN)))
  go_wp2
  go_ret2
  exact ⟨rfl, _, rfl⟩

set_option maxRecDepth 100000 in
theorem unmarshal (s : ByteArray) (d : Int) (a : Addr) (eb bb cap : Nat) (old : Int) (w : World) (hN : Names w) (hg : w.cell? ⟨0, 0, none⟩ = some (.iface 60 (.pointer (some a))))
    (hp : ∀ (sv : Value) (w : World), Names w → Calls Ybaf.prog 17 #[.string s, .slice (some ⟨1, 0, none⟩) 4 4, .int .i64 1, sv] w fun e w' => e = .returned (.tuple #[.int .i64 d, .nilIface]) ∧ w' = w)
    (hcs : ∀ i (hi : i < s.data.size), w.cell? ⟨bb, i, none⟩ = some (.int .u8 (s.data[i].toNat : Int)))
    (he : w.cell? ⟨eb, 0, none⟩ = some (.int .i64 old)) (hf : w.frozen? ⟨eb, 0, none⟩ = false) :
    Calls Ybaf.prog 8 #[.pointer (some ⟨eb, 0, none⟩), .slice (some ⟨bb, 0, none⟩) s.size cap] w fun e w' => e = .returned .nilIface ∧ ∃ q, w' = (w.setCell ⟨eb, 0, none⟩ (.int .i64 d)).drewN q := by
  have hcv := run_convert_bytes_arg (P := Ybaf.prog) w 23 5 Ybaf.underlying23 Ybaf.underlying5 bb 0 s.size cap (numsOf s) (nums_len s) (fun i hi => by rw [Nat.zero_add, hcs i hi, nums_at s i hi]) 9 Ybaf.underlying9
  rw [strOf_nums] at hcv
  clear hcs
  go_enter Ybaf.func8, Ybaf.ntmps8
  go_wp2_with fail
  refine (parseD s d a _ hN hg hp).mono ?_
  rintro e w' ⟨rfl, q, rfl⟩
  go_wp2
  go_ret
  exact ⟨rfl, q, rfl⟩

set_option maxRecDepth 100000 in
theorem round_any (k d : Int) (s : ByteArray) (a : Addr) (w : World) (hk0 : 0 ≤ k) (hk1 : k ≤ 255) (hd : k % 3 + 1 = d) (hN : Names w) (hg : w.cell? ⟨0, 0, none⟩ = some (.iface 60 (.pointer (some a)))) (hz : 1 < w.heap.size)
    (hp : ∀ (sv : Value) (w : World), Names w → Calls Ybaf.prog 17 #[.string s, .slice (some ⟨1, 0, none⟩) 4 4, .int .i64 1, sv] w fun e w' => e = .returned (.tuple #[.int .i64 d, .nilIface]) ∧ w' = w)
    (hc : w.cell? ⟨1, d.toNat, none⟩ = some (.string s)) :
    Calls Ybaf.prog 4 #[.int .u8 k] w fun e w' => e = .returned (.bool true) ∧ Below w.heap.size w w' := by
  have h0 : 1 ≤ d := by omega
  have h1 : d < 4 := by omega
  go_enter Ybaf.func4, Ybaf.ntmps4
  go_wp2_with fail
  refine (marshal_yes d s _ h0 h1 hc).mono ?_
  rintro e w1 ⟨cap, rfl, hb, hz1, hcs⟩
  have hb2 : Below w.heap.size w (w1.alloc (.cells #[.int .i64 0] 22)) := hb.alloc (by omega) _
  have hN2 : Names (w1.alloc (.cells #[.int .i64 0] 22)) :=
    ⟨(hb2.cell (p := ⟨1, 1, none⟩) hz).trans hN.1, (hb2.cell (p := ⟨1, 2, none⟩) hz).trans hN.2.1, (hb2.cell (p := ⟨1, 3, none⟩) hz).trans hN.2.2⟩
  have hg2 := (hb2.cell (p := ⟨0, 0, none⟩) (by show 0 < w.heap.size; omega)).trans hg
  have hcs2 : ∀ i (hi : i < s.data.size), (w1.alloc (.cells #[.int .i64 0] 22)).cell? ⟨w.heap.size, i, none⟩ = some (.int .u8 (s.data[i].toNat : Int)) := fun i hi =>
    (((Below.refl w1.heap.size w1).alloc (Nat.le_refl _) (.cells #[.int .i64 0] 22)).cell (p := ⟨w.heap.size, i, none⟩) hz1).trans (hcs i hi)
  clear hcs
  go_wp2_with fail
  refine (unmarshal s d a w1.heap.size w.heap.size cap 0 _ hN2 hg2 hp hcs2 (by go_simp) (by go_simp)).mono ?_
  rintro e w2 ⟨rfl, q, rfl⟩
  go_wp2
  go_ret
  exact ⟨by simp, below_drewN (hb.alloc (by omega) _) _⟩
end Go.Proofs.YbulkcxtyFmt
