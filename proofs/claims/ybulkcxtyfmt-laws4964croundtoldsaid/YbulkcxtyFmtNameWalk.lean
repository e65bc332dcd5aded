/-
  The walk over the law LawS4964CName.
-/
import Derived.Test.YbulkcxtyFmtWalks
namespace Go.Proofs.YbulkcxtyFmt
open Go.RowKit Go.Extern.Stop Go.Stop Go.Extern

set_option maxRecDepth 100000 in
theorem name_no (F : Interp) (d : Int) (a : Addr) (s : ByteArray) (w : World) (hF : F.answers w.tape) (h : d < 1 ∨ 4 ≤ d) (h0 : 0 < w.heap.size)
    (hg : w.cell? ⟨0, 0, none⟩ = some (.iface 60 (.pointer (some a)))) (hs : ∀ o, (w.alloc o).cell? a = some (.string s)) :
    Calls Ybaf.prog 3 #[.int .i64 d] w fun e w' => e = .returned (.bool true) ∧ Below w.heap.size w w' := by
  have hnil := fun (w : World) => Lib.run_eql_slice_nil (P := Ybaf.prog) w 23 5 none 0 0 0 0 Ybaf.underlying23
  go_enter Ybaf.func3, Ybaf.ntmps3
  go_wp2_with fail
  refine (marshal_no F d a s _ hF h hg hs).mono ?_
  rintro e w' ⟨rfl, o1, o2, tx, rfl⟩
  have k0 : ((((w.alloc o1).alloc o2).alloc (.cells #[.string tx, .iface 60 (.pointer (some a))] 99)).drew.drew).cell? ⟨0, 0, none⟩ = some (.iface 60 (.pointer (some a))) := by
    have hb : Below w.heap.size w ((((w.alloc o1).alloc o2).alloc (.cells #[.string tx, .iface 60 (.pointer (some a))] 99)).drew.drew) :=
      (((((Below.refl _ w).alloc (Nat.le_refl _) o1).alloc (by simp) o2).alloc (by simp; omega) _).drew).drew
    rw [hb.cell (p := ⟨0, 0, none⟩) h0]; exact hg
  go_wp2_with fail
  refine (cname_no d _ h).mono ?_
  rintro e w' ⟨rfl, hw⟩
  rw [hw]; clear hw
  go_wp2_with fail
  refine (is_wrap_same _ 0 a _ (by go_simp)).mono ?_
  rintro e w' ⟨rfl, hw⟩
  rw [hw]; clear hw
  go_wp2
  go_ret
  exact ⟨rfl, (((((Below.refl _ w).alloc (Nat.le_refl _) o1).alloc (by simp) o2).alloc (by simp; omega) _).drew).drew⟩

/-- The bytes as numbers. -/
def numsOf (s : ByteArray) : List Int := s.data.toList.map (fun b => (b.toNat : Int))
theorem strOf_nums (s : ByteArray) : strOfNums (numsOf s) = s := by
  cases s with
  | mk d =>
    unfold strOfNums numsOf
    rw [List.map_map]
    have e : ((fun n : Int => UInt8.ofNat n.toNat) ∘ fun b : UInt8 => (b.toNat : Int)) = id := by
      funext b
      simp
    rw [e, List.map_id]
theorem nums_at (s : ByteArray) (i : Nat) (hi : i < s.data.size) : (numsOf s).getD i 0 = (s.data[i].toNat : Int) := by
  unfold numsOf
  rw [List.getD_eq_getElem?_getD, List.getElem?_map, Array.getElem?_toList, Array.getElem?_eq_getElem hi]
  rfl
theorem nums_len (s : ByteArray) : (numsOf s).length = s.size := by
  unfold numsOf
  simp

set_option maxRecDepth 100000 in
theorem name_yes (d : Int) (s : ByteArray) (w : World) (h0 : 1 ≤ d) (h1 : d < 4) (hc : w.cell? ⟨1, d.toNat, none⟩ = some (.string s))
    (hn : ∀ w : World, Calls Ybaf.prog 6 #[.int .i64 d] w fun e w' => e = .returned (.tuple #[.string s, .bool true]) ∧ w' = w) :
    Calls Ybaf.prog 3 #[.int .i64 d] w fun e w' => e = .returned (.bool true) ∧ Below w.heap.size w w' := by
  go_enter Ybaf.func3, Ybaf.ntmps3
  go_wp2_with fail
  refine (marshal_yes d s _ h0 h1 hc).mono ?_
  rintro e w1 ⟨cap, rfl, hb, hz, hcs⟩
  have hcv := run_convert_bytes_arg (P := Ybaf.prog) w1 23 5 Ybaf.underlying23 Ybaf.underlying5 w.heap.size 0 s.size cap (numsOf s) (nums_len s) (fun i hi => by rw [Nat.zero_add, hcs i hi, nums_at s i hi]) 9 Ybaf.underlying9
  rw [strOf_nums] at hcv
  clear hcs
  go_wp2_with fail
  refine (hn _).mono ?_
  rintro e w' ⟨rfl, hw⟩
  rw [hw]; clear hw
  go_wp2
  go_ret
  exact ⟨by simp, hb⟩
end Go.Proofs.YbulkcxtyFmt
