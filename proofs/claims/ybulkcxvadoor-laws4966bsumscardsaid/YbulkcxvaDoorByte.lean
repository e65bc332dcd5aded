/-
  WriteByte.
-/
import Derived.Test.YbulkcxvaDoorFull
namespace Go.Proofs.YbulkcxvaDoor
open Go.RowKit
attribute [local go_sem ↓] Go.wp_at_zero Go.wp_at_succ

theorem turned_set {w : World} {g k : Nat} {pend : List UInt8} {cur : List Value} (b : UInt8) (hg : w.heap[g]? = some (.cells (bc pend ++ cur).toArray 5 (0, 0))) (hk : pend.length = k) (hc : 0 < cur.length) :
    Turned g (splice (bc pend ++ cur) pend.length (bc [b])) w (w.setCell ⟨g, k, none⟩ (.int .u8 (b.toNat : Int))) := by
  refine ⟨?_, fun x hx => heap_setCell_other _ _ _ _ (by exact hx), by simp, rfl, rfl, rfl⟩
  rw [heap_setCell_same _ _ _ _ _ _ hg]
  have e : ((bc pend ++ cur).toArray.setIfInBounds k (.int .u8 (b.toNat : Int))) = (splice (bc pend ++ cur) pend.length (bc [b])).toArray := by
    rw [List.setIfInBounds_toArray]
    congr 1
    have e1 : (bc pend ++ cur).take pend.length = bc pend := List.take_left' (bc_length pend)
    have e2 : (bc pend ++ cur).drop (pend.length + (bc [b]).length) = cur.drop 1 := by
      rw [List.drop_append, bc_length, List.drop_of_length_le (by rw [bc_length]; omega)]
      simp [bc]
    rw [splice, e1, e2, List.set_append_right _ _ (by rw [bc_length]; omega)]
    congr 1
    rw [bc_length, hk, Nat.sub_self]
    cases cur with
    | nil => simp at hc
    | cons x xs => simp [bc]
  rw [e]

set_option maxRecDepth 100000 in
set_option maxHeartbeats 1000000 in
theorem byte_fits {w : World} {B pb gb pw : Nat} {out pend : List UInt8} {v : Value} (b : UInt8) (x : Int) (hx : x = (b.toNat : Int)) (h : Buf w B pb gb pw out pend v) (hfit : pend.length < 4096) :
    Calls Ybad.prog 15 #[.pointer (some ⟨pb, 0, none⟩), .int .u8 x] w fun e w' => e = .returned .nilIface ∧ Buf w' B pb gb pw out (pend ++ [b]) v ∧ Fr pb gb pw v v w w' := by
  subst hx
  have c0 := h.c0
  have c1 := h.c1
  have c2 := h.c2
  have H : Hid (Buf w B pb gb pw out pend v) := h
  clear h
  obtain ⟨cur, hg, hcl⟩ := H.out.hg
  have HT := turned_set b hg rfl (by omega)
  have hgk : w.cell? ⟨gb, pend.length, none⟩ = some (cur.getD 0 .nilIface) := by
    rw [cell_of_row _ _ _ _ _ _ hg]
    simp only [List.getElem?_toArray]
    rw [List.getElem?_append_right (by rw [bc_length]; omega), bc_length, Nat.sub_self]
    cases cur with
    | nil => simp at hcl; omega
    | cons y ys => rfl
  have hgf : w.frozen? ⟨gb, pend.length, none⟩ = false := frozen_of_row _ _ _ _ _ hg
  have HG : Hid (Turned gb (splice (bc pend ++ cur) pend.length (bc [b])) w (w.setCell ⟨gb, pend.length, none⟩ (.int .u8 (b.toNat : Int))) ∧ pend.length + cur.length = 4096) := ⟨HT, hcl⟩
  have hpg := H.out.pbgb
  clear hg HT hcl
  generalize cur.getD 0 .nilIface = old at *
  generalize hk' : pend.length = k at *
  have hk : (k : Int) < 4096 := by omega
  have hd : decide (4096 - (k : Int) ≤ 0) = false := by simp; omega
  have y1 : ∀ n, ((w.drewN n).setCell ⟨gb, k, none⟩ (.int .u8 (b.toNat : Int))).cell? ⟨pb, 1, none⟩ = some (.slice (some ⟨gb, 0, none⟩) 4096 4096) := fun n =>
    (World.cell?_of_block (w := w.drewN n) (heap_setCell_other _ _ _ _ (by exact hpg))).trans c1
  have y2 : ∀ n, ((w.drewN n).setCell ⟨gb, k, none⟩ (.int .u8 (b.toNat : Int))).cell? ⟨pb, 2, none⟩ = some (.int .i64 (k : Int)) := fun n =>
    (World.cell?_of_block (w := w.drewN n) (heap_setCell_other _ _ _ _ (by exact hpg))).trans c2
  have y3 : ∀ n, ((w.drewN n).setCell ⟨gb, k, none⟩ (.int .u8 (b.toNat : Int))).frozen? ⟨pb, 2, none⟩ = false := fun n =>
    (World.frozen?_of_block (w := w.drewN n) (heap_setCell_other _ _ _ _ (by exact hpg))).trans (H.out.fz 2)
  go_enter Ybad.func15, Ybad.ntmps15
  go_wp2_with fail
  refine (available_any H.out).mono ?_
  rw [hk']
  rintro e w1 ⟨rfl, q, rfl⟩
  go_wp2_with fail
  go_region_held3 (fun w' => w'.cell? ⟨pb, 1, none⟩ = some (.slice (some ⟨gb, 0, none⟩) 4096 4096) ∧ w'.cell? ⟨pb, 2, none⟩ = some (.int .i64 (k : Int))) (first | go_keep | exact ⟨y1 _, y2 _⟩) (fail)
  have g2 := y2 (q + 1)
  have g3 := y3 (q + 1)
  have ht : Turned gb (splice (bc pend ++ cur) k (bc [b])) w ((w.drewN (q + 1)).setCell ⟨gb, k, none⟩ (.int .u8 (b.toNat : Int))) := ⟨HG.out.1.row, HG.out.1.other, HG.out.1.size, HG.out.1.io⟩
  clear y1 y2 y3
  generalize (w.drewN (q + 1)).setCell ⟨gb, k, none⟩ (.int .u8 (b.toNat : Int)) = W2 at *
  have HT : Hid (Turned gb (splice (bc pend ++ cur) k (bc [b])) w W2) := ht
  clear ht c0 c1 c2
  go_wp2
  go_ret
  have hfin := H.out.filled (news := [b]) (by rw [hk']; exact HG.out.2) (by have := HG.out.2; simp; omega) (by rw [hk']; exact HT.out)
  have e : (((pend ++ [b]).length : Nat) : Int) = (k : Int) + 1 := by simp [hk']
  rw [e] at hfin
  exact ⟨rfl, hfin⟩

set_option maxRecDepth 100000 in
set_option maxHeartbeats 1000000 in
theorem byte_full {w : World} {B pb gb pw : Nat} {out pend : List UInt8} {v : Value} (b : UInt8) (x : Int) (hx : x = (b.toNat : Int)) (h : Buf w B pb gb pw out pend v) (hk' : pend.length = 4096) (hlim : out.length + 4096 ≤ 140737488355328) :
    Calls Ybad.prog 15 #[.pointer (some ⟨pb, 0, none⟩), .int .u8 x] w fun e w' => e = .returned .nilIface ∧ ∃ v', Buf w' B pb gb pw (out ++ pend) [b] v' ∧ Fr pb gb pw v v' w w' := by
  subst hx
  have c0 := h.c0
  have H : Hid (Buf w B pb gb pw out pend v) := h
  clear h
  go_enter Ybad.func15, Ybad.ntmps15
  go_wp2_with fail
  refine (available_any H.out).mono ?_
  rw [hk']
  rintro e w1 ⟨rfl, q, rfl⟩
  go_wp2_with fail
  refine (flush_any (H.out.drewN q) (by rw [hk']; omega)).mono ?_
  rintro e w2 ⟨rfl, v2, hB, hF⟩
  have HB : Hid (Buf w2 B pb gb pw (out ++ pend) [] v2 ∧ Fr pb gb pw v v2 w w2) := ⟨hB, ⟨hF.os, hF.tape, hF.output, hF.size, hF.block, hF.sink⟩⟩
  have c1 := hB.c1
  have c2 : w2.cell? ⟨pb, 2, none⟩ = some (.int .i64 0) := hB.c2
  obtain ⟨cur, hg, hcl⟩ := hB.hg
  have HT := turned_set b hg rfl (by simp at hcl; omega)
  have hgk : w2.cell? ⟨gb, 0, none⟩ = some (cur.getD 0 .nilIface) := by
    rw [cell_of_row _ _ _ _ _ _ hg]
    cases cur with
    | nil => simp at hcl
    | cons y ys => rfl
  have hgf : w2.frozen? ⟨gb, 0, none⟩ = false := frozen_of_row _ _ _ _ _ hg
  have HG : Hid (Turned gb (splice (bc [] ++ cur) 0 (bc [b])) w2 (w2.setCell ⟨gb, 0, none⟩ (.int .u8 (b.toNat : Int))) ∧ ([] : List UInt8).length + cur.length = 4096) := ⟨HT, hcl⟩
  have hpg := hB.pbgb
  clear hg HT hcl hB hF
  generalize cur.getD 0 .nilIface = old at *
  have y1 : (w2.setCell ⟨gb, 0, none⟩ (.int .u8 (b.toNat : Int))).drew.cell? ⟨pb, 1, none⟩ = some (.slice (some ⟨gb, 0, none⟩) 4096 4096) :=
    (World.cell?_of_block (w := w2) (heap_setCell_other _ _ _ _ (by exact hpg))).trans c1
  have y2 : (w2.setCell ⟨gb, 0, none⟩ (.int .u8 (b.toNat : Int))).drew.cell? ⟨pb, 2, none⟩ = some (.int .i64 0) :=
    (World.cell?_of_block (w := w2) (heap_setCell_other _ _ _ _ (by exact hpg))).trans c2
  have y3 : (w2.setCell ⟨gb, 0, none⟩ (.int .u8 (b.toNat : Int))).drew.frozen? ⟨pb, 2, none⟩ = false :=
    (World.frozen?_of_block (w := w2) (heap_setCell_other _ _ _ _ (by exact hpg))).trans (HB.out.1.fz 2)
  go_wp2_with fail
  go_region_held3 (fun w' => w'.cell? ⟨pb, 1, none⟩ = some (.slice (some ⟨gb, 0, none⟩) 4096 4096) ∧ w'.cell? ⟨pb, 2, none⟩ = some (.int .i64 0)) (first | go_keep | exact ⟨y1, y2⟩) (fail)
  have g2 : (w2.setCell ⟨gb, 0, none⟩ (.int .u8 (b.toNat : Int))).drew.cell? ⟨pb, 2, none⟩ = some (.int .i64 0) := y2
  have g3 : (w2.setCell ⟨gb, 0, none⟩ (.int .u8 (b.toNat : Int))).drew.frozen? ⟨pb, 2, none⟩ = false := y3
  have ht : Turned gb (splice (bc [] ++ cur) 0 (bc [b])) w2 (w2.setCell ⟨gb, 0, none⟩ (.int .u8 (b.toNat : Int))).drew := ⟨HG.out.1.row, HG.out.1.other, HG.out.1.size, HG.out.1.io⟩
  clear y1 y2 y3
  generalize (w2.setCell ⟨gb, 0, none⟩ (.int .u8 (b.toNat : Int))).drew = W2 at *
  have HT : Hid (Turned gb (splice (bc [] ++ cur) 0 (bc [b])) w2 W2) := ht
  clear ht c0 c1 c2
  go_wp2
  go_ret
  have hfin := HB.out.1.filled (news := [b]) HG.out.2 (by have := HG.out.2; simp at this ⊢; omega) HT.out
  have e : ((([] ++ [b] : List UInt8).length : Nat) : Int) = 1 := by simp
  rw [e, List.nil_append] at hfin
  exact ⟨rfl, v2, hfin.1, HB.out.2.trans hfin.2⟩

/-- WriteByte. -/
theorem byte_any {w : World} {B pb gb pw : Nat} {out pend : List UInt8} {v : Value} (b : UInt8) (x : Int) (hx : x = (b.toNat : Int)) (h : Buf w B pb gb pw out pend v) (hlim : out.length + 4096 ≤ 140737488355328) :
    Calls Ybad.prog 15 #[.pointer (some ⟨pb, 0, none⟩), .int .u8 x] w fun e w' => e = .returned .nilIface ∧ ∃ out' pend' v', Buf w' B pb gb pw out' pend' v' ∧ out' ++ pend' = out ++ pend ++ [b] ∧ Fr pb gb pw v v' w w' := by
  have hl := h.le
  by_cases h1 : pend.length < 4096
  · refine (byte_fits b x hx h h1).mono ?_
    rintro e w' ⟨rfl, hb, hf⟩
    exact ⟨rfl, _, _, _, hb, by simp, hf⟩
  · refine (byte_full b x hx h (by omega) hlim).mono ?_
    rintro e w' ⟨rfl, v', hb, hf⟩
    exact ⟨rfl, _, _, _, hb, by simp, hf⟩
end Go.Proofs.YbulkcxvaDoor
