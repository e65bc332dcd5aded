/-
  Write, where the buffer must be flushed once.
-/
import Derived.Test.YbulkcxvaDoorWrite
namespace Go.Proofs.YbulkcxvaDoor
open Go.RowKit
attribute [local go_sem ↓] Go.wp_at_zero Go.wp_at_succ

theorem bc_take (l : List UInt8) (t : Nat) : bc (l.take t) = (bc l).take t := by simp [bc, List.map_take]
theorem bc_drop (l : List UInt8) (t : Nat) : bc (l.drop t) = (bc l).drop t := by simp [bc, List.map_drop]

set_option maxRecDepth 100000 in
set_option maxHeartbeats 2000000 in
theorem write_over {w : World} {B pb gb pw sb so m c : Nat} {out pend news : List UInt8} {v : Value} (h : Buf w B pb gb pw out pend v) (hm : news.length = m) (hm1 : m ≤ 4096) (hmc : m ≤ c) (hov : 4096 < pend.length + m) (hkk : pend.length < 4096)
    (hsrc : ∀ j u, (bc news)[j]? = some u → w.cell? ⟨sb, so + j, none⟩ = some u) (s1 : sb ≠ gb) (s2 : sb ≠ pb) (s3 : sb ≠ pw) (s4 : v.ownBlock ≠ some sb) (s5 : sb < w.heap.size) (hlim : out.length + 4096 ≤ 140737488355328) :
    Calls Ybad.prog 12 #[.pointer (some ⟨pb, 0, none⟩), .slice (some ⟨sb, so, none⟩) m c] w fun e w' => e = .returned (.tuple #[.int .i64 (m : Int), .nilIface]) ∧
      ∃ out' pend' v', Buf w' B pb gb pw out' pend' v' ∧ out' ++ pend' = out ++ pend ++ news ∧ Fr pb gb pw v v' w w' := by
  have c0 := h.c0
  have c1 := h.c1
  have c2 := h.c2
  have hl := h.le
  have H : Hid (Buf w B pb gb pw out pend v) := h
  have HS : Hid (∀ j u, (bc news)[j]? = some u → w.cell? ⟨sb, so + j, none⟩ = some u) := hsrc
  clear h hsrc
  obtain ⟨cur, hg, hcl⟩ := H.out.hg
  have HG : Hid (w.heap[gb]? = some (.cells (bc pend ++ cur).toArray 5 (0, 0))) := hg
  clear hg
  generalize hk' : pend.length = k at *
  have hk : (k : Int) < 4096 := by omega
  have hne : ((k : Int) == 0) = false := by simp; omega
  have hfit' : decide (4096 - (k : Int) < (m : Int)) = true := by simp; omega
  obtain ⟨t, ht0⟩ : ∃ t, t = 4096 - k := ⟨_, rfl⟩
  have a0 : (bc (news.take t)).length = t := by rw [bc_length, List.length_take]; omega
  have a1 : (bc (news.take t)).length = Nat.min m (4096 - k) := by rw [a0]; show t = min m (4096 - k); omega
  have a2 : ∀ j v, (bc (news.take t))[j]? = some v → w.cell? ((⟨sb, so, none⟩ : Addr).add j) = some v := fun j v hj => by
    rw [WideShapes.add_plain]
    refine HS.out j v ?_
    rw [bc_take] at hj
    rw [← hj, List.getElem?_take]
    have := bc_at (l := news.take t) (by rw [bc_take]; exact hj)
    rw [if_pos (by simp at this; omega)]
  have a3 : k + (bc (news.take t)).length ≤ (bc pend ++ cur).length := by rw [a0]; simp [bc_length, hk']; omega
  have HA : Hid (_ ∧ _ ∧ _) := ⟨a1, a2, a3⟩
  clear a1 a2 a3
  have n1 : (k : Int) ≤ 4096 := by omega
  have n2 : ¬ (4096 = k) := by omega
  have n3 : ¬ (4096 ≤ k) := by omega
  have HT0 : Hid (t = 4096 - k) := ht0
  have ht1 : t + k = 4096 := by omega
  clear ht0
  go_enter Ybad.func12, Ybad.ntmps12
  go_wp2
  refine wp_loop_rounds 2 ?_
  rw [rounds_succ]
  go_wp2_with fail
  refine (available_any H.out).mono ?_
  rw [hk']
  rintro e w1 ⟨rfl, q, rfl⟩
  go_wp2_with fail
  refine (buffered_any (H.out.drewN q)).mono ?_
  rw [hk']
  rintro e w1 ⟨rfl, hw⟩
  rw [hw]; clear hw w1
  go_wp2_with fail
  go_region_held3 (fun w' => w'.cell? ⟨pb, 1, none⟩ = some (.slice (some ⟨gb, 0, none⟩) 4096 4096) ∧ w'.cell? ⟨pb, 2, none⟩ = some (.int .i64 (k : Int))) (go_keep)
    ((refine step_copy_kept (by rfl) (.tmp 43) (.tmp 44) (by rfl) (some ⟨gb, k, none⟩) (some ⟨sb, so, none⟩) (4096 - k) (4096 - k) m c (by rfl) (by rfl) gb k (bc pend ++ cur) (by exact HG.out) (bc (news.take t)) HA.out.1 (fun _ => ⟨rfl, _, rfl, by exact HA.out.2.1⟩) HA.out.2.2 (bc_one _) ?_; intro w1 ht;
      have y1 : w1.cell? ⟨pb, 1, none⟩ = _ := (World.cell?_of_block (ht.other pb H.out.pbgb)).trans c1; have y2 : w1.cell? ⟨pb, 2, none⟩ = _ := (World.cell?_of_block (ht.other pb H.out.pbgb)).trans c2; have HT : Hid (Turned gb (splice (bc pend ++ cur) k (bc (news.take t))) _ w1) := ht; clear ht))
  have zf : w1.frozen? ⟨pb, 2, none⟩ = false := (World.frozen?_of_block (HT.out.other pb H.out.pbgb)).trans (H.out.fz 2)
  have ht : Turned gb (splice (bc pend ++ cur) pend.length (bc (news.take t))) w w1 := by rw [hk']; exact ⟨HT.out.row, HT.out.other, HT.out.size, HT.out.io⟩
  have hfin := H.out.filled (by rw [hk']; exact hcl) (by rw [List.length_take]; omega) ht
  have e : (((pend ++ news.take t).length : Nat) : Int) = (k : Int) + (t : Int) := by simp [hk']; omega
  rw [e] at hfin
  have HF : Hid (_ ∧ _) := hfin
  clear hfin e ht
  go_wp2_with fail
  refine (flush_any HF.out.1 (by simp [hk']; omega)).mono ?_
  rintro e w3 ⟨rfl, v3, hB3, hF3⟩
  have hFr := HF.out.2.trans hF3
  have HB3 : Hid (Buf w3 B pb gb pw (out ++ (pend ++ news.take t)) [] v3 ∧ Fr pb gb pw v v3 w w3) := ⟨hB3, hFr⟩
  have d0 := hB3.c0
  have d1 := hB3.c1
  have d2 : w3.cell? ⟨pb, 2, none⟩ = some (.int .i64 0) := hB3.c2
  obtain ⟨cur3, hg3, hcl3⟩ := hB3.hg
  have HG3 : Hid (w3.heap[gb]? = some (.cells (bc [] ++ cur3).toArray 5 (0, 0)) ∧ ([] : List UInt8).length + cur3.length = 4096) := ⟨hg3, hcl3⟩
  clear hg3 hcl3 hB3 hF3 hFr zf y1 y2
  obtain ⟨r, hr⟩ : ∃ r, r = m - t := ⟨_, rfl⟩
  have hmt : t + r = m := by omega
  have HR : Hid (r = m - t) := hr
  have p1 : (t : Int) ≤ (m : Int) := by omega
  have p2 : ¬ (c = t) := by omega
  have p3 : ¬ (c ≤ t) := by omega
  have p4 : (bc (news.drop t)).length = r := by rw [bc_length, List.length_drop]; omega
  have b1 : (bc (news.drop t)).length = Nat.min (m - t) 4096 := by rw [p4]; show r = min (m - t) 4096; omega
  have b2 : ∀ j u, (bc (news.drop t))[j]? = some u → w3.cell? ((⟨sb, so + t, none⟩ : Addr).add j) = some u := fun j u hj => by
    rw [WideShapes.add_plain, World.cell?_of_block (w := w) (HB3.out.2.block sb s5 s1 s2 s3 s4), Nat.add_assoc]
    refine HS.out (t + j) u ?_
    rw [bc_drop, List.getElem?_drop] at hj
    exact hj
  have b3 : 0 + (bc (news.drop t)).length ≤ (bc [] ++ cur3).length := by rw [p4]; have := HG3.out.2; simp [bc] at this ⊢; omega
  have HA3 : Hid (_ ∧ _ ∧ _) := ⟨b1, b2, b3⟩
  clear b1 b2 b3 hr
  go_wp2_with fail
  rw [rounds_succ]
  go_wp2_with fail
  refine (available_any HB3.out.1).mono ?_
  rintro e w4 ⟨rfl, q2, rfl⟩
  simp only [List.length_nil, Int.natCast_zero, Int.sub_zero]
  go_wp2_with fail
  go_region_held3 (fun w' => w'.cell? ⟨pb, 1, none⟩ = some (.slice (some ⟨gb, 0, none⟩) 4096 4096) ∧ w'.cell? ⟨pb, 2, none⟩ = some (.int .i64 0)) (go_keep)
    ((refine step_copy_kept (by rfl) (.tmp 80) (.tmp 81) (by rfl) (some ⟨gb, 0, none⟩) (some ⟨sb, so + t, none⟩) 4096 4096 (m - t) (c - t) (by rfl) (by rfl) gb 0 (bc [] ++ cur3) (by exact HG3.out.1) (bc (news.drop t)) HA3.out.1 (fun _ => ⟨rfl, _, rfl, by exact HA3.out.2.1⟩) HA3.out.2.2 (bc_one _) ?_; intro w5 ht;
      have y1 : w5.cell? ⟨pb, 1, none⟩ = _ := (World.cell?_of_block (ht.other pb H.out.pbgb)).trans d1; have y2 : w5.cell? ⟨pb, 2, none⟩ = _ := (World.cell?_of_block (ht.other pb H.out.pbgb)).trans d2; have HT5 : Hid (Turned gb (splice (bc [] ++ cur3) 0 (bc (news.drop t))) _ w5) := ht; clear ht))
  have zf : w5.frozen? ⟨pb, 2, none⟩ = false := (World.frozen?_of_block (HT5.out.other pb H.out.pbgb)).trans (HB3.out.1.fz 2)
  go_wp2
  go_ret2
  have ht5 : Turned gb (splice (bc [] ++ cur3) ([] : List UInt8).length (bc (news.drop t))) w3 w5 := ⟨HT5.out.row, HT5.out.other, HT5.out.size, HT5.out.io⟩
  have hfin := HB3.out.1.filled HG3.out.2 (by have := HG3.out.2; rw [List.length_drop]; simp at this; omega) ht5
  have e : ((([] ++ news.drop t : List UInt8).length : Nat) : Int) = (r : Int) := by simp; omega
  rw [e] at hfin
  refine ⟨?_, _, _, _, hfin.1, ?_, HB3.out.2.trans hfin.2⟩
  · have e2 : (t : Int) + (r : Int) = (m : Int) := by omega
    simp [e2]
  · simp
end Go.Proofs.YbulkcxvaDoor
