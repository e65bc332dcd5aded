/-
  Write, where the buffer is full; and Write, whatever is pending.
-/
import Derived.Test.YbulkcxvaDoorOver
namespace Go.Proofs.YbulkcxvaDoor
open Go.RowKit
attribute [local go_sem ↓] Go.wp_at_zero Go.wp_at_succ

set_option maxRecDepth 100000 in
set_option maxHeartbeats 2000000 in
theorem write_full {w : World} {B pb gb pw sb so m c : Nat} {out pend news : List UInt8} {v : Value} (h : Buf w B pb gb pw out pend v) (hm : news.length = m) (hm0 : 0 < m) (hm1 : m ≤ 4096) (hmc : m ≤ c) (hk' : pend.length = 4096)
    (hsrc : ∀ j u, (bc news)[j]? = some u → w.cell? ⟨sb, so + j, none⟩ = some u) (s1 : sb ≠ gb) (s2 : sb ≠ pb) (s3 : sb ≠ pw) (s4 : v.ownBlock ≠ some sb) (s5 : sb < w.heap.size) (hlim : out.length + 4096 ≤ 140737488355328) :
    Calls Ybad.prog 12 #[.pointer (some ⟨pb, 0, none⟩), .slice (some ⟨sb, so, none⟩) m c] w fun e w' => e = .returned (.tuple #[.int .i64 (m : Int), .nilIface]) ∧
      ∃ out' pend' v', Buf w' B pb gb pw out' pend' v' ∧ out' ++ pend' = out ++ pend ++ news ∧ Fr pb gb pw v v' w w' := by
  have c0 := h.c0
  have c1 := h.c1
  have c2 : w.cell? ⟨pb, 2, none⟩ = some (.int .i64 4096) := by rw [h.c2, hk']; rfl
  have H : Hid (Buf w B pb gb pw out pend v) := h
  have HS : Hid (∀ j u, (bc news)[j]? = some u → w.cell? ⟨sb, so + j, none⟩ = some u) := hsrc
  have hmm : decide ((0 : Int) < (m : Int)) = true := by simp; omega
  clear h hsrc
  go_enter Ybad.func12, Ybad.ntmps12
  go_wp2
  refine wp_loop_rounds 2 ?_
  rw [rounds_succ]
  go_wp2_with fail
  refine (available_any H.out).mono ?_
  rw [hk']
  rintro e w1 ⟨rfl, q, rfl⟩
  go_wp2_with fail
  refine (buffered_any (H.out.drewN q)).mono ?_
  rw [hk']
  rintro e w1 ⟨rfl, hw⟩
  rw [hw]; clear hw w1
  go_wp2_with fail
  obtain ⟨cur, hg, hcl⟩ := H.out.hg
  have HG : Hid (w.heap[gb]? = some (.cells (bc pend ++ cur).toArray 5 (0, 0))) := hg
  clear hg
  have a1 : (bc []).length = Nat.min m 0 := by simp [bc]
  have a3 : 4096 + (bc []).length ≤ (bc pend ++ cur).length := by simp [bc, hk']
  have HA : Hid (_ ∧ _) := ⟨a1, a3⟩
  clear a1 a3
  go_region_held3 (fun w' => w'.cell? ⟨pb, 1, none⟩ = some (.slice (some ⟨gb, 0, none⟩) 4096 4096) ∧ w'.cell? ⟨pb, 2, none⟩ = some (.int .i64 4096)) (go_keep)
    ((refine step_copy_kept (by rfl) (.tmp 43) (.tmp 44) (by rfl) _ (some ⟨sb, so, none⟩) 0 _ m c (by rfl) (by rfl) gb 4096 (bc pend ++ cur) (by exact HG.out) (bc []) HA.out.1 (fun h => absurd h (by decide)) HA.out.2 (bc_one _) ?_; intro w1 ht;
      have y1 : w1.cell? ⟨pb, 1, none⟩ = _ := (World.cell?_of_block (ht.other pb H.out.pbgb)).trans c1; have y2 : w1.cell? ⟨pb, 2, none⟩ = _ := (World.cell?_of_block (ht.other pb H.out.pbgb)).trans c2; have HT : Hid (Turned gb (splice (bc pend ++ cur) 4096 (bc [])) _ w1) := ht; clear ht))
  have zf : w1.frozen? ⟨pb, 2, none⟩ = false := (World.frozen?_of_block (HT.out.other pb H.out.pbgb)).trans (H.out.fz 2)
  have ht : Turned gb (splice (bc pend ++ cur) pend.length (bc [])) w w1 := by rw [hk']; exact ⟨HT.out.row, HT.out.other, HT.out.size, HT.out.io⟩
  have hfin := H.out.filled hcl (by simp) ht
  have e : (((pend ++ []).length : Nat) : Int) = 4096 := by simp [hk']
  rw [e, List.append_nil] at hfin
  have HF : Hid (_ ∧ _) := hfin
  have hbl : (bc []).length = 0 := rfl
  clear hfin e ht
  go_wp2_with fail
  refine (flush_any HF.out.1 (by rw [hk']; omega)).mono ?_
  rintro e w3 ⟨rfl, v3, hB3, hF3⟩
  have hFr := HF.out.2.trans hF3
  have HB3 : Hid (Buf w3 B pb gb pw (out ++ pend) [] v3 ∧ Fr pb gb pw v v3 w w3) := ⟨hB3, hFr⟩
  have d0 := hB3.c0
  have d1 := hB3.c1
  have d2 : w3.cell? ⟨pb, 2, none⟩ = some (.int .i64 0) := hB3.c2
  obtain ⟨cur3, hg3, hcl3⟩ := hB3.hg
  have HG3 : Hid (w3.heap[gb]? = some (.cells (bc [] ++ cur3).toArray 5 (0, 0)) ∧ ([] : List UInt8).length + cur3.length = 4096) := ⟨hg3, hcl3⟩
  clear hg3 hcl3 hB3 hF3 hFr zf y1 y2
  have b1 : (bc news).length = Nat.min m 4096 := by rw [bc_length, hm]; exact (Nat.min_eq_left hm1).symm
  have b2 : ∀ j u, (bc news)[j]? = some u → w3.cell? ((⟨sb, so, none⟩ : Addr).add j) = some u := fun j u hj => by
    rw [WideShapes.add_plain, World.cell?_of_block (w := w) (HB3.out.2.block sb s5 s1 s2 s3 s4)]
    exact HS.out j u hj
  have b3 : 0 + (bc news).length ≤ (bc [] ++ cur3).length := by rw [bc_length, hm]; have := HG3.out.2; simp [bc] at this ⊢; omega
  have HA3 : Hid (_ ∧ _ ∧ _) := ⟨b1, b2, b3⟩
  have hbn : (bc news).length = m := by rw [bc_length, hm]
  have h46 : decide ((4096 : Int) < (m : Int)) = false := by simp; omega
  clear b1 b2 b3
  go_wp2_with fail
  rw [rounds_succ]
  go_wp2_with fail
  refine (available_any HB3.out.1).mono ?_
  rintro e w4 ⟨rfl, q2, rfl⟩
  simp only [List.length_nil, Int.natCast_zero, Int.sub_zero]
  go_wp2_with fail
  go_region_held3 (fun w' => w'.cell? ⟨pb, 1, none⟩ = some (.slice (some ⟨gb, 0, none⟩) 4096 4096) ∧ w'.cell? ⟨pb, 2, none⟩ = some (.int .i64 0)) (go_keep)
    ((refine step_copy_kept (by rfl) (.tmp 80) (.tmp 81) (by rfl) (some ⟨gb, 0, none⟩) (some ⟨sb, so, none⟩) 4096 4096 m c (by rfl) (by rfl) gb 0 (bc [] ++ cur3) (by exact HG3.out.1) (bc news) HA3.out.1 (fun _ => ⟨rfl, _, rfl, by exact HA3.out.2.1⟩) HA3.out.2.2 (bc_one _) ?_; intro w5 ht;
      have y1 : w5.cell? ⟨pb, 1, none⟩ = _ := (World.cell?_of_block (ht.other pb H.out.pbgb)).trans d1; have y2 : w5.cell? ⟨pb, 2, none⟩ = _ := (World.cell?_of_block (ht.other pb H.out.pbgb)).trans d2; have HT5 : Hid (Turned gb (splice (bc [] ++ cur3) 0 (bc news)) _ w5) := ht; clear ht))
  have zf : w5.frozen? ⟨pb, 2, none⟩ = false := (World.frozen?_of_block (HT5.out.other pb H.out.pbgb)).trans (HB3.out.1.fz 2)
  go_wp2
  go_ret2
  have ht5 : Turned gb (splice (bc [] ++ cur3) ([] : List UInt8).length (bc news)) w3 w5 := ⟨HT5.out.row, HT5.out.other, HT5.out.size, HT5.out.io⟩
  have hfin := HB3.out.1.filled HG3.out.2 (by have := HG3.out.2; simp at this; omega) ht5
  have e : ((([] ++ news : List UInt8).length : Nat) : Int) = (m : Int) := by simp [hm]
  rw [e] at hfin
  exact ⟨by simp, _, _, _, hfin.1, by simp, HB3.out.2.trans hfin.2⟩

/-- Write, of at most a bufferful. -/
theorem write_any {w : World} {B pb gb pw sb so m c : Nat} {out pend news : List UInt8} {v : Value} (h : Buf w B pb gb pw out pend v) (hm : news.length = m) (hm0 : 0 < m) (hm1 : m ≤ 4096) (hmc : m ≤ c)
    (hsrc : ∀ j u, (bc news)[j]? = some u → w.cell? ⟨sb, so + j, none⟩ = some u) (s1 : sb ≠ gb) (s2 : sb ≠ pb) (s3 : sb ≠ pw) (s4 : v.ownBlock ≠ some sb) (s5 : sb < w.heap.size) (hlim : out.length + 4096 ≤ 140737488355328) :
    Calls Ybad.prog 12 #[.pointer (some ⟨pb, 0, none⟩), .slice (some ⟨sb, so, none⟩) m c] w fun e w' => e = .returned (.tuple #[.int .i64 (m : Int), .nilIface]) ∧
      ∃ out' pend' v', Buf w' B pb gb pw out' pend' v' ∧ out' ++ pend' = out ++ pend ++ news ∧ Fr pb gb pw v v' w w' := by
  have hl := h.le
  by_cases h1 : pend.length + m ≤ 4096
  · refine (write_fits h hm hm0 h1 hsrc).mono ?_
    rintro e w' ⟨rfl, hb, hf⟩
    exact ⟨rfl, _, _, _, hb, by simp, hf⟩
  · by_cases h2 : pend.length = 4096
    · exact write_full h hm hm0 hm1 hmc h2 hsrc s1 s2 s3 s4 s5 hlim
    · exact write_over h hm hm1 hmc (by omega) (by omega) hsrc s1 s2 s3 s4 s5 hlim
end Go.Proofs.YbulkcxvaDoor
