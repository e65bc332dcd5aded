/-
  Write, at no more than a bufferful.
-/
import Derived.Test.YbulkcxvaDoorFlush
import Derived.Test.YbulkcxvaDoorCopy
namespace Go.Proofs.YbulkcxvaDoor
open Go.RowKit
attribute [local go_sem ↓] Go.wp_at_zero Go.wp_at_succ

theorem flush_any {w : World} {B pb gb pw : Nat} {out pend : List UInt8} {v : Value} (h : Buf w B pb gb pw out pend v) (hlim : out.length + pend.length ≤ 140737488355328) :
    Calls Ybad.prog 7 #[.pointer (some ⟨pb, 0, none⟩)] w fun e w' => e = .returned .nilIface ∧ ∃ v', Buf w' B pb gb pw (out ++ pend) [] v' ∧ Fr pb gb pw v v' w w' := by
  by_cases hp : 0 < pend.length
  · exact flush_some h hp hlim
  · obtain rfl : pend = [] := List.eq_nil_of_length_eq_zero (by omega)
    refine (flush_none h).mono ?_
    rintro e w' ⟨rfl, rfl⟩
    exact ⟨rfl, v, by simpa using h, Fr.refl _ _ _ _ _⟩

/-- What is copied into the buffer and counted. -/
theorem Buf.filled {w w1 : World} {B pb gb pw : Nat} {out pend news : List UInt8} {v : Value} {cur : List Value} (h : Buf w B pb gb pw out pend v)
    (hc : pend.length + cur.length = 4096) (hn : news.length ≤ cur.length)
    (ht : Turned gb (splice (bc pend ++ cur) pend.length (bc news)) w w1) :
    Buf (w1.setCell ⟨pb, 2, none⟩ (.int .i64 ((pend ++ news).length : Int))) B pb gb pw out (pend ++ news) v ∧ Fr pb gb pw v v w (w1.setCell ⟨pb, 2, none⟩ (.int .i64 ((pend ++ news).length : Int))) := by
  obtain ⟨h1, h2, h3, h4⟩ := ht
  have b1 : w1.heap[pb]? = _ := (h2 pb h.pbgb).trans h.hb
  have hsp : splice (bc pend ++ cur) pend.length (bc news) = bc (pend ++ news) ++ cur.drop news.length := by
    have e1 : (bc pend ++ cur).take pend.length = bc pend := List.take_left' (bc_length pend)
    have e2 : (bc pend ++ cur).drop (pend.length + (bc news).length) = cur.drop news.length := by
      rw [List.drop_append, bc_length, bc_length, List.drop_of_length_le (by rw [bc_length]; omega)]
      simp
    rw [splice, e1, e2, bc_append, List.append_assoc]
  refine ⟨⟨?_, ⟨cur.drop news.length, ?_, by simp; omega⟩, ?_, ?_, h.pbB, h.gbB, h.pwB, by simp [h3]; exact h.Bw⟩, ⟨h4.1, h4.2.1, h4.2.2, by simp [h3], ?_, .inl rfl⟩⟩
  · rw [heap_setCell_same _ _ _ _ _ _ b1]; rfl
  · rw [heap_setCell_other _ _ _ _ (by exact Ne.symm h.pbgb), h1, hsp]
  · rw [heap_setCell_other _ _ _ _ (by exact Ne.symm h.pbpw), h2 pw (Ne.symm h.gbpw)]; exact h.hw
  · refine ownsRow_setCell_other ?_ (h.nown h.pbB) _
    obtain ⟨o1, o2⟩ := h.own
    refine ⟨o1, ?_⟩
    rcases o2 with o2 | ⟨g, cap, cu, e, hB, hh, r⟩
    · exact .inl o2
    · have hg' : g ≠ gb := by have := h.gbB; omega
      exact .inr ⟨g, cap, cu, e, hB, (h2 g hg').trans hh, r⟩
  · intro b hb k1 k2 k3 k4
    rw [heap_setCell_other _ _ _ _ (by exact k2)]
    exact h2 b k1

set_option maxRecDepth 100000 in
set_option maxHeartbeats 1000000 in
theorem write_fits {w : World} {B pb gb pw sb so m c : Nat} {out pend news : List UInt8} {v : Value} (h : Buf w B pb gb pw out pend v) (hm : news.length = m) (hm0 : 0 < m) (hfit : pend.length + m ≤ 4096)
    (hsrc : ∀ j u, (bc news)[j]? = some u → w.cell? ⟨sb, so + j, none⟩ = some u) :
    Calls Ybad.prog 12 #[.pointer (some ⟨pb, 0, none⟩), .slice (some ⟨sb, so, none⟩) m c] w fun e w' => e = .returned (.tuple #[.int .i64 (m : Int), .nilIface]) ∧ Buf w' B pb gb pw out (pend ++ news) v ∧ Fr pb gb pw v v w w' := by
  have c0 := h.c0
  have c1 := h.c1
  have c2 := h.c2
  have hl := h.le
  have H : Hid (Buf w B pb gb pw out pend v) := h
  have HS : Hid (∀ j u, (bc news)[j]? = some u → w.cell? ⟨sb, so + j, none⟩ = some u) := hsrc
  clear h hsrc
  generalize hk' : pend.length = k at *
  have hk : (k : Int) < 4096 := by omega
  have hkk : k < 4096 := by omega
  have hfit' : decide (4096 - (k : Int) < (m : Int)) = false := by simp; omega
  go_enter Ybad.func12, Ybad.ntmps12
  go_wp2
  refine wp_loop_rounds 1 ?_
  rw [rounds_succ]
  go_wp2_with fail
  refine (available_any H.out).mono ?_
  rw [hk']
  rintro e w1 ⟨rfl, q, rfl⟩
  go_wp2_with fail
  obtain ⟨cur, hg, hcl⟩ := H.out.hg
  have HG : Hid (w.heap[gb]? = some (.cells (bc pend ++ cur).toArray 5 (0, 0))) := hg
  clear hg
  rw [hk'] at hcl
  have a1 : (bc news).length = Nat.min m (4096 - k) := by rw [bc_length, hm]; exact (Nat.min_eq_left (by omega)).symm
  have a2 : ∀ j v, (bc news)[j]? = some v → w.cell? ((⟨sb, so, none⟩ : Addr).add j) = some v := fun j v hj => by rw [WideShapes.add_plain]; exact HS.out j v hj
  have n1 : (k : Int) ≤ 4096 := by omega
  have n2 : ¬ (4096 = k) := by omega
  have n3 : ¬ (4096 ≤ k) := by omega
  have a3 : k + (bc news).length ≤ (bc pend ++ cur).length := by simp [bc_length, hk']; omega
  have HA : Hid (_ ∧ _ ∧ _) := ⟨a1, a2, a3⟩
  clear a1 a2 a3
  go_region_held3 (fun w' => w'.cell? ⟨pb, 1, none⟩ = some (.slice (some ⟨gb, 0, none⟩) 4096 4096) ∧ w'.cell? ⟨pb, 2, none⟩ = some (.int .i64 (k : Int))) (go_keep)
    ((refine step_copy_kept (by rfl) (.tmp 80) (.tmp 81) (by rfl) (some ⟨gb, k, none⟩) (some ⟨sb, so, none⟩) (4096 - k) (4096 - k) m c (by rfl) (by rfl) gb k (bc pend ++ cur) (by exact HG.out) (bc news) HA.out.1 (fun _ => ⟨rfl, _, rfl, by exact HA.out.2.1⟩) HA.out.2.2 (bc_one _) ?_; intro w1 ht;
      have y1 : w1.cell? ⟨pb, 1, none⟩ = _ := (World.cell?_of_block (ht.other pb H.out.pbgb)).trans c1; have y2 : w1.cell? ⟨pb, 2, none⟩ = _ := (World.cell?_of_block (ht.other pb H.out.pbgb)).trans c2; have HT : Hid (Turned gb (splice (bc pend ++ cur) k (bc news)) _ w1) := ht; clear ht))
  have hbl : (bc news).length = m := by rw [bc_length, hm]
  have zf : w1.frozen? ⟨pb, 2, none⟩ = false := (World.frozen?_of_block (HT.out.other pb H.out.pbgb)).trans (H.out.fz 2)
  go_wp2
  go_ret2
  have ht : Turned gb (splice (bc pend ++ cur) pend.length (bc news)) w w1 := by rw [hk']; exact ⟨HT.out.row, HT.out.other, HT.out.size, HT.out.io⟩
  have hfin := H.out.filled (by rw [hk']; exact hcl) (by omega) ht
  have e : (((pend ++ news).length : Nat) : Int) = (k : Int) + (m : Int) := by simp [hk', hm]
  rw [e] at hfin
  exact ⟨rfl, hfin⟩
end Go.Proofs.YbulkcxvaDoor
