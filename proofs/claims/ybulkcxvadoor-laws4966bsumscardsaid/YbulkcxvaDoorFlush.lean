/-
  Flush, Available, Buffered.
-/
import Derived.Test.YbulkcxvaDoorState
namespace Go.Proofs.YbulkcxvaDoor
open Go.RowKit
attribute [local go_sem ↓] Go.wp_at_zero Go.wp_at_succ

theorem methodWrite (v : Value) (w : World) : (Go.method 189 26 v "Write").run Ybad.prog w = .ok (34, v) w := by kernel_rfl
theorem nilAheadWrite (a : Addr) (w : World) : (Go.nilAhead 189 26 (.pointer (some a)) "Write").run Ybad.prog w = .ok (some false) w := by kernel_rfl

section
variable {w : World} {B pb gb pw : Nat} {out pend : List UInt8} {v : Value}
theorem Buf.c0 (h : Buf w B pb gb pw out pend v) : w.cell? ⟨pb, 0, none⟩ = some .nilIface := by rw [cell_of_row _ _ _ _ _ _ h.hb]; rfl
theorem Buf.c1 (h : Buf w B pb gb pw out pend v) : w.cell? ⟨pb, 1, none⟩ = some (.slice (some ⟨gb, 0, none⟩) 4096 4096) := by rw [cell_of_row _ _ _ _ _ _ h.hb]; rfl
theorem Buf.c2 (h : Buf w B pb gb pw out pend v) : w.cell? ⟨pb, 2, none⟩ = some (.int .i64 (pend.length : Int)) := by rw [cell_of_row _ _ _ _ _ _ h.hb]; rfl
theorem Buf.c3 (h : Buf w B pb gb pw out pend v) : w.cell? ⟨pb, 3, none⟩ = some (.iface 26 (.pointer (some ⟨pw, 0, none⟩))) := by rw [cell_of_row _ _ _ _ _ _ h.hb]; rfl
theorem Buf.fz (h : Buf w B pb gb pw out pend v) (j : Nat) : w.frozen? ⟨pb, j, none⟩ = false := frozen_of_row _ _ _ _ _ h.hb
theorem Buf.le (h : Buf w B pb gb pw out pend v) : pend.length ≤ 4096 := by obtain ⟨cur, _, h2⟩ := h.hg; omega
end

section
variable {w w1 : World} {B pb gb pw : Nat} {out pend : List UInt8} {v : Value}
theorem Buf.pbpw (h : Buf w B pb gb pw out pend v) : pb ≠ pw := by
  intro e
  have h1 := h.hb
  rw [e, h.hw] at h1
  simp at h1
theorem Buf.pbgb (h : Buf w B pb gb pw out pend v) : pb ≠ gb := by
  intro e
  obtain ⟨cur, h2, _⟩ := h.hg
  have h1 := h.hb
  rw [e, h2] at h1
  simp at h1
theorem Buf.gbpw (h : Buf w B pb gb pw out pend v) : gb ≠ pw := by
  intro e
  obtain ⟨cur, h2, _⟩ := h.hg
  have h1 := h.hw
  rw [← e, h2] at h1
  simp at h1
theorem Buf.nown (h : Buf w B pb gb pw out pend v) {b : Nat} (hb : b < B) : v.ownBlock ≠ some b := by
  rcases own_form h.own with ⟨rfl, _⟩ | ⟨g, cap, rfl, hg, _⟩
  · simp [Value.ownBlock]
  · simp [Value.ownBlock]; omega
theorem Buf.src (h : Buf w B pb gb pw out pend v) : ∀ j u, (bc pend)[j]? = some u → w.cell? ⟨gb, 0 + j, none⟩ = some u := by
  intro j u hj
  obtain ⟨cur, h2, _⟩ := h.hg
  rw [Nat.zero_add, cell_of_row _ _ _ _ _ _ h2]
  have hl := bc_at hj
  simp only [List.getElem?_toArray]
  rw [List.getElem?_append_left (by rw [bc_length]; exact hl)]
  exact hj
theorem bc_nil : bc [] = [] := rfl
/-- Behind the sink's Write the struct is as it was. -/
theorem Buf.behind (h : Buf w B pb gb pw out pend v) (hk : ∀ b, b < w.heap.size → b ≠ pw → v.ownBlock ≠ some b → w1.heap[b]? = w.heap[b]?) :
    w1.heap[pb]? = w.heap[pb]? ∧ w1.heap[gb]? = w.heap[gb]? := by
  have h1 := h.pbB
  have h2 := h.gbB
  have h3 := h.Bw
  exact ⟨hk pb (by omega) h.pbpw (h.nown h1), hk gb (by omega) h.gbpw (h.nown h2)⟩
end

theorem available_any {w : World} {B pb gb pw : Nat} {out pend : List UInt8} {v : Value} (h : Buf w B pb gb pw out pend v) :
    Calls Ybad.prog 17 #[.pointer (some ⟨pb, 0, none⟩)] w fun e w' => e = .returned (.int .i64 (4096 - (pend.length : Int))) ∧ ∃ q, w' = w.drewN q := by
  have c1 := h.c1
  have c2 := h.c2
  have hl := h.le
  go_enter Ybad.func17, Ybad.ntmps17
  go_wp2
  go_quiet (fail)
  go_wp2
  go_ret
  exact ⟨rfl, _, rfl⟩

theorem buffered_any {w : World} {B pb gb pw : Nat} {out pend : List UInt8} {v : Value} (h : Buf w B pb gb pw out pend v) :
    Calls Ybad.prog 18 #[.pointer (some ⟨pb, 0, none⟩)] w fun e w' => e = .returned (.int .i64 (pend.length : Int)) ∧ w' = w := by
  have c2 := h.c2
  go_enter Ybad.func18, Ybad.ntmps18
  go_wp2
  go_ret
  exact ⟨rfl, rfl⟩

theorem flush_none {w : World} {B pb gb pw : Nat} {out : List UInt8} {v : Value} (h : Buf w B pb gb pw out [] v) :
    Calls Ybad.prog 7 #[.pointer (some ⟨pb, 0, none⟩)] w fun e w' => e = .returned .nilIface ∧ w' = w := by
  have c0 := h.c0
  have c2 := h.c2
  go_enter Ybad.func7, Ybad.ntmps7
  go_wp2
  go_ret
  exact ⟨rfl, rfl⟩

theorem flush_close {w w1 : World} {B pb gb pw : Nat} {out pend : List UInt8} {v v' : Value} (h : Buf w B pb gb pw out pend v)
    (hx : w1.heap[pw]? = some (.cells #[v'] 29 (0, 0)) ∧ w1.ownsRow B 5 1 v' (out ++ pend).length (bc (out ++ pend)) ∧ (v'.ownBlock = v.ownBlock ∨ v'.ownBlock = some w.heap.size) ∧
        w1.os = w.os ∧ w1.tape = w.tape ∧ w1.output = w.output ∧ w.heap.size ≤ w1.heap.size ∧ ∀ b, b < w.heap.size → b ≠ pw → v.ownBlock ≠ some b → w1.heap[b]? = w.heap[b]?) :
    Buf (w1.setCell ⟨pb, 2, none⟩ (.int .i64 0)) B pb gb pw (out ++ pend) [] v' ∧ Fr pb gb pw v v' w (w1.setCell ⟨pb, 2, none⟩ (.int .i64 0)) := by
  obtain ⟨x1, x2, x3, x4, x5, x6, x7, x8⟩ := hx
  have hbe := h.behind x8
  have b1 : w1.heap[pb]? = _ := hbe.1.trans h.hb
  obtain ⟨cur, g1, g2⟩ := h.hg
  have b2 : w1.heap[gb]? = _ := hbe.2.trans g1
  have hB := h.Bw
  have hpB := h.pbB
  refine ⟨⟨?_, ⟨bc pend ++ cur, ?_, by simp [bc_length]; exact g2⟩, ?_, ?_, h.pbB, h.gbB, h.pwB, by simpa using Nat.le_trans hB x7⟩, ⟨x4, x5, x6, by simpa using x7, ?_, ?_⟩⟩
  · rw [heap_setCell_same _ _ _ _ _ _ b1]; rfl
  · rw [heap_setCell_other _ _ _ _ (by exact Ne.symm h.pbgb), b2, bc_nil, List.nil_append]
  · rw [heap_setCell_other _ _ _ _ (by exact Ne.symm h.pbpw)]; exact x1
  · refine ownsRow_setCell_other x2 ?_ _
    rcases x3 with e | e
    · rw [e]; exact h.nown hpB
    · rw [e]; simp; omega
  · intro b hb h1 h2 h3 h4
    rw [heap_setCell_other _ _ _ _ (by exact h2)]
    exact x8 b hb h3 h4
  · rcases x3 with e | e
    · exact .inl e
    · exact .inr ⟨_, e, Nat.le_refl _⟩

set_option maxHeartbeats 1000000 in
theorem flush_some {w : World} {B pb gb pw : Nat} {out pend : List UInt8} {v : Value} (h : Buf w B pb gb pw out pend v) (hp : 0 < pend.length) (hlim : out.length + pend.length ≤ 140737488355328) :
    Calls Ybad.prog 7 #[.pointer (some ⟨pb, 0, none⟩)] w fun e w' => e = .returned .nilIface ∧ ∃ v', Buf w' B pb gb pw (out ++ pend) [] v' ∧ Fr pb gb pw v v' w w' := by
  have c0 := h.c0
  have c1 := h.c1
  have c2 := h.c2
  have c3 := h.c3
  have hl := h.le
  have m1 := methodWrite
  have m2 := nilAheadWrite
  have hk : (pend.length : Int) ≤ 4096 := by omega
  have hne : ((pend.length : Int) == 0) = false := by simp; intro e; simp [e] at hp
  have hlt : ¬ ((pend.length : Int) < (pend.length : Int)) := by omega
  have H : Hid (Buf w B pb gb pw out pend v) := h
  clear h
  generalize hk' : pend.length = k at *
  go_enter Ybad.func7, Ybad.ntmps7
  go_wp2
  have hsrc := H.out.src
  go_region_held3 (fun w' => w'.cell? ⟨pb, 1, none⟩ = some (.slice (some ⟨gb, 0, none⟩) 4096 4096) ∧ w'.cell? ⟨pb, 2, none⟩ = some (.int .i64 (k : Int)) ∧ w'.cell? ⟨pb, 3, none⟩ = some (.iface 26 (.pointer (some ⟨pw, 0, none⟩)))) (go_keep)
    ((go_at_call 34; refine (sink_write B pw gb 0 k 4096 v out pend _ (by exact H.out.hw) (by exact H.out.own) H.out.pwB (by exact H.out.Bw) hk' hp (by exact hsrc) hlim).mono ?_; rintro e w1 ⟨rfl, v', x1, x2, x3, x4, x5, x6, x7, x8⟩;
      have y1 : w1.cell? ⟨pb, 1, none⟩ = _ := (World.cell?_of_block (H.out.behind x8).1).trans c1; have y2 : w1.cell? ⟨pb, 2, none⟩ = _ := (World.cell?_of_block (H.out.behind x8).1).trans c2; have y3 : w1.cell? ⟨pb, 3, none⟩ = _ := (World.cell?_of_block (H.out.behind x8).1).trans c3;
      have y0 : w1.cell? ⟨pb, 0, none⟩ = _ := (World.cell?_of_block (H.out.behind x8).1).trans c0;
      have HX : Hid (_ ∧ _ ∧ _ ∧ _ ∧ _ ∧ _ ∧ _ ∧ _) := ⟨x1, x2, x3, x4, x5, x6, x7, x8⟩; clear x1 x2 x3 x4 x5 x6 x7 x8))
  have zf : w1.frozen? ⟨pb, 2, none⟩ = false := (World.frozen?_of_block (H.out.behind HX.out.2.2.2.2.2.2.2).1).trans (H.out.fz 2)
  go_wp2
  go_ret
  exact ⟨rfl, v', flush_close H.out HX.out⟩
end Go.Proofs.YbulkcxvaDoor
