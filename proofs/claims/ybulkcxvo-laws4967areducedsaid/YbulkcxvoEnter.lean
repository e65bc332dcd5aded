/-
  components' closure 'enter'.
-/
import Derived.Test.YbulkcxvoTm
namespace Go.Proofs.Ybulkcxvo
open Go.RowKit

theorem info90 : (Yba.prog.info? 90).map (fun i => (i.zero, i.size, i.bytes)) = some (some (.agg #[.int .i64 0, .int .i64 0]), 2, 16) := by kernel_rfl
section tm
variable {w0 w : World} {n : Nat} {vs vp vz : Value} {s : St}
theorem Tm.c2 (h : Tm w0 w n vs vp vz s) : w.cell? ⟨w0.heap.size + 2, 0, none⟩ = some (.slice (some ⟨w0.heap.size + 1, 0, none⟩) n n) := by rw [cell_of_row _ _ _ _ _ _ (h.obj 2 (by omega))]; rfl
theorem Tm.c4 (h : Tm w0 w n vs vp vz s) : w.cell? ⟨w0.heap.size + 4, 0, none⟩ = some (.slice (some ⟨w0.heap.size + 3, 0, none⟩) n n) := by rw [cell_of_row _ _ _ _ _ _ (h.obj 4 (by omega))]; rfl
theorem Tm.c6 (h : Tm w0 w n vs vp vz s) : w.cell? ⟨w0.heap.size + 6, 0, none⟩ = some (.slice (some ⟨w0.heap.size + 5, 0, none⟩) n n) := by rw [cell_of_row _ _ _ _ _ _ (h.obj 6 (by omega))]; rfl
theorem Tm.c7 (h : Tm w0 w n vs vp vz s) : w.cell? ⟨w0.heap.size + 7, 0, none⟩ = some vs := by rw [cell_of_row _ _ _ _ _ _ (h.obj 7 (by omega))]; rfl
theorem Tm.c8 (h : Tm w0 w n vs vp vz s) : w.cell? ⟨w0.heap.size + 8, 0, none⟩ = some vp := by rw [cell_of_row _ _ _ _ _ _ (h.obj 8 (by omega))]; rfl
theorem Tm.c9 (h : Tm w0 w n vs vp vz s) : w.cell? ⟨w0.heap.size + 9, 0, none⟩ = some (.int .i64 (s.vis : Int)) := by rw [cell_of_row _ _ _ _ _ _ (h.obj 9 (by omega))]; rfl
theorem Tm.f (h : Tm w0 w n vs vp vz s) (i j : Nat) (hi : i < 10) : w.frozen? ⟨w0.heap.size + i, j, none⟩ = false := by
  have := h.obj i hi
  match i, hi with
  | 0, _ => exact frozen_of_row _ _ _ _ _ this
  | 1, _ => exact frozen_of_row _ _ _ _ _ this
  | 2, _ => exact frozen_of_row _ _ _ _ _ this
  | 3, _ => exact frozen_of_row _ _ _ _ _ this
  | 4, _ => exact frozen_of_row _ _ _ _ _ this
  | 5, _ => exact frozen_of_row _ _ _ _ _ this
  | 6, _ => exact frozen_of_row _ _ _ _ _ this
  | 7, _ => exact frozen_of_row _ _ _ _ _ this
  | 8, _ => exact frozen_of_row _ _ _ _ _ this
  | 9, _ => exact frozen_of_row _ _ _ _ _ this
end tm

/-- From w to W nothing turned but the row of v, which v' now owns. -/
structure Gx (v v' : Value) (w W : World) : Prop where
  os : W.os = w.os
  tape : W.tape = w.tape
  output : W.output = w.output
  size : w.heap.size ≤ W.heap.size
  block : ∀ b, b < w.heap.size → v.ownBlock ≠ some b → W.heap[b]? = w.heap[b]?
  at_ : v'.ownBlock = v.ownBlock ∨ ∀ g, v'.ownBlock = some g → w.heap.size ≤ g
theorem Gx.below {v v' : Value} {w W : World} {B : Nat} (h : Gx v v' w W) (hB : B ≤ w.heap.size) (hv : ∀ g, v.ownBlock = some g → B ≤ g) : Below B w W :=
  ⟨h.os, h.tape, h.output, h.size, fun b hb => h.block b (by omega) (fun e => by have := hv b e; omega)⟩
theorem wpList_push {ops : Array Oper} {rest : List Oper} {o : Oper} {a : Act} {Q : Exit → Act → World → Prop} {w1 : World} (hgd : o.guard = none) (sx xx : Operand) (ho : o.op = .call { callee := .builtin .append, args := #[sx, xx], argTypes := #[34, 34] })
    (B : Nat) (v : Value) (l : List Nat) (u : Nat) (hs : a.eval sx = v) (H : Nat) (hH : w1.heap.size = H) (hx : a.eval xx = .slice (some ⟨H, 0, none⟩) 1 1) (hown : w1.ownsRow B 3 1 v l.length (ic l)) (hB : B ≤ w1.heap.size) (hlim : l.length ≤ 300000)
    (h : ∀ g cap W, W.ownsRow B 3 1 (.slice (some ⟨g, 0, none⟩) (l.length + 1) cap) (l ++ [u]).length (ic (l ++ [u])) → Gx v (.slice (some ⟨g, 0, none⟩) (l.length + 1) cap) w1 W → wpList Yba.prog ops Q rest (a.put o.dst (.slice (some ⟨g, 0, none⟩) (l.length + 1) cap)) W) :
    wpList Yba.prog ops Q (o :: rest) a (w1.alloc (.cells #[.int .i64 (u : Int)] 3)) := by
  obtain ⟨i0, hi, hz0, hz1, hz2⟩ := info_parts info3
  subst hH
  refine wpList_append_lies (w1.alloc (.cells #[.int .i64 (u : Int)] 3)) hgd sx xx 34 ho B 3 i0 _ 1 8 Yba.underlying34 hi hz0 hz1 hz2 rfl (by omega) v l.length (ic l) hs (hown.alloc _) ⟨w1.heap.size, 0, none⟩ 1 1 [.int .i64 (u : Int)] hx rfl ?_ ?_ (by omega) (by unfold maxLen; omega) (by omega) (by simp; omega) (w1.heap.size + 1) (by simp) ?_
  · intro j x hj
    have hl := (List.getElem?_eq_some_iff.1 hj).1
    obtain rfl : j = 0 := by simpa using hl
    rw [Addr.add_mid, cell_of_row _ _ _ _ _ _ (heap_alloc_new w1 _)]
    simpa using hj
  · intro x hx
    rw [List.mem_singleton] at hx
    subst hx; rfl
  · intro g cap W h1 h2 h3 _
    refine h g cap W ?_ ⟨h2.os, h2.tape, h2.output, Nat.le_trans (by simp) h2.size, fun b hb hne => ?_, ?_⟩
    · rw [ic_append, List.length_append, List.length_singleton]; exact h1
    · rw [h2.block b (by simp; omega) (fun e => hne e.symm), Below.heap_alloc _ _ _ hb]
    · rcases h3 with h3 | h3
      · exact .inl h3.symm
      · refine .inr fun g' e => ?_
        have : g = g' := by simpa [Value.ownBlock] using e
        omega
theorem wpList_pushP {ops : Array Oper} {rest : List Oper} {o : Oper} {a : Act} {Q : Exit → Act → World → Prop} {w1 : World} (hgd : o.guard = none) (sx xx : Operand) (ho : o.op = .call { callee := .builtin .append, args := #[sx, xx], argTypes := #[88, 88] })
    (B : Nat) (v : Value) (l : List (Nat × Nat)) (u k : Nat) (hs : a.eval sx = v) (H : Nat) (hH : w1.heap.size = H) (hx : a.eval xx = .slice (some ⟨H, 0, none⟩) 1 1) (hown : w1.ownsRow B 90 2 v l.length (pc l)) (hB : B ≤ w1.heap.size) (hlim : l.length ≤ 300000)
    (h : ∀ g cap W, W.ownsRow B 90 2 (.slice (some ⟨g, 0, none⟩) (l.length + 1) cap) (l ++ [(u, k)]).length (pc (l ++ [(u, k)])) → Gx v (.slice (some ⟨g, 0, none⟩) (l.length + 1) cap) w1 W → wpList Yba.prog ops Q rest (a.put o.dst (.slice (some ⟨g, 0, none⟩) (l.length + 1) cap)) W) :
    wpList Yba.prog ops Q (o :: rest) a (w1.alloc (.cells #[.int .i64 (u : Int), .int .i64 (k : Int)] 90)) := by
  obtain ⟨i0, hi, hz0, hz1, hz2⟩ := info_parts info90
  subst hH
  refine wpList_append_lies (w1.alloc (.cells #[.int .i64 (u : Int), .int .i64 (k : Int)] 90)) hgd sx xx 88 ho B 90 i0 _ 2 16 Yba.underlying88 hi hz0 hz1 hz2 rfl (by omega) v l.length (pc l) hs (hown.alloc _) ⟨w1.heap.size, 0, none⟩ 1 1 [.int .i64 (u : Int), .int .i64 (k : Int)] hx rfl ?_ ?_ (by omega) (by unfold maxLen; omega) (by omega) (by simp; omega) (w1.heap.size + 1) (by simp) ?_
  · intro j x hj
    rw [Addr.add_mid, cell_of_row _ _ _ _ _ _ (heap_alloc_new w1 _)]
    simpa using hj
  · intro x hx
    simp at hx
    rcases hx with rfl | rfl <;> rfl
  · intro g cap W h1 h2 h3 _
    refine h g cap W ?_ ⟨h2.os, h2.tape, h2.output, Nat.le_trans (by simp) h2.size, fun b hb hne => ?_, ?_⟩
    · rw [pc_append, List.length_append, List.length_singleton]; exact h1
    · rw [h2.block b (by simp; omega) (fun e => hne e.symm), Below.heap_alloc _ _ _ hb]
    · rcases h3 with h3 | h3
      · exact .inl h3.symm
      · refine .inr fun g' e => ?_
        have : g = g' := by simpa [Value.ownBlock] using e
        omega

theorem Tm.ownGe {w0 w : World} {n : Nat} {vs vp vz : Value} {s : St} (h : Tm w0 w n vs vp vz s) : (∀ g, vs.ownBlock = some g → w0.heap.size ≤ g) ∧ (∀ g, vp.ownBlock = some g → w0.heap.size ≤ g) ∧ (∀ g, vz.ownBlock = some g → w0.heap.size ≤ g) :=
  ⟨fun g e => by have := (own_ge h.stk g e).1; omega, fun g e => by have := (own_ge h.path g e).1; omega, fun g e => by have := (own_ge h.size g e).1; omega⟩
theorem Tm.pushed {w0 w W : World} {n : Nat} {vs vp vz v' : Value} {s : St} {l : List Nat} (h : Tm w0 w n vs vp vz s) (hg : Gx vs v' w W) (ho : W.ownsRow (w0.heap.size + 10) 3 1 v' l.length (ic l)) :
    Tm w0 (W.setCell ⟨w0.heap.size + 7, 0, none⟩ v') n v' vp vz { s with stk := l } ∧ W.cell? ⟨w0.heap.size + 7, 0, none⟩ = some vs ∧ W.frozen? ⟨w0.heap.size + 7, 0, none⟩ = false := by
  have hB := h.Bw
  have e7 : W.heap[w0.heap.size + 7]? = some (.cells #[vs] 34 (0, 0)) := (hg.block _ (by omega) (fun e => by have := (own_ge h.stk _ e).1; omega)).trans (h.obj 7 (by omega))
  exact ⟨h.stkTo v' l (hg.below (by omega) h.ownGe.1) hg.size hg.block ho hg.at_, by rw [cell_of_row _ _ _ _ _ _ e7]; rfl, frozen_of_row _ _ _ _ _ e7⟩
theorem Tm.pushedP {w0 w W : World} {n : Nat} {vs vp vz v' : Value} {s : St} {l : List (Nat × Nat)} (h : Tm w0 w n vs vp vz s) (hg : Gx vp v' w W) (ho : W.ownsRow (w0.heap.size + 10) 90 2 v' l.length (pc l)) :
    Tm w0 (W.setCell ⟨w0.heap.size + 8, 0, none⟩ v') n vs v' vz { s with path := l } ∧ W.cell? ⟨w0.heap.size + 8, 0, none⟩ = some vp ∧ W.frozen? ⟨w0.heap.size + 8, 0, none⟩ = false := by
  have hB := h.Bw
  have e8 : W.heap[w0.heap.size + 8]? = some (.cells #[vp] 88 (0, 0)) := (hg.block _ (by omega) (fun e => by have := (own_ge h.path _ e).1; omega)).trans (h.obj 8 (by omega))
  exact ⟨h.pathTo v' l (hg.below (by omega) h.ownGe.2.1) hg.size hg.block ho hg.at_, by rw [cell_of_row _ _ _ _ _ _ e8]; rfl, frozen_of_row _ _ _ _ _ e8⟩

set_option maxRecDepth 100000 in
set_option maxHeartbeats 1000000 in
theorem enter_any {w0 w : World} {n u : Nat} {vs vp vz : Value} {s : St} (h : Tm w0 w n vs vp vz s) (hu : u < n) (hn : n ≤ 256) (hv : s.vis ≤ 300000) (hs : s.stk.length ≤ 300000) (hp : s.path.length ≤ 300000) :
    Calls Yba.prog 18 #[.int .i64 (u : Int), .pointer (some ⟨w0.heap.size + 9, 0, none⟩), .pointer (some ⟨w0.heap.size + 2, 0, none⟩), .pointer (some ⟨w0.heap.size + 4, 0, none⟩), .pointer (some ⟨w0.heap.size + 7, 0, none⟩), .pointer (some ⟨w0.heap.size + 6, 0, none⟩), .pointer (some ⟨w0.heap.size + 8, 0, none⟩)] w
      fun e w' => e = .returned (.tuple #[]) ∧ ∃ vs' vp', Tm w0 w' n vs' vp' vz (s.enter s.path u) := by
  have hui : (u : Int) < (n : Int) := by omega
  have hni : (n : Int) ≤ 256 := by omega
  have hvi : (s.vis : Int) ≤ 300000 := by omega
  have c9 := h.c9
  have f9 := h.f 9 0 (by omega)
  have h1 := h.setVis (s.vis + 1)
  simp only [Int.natCast_add, Int.cast_ofNat_Int] at h1
  have d2 := h1.c2
  have d4 := h1.c4
  have d9 := h1.c9
  have r1 := h1.rIdx.cell hu
  have r3 := h1.rLow.cell hu
  have z1 := h1.f 1 u (by omega)
  have z3 := h1.f 3 u (by omega)
  have H1 : Hid (Tm w0 (w.setCell ⟨w0.heap.size + 9, 0, none⟩ (.int .i64 ((s.vis : Int) + 1))) n vs vp vz { s with vis := s.vis + 1 }) := h1
  simp only [Int.natCast_add, Int.cast_ofNat_Int] at d9
  go_enter Yba.func18, Yba.ntmps18
  go_wp2
  obtain ⟨W, hW⟩ : ∃ W, W = w.setCell ⟨w0.heap.size + 9, 0, none⟩ (.int .i64 ((s.vis : Int) + 1)) := ⟨_, rfl⟩
  rw [← hW] at H1 d2 d4 d9 r1 r3 z1 z3 ⊢
  clear hW h1 c9 f9 h
  go_region_held3 (fun w' => w'.cell? ⟨w0.heap.size + 2, 0, none⟩ = some (.slice (some ⟨w0.heap.size + 1, 0, none⟩) n n) ∧ w'.cell? ⟨w0.heap.size + 4, 0, none⟩ = some (.slice (some ⟨w0.heap.size + 3, 0, none⟩) n n) ∧ w'.cell? ⟨w0.heap.size + 9, 0, none⟩ = some (.int .i64 ((s.vis : Int) + 1))) (go_keep) (fail)
  have h2 := ((H1.out.setIdx u (s.vis + 1)).setLow u (s.vis + 1)).same (W := ((W.setCell ⟨w0.heap.size + 1, u, none⟩ (.int .i64 ((s.vis + 1 : Nat) : Int))).setCell ⟨w0.heap.size + 3, u, none⟩ (.int .i64 ((s.vis + 1 : Nat) : Int))).drew) rfl rfl rfl rfl
  simp only [Int.natCast_add, Int.cast_ofNat_Int] at h2
  obtain ⟨W2, hW2⟩ : ∃ W2, W2 = ((W.setCell ⟨w0.heap.size + 1, u, none⟩ (.int .i64 ((s.vis : Int) + 1))).setCell ⟨w0.heap.size + 3, u, none⟩ (.int .i64 ((s.vis : Int) + 1))).drew := ⟨_, rfl⟩
  rw [← hW2] at h2 ⊢
  have e7 := h2.c7
  have HX : Hid (_ ∧ _) := ⟨h2.stk, h2.Bw⟩
  have H2 : Hid (_ ∧ True) := ⟨h2, trivial⟩
  clear hW2 h2 d2 d4 d9 r1 r3 z1 z3
  go_wp2_with (at_builtin; first | (refine wpList_push rfl (.tmp 18) (.tmp 20) rfl (w0.heap.size + 10) vs s.stk u rfl W2.heap.size rfl rfl HX.out.1 HX.out.2 hs ?_; intro g cap W3 ho3 hg3; have h3 := H2.out.1.pushed hg3 ho3; have x1 := h3.2.1; have x2 := h3.2.2; have x3 := h3.1.c6; have x4 := h3.1.rOn.cell hu; have x5 := h3.1.f 5 u (by omega); have h4 := h3.1.setOn u true; have y8 := h4.c8; have HP : Hid (_ ∧ _) := ⟨h4.path, h4.Bw⟩; have H4 : Hid (_ ∧ True) := ⟨h4, trivial⟩; clear h3 h4 ho3 hg3) | (refine wpList_pushP rfl (.tmp 25) (.tmp 28) rfl (w0.heap.size + 10) vp s.path u 0 rfl W3.heap.size (by simp) rfl HP.out.1 HP.out.2 hp ?_; intro g2 cap2 W5 ho5 hg5; have h5 := H4.out.1.pushedP hg5 ho5; have z1 := h5.2.1; have z2 := h5.2.2; have H5 : Hid (_ ∧ True) := ⟨h5.1, trivial⟩; clear h5 ho5 hg5))
  go_end0
  exact ⟨rfl, _, _, H5.out.1⟩
end Go.Proofs.Ybulkcxvo
