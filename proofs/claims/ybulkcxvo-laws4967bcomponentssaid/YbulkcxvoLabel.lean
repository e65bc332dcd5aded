/-
  The label loop of (*graph).components, in memory: one node taken off the stack.
-/
import Derived.Test.YbulkcxvoCompsWalk
namespace Go.Proofs.Ybulkcxvo
open Go.RowKit

theorem ic_last (l : List Nat) (j : Nat) : (ic (l ++ [j]))[l.length]? = some (.int .i64 (j : Int)) := by
  rw [ic_append, List.getElem?_append_right (by rw [ic_len]; exact Nat.le_refl _), ic_len, Nat.sub_self]; rfl
theorem ic_set (l : List Nat) (j j' : Nat) : (ic (l ++ [j])).set l.length (.int .i64 (j' : Int)) = ic (l ++ [j']) := by
  rw [ic_append, ic_append, List.set_append_right _ _ (by rw [ic_len]; exact Nat.le_refl _), ic_len, Nat.sub_self]; rfl
section
variable {w0 w : World} {n : Nat} {vs vp : Value} {s : St}
theorem Tm.sizeCell {g cap j : Nat} {l : List Nat} (h : Tm w0 w n vs vp (.slice (some ⟨g, 0, none⟩) (l.length + 1) cap) s) (hl : s.size = l ++ [j]) : w.cell? ⟨g, l.length, none⟩ = some (.int .i64 (j : Int)) ∧ w.frozen? ⟨g, l.length, none⟩ = false := by
  have hs := h.size
  rw [hl, List.length_append, List.length_singleton] at hs
  exact own_cell hs (ic_last l j)
theorem Tm.sizeSet {g cap j : Nat} {l : List Nat} (h : Tm w0 w n vs vp (.slice (some ⟨g, 0, none⟩) (l.length + 1) cap) s) (hl : s.size = l ++ [j]) (j' : Nat) :
    Tm w0 (w.setCell ⟨g, l.length, none⟩ (.int .i64 (j' : Int))) n vs vp (.slice (some ⟨g, 0, none⟩) (l.length + 1) cap) { s with size := l ++ [j'] } := by
  have hs := h.size
  rw [hl, List.length_append, List.length_singleton] at hs
  have hg := own_ge h.size g rfl
  refine h.sizeTo ((Below.refl _ _).setCell (by show w0.heap.size ≤ g; omega) _) (by simp) (fun b hb hne => heap_setCell_other _ _ _ _ (fun e => hne (by rw [e]; rfl))) ?_ (.inl rfl)
  rw [List.length_append, List.length_singleton, ← ic_set l j j']
  exact own_set hs _
/-- One node taken off the stack and labelled. -/
theorem Tm.popOne {gs caps gz capz x c j : Nat} {l sz : List Nat} (h : Tm w0 w n (.slice (some ⟨gs, 0, none⟩) (l.length + 1) caps) vp (.slice (some ⟨gz, 0, none⟩) (sz.length + 1) capz) s) (hl : s.stk = l ++ [x]) (hz : s.size = sz ++ [j]) :
    Tm w0 ((((w.setCell ⟨w0.heap.size + 7, 0, none⟩ (.slice (some ⟨gs, 0, none⟩) l.length caps)).setCell ⟨w0.heap.size + 5, x, none⟩ (.bool false)).setCell ⟨w0.heap.size, x, none⟩ (.int .i64 (c : Int))).setCell ⟨gz, sz.length, none⟩ (.int .i64 ((j + 1 : Nat) : Int))) n
      (.slice (some ⟨gs, 0, none⟩) l.length caps) vp (.slice (some ⟨gz, 0, none⟩) (sz.length + 1) capz) { s with stk := l, on := upd s.on x false, comp := upd s.comp x c, size := sz ++ [j + 1] } :=
  (((h.popStk hl).setOn x false).setComp x c).sizeSet hz (j + 1)
end
/-- All taken off: the labelled state. -/
theorem label_eq {s s' : St} {front back : List Nat} {u : Nat} {pre : List (Nat × Nat)} {L : Nat → Nat} (hon : ∀ x, s'.on x = (s.on x && !decide (x ∈ back))) (hcomp : ∀ x, s'.comp x = if x ∈ back then s.size.length else s.comp x)
    (hi : s'.idx = s.idx) (hl : s'.low = L) (hp : s'.path = pre) (hv : s'.vis = s.vis) :
    ({ s' with stk := front, on := upd s'.on u false, comp := upd s'.comp u s.size.length, size := s.size ++ [back.length + 1] } : St) = s.label pre L front (u :: back) := by
  have h1 : upd s'.on u false = fun x => s.on x && !decide (x ∈ u :: back) := by
    funext x
    by_cases e : x = u
    · rw [e, upd_same]; simp
    · rw [upd_ne _ _ e, hon x]; simp [e]
  have h2 : upd s'.comp u s.size.length = fun x => if x ∈ u :: back then s.size.length else s.comp x := by
    funext x
    by_cases e : x = u
    · rw [e, upd_same]; simp
    · rw [upd_ne _ _ e, hcomp x]; simp [e]
  unfold St.label
  rw [h1, h2, hi, hl, hp, hv]
  rfl
/-- One taken off: what is left above. -/
theorem pop_on {s s' : St} {back : List Nat} {q : Nat} (hq : q < back.length) (hon : ∀ x, s'.on x = (s.on x && !decide (x ∈ back.drop (q + 1)))) (hcomp : ∀ x, s'.comp x = if x ∈ back.drop (q + 1) then s.size.length else s.comp x) :
    (∀ x, upd s'.on back[q] false x = (s.on x && !decide (x ∈ back.drop q))) ∧ (∀ x, upd s'.comp back[q] s.size.length x = if x ∈ back.drop q then s.size.length else s.comp x) := by
  have e : back.drop q = back[q] :: back.drop (q + 1) := List.drop_eq_getElem_cons hq
  generalize back[q] = y at *
  generalize back.drop (q + 1) = D at *
  rw [e]
  constructor
  · intro x
    by_cases ex : x = y
    · rw [ex, upd_same]; simp
    · rw [upd_ne _ _ ex, hon x]; simp [ex]
  · intro x
    by_cases ex : x = y
    · rw [ex, upd_same]; simp
    · rw [upd_ne _ _ ex, hcomp x]; simp [ex]
end Go.Proofs.Ybulkcxvo
