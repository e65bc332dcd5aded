/-
  LawS4967AReduced: the rows of its own model.
-/
import Derived.Test.YbulkcxvoPlainR
import Derived.Test.YbulkcxvoBuildS
namespace Go.Proofs.Ybulkcxvo
open Go.RowKit

def acL (l : List Ac) : List Value := l.flatMap fun a => [Value.int .i64 (a.u : Int), Value.int .i64 (a.x : Int), Value.bool a.w]
theorem acL_snoc (l : List Ac) (a : Ac) : acL (l ++ [a]) = acL l ++ [Value.int .i64 (a.u : Int), Value.int .i64 (a.x : Int), Value.bool a.w] := by
  unfold acL
  rw [List.flatMap_append]; simp
theorem acL_len (l : List Ac) : (acL l).length = l.length * 3 := by
  induction l using snoc_ind with
  | nil => rfl
  | snoc l a ih => rw [acL_snoc, List.length_append, ih, List.length_append]; simp; omega
theorem acL_at (l : List Ac) : ∀ i a, l[i]? = some a → (acL l)[i * 3]? = some (Value.int .i64 (a.u : Int)) ∧ (acL l)[i * 3 + 1]? = some (Value.int .i64 (a.x : Int)) ∧ (acL l)[i * 3 + 2]? = some (Value.bool a.w) := by
  induction l using snoc_ind with
  | nil => intro i a h; simp at h
  | snoc l b ih =>
    intro i a h
    have hl := acL_len l
    rw [acL_snoc]
    by_cases e : i < l.length
    · rw [List.getElem?_append_left e] at h
      obtain ⟨h1, h2, h3⟩ := ih i a h
      exact ⟨by rw [List.getElem?_append_left (by omega)]; exact h1, by rw [List.getElem?_append_left (by omega)]; exact h2, by rw [List.getElem?_append_left (by omega)]; exact h3⟩
    · have hi : i = l.length := by
        have := (List.getElem?_eq_some_iff.1 h).1
        simp at this
        omega
      subst hi
      simp at h
      subst h
      refine ⟨?_, ?_, ?_⟩
      · rw [List.getElem?_append_right (by omega), hl, Nat.sub_self]; rfl
      · rw [List.getElem?_append_right (by omega), hl, show l.length * 3 + 1 - l.length * 3 = 1 by omega]; rfl
      · rw [List.getElem?_append_right (by omega), hl, show l.length * 3 + 2 - l.length * 3 = 2 by omega]; rfl
theorem info70 : (Yba.prog.info? 70).map (fun i => (i.zero, i.size, i.bytes)) = some (some (.agg #[.int .i64 0, .int .i64 0, .bool false]), 3, 24) := by kernel_rfl
theorem make68c (n : Nat) (hn : n ≤ 1000000) : ∃ A : Array Value, A.size = n * 3 ∧ ∀ w : World, (Instr.makeSlice 68 (.int .i64 0) (.int .i64 (n : Int))).run Yba.prog w = .ok (.slice (some ⟨w.heap.size, 0, none⟩) 0 n) (w.alloc (.cells A 70)) := by
  obtain ⟨i, hi, hz, hs, hb⟩ := info_parts info70
  refine ⟨madeCells (Value.agg #[.int .i64 0, .int .i64 0, .bool false]).cells ((n : Int).toNat * i.size), by rw [hs]; simp [madeCells], fun w => ?_⟩
  exact run_make (P := Yba.prog) w 68 70 i _ Yba.underlying68 hi hz .i64 .i64 0 n (by omega) (by omega) (by rw [hb]; omega) (by omega)
theorem wpList_pushA {ops : Array Oper} {rest : List Oper} {o : Oper} {a : Act} {Q : Exit → Act → World → Prop} {w1 : World} (hgd : o.guard = none) (sx xx : Operand) (ho : o.op = .call { callee := .builtin .append, args := #[sx, xx], argTypes := #[68, 68] })
    (B : Nat) (v : Value) (l : List Ac) (c : Ac) (hs : a.eval sx = v) (H : Nat) (hH : w1.heap.size = H) (hx : a.eval xx = .slice (some ⟨H, 0, none⟩) 1 1) (hown : w1.ownsRow B 70 3 v l.length (acL l)) (hB : B ≤ w1.heap.size) (hlim : l.length ≤ 300000)
    (h : ∀ g cap W, W.ownsRow B 70 3 (.slice (some ⟨g, 0, none⟩) (l.length + 1) cap) (l ++ [c]).length (acL (l ++ [c])) → Gx v (.slice (some ⟨g, 0, none⟩) (l.length + 1) cap) w1 W → wpList Yba.prog ops Q rest (a.put o.dst (.slice (some ⟨g, 0, none⟩) (l.length + 1) cap)) W) :
    wpList Yba.prog ops Q (o :: rest) a (w1.alloc (.cells #[.int .i64 (c.u : Int), .int .i64 (c.x : Int), .bool c.w] 70)) := by
  obtain ⟨i0, hi, hz0, hz1, hz2⟩ := info_parts info70
  subst hH
  refine wpList_append_lies (w1.alloc (.cells #[.int .i64 (c.u : Int), .int .i64 (c.x : Int), .bool c.w] 70)) hgd sx xx 68 ho B 70 i0 _ 3 24 Yba.underlying68 hi hz0 hz1 hz2 rfl (by omega) v l.length (acL l) hs (hown.alloc _) ⟨w1.heap.size, 0, none⟩ 1 1 [.int .i64 (c.u : Int), .int .i64 (c.x : Int), .bool c.w] hx rfl ?_ ?_ (by omega) (by unfold maxLen; omega) (by omega) (by simp; omega) (w1.heap.size + 1) (by simp) ?_
  · intro j y hj
    rw [Addr.add_mid, cell_of_row _ _ _ _ _ _ (heap_alloc_new w1 _)]
    simpa using hj
  · intro y hy
    simp at hy
    rcases hy with rfl | rfl | rfl <;> rfl
  · intro g cap W h1 h2 h3 _
    refine h g cap W ?_ ⟨h2.os, h2.tape, h2.output, Nat.le_trans (by simp) h2.size, fun b hb hne => ?_, ?_⟩
    · rw [acL_snoc, List.length_append, List.length_singleton]
      exact h1
    · rw [h2.block b (by simp; omega) (fun e => hne e.symm), Below.heap_alloc _ _ _ hb]
    · rcases h3 with h3 | h3
      · exact .inl h3.symm
      · refine .inr fun g' e => ?_
        have : g = g' := by simpa [Value.ownBlock] using e
        omega
/-- The accesses' cells. -/
theorem ac_cells {w : World} {B : Nat} {ao : Option Addr} {cap : Nat} {l : List Ac} (h : w.ownsRow B 70 3 (.slice ao l.length cap) l.length (acL l)) {i : Nat} {a : Ac} (hi : l[i]? = some a) : ∃ g, ao = some ⟨g, 0, none⟩ ∧ w.cell? ⟨g, i * 3, none⟩ = some (.int .i64 (a.u : Int)) ∧ w.cell? ⟨g, i * 3 + 1, none⟩ = some (.int .i64 (a.x : Int)) ∧ w.cell? ⟨g, i * 3 + 2, none⟩ = some (.bool a.w) := by
  have hl := (List.getElem?_eq_some_iff.1 hi).1
  obtain ⟨g, c, cu, e, _⟩ := own_is h (by omega)
  cases e
  obtain ⟨h1, h2, h3⟩ := acL_at l i a hi
  exact ⟨g, rfl, (own_cell h h1).1, (own_cell h h2).1, (own_cell h h3).1⟩
/-- The table behind a push, a row beside it kept. -/
theorem tb_apart {w W : World} {m x gr : Nat} {V : Nat → Value} {v' : Value} (hx : x < m) (hg : Gx (V x) v' w W) (hgr : gr < w.heap.size) (hne : ∀ y, y < m → (V y).ownBlock ≠ some gr) : (∀ y, y < m → (upd V x v' y).ownBlock ≠ some gr) ∧ W.heap[gr]? = w.heap[gr]? := by
  refine ⟨fun y hy e => ?_, hg.block gr hgr (hne x hx)⟩
  by_cases ex : y = x
  · rw [ex, upd_same] at e
    rcases hg.at_ with ha | ha
    · exact hne x hx (by rw [← ha]; exact e)
    · have := ha gr e; omega
  · rw [upd_ne _ _ ex] at e
    exact hne y hy e
end Go.Proofs.Ybulkcxvo
