/-
  reduce's closure: its memory.
-/
import Derived.Test.YbulkcxvoRun
namespace Go.Proofs.Ybulkcxvo
open Go.RowKit

/-- The steps lie in memory. -/
def Steps (w : World) (so : Option Addr) (m : Nat) (tx : Nat → Nat) (it : Nat → Int) (kd : Nat → Nat) : Prop := 0 < m → ∃ b off, so = some ⟨b, off, none⟩ ∧ b < w.heap.size ∧
  ∀ i, i < m → w.cell? ⟨b, off + i * 3, none⟩ = some (.int .i64 (tx i : Int)) ∧ w.cell? ⟨b, off + i * 3 + 1, none⟩ = some (.int .i64 (it i)) ∧ w.cell? ⟨b, off + i * 3 + 2, none⟩ = some (.int .u8 (kd i : Int))
theorem Steps.keep {w w' : World} {so : Option Addr} {m : Nat} {tx : Nat → Nat} {it : Nat → Int} {kd : Nat → Nat} (h : Steps w so m tx it kd) (hb : Below w.heap.size w w') : Steps w' so m tx it kd := by
  intro h0
  obtain ⟨b, off, e, hlt, hc⟩ := h h0
  refine ⟨b, off, e, Nat.lt_of_lt_of_le hlt hb.size, fun i hi => ?_⟩
  have hbb := hb.block b hlt
  obtain ⟨h1, h2, h3⟩ := hc i hi
  exact ⟨by rw [← h1]; simp only [World.cell?, hbb], by rw [← h2]; simp only [World.cell?, hbb], by rw [← h3]; simp only [World.cell?, hbb]⟩
/-- The history's plain bounds. -/
structure Hb (n I m : Nat) (rk : Nat → Int) (tx : Nat → Nat) (it : Nat → Int) (kd : Nat → Nat) : Prop where
  tlt : ∀ i, i < m → tx i < n
  ilt : ∀ i, i < m → it i < (I : Int) ∧ -1 ≤ it i
  klt : ∀ i, i < m → kd i < 256
  rge : ∀ u, u < n → rk u < (n : Int) ∧ -1 ≤ rk u
/-- The graph as reduce's closure reads it. -/
structure Gf (w : World) (gb pg n I m rkb : Nat) (so : Option Addr) (sc : Nat) (rk : Nat → Int) (tx : Nat → Nat) (it : Nat → Int) (kd : Nat → Nat) : Prop where
  c0 : w.cell? ⟨gb, 0, none⟩ = some (.pointer (some ⟨pg, 0, none⟩))
  stp : w.cell? ⟨pg, 3, none⟩ = some (.slice so m sc)
  rank : w.cell? ⟨pg, 4, none⟩ = some (.slice (some ⟨rkb, 0, none⟩) n n)
  items : w.cell? ⟨pg, 5, none⟩ = some (.int .i64 (I : Int))
  rkr : ZR w rkb n rk
  sts : Steps w so m tx it kd
/-- The closure's own blocks. -/
structure Fm (w : World) (B I : Nat) (pv : Value) (wr : Nat → Int) (V : Nat → Value) (rd : Nat → List Nat) : Prop where
  box : w.heap[B]? = some (.cells #[pv] 95 (0, 0))
  wrr : ZR w (B + 1) I wr
  tb : Tb w (B + 2) (B + 3) I V rd
section
variable {w W : World} {B I : Nat} {pv : Value} {wr : Nat → Int} {V : Nat → Value} {rd : Nat → List Nat}
theorem Fm.sz (h : Fm w B I pv wr V rd) : B + 3 ≤ w.heap.size := by have := lt_of_block h.tb.tab; omega
theorem Fm.keep (h : Fm w B I pv wr V rd) (hk : ∀ b, B ≤ b → b < w.heap.size → W.heap[b]? = w.heap[b]?) : Fm W B I pv wr V rd := by
  have hs := h.sz
  refine ⟨(hk _ (Nat.le_refl _) (by omega)).trans h.box, h.wrr.keep (hk _ (by omega) (by omega)), h.tb.keep fun c hc hl => hk c (by omega) hl⟩
theorem Fm.bx (h : Fm w B I pv wr V rd) : w.cell? ⟨B, 0, none⟩ = some pv := by
  rw [cell_of_row _ _ _ _ _ _ h.box]; rfl
theorem Fm.setWr (h : Fm w B I pv wr V rd) (x : Nat) (a : Int) : Fm (w.setCell ⟨B + 1, x, none⟩ (.int .i64 a)) B I pv (upd wr x a) V rd := by
  have kb : ∀ b, b ≠ B + 1 → (w.setCell ⟨B + 1, x, none⟩ (.int .i64 a)).heap[b]? = w.heap[b]? := fun b hb => heap_setCell_other _ _ _ _ hb
  exact ⟨(kb _ (by omega)).trans h.box, h.wrr.set x a, h.tb.keep fun c hc _ => kb c (by omega)⟩
theorem Fm.push {x u : Nat} {v' : Value} (h : Fm w B I pv wr V rd) (hx : x < I) (hg : Gx (V x) v' w W) (ho : W.ownsRow (B + 3) 3 1 v' (rd x ++ [u]).length (ic (rd x ++ [u]))) : Fm (W.setCell ⟨B + 2, x, none⟩ v') B I pv wr (upd V x v') (upd rd x (rd x ++ [u])) := by
  have hs := h.sz
  have hv := own_ge (h.tb.own x hx)
  have kb : ∀ b, b ≠ B + 2 → b < B + 3 → (W.setCell ⟨B + 2, x, none⟩ v').heap[b]? = w.heap[b]? := fun b hb hb2 => by
    rw [heap_setCell_other _ _ _ _ hb]
    exact hg.block b (by omega) (fun e => by have := (hv b e).1; omega)
  exact ⟨(kb _ (by omega) (by omega)).trans h.box, h.wrr.keep (kb _ (by omega) (by omega)), h.tb.push hx hg ho⟩
theorem Fm.cut {x cap : Nat} {ao : Option Addr} (h : Fm w B I pv wr V rd) (hx : x < I) (hv : V x = .slice ao (rd x).length cap) : Fm (w.setCell ⟨B + 2, x, none⟩ (.slice ao 0 cap)) B I pv wr (upd V x (.slice ao 0 cap)) (upd rd x []) := by
  have kb : ∀ b, b ≠ B + 2 → (w.setCell ⟨B + 2, x, none⟩ (.slice ao 0 cap)).heap[b]? = w.heap[b]? := fun b hb => heap_setCell_other _ _ _ _ hb
  exact ⟨(kb _ (by omega)).trans h.box, h.wrr.keep (kb _ (by omega)), h.tb.cut hx hv⟩
end
theorem fm_start (w : World) (I : Nat) (pv : Value) : Fm (((w.alloc (.cells #[pv] 95)).alloc (.cells (ir I fun _ => 0) 3)).alloc (.cells (sr I fun _ => .slice none 0 0) 34)) w.heap.size I pv (fun _ => 0) (fun _ => .slice none 0 0) (fun _ => []) := by
  refine ⟨?_, ?_, ?_⟩
  · simp only [alloc_at, size_up]
    rw [if_neg (by omega), if_neg (by omega), if_pos trivial]
  · unfold ZR
    simp only [alloc_at, size_up]
    rw [if_neg (by omega), if_pos trivial]
    rfl
  · have := Tb.new ((w.alloc (.cells #[pv] 95)).alloc (.cells (ir I fun _ => 0) 3)) I (w.heap.size + 3) (by simp only [size_up]; omega)
    simp only [size_up] at this
    exact this
theorem Tb.after {w W : World} {b B m x : Nat} {V : Nat → Value} {L : Nat → List Nat} {v' : Value} (h : Tb w b B m V L) (hx : x < m) (hg : Gx (V x) v' w W) : W.cell? ⟨b, x, none⟩ = some (V x) ∧ W.frozen? ⟨b, x, none⟩ = false := by
  have hlb := h.lb
  have hb : W.heap[b]? = some (.cells (sr m V) 34 (0, 0)) := (hg.block b (lt_of_block h.tab) fun e => by have := (own_ge (h.own x hx) b e).1; omega).trans h.tab
  refine ⟨?_, frozen_of_row _ _ _ _ _ hb⟩
  rw [cell_of_row _ _ _ _ _ _ hb]
  simp [sr, hx]
theorem emitR_take (l : List Nat) (j u : Nat) : emitR (l.take j) u <+: emitR l u := by
  refine ⟨emitR (l.drop j) u, ?_⟩
  unfold emitR
  rw [← List.map_append, ← List.filter_append, List.take_append_drop]
theorem emitR_next {l : List Nat} {j r u : Nat} (h : l[j]? = some r) : emitR (l.take (j + 1)) u = emitR (l.take j) u ++ if r = u then [] else [(r, u)] := by
  obtain ⟨hj, e⟩ := List.getElem?_eq_some_iff.1 h
  rw [List.take_succ_eq_append_getElem hj, e, emitR_snoc]
/-- What a run of puts keeps: the blocks from B on. -/
structure Ab (B : Nat) (w w' : World) : Prop where
  size : w.heap.size ≤ w'.heap.size
  block : ∀ b, B ≤ b → b < w.heap.size → w'.heap[b]? = w.heap[b]?
end Go.Proofs.Ybulkcxvo
