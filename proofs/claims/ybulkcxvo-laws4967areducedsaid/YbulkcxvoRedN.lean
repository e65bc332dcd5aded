/-
  LawS4967AReduced: what its second loop needs.
-/
import Derived.Test.YbulkcxvoRedM
import Derived.Test.YbulkcxvoNg
namespace Go.Proofs.Ybulkcxvo
open Go.RowKit

/-- The j-th access. -/
def acAt (l : List Ac) (j : Nat) : Ac := l.getD j ⟨0, 0, false⟩
theorem acAt_get {l : List Ac} {j : Nat} (h : j < l.length) : l[j]? = some (acAt l j) := by
  unfold acAt
  rw [List.getD_eq_getElem?_getD, List.getElem?_eq_getElem h]; rfl
theorem acAt_list (l : List Ac) : (List.range l.length).map (acAt l) = l := by
  apply List.ext_getElem?
  intro i
  by_cases h : i < l.length
  · rw [acAt_get h]; simp [h]
  · simp [h]
theorem RS_all (l : List Ac) : RS (acAt l) l.length = runA l := by
  unfold RS
  rw [acAt_list]
/-- The accesses, read in any later world. -/
theorem ac_later {w W : World} {B T : Nat} {ao : Option Addr} {cap : Nat} {l : List Ac} (h : w.ownsRow B 70 3 (.slice ao l.length cap) l.length (acL l)) (hT : w.heap.size ≤ T) (hb : Below T w W) (hpos : 0 < l.length) : ∃ g, ao = some ⟨g, 0, none⟩ ∧ ∀ i, i < l.length → W.cell? ⟨g, i * 3, none⟩ = some (.int .i64 ((acAt l i).u : Int)) ∧ W.cell? ⟨g, i * 3 + 1, none⟩ = some (.int .i64 ((acAt l i).x : Int)) ∧ W.cell? ⟨g, i * 3 + 2, none⟩ = some (.bool (acAt l i).w) := by
  obtain ⟨g, c, cu, e, _, hh, _⟩ := own_is h hpos
  cases e
  have hg : g < T := by have := lt_of_block hh; omega
  refine ⟨g, rfl, fun i hi => ?_⟩
  obtain ⟨g', e', h1, h2, h3⟩ := ac_cells h (acAt_get hi)
  cases e'
  exact ⟨(World.cell?_of_block (hb.block g hg)).trans h1, (World.cell?_of_block (hb.block g hg)).trans h2, (World.cell?_of_block (hb.block g hg)).trans h3⟩
/-- The model's table. -/
structure Ms (wT wx : World) (T nn : Nat) (V : Nat → Value) (ed : List (Nat × Nat)) : Prop where
  bel : Below T wT wx
  tb : Tb wx T (T + 1) nn V (toRow ed)
theorem Ms.sz {wT wx : World} {T nn : Nat} {V : Nat → Value} {ed : List (Nat × Nat)} (h : Ms wT wx T nn V ed) : T + 1 ≤ wx.heap.size := lt_of_block h.tb.tab
theorem Ms.keep {wT wx W : World} {T nn : Nat} {V : Nat → Value} {ed : List (Nat × Nat)} (h : Ms wT wx T nn V ed) (hb : Below wx.heap.size wx W) : Ms wT W T nn V ed :=
  ⟨h.bel.trans (hb.mono (by have := h.sz; omega)), h.tb.keep fun c _ hl => hb.block c hl⟩
theorem ms_start (w : World) (nn : Nat) : Ms w (w.alloc (.cells (sr nn fun _ => .slice none 0 0) 34)) w.heap.size nn (fun _ => .slice none 0 0) [] :=
  ⟨(Below.refl _ _).alloc (Nat.le_refl _) _, Tb.new w nn (w.heap.size + 1) (by omega)⟩
theorem Ms.push {wT wx W : World} {T nn x u : Nat} {V : Nat → Value} {ed : List (Nat × Nat)} {v' : Value} (h : Ms wT wx T nn V ed) (hx : x < nn) (hg : Gx (V x) v' wx W) (ho : W.ownsRow (T + 1) 3 1 v' (toRow ed x ++ [u]).length (ic (toRow ed x ++ [u]))) : Ms wT (W.setCell ⟨T, x, none⟩ v') T nn (upd V x v') (ed ++ [(x, u)]) := by
  refine ⟨(h.bel.trans (hg.below (by have := h.sz; omega) fun g e => by have := (own_ge (h.tb.own x hx) g e).1; omega)).setCell (Nat.le_refl _) _, ?_⟩
  rw [toRow_snoc]
  exact h.tb.push hx hg ho
/-- What the scan back from j has found: the last write's place, or -1; the reads since, latest first. -/
structure Sc (A : Nat → Ac) (j : Nat) (wi : Int) (R : List Nat) : Prop where
  wr : (wi = -1 ∧ (RS A j).wr (A j).x = -1) ∨ ∃ i : Nat, i < j ∧ wi = (i : Int) ∧ (RS A j).wr (A j).x = ((A i).u : Int)
  rd : (RS A j).rd (A j).x = R.reverse.map fun t => (A t).u
  lt : ∀ t ∈ R, t < j
theorem rdIx_lt (A : Nat → Ac) (x i j : Nat) : ∀ t ∈ rdIx A x i j, t < j := by
  intro t ht
  unfold rdIx at ht
  rw [List.mem_filter, List.mem_range] at ht
  exact ht.1
theorem sc_none (A : Nat → Ac) (j : Nat) (h : noW A (A j).x 0 j) : Sc A j (-1) (rdIx A (A j).x 0 j).reverse := by
  obtain ⟨h1, h2⟩ := rs_none A (A j).x j h
  refine ⟨.inl ⟨rfl, h1⟩, by rw [List.reverse_reverse]; exact h2, fun t ht => rdIx_lt A _ 0 j t (by simpa using ht)⟩
theorem sc_some (A : Nat → Ac) (i j : Nat) (hij : i < j) (hx : (A i).x = (A j).x) (hw : (A i).w = true) (h : noW A (A j).x (i + 1) j) : Sc A j (i : Int) (rdIx A (A j).x (i + 1) j).reverse := by
  obtain ⟨h1, h2⟩ := rs_some A (A j).x i hx hw j hij h
  refine ⟨.inr ⟨i, hij, rfl, h1⟩, by rw [List.reverse_reverse]; exact h2, fun t ht => rdIx_lt A _ (i + 1) j t (by simpa using ht)⟩
/-- One place more, not of this item. -/
theorem down_other {A : Nat → Ac} {i j x : Nat} (hij : i < j) (hx : (A i).x ≠ x) (h : noW A x (i + 1) j) : rdIx A x i j = rdIx A x (i + 1) j ∧ noW A x i j := by
  refine ⟨by rw [rdIx_down A x i j hij, if_neg hx]; rfl, fun t ht hj hxt => ?_⟩
  by_cases e : t = i
  · exact absurd (by rw [← e]; exact hxt) hx
  · exact h t (by omega) hj hxt
/-- One place more, a read of this item. -/
theorem down_read {A : Nat → Ac} {i j x : Nat} (hij : i < j) (hx : (A i).x = x) (hw : (A i).w = false) (h : noW A x (i + 1) j) : (rdIx A x i j).reverse = (rdIx A x (i + 1) j).reverse ++ [i] ∧ noW A x i j := by
  refine ⟨by rw [rdIx_down A x i j hij, if_pos hx]; simp, fun t ht hj hxt => ?_⟩
  by_cases e : t = i
  · rw [e]; exact hw
  · exact h t (by omega) hj hxt
theorem rdIx_len (A : Nat → Ac) (x i j : Nat) : (rdIx A x i j).length ≤ j := by
  unfold rdIx
  refine Nat.le_trans (List.length_filter_le _ _) ?_
  simp
theorem rdIx_top (A : Nat → Ac) (x j : Nat) : rdIx A x j j = [] := by
  unfold rdIx
  rw [List.filter_eq_nil_iff]
  intro t ht
  rw [List.mem_range] at ht
  simp
  omega
end Go.Proofs.Ybulkcxvo
