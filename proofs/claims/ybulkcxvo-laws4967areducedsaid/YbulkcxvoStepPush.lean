/-
  append of one integer to a row of one's own, as a step of a region that draws.
-/
import Derived.Test.YbulkcxvoRedN
import Derived.Deep.RegionLaw
namespace Go.Proofs.Ybulkcxvo
open Go.RowKit

theorem step_push {ops : Array Oper} {o : Oper} {a : Act} {K : Act → World → Prop} {Q : Exit → Act → World → Prop} {F : Prop} {w1 : World} (hgd : o.guard = none) (sx xx : Operand) (ho : o.op = .call { callee := .builtin .append, args := #[sx, xx], argTypes := #[34, 34] })
    (B : Nat) (v : Value) (l : List Nat) (u : Nat) (hs : a.eval sx = v) (H : Nat) (hH : w1.heap.size = H) (hx : a.eval xx = .slice (some ⟨H, 0, none⟩) 1 1) (hown : w1.ownsRow B 3 1 v l.length (ic l)) (hB : B ≤ w1.heap.size) (hlim : l.length ≤ 300000)
    (h : ∀ g cap W, W.ownsRow B 3 1 (.slice (some ⟨g, 0, none⟩) (l.length + 1) cap) (l ++ [u]).length (ic (l ++ [u])) → Gx v (.slice (some ⟨g, 0, none⟩) (l.length + 1) cap) w1 W → K (a.put o.dst (.slice (some ⟨g, 0, none⟩) (l.length + 1) cap)) W) :
    if Region.wanted o (yielded ops a.tmps) = true then Oper.wp Yba.prog o a (w1.alloc (.cells #[.int .i64 (u : Int)] 3)).drew K Q else F := by
  obtain ⟨i0, hi, hz0, hz1, hz2⟩ := info_parts info3
  subst hH
  refine step_append_lies (w1.alloc (.cells #[.int .i64 (u : Int)] 3)).drew hgd sx xx 34 ho B 3 i0 _ 1 8 Yba.underlying34 hi hz0 hz1 hz2 rfl (by omega) v l.length (ic l) hs (own_keep (hown.alloc _) fun _ _ => rfl) ⟨w1.heap.size, 0, none⟩ 1 1 [.int .i64 (u : Int)] hx rfl ?_ ?_ (by omega) (by unfold maxLen; omega) (by omega) (by show B ≤ (World.alloc _ _).heap.size; simp; omega) (w1.heap.size + 1) (by show (World.alloc _ _).heap.size = _; simp) ?_
  · intro j x hj
    have hl := (List.getElem?_eq_some_iff.1 hj).1
    obtain rfl : j = 0 := by simpa using hl
    rw [Addr.add_mid]
    show (World.alloc _ _).cell? _ = _
    rw [cell_of_row _ _ _ _ _ _ (heap_alloc_new w1 _)]
    simpa using hj
  · intro x hx
    rw [List.mem_singleton] at hx
    subst hx; rfl
  · intro g cap W h1 h2 h3 _
    refine h g cap W ?_ ⟨h2.os, h2.tape, h2.output, Nat.le_trans (by show w1.heap.size ≤ (World.alloc _ _).heap.size; simp) h2.size, fun b hb hne => ?_, ?_⟩
    · rw [ic_append, List.length_append, List.length_singleton]; exact h1
    · rw [h2.block b (by show b < (World.alloc _ _).heap.size; simp; omega) (fun e => hne e.symm)]
      exact Below.heap_alloc _ _ _ hb
    · rcases h3 with h3 | h3
      · exact .inl h3.symm
      · refine .inr fun g' e => ?_
        have : g = g' := by simpa [Value.ownBlock] using e
        omega
theorem toRow_le (ed : List (Nat × Nat)) (a : Nat) : (toRow ed a).length ≤ ed.length := List.length_filterMap_le _ _
theorem rs_len {A : Nat → Ac} {N j : Nat} (hu : ∀ i, i < j → (A i).u < N) (hj : j ≤ 512) : (RS A j).ed.length ≤ 262656 := by
  have h := (ok_run N ((List.range j).map A) fun a ha => by
    obtain ⟨i, hi, rfl⟩ := List.mem_map.1 ha
    exact hu i (List.mem_range.1 hi)).elen
  rw [List.length_map, List.length_range] at h
  have h2 : j * (j + 1) ≤ 512 * 513 := Nat.mul_le_mul hj (by omega)
  unfold RS
  omega
/-- The table, and the scan's reads beside it. -/
structure Em (wT wx : World) (T nn B : Nat) (V : Nat → Value) (ed : List (Nat × Nat)) (rv : Value) (R : List Nat) : Prop where
  ms : Ms wT wx T nn V ed
  own : wx.ownsRow B 3 1 rv R.length (ic R)
  ap : ∀ gr, rv.ownBlock = some gr → ∀ y, y < nn → (V y).ownBlock ≠ some gr
  tB : T < B
section
variable {wT wx W : World} {T nn B : Nat} {V : Nat → Value} {ed : List (Nat × Nat)} {rv : Value} {R : List Nat}
theorem Em.keep (h : Em wT wx T nn B V ed rv R) (hb : Below wx.heap.size wx W) : Em wT W T nn B V ed rv R :=
  ⟨h.ms.keep hb, own_keep h.own fun g e => hb.block g (own_ge h.own g e).2, h.ap, h.tB⟩
theorem Em.push {x u : Nat} {v' : Value} (h : Em wT wx T nn B V ed rv R) (hx : x < nn) (hg : Gx (V x) v' wx W) (ho : W.ownsRow (T + 1) 3 1 v' (toRow ed x ++ [u]).length (ic (toRow ed x ++ [u]))) : Em wT (W.setCell ⟨T, x, none⟩ v') T nn B (upd V x v') (ed ++ [(x, u)]) rv R := by
  have htB := h.tB
  refine ⟨h.ms.push hx hg ho, own_keep h.own fun g e => ?_, fun gr e => (tb_apart hx hg (own_ge h.own gr e).2 (h.ap gr e)).1, htB⟩
  have hge := own_ge h.own g e
  rw [heap_setCell_other _ _ _ _ (show g ≠ T by omega)]
  exact (tb_apart hx hg hge.2 (h.ap g e)).2
theorem Em.start (h : Ms wT wx T nn V ed) {w4 : World} (h4 : Ms wT w4 T nn V ed) (hown : wx.ownsRow w4.heap.size 3 1 rv R.length (ic R)) : Em wT wx T nn w4.heap.size V ed rv R := by
  refine ⟨h, hown, fun gr e y hy e' => ?_, by have := h4.sz; omega⟩
  have h1 := (own_ge hown gr e).1
  have h2 := (own_ge (h4.tb.own y hy) gr e').2
  omega
end
end Go.Proofs.Ybulkcxvo
