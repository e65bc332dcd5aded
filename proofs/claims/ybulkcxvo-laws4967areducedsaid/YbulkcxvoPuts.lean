/-
  collect's closures: what one put does.
-/
import Derived.Test.YbulkcxvoCompsWalk
import Derived.BigRegion
namespace Go.Proofs.Ybulkcxvo
open Go.RowKit

def zr (n : Nat) (f : Nat → Int) : Array Value := ((List.range n).map fun i => Value.int .i64 (f i)).toArray
/-- Block b is a row of n integers, the i-th f i. -/
def ZR (w : World) (b n : Nat) (f : Nat → Int) : Prop := w.heap[b]? = some (.cells (zr n f) 3 (0, 0))
section
variable {w w' : World} {b n : Nat} {f : Nat → Int}
theorem ZR.cell (h : ZR w b n f) {i : Nat} (hi : i < n) : w.cell? ⟨b, i, none⟩ = some (.int .i64 (f i)) := by
  rw [cell_of_row _ _ _ _ _ _ h]
  simp [zr, hi]
theorem ZR.fz (h : ZR w b n f) (i : Nat) : w.frozen? ⟨b, i, none⟩ = false := frozen_of_row _ _ _ _ _ h
theorem ZR.lt (h : ZR w b n f) : b < w.heap.size := lt_of_block h
theorem ZR.keep (h : ZR w b n f) (e : w'.heap[b]? = w.heap[b]?) : ZR w' b n f := e.trans h
theorem zr_upd (n : Nat) (f : Nat → Int) (i : Nat) (a : Int) : (zr n f).setIfInBounds i (.int .i64 a) = zr n (upd f i a) := by
  apply Array.ext_getElem?
  intro j
  rw [Array.getElem?_setIfInBounds]
  by_cases e : i = j
  · subst e
    by_cases hi : i < n
    · simp [zr, hi, upd_same]
    · simp [zr, hi]
  · simp only [e, if_false]
    by_cases hj : j < n
    · simp [zr, hj, upd_ne f a (fun x => e x.symm)]
    · simp [zr, hj]
theorem ZR.set (h : ZR w b n f) (i : Nat) (a : Int) : ZR (w.setCell ⟨b, i, none⟩ (.int .i64 a)) b n (upd f i a) := by
  unfold ZR
  rw [heap_setCell_same _ _ _ _ _ _ h, zr_upd]
theorem ZR.congr {g : Nat → Int} (h : ZR w b n f) (e : ∀ i, i < n → f i = g i) : ZR w b n g := by
  unfold ZR at h ⊢
  rw [h]
  congr 2
  unfold zr
  congr 1
  apply List.map_congr_left
  intro i hi
  rw [e i (List.mem_range.1 hi)]
end
theorem ir_zr (n : Nat) (f : Nat → Nat) : ir n f = zr n (fun i => (f i : Int)) := rfl
theorem IR.zr {w : World} {b n : Nat} {f : Nat → Nat} (h : IR w b n f) : ZR w b n (fun i => (f i : Int)) := h
theorem ZR.ir {w : World} {b n : Nat} {f : Nat → Nat} (h : ZR w b n (fun i => (f i : Int))) : IR w b n f := h

theorem put_count (rb ab n o : Nat) (f : Nat → Nat) (w : World) (ho : o < n) (hn : n ≤ 1000000) (hf : f (o + 1) ≤ 1000000) (h0 : w.cell? ⟨rb, 0, none⟩ = some (.slice (some ⟨ab, 0, none⟩) (n + 1) (n + 1))) (h1 : IR w ab (n + 1) f) :
    Calls Yba.prog 25 #[.int .i64 (o : Int), .pointer (some ⟨rb, 0, none⟩)] w fun e w' => e = .returned (.tuple #[]) ∧ w' = w.setCell ⟨ab, o + 1, none⟩ (.int .i64 ((f (o + 1) : Int) + 1)) := by
  have hoi : (o : Int) < (n : Int) := by omega
  have hni : (n : Int) ≤ 1000000 := by omega
  have hfi : (f (o + 1) : Int) ≤ 1000000 := by omega
  have c1 := h1.cell (i := o + 1) (by omega)
  have f1 := h1.fz (o + 1)
  clear h1
  generalize f (o + 1) = X at *
  go_enter Yba.func25, Yba.ntmps25
  go_wp2
  go_end0
  exact ⟨rfl, rfl⟩
theorem put_count2 (rb ab bx n o v : Nat) (f : Nat → Nat) (w : World) (ho : o < n) (hn : n ≤ 1000000) (hf : f (o + 1) ≤ 1000000) (hb : w.cell? ⟨bx, 0, none⟩ = some (.func (.func 25) #[] #[.pointer (some ⟨rb, 0, none⟩)])) (h0 : w.cell? ⟨rb, 0, none⟩ = some (.slice (some ⟨ab, 0, none⟩) (n + 1) (n + 1))) (h1 : IR w ab (n + 1) f) :
    Calls Yba.prog 24 #[.int .i64 (o : Int), .int .i64 (v : Int), .pointer (some ⟨bx, 0, none⟩)] w fun e w' => e = .returned (.tuple #[]) ∧ w' = w.setCell ⟨ab, o + 1, none⟩ (.int .i64 ((f (o + 1) : Int) + 1)) := by
  go_enter Yba.func24, Yba.ntmps24
  go_wp2_with fail
  refine (put_count rb ab n o f w ho hn hf h0 h1).mono ?_
  rintro e w' ⟨rfl, rfl⟩
  go_wp2
  go_end0
  exact ⟨rfl, rfl⟩
theorem put_value (rb ab vb n t o v : Nat) (f g : Nat → Nat) (w : World) (ho : o < n) (hn : n ≤ 1000000) (ht : t ≤ 1000000) (hf : f o < t) (hne : ab ≠ vb) (hr1 : rb ≠ vb) (h0 : w.cell? ⟨rb, 0, none⟩ = some (.slice (some ⟨ab, 0, none⟩) (n + 1) (n + 1))) (h1 : IR w ab (n + 1) f) (h2 : w.cell? ⟨rb, 1, none⟩ = some (.slice (some ⟨vb, 0, none⟩) t t)) (h3 : IR w vb t g) :
    Calls Yba.prog 26 #[.int .i64 (o : Int), .int .i64 (v : Int), .pointer (some ⟨rb, 0, none⟩)] w fun e w' => e = .returned (.tuple #[]) ∧ w' = ((w.setCell ⟨vb, f o, none⟩ (.int .i64 (v : Int))).setCell ⟨ab, o, none⟩ (.int .i64 ((f o : Int) + 1))).drew := by
  have hoi : (o : Int) < (n : Int) := by omega
  have hni : (n : Int) ≤ 1000000 := by omega
  have hti : (t : Int) ≤ 1000000 := by omega
  have hfi : (f o : Int) < (t : Int) := by omega
  have c1 := h1.cell (i := o) (by omega)
  have f1 := h1.fz o
  have c3 := h3.cell hf
  have f3 := h3.fz (f o)
  have e0 := heap_setCell_other w ⟨vb, f o, none⟩ rb (.int .i64 (v : Int)) hr1
  have e1 := heap_setCell_other w ⟨vb, f o, none⟩ ab (.int .i64 (v : Int)) hne
  have d0 : (w.setCell ⟨vb, f o, none⟩ (.int .i64 (v : Int))).cell? ⟨rb, 0, none⟩ = some (.slice (some ⟨ab, 0, none⟩) (n + 1) (n + 1)) := by rw [← h0]; simp only [World.cell?, e0]
  have h1' : IR (w.setCell ⟨vb, f o, none⟩ (.int .i64 (v : Int))) ab (n + 1) f := h1.keep e1
  have d1 := h1'.cell (i := o) (by omega)
  have d2 := h1'.fz o
  clear h1 h3 e0 e1 h1'
  generalize f o = X at *
  have hxi : (X : Int) ≤ 1000000 := by omega
  go_enter Yba.func26, Yba.ntmps26
  go_wp2
  go_region
  obtain ⟨W2, hW2⟩ : ∃ W2, W2 = w.setCell ⟨vb, X, none⟩ (.int .i64 (v : Int)) := ⟨_, rfl⟩
  rw [← hW2] at d0 d1 d2 ⊢
  have HW : Hid (W2 = w.setCell ⟨vb, X, none⟩ (.int .i64 (v : Int))) := hW2
  clear hW2
  go_wp2
  go_end0
  exact ⟨rfl, by rw [HW.out]⟩
end Go.Proofs.Ybulkcxvo
