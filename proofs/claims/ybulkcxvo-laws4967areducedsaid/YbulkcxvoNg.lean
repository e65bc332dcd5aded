/-
  newGraph: the numbered history and the graph in memory; ranks and names along the order by name.
-/
import Derived.Test.YbulkcxvoReduce
namespace Go.Proofs.Ybulkcxvo
open Go.RowKit

def ur (n : Nat) (f : Nat → Nat) : Array Value := ((List.range n).map fun i => Value.int .u8 (f i : Int)).toArray
/-- Block b is a row of n Kinds. -/
def UR (w : World) (b n : Nat) (f : Nat → Nat) : Prop := w.heap[b]? = some (.cells (ur n f) 30 (0, 0))
section
variable {w w' : World} {b n : Nat} {f : Nat → Nat}
theorem UR.cell (h : UR w b n f) {i : Nat} (hi : i < n) : w.cell? ⟨b, i, none⟩ = some (.int .u8 (f i : Int)) := by
  rw [cell_of_row _ _ _ _ _ _ h]
  simp [ur, hi]
theorem UR.fz (h : UR w b n f) (i : Nat) : w.frozen? ⟨b, i, none⟩ = false := frozen_of_row _ _ _ _ _ h
theorem UR.lt (h : UR w b n f) : b < w.heap.size := lt_of_block h
theorem UR.keep (h : UR w b n f) (e : w'.heap[b]? = w.heap[b]?) : UR w' b n f := e.trans h
theorem ur_upd (n : Nat) (f : Nat → Nat) (i a : Nat) : (ur n f).setIfInBounds i (.int .u8 (a : Int)) = ur n (upd f i a) := by
  apply Array.ext_getElem?
  intro j
  rw [Array.getElem?_setIfInBounds]
  by_cases e : i = j
  · subst e
    by_cases hi : i < n
    · simp [ur, hi, upd_same]
    · simp [ur, hi]
  · simp only [e, if_false]
    by_cases hj : j < n
    · simp [ur, hj, upd_ne f a (fun x => e x.symm)]
    · simp [ur, hj]
theorem UR.set (h : UR w b n f) (i a : Nat) : UR (w.setCell ⟨b, i, none⟩ (.int .u8 (a : Int))) b n (upd f i a) := by
  unfold UR
  rw [heap_setCell_same _ _ _ _ _ _ h, ur_upd]
end
/-- The names lie in memory. -/
def Strs (w : World) (ta : Option Addr) (n : Nat) (nm : Nat → ByteArray) : Prop := 0 < n → ∃ b off, ta = some ⟨b, off, none⟩ ∧ b < w.heap.size ∧ ∀ i, i < n → w.cell? ⟨b, off + i, none⟩ = some (.string (nm i))
theorem Strs.keep {w w' : World} {ta : Option Addr} {n : Nat} {nm : Nat → ByteArray} (h : Strs w ta n nm) (hb : Below w.heap.size w w') : Strs w' ta n nm := by
  intro h0
  obtain ⟨b, off, e, hlt, hc⟩ := h h0
  refine ⟨b, off, e, Nat.lt_of_lt_of_le hlt hb.size, fun i hi => ?_⟩
  have hbb := hb.block b hlt
  rw [← hc i hi]; simp only [World.cell?, hbb]
/-- The numbered history in memory. -/
structure Nb (w : World) (hb n I m : Nat) (ta : Option Addr) (tc eb pb : Nat) (so : Option Addr) (sc : Nat) (nm : Nat → ByteArray) (E P tx : Nat → Nat) (it : Nat → Int) (kd : Nat → Nat) : Prop where
  h0 : w.cell? ⟨hb, 0, none⟩ = some (.slice ta n tc)
  h1 : w.cell? ⟨hb, 1, none⟩ = some (.slice (some ⟨eb, 0, none⟩) n n)
  h2 : w.cell? ⟨hb, 2, none⟩ = some (.slice (some ⟨pb, 0, none⟩) n n)
  h3 : w.cell? ⟨hb, 3, none⟩ = some (.slice so m sc)
  h4 : w.cell? ⟨hb, 4, none⟩ = some (.int .i64 (I : Int))
  nam : Strs w ta n nm
  ends : UR w eb n E
  byN : IR w pb n P
  sts : Steps w so m tx it kd
theorem Nb.keep {w w' : World} {hb n I m : Nat} {ta : Option Addr} {tc eb pb : Nat} {so : Option Addr} {sc : Nat} {nm : Nat → ByteArray} {E P tx : Nat → Nat} {it : Nat → Int} {kd : Nat → Nat} (h : Nb w hb n I m ta tc eb pb so sc nm E P tx it kd) (hB : Below w.heap.size w w') : Nb w' hb n I m ta tc eb pb so sc nm E P tx it kd := by
  have e1 : w'.heap[hb]? = w.heap[hb]? := hB.block hb (World.block_lt_of_cell? w ⟨hb, 0, none⟩ h.h0)
  refine ⟨?_, ?_, ?_, ?_, ?_, h.nam.keep hB, h.ends.keep (hB.block _ h.ends.lt), h.byN.keep (hB.block _ h.byN.lt), h.sts.keep hB⟩
  · rw [← h.h0]; simp only [World.cell?, e1]
  · rw [← h.h1]; simp only [World.cell?, e1]
  · rw [← h.h2]; simp only [World.cell?, e1]
  · rw [← h.h3]; simp only [World.cell?, e1]
  · rw [← h.h4]; simp only [World.cell?, e1]
/-- The order by name is a permutation; the history's plain bounds. -/
structure Pm (n I m : Nat) (E P tx : Nat → Nat) (it : Nat → Int) (kd : Nat → Nat) : Prop where
  plt : ∀ i, i < n → P i < n
  inj : ∀ i j, i < n → j < n → P i = P j → i = j
  elt : ∀ u, u < n → E u < 256
  tlt : ∀ i, i < m → tx i < n
  ilt : ∀ i, i < m → it i < (I : Int) ∧ -1 ≤ it i
  klt : ∀ i, i < m → kd i < 256
/-- The transactions kept among the first i by name. -/
def kept (E P : Nat → Nat) : Nat → List Nat
  | 0 => []
  | i + 1 => kept E P i ++ if E (P i) = 4 then [] else [P i]
def rkI (E P : Nat → Nat) : Nat → Nat → Int
  | 0 => fun _ => 0
  | i + 1 => upd (rkI E P i) (P i) (if E (P i) = 4 then -1 else ((kept E P i).length : Int))
theorem kept_le (E P : Nat → Nat) : ∀ i, (kept E P i).length ≤ i
  | 0 => Nat.le_refl _
  | i + 1 => by
    have := kept_le E P i
    unfold kept
    rw [List.length_append]
    split <;> simp <;> omega
theorem kept_mono (E P : Nat → Nat) {i : Nat} : ∀ {j : Nat}, i ≤ j → kept E P i <+: kept E P j
  | 0, h => by
    obtain rfl : i = 0 := by omega
    exact List.prefix_rfl
  | j + 1, h => by
    by_cases e : i = j + 1
    · rw [e]; exact List.prefix_rfl
    · exact (kept_mono E P (show i ≤ j by omega)).trans (List.prefix_append _ _)
theorem surj {n : Nat} {P : Nat → Nat} (plt : ∀ i, i < n → P i < n) (inj : ∀ i j, i < n → j < n → P i = P j → i = j) : ∀ u, u < n → ∃ i, i < n ∧ P i = u := by
  intro u hu
  have hnd : ((List.range n).map P).Nodup := by
    refine List.pairwise_map.2 (List.nodup_range.imp_of_mem fun {a b} ha hb hab e => hab (inj a b (List.mem_range.1 ha) (List.mem_range.1 hb) e))
  have hlt : ∀ x ∈ (List.range n).map P, x < n := by
    intro x hx
    obtain ⟨c, hc, rfl⟩ := List.mem_map.1 hx
    exact plt c (List.mem_range.1 hc)
  have h1 := count_list _ hnd hlt
  rw [List.length_map, List.length_range] at h1
  have h2 : ((List.range n).filter fun x => decide (x ∈ (List.range n).map P)).length = (List.range n).length := by rw [h1, List.length_range]
  rw [List.length_filter_eq_length_iff] at h2
  have h3 := h2 u (List.mem_range.2 hu)
  obtain ⟨i, hi, e⟩ := List.mem_map.1 (of_decide_eq_true h3)
  exact ⟨i, List.mem_range.1 hi, e⟩
/-- The rank of the j-th by name. -/
theorem rkI_at {n : Nat} {E P : Nat → Nat} (inj : ∀ i j, i < n → j < n → P i = P j → i = j) : ∀ {i : Nat}, i ≤ n → ∀ j, j < i → rkI E P i (P j) = if E (P j) = 4 then -1 else ((kept E P j).length : Int)
  | 0, _, j, hj => by omega
  | i + 1, hi, j, hj => by
    unfold rkI
    by_cases e : j = i
    · rw [e, upd_same]
    · rw [upd_ne _ _ (fun h => e (inj j i (by omega) (by omega) h))]
      exact rkI_at inj (by omega) j (by omega)
theorem rk_bounds {n : Nat} {E P : Nat → Nat} (plt : ∀ i, i < n → P i < n) (inj : ∀ i j, i < n → j < n → P i = P j → i = j) : ∀ u, u < n → rkI E P n u < ((kept E P n).length : Int) ∧ -1 ≤ rkI E P n u := by
  intro u hu
  obtain ⟨j, hj, rfl⟩ := surj plt inj u hu
  rw [rkI_at inj (Nat.le_refl _) j hj]
  have h1 : (kept E P j ++ if E (P j) = 4 then [] else [P j]).length ≤ (kept E P n).length := (kept_mono E P (show j + 1 ≤ n by omega)).length_le
  rw [List.length_append] at h1
  by_cases h : E (P j) = 4
  · rw [if_pos h]; omega
  · rw [if_neg h] at h1 ⊢
    simp at h1
    omega
def gcells (v0 v1 v2 v3 v4 v5 : Value) : Array Value := #[v0, v1, v2, v3, v4, v5, .int .u32 0, .int .i32 0, .int .u32 0, .slice none 0 0, .slice none 0 0, .slice none 0 0, .slice none 0 0, .slice none 0 0, .slice none 0 0, .slice none 0 0]
/-- The names' row: the first cells hold the kept names. -/
def NR (w : World) (nb n : Nat) (nm : Nat → ByteArray) (l : List Nat) : Prop := ∃ A : Array Value, w.heap[nb]? = some (.cells A 9 (0, 0)) ∧ A.size = n ∧ ∀ (j u : Nat), l[j]? = some u → A[j]? = some (Value.string (nm u))
theorem NR.keep {w w' : World} {nb n : Nat} {nm : Nat → ByteArray} {l : List Nat} (h : NR w nb n nm l) (e : w'.heap[nb]? = w.heap[nb]?) : NR w' nb n nm l := by
  obtain ⟨A, h1, h2⟩ := h
  exact ⟨A, e.trans h1, h2⟩
theorem NR.lt {w : World} {nb n : Nat} {nm : Nat → ByteArray} {l : List Nat} (h : NR w nb n nm l) : nb < w.heap.size := by
  obtain ⟨A, h1, _⟩ := h
  exact lt_of_block h1
theorem NR.push {w : World} {nb n u : Nat} {nm : Nat → ByteArray} {l : List Nat} (h : NR w nb n nm l) (hl : l.length < n) : NR (w.setCell ⟨nb, l.length, none⟩ (.string (nm u))) nb n nm (l ++ [u]) := by
  obtain ⟨A, h1, h2, h3⟩ := h
  refine ⟨A.setIfInBounds l.length (.string (nm u)), heap_setCell_same _ _ _ _ _ _ h1, by simpa using h2, fun j v hv => ?_⟩
  by_cases e : j = l.length
  · subst e
    simp at hv
    subst hv
    rw [Array.getElem?_setIfInBounds, if_pos rfl, if_pos (by omega)]
  · have hj : j < l.length := by
      have := (List.getElem?_eq_some_iff.1 hv).1
      simp at this
      omega
    rw [List.getElem?_append_left hj] at hv
    rw [Array.getElem?_setIfInBounds, if_neg (fun x => e x.symm)]
    exact h3 j v hv
theorem NR.some {w : World} {nb n j : Nat} {nm : Nat → ByteArray} {l : List Nat} (h : NR w nb n nm l) (hj : j < n) : (w.cell? ⟨nb, j, none⟩).isSome = true ∧ w.frozen? ⟨nb, j, none⟩ = false := by
  obtain ⟨A, h1, h2, _⟩ := h
  refine ⟨?_, frozen_of_row _ _ _ _ _ h1⟩
  rw [cell_of_row _ _ _ _ _ _ h1, Array.getElem?_eq_getElem (by omega)]
  rfl
/-- newGraph's loop. -/
structure Ng (w0 w : World) (pg nb rkb n I m : Nat) (so : Option Addr) (sc : Nat) (nm : Nat → ByteArray) (E P : Nat → Nat) (l : List Nat) (rk : Nat → Int) : Prop where
  bel : Below w0.heap.size w0 w
  g : w.heap[pg]? = some (.cells (gcells (.slice (some ⟨nb, 0, none⟩) l.length n) (.slice none 0 0) (.slice none 0 0) (.slice so m sc) (.slice (some ⟨rkb, 0, none⟩) n n) (.int .i64 (I : Int))) 64 (0, 0))
  nr : NR w nb n nm l
  rk : ZR w rkb n rk
  gpg : w0.heap.size ≤ pg
  gnb : w0.heap.size ≤ nb
  grk : w0.heap.size ≤ rkb
  n1 : pg ≠ nb
  n2 : pg ≠ rkb
  n3 : nb ≠ rkb
section
variable {w0 w W : World} {pg nb rkb n I m : Nat} {so : Option Addr} {sc : Nat} {nm : Nat → ByteArray} {E P : Nat → Nat} {l : List Nat} {rk : Nat → Int}
theorem Ng.cell (h : Ng w0 w pg nb rkb n I m so sc nm E P l rk) (i : Nat) : w.cell? ⟨pg, i, none⟩ = (gcells (.slice (some ⟨nb, 0, none⟩) l.length n) (.slice none 0 0) (.slice none 0 0) (.slice so m sc) (.slice (some ⟨rkb, 0, none⟩) n n) (.int .i64 (I : Int)))[i]? ∧ w.frozen? ⟨pg, i, none⟩ = false :=
  ⟨cell_of_row _ _ _ _ _ _ h.g, frozen_of_row _ _ _ _ _ h.g⟩
theorem Ng.keep (h : Ng w0 w pg nb rkb n I m so sc nm E P l rk) (hb : Below w.heap.size w W) : Ng w0 W pg nb rkb n I m so sc nm E P l rk :=
  ⟨h.bel.trans (hb.mono h.bel.size), (hb.block _ (lt_of_block h.g)).trans h.g, h.nr.keep (hb.block _ h.nr.lt), h.rk.keep (hb.block _ h.rk.lt), h.gpg, h.gnb, h.grk, h.n1, h.n2, h.n3⟩
theorem Ng.setRk (h : Ng w0 w pg nb rkb n I m so sc nm E P l rk) (u : Nat) (a : Int) : Ng w0 (w.setCell ⟨rkb, u, none⟩ (.int .i64 a)) pg nb rkb n I m so sc nm E P l (upd rk u a) := by
  have kb : ∀ b, b ≠ rkb → (w.setCell ⟨rkb, u, none⟩ (.int .i64 a)).heap[b]? = w.heap[b]? := fun b hb => heap_setCell_other _ _ _ _ hb
  exact ⟨h.bel.setCell h.grk _, (kb _ h.n2).trans h.g, h.nr.keep (kb _ h.n3), h.rk.set u a, h.gpg, h.gnb, h.grk, h.n1, h.n2, h.n3⟩
theorem Ng.push (h : Ng w0 w pg nb rkb n I m so sc nm E P l rk) {u : Nat} (hl : l.length < n) : Ng w0 ((w.setCell ⟨nb, l.length, none⟩ (.string (nm u))).setCell ⟨pg, 0, none⟩ (.slice (some ⟨nb, 0, none⟩) (l.length + 1) n)) pg nb rkb n I m so sc nm E P (l ++ [u]) rk := by
  have k1 : ∀ b, b ≠ nb → (w.setCell ⟨nb, l.length, none⟩ (.string (nm u))).heap[b]? = w.heap[b]? := fun b hb => heap_setCell_other _ _ _ _ hb
  have k2 : ∀ b, b ≠ pg → ((w.setCell ⟨nb, l.length, none⟩ (.string (nm u))).setCell ⟨pg, 0, none⟩ (.slice (some ⟨nb, 0, none⟩) (l.length + 1) n)).heap[b]? = (w.setCell ⟨nb, l.length, none⟩ (.string (nm u))).heap[b]? := fun b hb => heap_setCell_other _ _ _ _ hb
  refine ⟨(h.bel.setCell h.gnb _).setCell h.gpg _, ?_, (h.nr.push hl).keep (k2 _ (Ne.symm h.n1)), h.rk.keep ((k2 _ (Ne.symm h.n2)).trans (k1 _ (Ne.symm h.n3))), h.gpg, h.gnb, h.grk, h.n1, h.n2, h.n3⟩
  rw [heap_setCell_same _ _ _ _ _ _ ((k1 _ h.n1).trans h.g), List.length_append, List.length_singleton]
  rfl
end
end Go.Proofs.Ybulkcxvo
