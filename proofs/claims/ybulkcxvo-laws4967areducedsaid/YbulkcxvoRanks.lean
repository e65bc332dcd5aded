/-
  zzs4967aranks: the ranks by counting.
-/
import Derived.Test.YbulkcxvoNg
namespace Go.Proofs.Ybulkcxvo
open Go.RowKit

def posI (P : Nat → Nat) : Nat → Nat → Nat
  | 0 => fun _ => 0
  | i + 1 => upd (posI P i) (P i) i
theorem posI_at {n : Nat} {P : Nat → Nat} (inj : ∀ i j, i < n → j < n → P i = P j → i = j) : ∀ {i : Nat}, i ≤ n → ∀ j, j < i → posI P i (P j) = j
  | 0, _, j, hj => by omega
  | i + 1, hi, j, hj => by
    unfold posI
    by_cases e : j = i
    · rw [e, upd_same]
    · rw [upd_ne _ _ (fun h => e (inj j i (by omega) (by omega) h))]
      exact posI_at inj (by omega) j (by omega)
/-- Counting over the nodes is counting along the order. -/
theorem count_kept {n : Nat} {E P : Nat → Nat} (plt : ∀ i, i < n → P i < n) (inj : ∀ i j, i < n → j < n → P i = P j → i = j) : ∀ j, j ≤ n → ((List.range n).filter fun v => decide (v < n) && decide (E v ≠ 4) && decide (posI P n v < j)).length = (kept E P j).length
  | 0, _ => by simp [kept]
  | j + 1, hj => by
    have ih := count_kept (E := E) plt inj j (by omega)
    have hpj := posI_at inj (Nat.le_refl n) j (by omega)
    have key : ∀ x, x ≠ P j → (decide (x < n) && decide (E x ≠ 4) && decide (posI P n x < j + 1)) = (decide (x < n) && decide (E x ≠ 4) && decide (posI P n x < j)) := by
      intro x hx
      by_cases hxn : x < n
      · obtain ⟨i, hi, rfl⟩ := surj plt inj x hxn
        have hpi := posI_at inj (Nat.le_refl n) i hi
        rw [hpi]
        have hij : i ≠ j := fun e => hx (by rw [e])
        by_cases h : i < j
        · simp [h, show i < j + 1 by omega]
        · simp [h, show ¬ i < j + 1 by omega]
      · simp [hxn]
    by_cases hE : E (P j) = 4
    · have : (List.range n).filter (fun v => decide (v < n) && decide (E v ≠ 4) && decide (posI P n v < j + 1)) = (List.range n).filter fun v => decide (v < n) && decide (E v ≠ 4) && decide (posI P n v < j) := by
        apply List.filter_congr
        intro x _
        by_cases e : x = P j
        · rw [e]; simp [hE]
        · exact key x e
      rw [this, ih]
      show _ = (kept E P j ++ if E (P j) = 4 then [] else [P j]).length
      rw [if_pos hE, List.append_nil]
    · have := count_more (n := n) (v := P j) (q := fun v => decide (v < n) && decide (E v ≠ 4) && decide (posI P n v < j)) (q' := fun v => decide (v < n) && decide (E v ≠ 4) && decide (posI P n v < j + 1)) (plt j (by omega)) (by simp [hpj]) (by simp [hpj, hE, plt j (by omega)]) key
      rw [this, ih]
      show _ = (kept E P j ++ if E (P j) = 4 then [] else [P j]).length
      rw [if_neg hE, List.length_append, List.length_singleton]
/-- The inner loop's count. -/
def cntR (n : Nat) (E P : Nat → Nat) (j v : Nat) : Nat := ((List.range v).filter fun x => decide (E x ≠ 4) && decide (posI P n x < j)).length
theorem cntR_step (n : Nat) (E P : Nat → Nat) (j v : Nat) : cntR n E P j (v + 1) = cntR n E P j v + if E v ≠ 4 ∧ posI P n v < j then 1 else 0 := by
  unfold cntR
  rw [List.range_succ, List.filter_append, List.length_append]
  by_cases h : E v ≠ 4 ∧ posI P n v < j
  · rw [if_pos h]; simp [h.1, h.2]
  · rw [if_neg h]
    have : (decide (E v ≠ 4) && decide (posI P n v < j)) = false := by
      rw [Bool.and_eq_false_iff]
      by_cases h1 : E v ≠ 4
      · exact .inr (decide_eq_false fun h2 => h ⟨h1, h2⟩)
      · exact .inl (decide_eq_false h1)
    simp only [List.filter_cons, this, List.filter_nil]
    simp
theorem cntR_le (n : Nat) (E P : Nat → Nat) (j v : Nat) : cntR n E P j v ≤ v := by
  unfold cntR
  refine Nat.le_trans (List.length_filter_le _ _) ?_
  simp
theorem cntR_all {n : Nat} {E P : Nat → Nat} (plt : ∀ i, i < n → P i < n) (inj : ∀ i j, i < n → j < n → P i = P j → i = j) (j : Nat) (hj : j ≤ n) : cntR n E P j n = (kept E P j).length := by
  rw [← count_kept plt inj j hj]
  unfold cntR
  congr 1
  apply List.filter_congr
  intro x hx
  rw [List.mem_range] at hx
  simp [hx]
/-- How many are kept among the first. -/
def cntE (E : Nat → Nat) (u : Nat) : Nat := ((List.range u).filter fun x => decide (E x ≠ 4)).length
theorem cntE_step (E : Nat → Nat) (u : Nat) : cntE E (u + 1) = cntE E u + if E u = 4 then 0 else 1 := by
  unfold cntE
  rw [List.range_succ, List.filter_append, List.length_append]
  by_cases h : E u = 4 <;> simp [h]
theorem cntE_le (E : Nat → Nat) (u : Nat) : cntE E u ≤ u := by
  unfold cntE
  refine Nat.le_trans (List.length_filter_le _ _) ?_
  simp
theorem cntE_all {n : Nat} {E P : Nat → Nat} (plt : ∀ i, i < n → P i < n) (inj : ∀ i j, i < n → j < n → P i = P j → i = j) : cntE E n = (kept E P n).length := by
  rw [← count_kept plt inj n (Nat.le_refl _)]
  unfold cntE
  congr 1
  apply List.filter_congr
  intro x hx
  rw [List.mem_range] at hx
  obtain ⟨i, hi, rfl⟩ := surj plt inj x hx
  rw [posI_at inj (Nat.le_refl n) i hi]
  simp [hx, hi]
/-- The ranks found for the first k. -/
def rkU (n : Nat) (E P : Nat → Nat) (k : Nat) (x : Nat) : Int := if x < k then rkI E P n x else 0
theorem rkU_step {n : Nat} {E P : Nat → Nat} (k : Nat) (a : Int) (h : a = rkI E P n k) : upd (rkU n E P k) k a = rkU n E P (k + 1) := by
  funext x
  unfold rkU
  by_cases e : x = k
  · rw [e, upd_same, if_pos (by omega)]; exact h
  · rw [upd_ne _ _ e]
    by_cases hx : x < k
    · rw [if_pos hx, if_pos (by omega)]
    · rw [if_neg hx, if_neg (by omega)]
theorem rk_count {n : Nat} {E P : Nat → Nat} (plt : ∀ i, i < n → P i < n) (inj : ∀ i j, i < n → j < n → P i = P j → i = j) {u : Nat} (hu : u < n) (hE : E u ≠ 4) : (cntR n E P (posI P n u) n : Int) = rkI E P n u := by
  obtain ⟨j, hj, rfl⟩ := surj plt inj u hu
  rw [posI_at inj (Nat.le_refl n) j hj, rkI_at inj (Nat.le_refl n) j hj, if_neg hE, cntR_all plt inj j (by omega)]
theorem rk_abort {n : Nat} {E P : Nat → Nat} (plt : ∀ i, i < n → P i < n) (inj : ∀ i j, i < n → j < n → P i = P j → i = j) {u : Nat} (hu : u < n) (hE : E u = 4) : (-1 : Int) = rkI E P n u := by
  obtain ⟨j, hj, rfl⟩ := surj plt inj u hu
  rw [rkI_at inj (Nat.le_refl n) j hj, if_pos hE]
end Go.Proofs.Ybulkcxvo
