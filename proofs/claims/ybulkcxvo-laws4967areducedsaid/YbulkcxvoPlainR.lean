/-
  LawS4967AReduced, plainly: the law's own model emits what reduce emits; collect's rows are the model's rows.
-/
import Derived.Test.YbulkcxvoCollect
namespace Go.Proofs.Ybulkcxvo
open Go.RowKit

/-- An owner's values among the edges, in their order. -/
def toRow (ed : List (Nat × Nat)) (a : Nat) : List Nat := ed.filterMap fun e => if e.1 = a then some e.2 else none
theorem toRow_nil (a : Nat) : toRow [] a = [] := rfl
theorem toRow_snoc (ed : List (Nat × Nat)) (f t : Nat) : toRow (ed ++ [(f, t)]) = upd (toRow ed) f (toRow ed f ++ [t]) := by
  funext a
  unfold toRow
  rw [List.filterMap_append]
  by_cases e : a = f
  · subst e
    rw [upd_same]
    simp
  · rw [upd_ne _ _ e]
    have : ¬ f = a := fun h => e h.symm
    simp [this]
section
variable {L : List (Nat × Nat)} {n : Nat}
theorem take_at {k : Nat} (hk : k < L.length) : L.take (k + 1) = L.take k ++ [(frL L k, toL L k)] := by
  rw [List.take_succ_eq_append_getElem hk]
  congr 1
  unfold frL toL
  rw [List.getD_eq_getElem?_getD, List.getElem?_eq_getElem hk]
  rfl
theorem toRow_len (hlt : ∀ e ∈ L, e.1 < n ∧ e.2 < n) (a : Nat) : ∀ k, k ≤ L.length → (toRow (L.take k) a).length = cF n (frL L) a k
  | 0, _ => by simp [toRow, cF]
  | k + 1, h => by
    have ih := toRow_len hlt a k (by omega)
    have hf : frL L k < n := by
      have hk : k < L.length := by omega
      have := hlt L[k] (List.getElem_mem _)
      rw [(frL_at (List.getElem?_eq_getElem hk)).1]
      exact this.1
    rw [take_at (by omega), toRow_snoc]
    unfold cF
    rw [Nat.mod_eq_of_lt hf]
    by_cases e : a = frL L k
    · rw [if_pos e.symm, ← e, upd_same, List.length_append, ih]; rfl
    · rw [if_neg (fun h => e h.symm), upd_ne _ _ e, ih]; rfl
theorem val_row (hlt : ∀ e ∈ L, e.1 < n ∧ e.2 < n) : ∀ k, k ≤ L.length → ∀ a, a < n → ∀ i, i < cF n (frL L) a k → (toRow (L.take k) a)[i]? = some (valF n (frL L) (toL L) L.length k (atF n (frL L) L.length a + i))
  | 0, _, a, _, i, hi => by simp [cF] at hi
  | k + 1, h, a, ha, i, hi => by
    have ih := val_row hlt k (by omega)
    have hk : k < L.length := by omega
    have hb := hlt L[k] (List.getElem_mem _)
    have hat := frL_at (List.getElem?_eq_getElem hk)
    have hf : frL L k < n := by rw [hat.1]; exact hb.1
    have ht : toL L k < n := by rw [hat.2]; exact hb.2
    rw [take_at hk, toRow_snoc]
    show _ = some (upd (valF n (frL L) (toL L) L.length k) (nextF n (frL L) L.length k (frL L k % n)) (toL L k % n) _)
    rw [Nat.mod_eq_of_lt hf, Nat.mod_eq_of_lt ht]
    have hlen := toRow_len hlt (frL L k) k (by omega)
    unfold cF at hi
    rw [Nat.mod_eq_of_lt hf] at hi
    unfold nextF
    by_cases e : a = frL L k
    · rw [if_pos e.symm] at hi
      rw [← e] at hlen ⊢
      rw [upd_same]
      by_cases e2 : i = cF n (frL L) a k
      · rw [e2, upd_same, List.getElem?_append_right (by omega), hlen, Nat.sub_self]; rfl
      · rw [upd_ne _ _ (by omega), List.getElem?_append_left (by omega)]
        exact ih a ha i (by omega)
    · rw [if_neg (fun h => e h.symm)] at hi
      rw [upd_ne _ _ e, upd_ne _ _ ?_]
      · exact ih a ha i (by omega)
      · have h1 : cF n (frL L) a k ≤ cF n (frL L) a L.length := cF_mono n (frL L) a (by omega)
        have h2 : cF n (frL L) (frL L k) (k + 1) ≤ cF n (frL L) (frL L k) L.length := cF_mono n (frL L) _ (by omega)
        have h3 : cF n (frL L) (frL L k) (k + 1) = cF n (frL L) (frL L k) k + 1 := by
          show _ + (if frL L k % n = frL L k then 1 else 0) = _
          rw [if_pos (Nat.mod_eq_of_lt hf)]
        rcases Nat.lt_or_gt_of_ne e with h4 | h4
        · have h5 : atF n (frL L) L.length (a + 1) ≤ atF n (frL L) L.length (frL L k) := at_mono n L.length (frL L) h4
          have h6 : atF n (frL L) L.length (a + 1) = atF n (frL L) L.length a + cF n (frL L) a L.length := rfl
          omega
        · have h5 : atF n (frL L) L.length (frL L k + 1) ≤ atF n (frL L) L.length a := at_mono n L.length (frL L) h4
          have h6 : atF n (frL L) L.length (frL L k + 1) = atF n (frL L) L.length (frL L k) + cF n (frL L) (frL L k) L.length := rfl
          omega
/-- collect's row of an owner. -/
theorem row_is (hlt : ∀ e ∈ L, e.1 < n ∧ e.2 < n) {a : Nat} (ha : a < n) : (toRow L a).length = atF n (frL L) L.length (a + 1) - atF n (frL L) L.length a ∧ ∀ i, i < (toRow L a).length → (toRow L a)[i]? = some (valF n (frL L) (toL L) L.length L.length (atF n (frL L) L.length a + i)) := by
  have h1 := toRow_len hlt a L.length (Nat.le_refl _)
  rw [List.take_length] at h1
  have h6 : atF n (frL L) L.length (a + 1) = atF n (frL L) L.length a + cF n (frL L) a L.length := rfl
  refine ⟨by omega, fun i hi => ?_⟩
  have := val_row hlt L.length (Nat.le_refl _) a ha i (by omega)
  rwa [List.take_length] at this
end
/-- The state behind the first j accesses. -/
def RS (A : Nat → Ac) (j : Nat) : Rs := runA ((List.range j).map A)
theorem RS_zero (A : Nat → Ac) : RS A 0 = Rs.init := rfl
theorem RS_succ (A : Nat → Ac) (j : Nat) : RS A (j + 1) = (RS A j).step (A j) := by
  unfold RS
  rw [List.range_succ, List.map_append]
  exact runA_snoc _ _
/-- The reads of x from place i on, among the first j. -/
def rdIx (A : Nat → Ac) (x i j : Nat) : List Nat := (List.range j).filter fun t => decide (i ≤ t) && decide ((A t).x = x)
theorem rdIx_succ (A : Nat → Ac) (x i j : Nat) : rdIx A x i (j + 1) = rdIx A x i j ++ if i ≤ j ∧ (A j).x = x then [j] else [] := by
  unfold rdIx
  rw [List.range_succ, List.filter_append]
  by_cases h : i ≤ j ∧ (A j).x = x
  · rw [if_pos h]; simp [h.1, h.2]
  · rw [if_neg h]
    have : (decide (i ≤ j) && decide ((A j).x = x)) = false := by
      rw [Bool.and_eq_false_iff]
      by_cases h1 : i ≤ j
      · exact .inr (decide_eq_false fun h2 => h ⟨h1, h2⟩)
      · exact .inl (decide_eq_false h1)
    simp only [List.filter_cons, this, List.filter_nil]
    rfl
def noW (A : Nat → Ac) (x i j : Nat) : Prop := ∀ t, i ≤ t → t < j → (A t).x = x → (A t).w = false
/-- No write of x yet. -/
theorem rs_none (A : Nat → Ac) (x : Nat) : ∀ j, noW A x 0 j → (RS A j).wr x = -1 ∧ (RS A j).rd x = (rdIx A x 0 j).map fun t => (A t).u
  | 0, _ => ⟨rfl, rfl⟩
  | j + 1, h => by
    obtain ⟨h1, h2⟩ := rs_none A x j fun t ht hj hx => h t ht (by omega) hx
    rw [RS_succ, rdIx_succ]
    generalize RS A j = s at h1 h2 ⊢
    show (if (A j).w then upd s.wr (A j).x ((A j).u : Int) else s.wr) x = -1 ∧ upd s.rd (A j).x (if (A j).w then [] else s.rd (A j).x ++ [(A j).u]) x = _
    by_cases hx : (A j).x = x
    · have hw := h j (by omega) (by omega) hx
      have e1 : (if 0 ≤ j ∧ (A j).x = x then [j] else []) = [j] := if_pos ⟨by omega, hx⟩
      rw [e1, hw, hx, upd_same]
      refine ⟨h1, ?_⟩
      rw [List.map_append, h2]
      rfl
    · have e1 : (if 0 ≤ j ∧ (A j).x = x then [j] else []) = [] := if_neg (fun h => hx h.2)
      rw [e1, upd_ne s.rd _ (fun h => hx h.symm), List.append_nil]
      refine ⟨?_, h2⟩
      split
      · rw [upd_ne _ _ (fun h => hx h.symm)]; exact h1
      · exact h1
/-- The last write of x stands at place i. -/
theorem rs_some (A : Nat → Ac) (x i : Nat) (hxi : (A i).x = x) (hwi : (A i).w = true) : ∀ j, i < j → noW A x (i + 1) j → (RS A j).wr x = ((A i).u : Int) ∧ (RS A j).rd x = (rdIx A x (i + 1) j).map fun t => (A t).u
  | 0, h, _ => by omega
  | j + 1, hj, h => by
    rw [RS_succ, rdIx_succ]
    by_cases e : i = j
    · subst e
      generalize RS A i = s
      show (if (A i).w then upd s.wr (A i).x ((A i).u : Int) else s.wr) x = _ ∧ upd s.rd (A i).x (if (A i).w then [] else s.rd (A i).x ++ [(A i).u]) x = _
      rw [hwi, hxi, if_pos rfl, if_pos rfl, upd_same, upd_same, if_neg (fun h => by omega), List.append_nil]
      refine ⟨rfl, ?_⟩
      have : rdIx A x (i + 1) i = [] := by
        unfold rdIx
        rw [List.filter_eq_nil_iff]
        intro t ht
        rw [List.mem_range] at ht
        simp
        omega
      rw [this]; rfl
    · obtain ⟨h1, h2⟩ := rs_some A x i hxi hwi j (by omega) fun t ht hj hx => h t ht (by omega) hx
      generalize RS A j = s at h1 h2 ⊢
      show (if (A j).w then upd s.wr (A j).x ((A j).u : Int) else s.wr) x = _ ∧ upd s.rd (A j).x (if (A j).w then [] else s.rd (A j).x ++ [(A j).u]) x = _
      by_cases hx : (A j).x = x
      · have hw := h j (by omega) (by omega) hx
        have e1 : (if i + 1 ≤ j ∧ (A j).x = x then [j] else []) = [j] := if_pos ⟨by omega, hx⟩
        rw [e1, hw, hx, upd_same]
        refine ⟨h1, ?_⟩
        rw [List.map_append, h2]
        rfl
      · have e1 : (if i + 1 ≤ j ∧ (A j).x = x then [j] else []) = [] := if_neg (fun h => hx h.2)
        rw [e1, upd_ne s.rd _ (fun h => hx h.symm), List.append_nil]
        refine ⟨?_, h2⟩
        split
        · rw [upd_ne _ _ (fun h => hx h.symm)]; exact h1
        · exact h1
/-- One more place looked at, going down. -/
theorem rdIx_down (A : Nat → Ac) (x i j : Nat) (hij : i < j) : rdIx A x i j = (if (A i).x = x then [i] else []) ++ rdIx A x (i + 1) j := by
  induction j with
  | zero => omega
  | succ j ih =>
    rw [rdIx_succ, rdIx_succ]
    by_cases e : i = j
    · subst e
      have h0 : ∀ k, i ≤ k → rdIx A x k i = [] := by
        intro k hk
        unfold rdIx
        rw [List.filter_eq_nil_iff]
        intro t ht
        rw [List.mem_range] at ht
        simp
        omega
      rw [h0 i (Nat.le_refl _), h0 (i + 1) (by omega), if_neg (fun h : i + 1 ≤ i ∧ _ => by omega)]
      by_cases hx : (A i).x = x
      · rw [if_pos ⟨Nat.le_refl _, hx⟩, if_pos hx]; rfl
      · rw [if_neg (fun h => hx h.2), if_neg hx]; rfl
    · rw [ih (by omega)]
      by_cases hx : (A j).x = x
      · have e1 : (if i ≤ j ∧ (A j).x = x then [j] else []) = [j] := if_pos ⟨by omega, hx⟩
        have e2 : (if i + 1 ≤ j ∧ (A j).x = x then [j] else []) = [j] := if_pos ⟨by omega, hx⟩
        rw [e1, e2, List.append_assoc]
      · have e1 : (if i ≤ j ∧ (A j).x = x then [j] else []) = [] := if_neg (fun h => hx h.2)
        have e2 : (if i + 1 ≤ j ∧ (A j).x = x then [j] else []) = [] := if_neg (fun h => hx h.2)
        rw [e1, e2, List.append_nil, List.append_nil]
end Go.Proofs.Ybulkcxvo
