/-
  The reduced graph's edges, plainly: what reduce emits, access by access.
-/
import Derived.Test.YbulkcxvoEdge
namespace Go.Proofs.Ybulkcxvo
open Go.RowKit

theorem snoc_ind {α : Type} {P : List α → Prop} (nil : P []) (snoc : ∀ l a, P l → P (l ++ [a])) (l : List α) : P l := by
  have key : ∀ r : List α, P r.reverse := by
    intro r
    induction r with
    | nil => exact nil
    | cons a r ih => rw [List.reverse_cons]; exact snoc _ _ ih
  have := key l.reverse
  rwa [List.reverse_reverse] at this
structure Ac where
  u : Nat
  x : Nat
  w : Bool
structure Rs where
  wr : Nat → Int
  rd : Nat → List Nat
  ed : List (Nat × Nat)
def emit0 (wr : Nat → Int) (a : Ac) : List (Nat × Nat) := if 0 ≤ wr a.x ∧ wr a.x ≠ (a.u : Int) then [((wr a.x).toNat, a.u)] else []
def emitR (l : List Nat) (u : Nat) : List (Nat × Nat) := (l.filter fun r => r != u).map fun r => (r, u)
def Rs.step (s : Rs) (a : Ac) : Rs := ⟨if a.w then upd s.wr a.x (a.u : Int) else s.wr, upd s.rd a.x (if a.w then [] else s.rd a.x ++ [a.u]), s.ed ++ (emit0 s.wr a ++ if a.w then emitR (s.rd a.x) a.u else [])⟩
def Rs.init : Rs := ⟨fun _ => -1, fun _ => [], []⟩
def runA (l : List Ac) : Rs := l.foldl Rs.step Rs.init
theorem runA_nil : runA [] = Rs.init := rfl
theorem runA_snoc (l : List Ac) (a : Ac) : runA (l ++ [a]) = (runA l).step a := by
  unfold runA
  rw [List.foldl_append]; rfl
theorem runA_ed (l r : List Ac) : (runA l).ed <+: (runA (l ++ r)).ed := by
  induction r using snoc_ind with
  | nil => rw [List.append_nil]; exact List.prefix_rfl
  | snoc r a ih =>
    rw [← List.append_assoc, runA_snoc]
    exact ih.trans (List.prefix_append _ _)
theorem at_prefix {α : Type} {l L : List α} {e : α} (h : l ++ [e] <+: L) : L[l.length]? = some e := by
  obtain ⟨t, rfl⟩ := h
  simp
theorem emitR_snoc (l : List Nat) (r u : Nat) : emitR (l ++ [r]) u = emitR l u ++ if r = u then [] else [(r, u)] := by
  unfold emitR
  rw [List.filter_append, List.map_append]
  by_cases e : r = u
  · simp [e]
  · simp [e]
/-- The history's steps as accesses of the ranked transactions. -/
def accOf (rk : Nat → Int) (tx : Nat → Nat) (it : Nat → Int) (kd : Nat → Nat) (i : Nat) : Option Ac := if rk (tx i) < 0 ∨ it i < 0 then none else some ⟨(rk (tx i)).toNat, (it i).toNat, kd i != 1⟩
def accL (rk : Nat → Int) (tx : Nat → Nat) (it : Nat → Int) (kd : Nat → Nat) (i : Nat) : List Ac := (List.range i).filterMap (accOf rk tx it kd)
section
variable {rk : Nat → Int} {tx : Nat → Nat} {it : Nat → Int} {kd : Nat → Nat}
theorem accL_zero : accL rk tx it kd 0 = [] := rfl
theorem accL_skip {i : Nat} (h : rk (tx i) < 0 ∨ it i < 0) : accL rk tx it kd (i + 1) = accL rk tx it kd i := by
  unfold accL
  rw [List.range_succ, List.filterMap_append]
  simp [accOf, h]
theorem accL_take {i u x : Nat} (hu : rk (tx i) = (u : Int)) (hx : it i = (x : Int)) : accL rk tx it kd (i + 1) = accL rk tx it kd i ++ [⟨u, x, kd i != 1⟩] := by
  unfold accL
  rw [List.range_succ, List.filterMap_append]
  have h : ¬ ((u : Int) < 0 ∨ (x : Int) < 0) := by omega
  simp [accOf, hu, hx]
theorem accL_prefix {i m : Nat} (h : i ≤ m) : accL rk tx it kd i <+: accL rk tx it kd m := by
  induction m with
  | zero => obtain rfl : i = 0 := by omega
            exact List.prefix_rfl
  | succ m ih =>
    by_cases e : i = m + 1
    · rw [e]; exact List.prefix_rfl
    · refine (ih (by omega)).trans ?_
      unfold accL
      rw [List.range_succ, List.filterMap_append]
      exact List.prefix_append _ _
theorem ed_prefix {i m : Nat} (h : i ≤ m) : (runA (accL rk tx it kd i)).ed <+: (runA (accL rk tx it kd m)).ed := by
  obtain ⟨t, ht⟩ := accL_prefix (rk := rk) (tx := tx) (it := it) (kd := kd) h
  rw [← ht]
  exact runA_ed _ _
end
/-- Bounds of what is emitted. -/
structure Ok (N c : Nat) (s : Rs) : Prop where
  wlt : ∀ x, s.wr x < (N : Int) ∧ -1 ≤ s.wr x
  rlt : ∀ x, ∀ r ∈ s.rd x, r < N
  elt : ∀ e ∈ s.ed, e.1 < N ∧ e.2 < N
  rlen : ∀ x, (s.rd x).length ≤ c
  elen : s.ed.length ≤ c * (c + 1)
theorem ok_run (N : Nat) (l : List Ac) (h : ∀ a ∈ l, a.u < N) : Ok N l.length (runA l) := by
  induction l using snoc_ind with
  | nil => exact ⟨fun x => ⟨by show (-1 : Int) < _; omega, by show (-1 : Int) ≤ -1; omega⟩, (fun x r hr => by cases hr), (fun e he => by cases he), fun x => Nat.le_refl _, Nat.le_refl _⟩
  | snoc l a ih =>
    have ih := ih (fun b hb => h b (by simp [hb]))
    have ha := h a (by simp)
    rw [runA_snoc, List.length_append, List.length_singleton]
    generalize runA l = s at ih ⊢
    obtain ⟨wr, rd, ed⟩ := s
    obtain ⟨h1, h2, h3, h4, h5⟩ := ih
    simp only at h1 h2 h3 h4 h5
    refine ⟨fun x => ?_, fun x r hr => ?_, fun e he => ?_, fun x => ?_, ?_⟩
    · show (if a.w then upd wr a.x (a.u : Int) else wr) x < (N : Int) ∧ -1 ≤ (if a.w then upd wr a.x (a.u : Int) else wr) x
      split
      · by_cases e : x = a.x
        · rw [e, upd_same]; omega
        · rw [upd_ne _ _ e]; exact h1 x
      · exact h1 x
    · have hr : r ∈ upd rd a.x (if a.w then [] else rd a.x ++ [a.u]) x := hr
      by_cases e : x = a.x
      · rw [e, upd_same] at hr
        split at hr
        · cases hr
        · rw [List.mem_append, List.mem_singleton] at hr
          rcases hr with hr | hr
          · exact h2 _ r hr
          · rw [hr]; exact ha
      · rw [upd_ne _ _ e] at hr; exact h2 x r hr
    · have he : e ∈ ed ++ (emit0 wr a ++ if a.w then emitR (rd a.x) a.u else []) := he
      rw [List.mem_append, List.mem_append] at he
      rcases he with he | he | he
      · exact h3 e he
      · unfold emit0 at he
        split at he
        · rw [List.mem_singleton] at he
          rw [he]
          have := h1 a.x
          exact ⟨by show (wr a.x).toNat < N; omega, ha⟩
        · cases he
      · split at he
        · unfold emitR at he
          rw [List.mem_map] at he
          obtain ⟨r, hr, rfl⟩ := he
          exact ⟨h2 _ r (List.mem_filter.1 hr).1, ha⟩
        · cases he
    · show (upd rd a.x (if a.w then [] else rd a.x ++ [a.u]) x).length ≤ l.length + 1
      by_cases e : x = a.x
      · rw [e, upd_same]
        split
        · exact Nat.zero_le _
        · rw [List.length_append, List.length_singleton]; have := h4 a.x; omega
      · rw [upd_ne _ _ e]; have := h4 x; omega
    · show (ed ++ (emit0 wr a ++ if a.w then emitR (rd a.x) a.u else [])).length ≤ _
      have hl0 : (emit0 wr a).length ≤ 1 := by
        unfold emit0
        split
        · exact Nat.le_refl _
        · exact Nat.zero_le _
      have hl1 : (if a.w then emitR (rd a.x) a.u else []).length ≤ l.length := by
        split
        · unfold emitR
          rw [List.length_map]
          exact Nat.le_trans (List.length_filter_le _ _) (h4 a.x)
        · exact Nat.zero_le _
      rw [List.length_append, List.length_append]
      have hq : ∀ c : Nat, (c + 1) * (c + 1 + 1) = c * (c + 1) + 2 * (c + 1) := fun c => by rw [Nat.add_mul c 1 (c + 1 + 1), Nat.mul_add c (c + 1) 1]; omega
      rw [hq]
      omega
end Go.Proofs.Ybulkcxvo
