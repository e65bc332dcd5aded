/-
  The plain law behind (*graph).components: a step along an edge; a node left; a component labelled.
-/
import Derived.Test.YbulkcxvoTarjan
namespace Go.Proofs.Ybulkcxvo

theorem pairwise_inj {f : Nat → Nat} : ∀ {l : List Nat}, l.Pairwise (fun a b => f a < f b) → ∀ x ∈ l, ∀ y ∈ l, f x = f y → x = y
  | [], _, _, hx => by cases hx
  | a :: r, h, x, hx => by
    rw [List.pairwise_cons] at h
    intro y hy e
    rcases List.mem_cons.1 hx with hx1 | hx1 <;> rcases List.mem_cons.1 hy with hy1 | hy1
    · rw [hx1, hy1]
    · have := h.1 y hy1; rw [← hx1] at this; omega
    · have := h.1 x hx1; rw [← hy1] at this; omega
    · exact pairwise_inj h.2 x hx1 y hy1 e
theorem Inv.inj {n : Nat} {adj : Nat → List Nat} {s : St} (h : Inv n adj s) {x y : Nat} (hx : s.on x = true) (hy : s.on y = true) (e : s.idx x = s.idx y) : x = y :=
  pairwise_inj h.sorted x ((h.stkOn x).2 hx) y ((h.stkOn y).2 hy) e

theorem mem_of_get {l : List Nat} {i v : Nat} (h : l[i]? = some v) : v ∈ l := List.mem_of_getElem? h

/-- One more edge of the path's last node, to a node that was visited. -/
theorem Inv.bump {n : Nat} {adj : Nat → List Nat} {s : St} (h : Inv n adj s) {u v k : Nat} {pre : List (Nat × Nat)} (hp : s.path = pre ++ [(u, k)]) (hk : (adj u)[k]? = some v) (hv : 0 < s.idx v) (L : Nat → Nat)
    (hLx : ∀ x, x ≠ u → L x = s.low x) (hL1 : L u ≤ s.low u) (hL2 : L u = s.low u ∨ (s.on v = true ∧ L u = s.idx v)) (hL3 : s.on v = true → L u ≤ s.idx v) :
    Inv n adj { s with path := pre ++ [(u, k + 1)], low := L } := by
  obtain ⟨s', hs'⟩ : ∃ s', s' = ({ s with path := pre ++ [(u, k + 1)], low := L } : St) := ⟨_, rfl⟩
  rw [← hs']
  have hpn : s'.pn = s.pn := by
    unfold St.pn
    rw [hs', hp]
    simp
  have hup : u ∈ s.pn := by unfold St.pn; rw [hp]; simp
  have hlow : s'.low = L := by rw [hs']
  have hle : ∀ x, L x ≤ s.low x := fun x => by
    by_cases e : x = u
    · rw [e]; exact hL1
    · rw [hLx x e]; exact Nat.le_refl _
  have hkl : k < (adj u).length := (List.getElem?_eq_some_iff.1 hk).1
  have hproc : ∀ x y, s'.proc adj x y → s.proc adj x y ∨ (x = u ∧ y = v) := by
    rintro x y ⟨i, hi, hx, hall⟩
    have hx : s.on x = true := by rw [hs'] at hx; exact hx
    have hall : ∀ p ∈ pre ++ [(u, k + 1)], p.1 = x → i < p.2 := by rw [hs'] at hall; exact hall
    by_cases e : x = u
    · subst e
      by_cases ei : i = k
      · subst ei
        rw [hk] at hi
        exact .inr ⟨rfl, (Option.some.inj hi).symm⟩
      · refine .inl ⟨i, hi, hx, fun p hpp hpx => ?_⟩
        rw [hp, List.mem_append, List.mem_singleton] at hpp
        rcases hpp with hpp | rfl
        · exact hall p (by simp [hpp]) hpx
        · have := hall (x, k + 1) (by simp) rfl
          show i < k
          simp at this
          omega
    · refine .inl ⟨i, hi, hx, fun p hpp hpx => ?_⟩
      rw [hp, List.mem_append, List.mem_singleton] at hpp
      rcases hpp with hpp | rfl
      · exact hall p (by simp [hpp]) hpx
      · exact absurd hpx.symm e
  refine ⟨?_, ?_, ?_, ?_, ?_, ?_, ?_, ?_, ?_, ?_, ?_, ?_, ?_, ?_, ?_, ?_, ?_, ?_, ?_⟩
  · rw [hs']; exact h.stkOn
  · rw [hs']; exact h.onLt
  · rw [hs']; exact h.sorted
  · rw [hs']; exact h.idxVis
  · rw [hs']; exact h.onVis
  · rw [hpn, hs']; exact h.pathOn
  · rw [hpn, hs']; exact h.pathSorted
  · intro p hpp
    have hpp : p ∈ pre ++ [(u, k + 1)] := by rw [hs'] at hpp; exact hpp
    rw [List.mem_append, List.mem_singleton] at hpp
    rcases hpp with hpp | rfl
    · exact h.pathDeg p (by rw [hp]; simp [hpp])
    · exact hkl
  · rw [hpn, hs']; exact h.base
  · rw [hpn, hs']; exact h.reachUp
  · intro x hx
    rw [hlow]
    have hx : s.on x = true := by rw [hs'] at hx; exact hx
    have hi : s'.idx x = s.idx x := by rw [hs']
    rw [hi]
    exact Nat.le_trans (hle x) (h.lowLe x hx)
  · intro x hx
    have hx : s.on x = true := by rw [hs'] at hx; exact hx
    have hi : s'.idx = s.idx := by rw [hs']
    have ho : s'.on = s.on := by rw [hs']
    rw [hlow, hi, ho]
    by_cases e : x = u
    · subst e
      rcases hL2 with h2 | ⟨h2, h3⟩
      · rw [h2]; exact h.lowAt x hx
      · exact ⟨v, h2, h3.symm, Reach.edge (mem_of_get hk)⟩
    · rw [hLx x e]; exact h.lowAt x hx
  · intro x hx hn
    have hx : s.on x = true := by rw [hs'] at hx; exact hx
    have hi : s'.idx = s.idx := by rw [hs']
    rw [hpn] at hn
    rw [hlow, hi, hLx x (fun e => hn (by rw [e]; exact hup))]
    exact h.lowOff x hx hn
  · intro x hx p hpp
    have hi : s'.idx = s.idx := by rw [hs']
    have ho : s'.on = s.on := by rw [hs']
    rw [hpn] at hpp ⊢
    rw [hlow, hi, ho]
    rw [ho] at hx
    intro hix hmax
    obtain ⟨g1, g2⟩ := h.near x hx p hpp hix hmax
    have hpu : x = u → p = u := by
      intro e
      subst e
      exact h.inj (h.pathOn p hpp) hx (Nat.le_antisymm hix (hmax x hup (Nat.le_refl _)))
    constructor
    · by_cases e : x = u
      · rw [hpu e, e]; exact Nat.le_refl _
      · rw [hLx x e]; exact Nat.le_trans (hle p) g1
    · intro y hy hyo
      rcases hproc x y hy with hy | ⟨rfl, rfl⟩
      · exact Nat.le_trans (hle p) (g2 y hy hyo)
      · rw [hpu rfl]; exact hL3 hyo
  · intro x y hy
    have hi : s'.idx = s.idx := by rw [hs']
    rw [hi]
    rcases hproc x y hy with hy | ⟨_, rfl⟩
    · exact h.procVis x y hy
    · exact hv
  · rw [hs']; exact h.closed
  · rw [hs']; exact h.compLt
  · rw [hs']; exact h.same
  · rw [hs']; exact h.sizes

/-- One more edge of the path's last node, to a node that was not visited. -/
theorem Inv.goOn {n : Nat} {adj : Nat → List Nat} {s : St} (h : Inv n adj s) {u v k : Nat} {pre : List (Nat × Nat)} (hp : s.path = pre ++ [(u, k)]) (hk : (adj u)[k]? = some v) (hv : s.idx v = 0) (hvn : v < n) :
    Inv n adj (s.enter (pre ++ [(u, k + 1)]) v) := by
  have hkl : k < (adj u).length := (List.getElem?_eq_some_iff.1 hk).1
  have hup : u ∈ s.pn := by unfold St.pn; rw [hp]; simp
  refine h.enter hv hvn ?_ ?_ ?_ ?_
  · unfold St.pn; rw [hp]; simp
  · intro p hpp
    rw [List.mem_append, List.mem_singleton] at hpp
    rcases hpp with hpp | rfl
    · exact h.pathDeg p (by rw [hp]; simp [hpp])
    · exact hkl
  · intro x y i hi hx hall
    by_cases e : x = u ∧ i = k
    · obtain ⟨rfl, rfl⟩ := e
      rw [hk] at hi
      exact .inr (Option.some.inj hi).symm
    · refine .inl fun p hpp hpx => ?_
      rw [hp, List.mem_append, List.mem_singleton] at hpp
      rcases hpp with hpp | rfl
      · exact hall p (by simp [hpp]) hpx
      · have := hall (u, k + 1) (by simp) hpx
        show i < k
        have hpx : u = x := hpx
        have : i < k + 1 := this
        have : i ≠ k := fun ek => e ⟨hpx.symm, ek⟩
        omega
  · intro p hpp
    refine (h.reachUp p hpp u (h.pathOn u hup) ?_).trans (Reach.edge (mem_of_get hk))
    unfold St.pn at hpp
    have hs := h.pathSorted
    unfold St.pn at hs
    rw [hp, List.map_append, List.pairwise_append] at hs
    rw [hp, List.map_append, List.mem_append] at hpp
    rcases hpp with hpp | hpp
    · exact Nat.le_of_lt (hs.2.2 p hpp u (by simp))
    · simp at hpp
      rw [hpp]; exact Nat.le_refl _
theorem Inv.begin {n : Nat} {adj : Nat → List Nat} {s : St} (h : Inv n adj s) {v : Nat} (hp : s.path = []) (hv : s.idx v = 0) (hvn : v < n) : Inv n adj (s.enter [] v) := by
  refine h.enter hv hvn (by unfold St.pn; rw [hp]) (by simp) (fun x y i _ _ _ => .inl (by rw [hp]; simp)) (fun p hpp => ?_)
  unfold St.pn at hpp
  rw [hp] at hpp
  simp at hpp
end Go.Proofs.Ybulkcxvo
