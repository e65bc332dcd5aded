/-
  The plain law behind (*graph).components: a node left; a component labelled; the end.
-/
import Derived.Test.YbulkcxvoTarjanMore
namespace Go.Proofs.Ybulkcxvo

section
variable {n : Nat} {adj : Nat → List Nat} {s : St} {u k : Nat} {pre : List (Nat × Nat)}

theorem pn_of (hp : s.path = pre ++ [(u, k)]) : s.pn = pre.map Prod.fst ++ [u] := by unfold St.pn; rw [hp]; simp
theorem Inv.preLt (h : Inv n adj s) (hp : s.path = pre ++ [(u, k)]) : ∀ p ∈ pre.map Prod.fst, s.idx p < s.idx u := by
  intro p hpp
  have hs := h.pathSorted
  rw [pn_of hp, List.pairwise_append] at hs
  exact hs.2.2 p hpp u (by simp)
theorem Inv.topMax (h : Inv n adj s) (hp : s.path = pre ++ [(u, k)]) : ∀ p ∈ s.pn, s.idx p ≤ s.idx u := by
  intro p hpp
  rw [pn_of hp, List.mem_append, List.mem_singleton] at hpp
  rcases hpp with hpp | rfl
  · exact Nat.le_of_lt (h.preLt hp p hpp)
  · exact Nat.le_refl _
theorem top_mem (hp : s.path = pre ++ [(u, k)]) : u ∈ s.pn := by rw [pn_of hp]; simp
theorem Inv.nearTop (h : Inv n adj s) (hp : s.path = pre ++ [(u, k)]) {x : Nat} (hx : s.on x = true) (hi : s.idx u ≤ s.idx x) : s.low u ≤ s.low x ∧ ∀ y, s.proc adj x y → s.on y = true → s.low u ≤ s.idx y :=
  h.near x hx u (top_mem hp) hi (fun q hq _ => h.topMax hp q hq)
theorem Inv.procAll (h : Inv n adj s) (hp : s.path = pre ++ [(u, k)]) (hk : (adj u).length ≤ k) {x y : Nat} (hx : s.on x = true) (hi : s.idx u ≤ s.idx x) (hy : y ∈ adj x) : s.proc adj x y := by
  obtain ⟨i, hlt, hiy⟩ := List.getElem_of_mem hy
  refine ⟨i, by rw [List.getElem?_eq_getElem hlt, hiy], hx, fun p hpp hpx => ?_⟩
  rw [hp, List.mem_append, List.mem_singleton] at hpp
  rcases hpp with hpp | rfl
  · have := h.preLt hp p.1 (List.mem_map_of_mem hpp)
    rw [hpx] at this
    omega
  · have hpx : u = x := hpx
    subst hpx
    show i < k
    omega
theorem Inv.root (h : Inv n adj s) (hp : s.path = [] ++ [(u, k)]) : s.low u = s.idx u := by
  have hu := h.pathOn u (top_mem hp)
  obtain ⟨y, h1, h2, _⟩ := h.lowAt u hu
  obtain ⟨p, hpp, h3⟩ := h.base y h1
  rw [pn_of hp] at hpp
  simp at hpp
  subst hpp
  have := h.lowLe p hu
  omega

/-- The path's last node is left, and stays on the stack: its parent takes over what it reaches. -/
theorem Inv.leave {p kp : Nat} {pre' : List (Nat × Nat)} (h : Inv n adj s) (hp : s.path = (pre' ++ [(p, kp)]) ++ [(u, k)]) (hk : (adj u).length ≤ k) (hlow : s.low u ≠ s.idx u) :
    Inv n adj { s with path := pre' ++ [(p, kp)], low := upd s.low p (min (s.low p) (s.low u)) } := by
  obtain ⟨s', hs'⟩ : ∃ s', s' = ({ s with path := pre' ++ [(p, kp)], low := upd s.low p (min (s.low p) (s.low u)) } : St) := ⟨_, rfl⟩
  rw [← hs']
  obtain ⟨qs, hqs⟩ : ∃ qs, qs = (pre' ++ [(p, kp)]).map Prod.fst := ⟨_, rfl⟩
  have hpn : s'.pn = qs := by rw [hqs, hs']; rfl
  have hpo : s.pn = qs ++ [u] := by rw [hqs]; exact pn_of hp
  have hi : s'.idx = s.idx := by rw [hs']
  have ho : s'.on = s.on := by rw [hs']
  have hL : s'.low = upd s.low p (min (s.low p) (s.low u)) := by rw [hs']
  have hpq : p ∈ qs := by rw [hqs]; simp
  have hlt : ∀ q ∈ qs, s.idx q < s.idx u := by rw [hqs]; exact h.preLt hp
  have hpm : ∀ q ∈ qs, s.idx q ≤ s.idx p := by
    intro q hq
    have hs := h.pathSorted
    rw [hpo, List.pairwise_append] at hs
    have h1 := hs.1
    rw [hqs, List.map_append, List.pairwise_append] at h1
    rw [hqs, List.map_append, List.mem_append] at hq
    rcases hq with hq | hq
    · exact Nat.le_of_lt (h1.2.2 q hq p (by simp))
    · simp at hq; rw [hq]; exact Nat.le_refl _
  have hup : u ∈ s.pn := top_mem hp
  have hu := h.pathOn u hup
  have hsub : ∀ q ∈ qs, q ∈ s.pn := fun q hq => by rw [hpo]; simp [hq]
  have hpu : p ≠ u := fun e => by have := hlt p hpq; rw [e] at this; omega
  have hle : ∀ x, upd s.low p (min (s.low p) (s.low u)) x ≤ s.low x := by
    intro x
    by_cases e : x = p
    · rw [e, upd_same]; exact Nat.min_le_left _ _
    · rw [upd_ne _ _ e]; exact Nat.le_refl _
  have hproc : ∀ x y, s'.proc adj x y → s.proc adj x y := by
    rintro x y ⟨i, hiy, hx, hall⟩
    rw [ho] at hx
    refine ⟨i, hiy, hx, fun q hq hqx => ?_⟩
    rw [hp, List.mem_append, List.mem_singleton] at hq
    rcases hq with hq | rfl
    · exact hall q (by rw [hs']; exact hq) hqx
    · have hqx : u = x := hqx
      subst hqx
      have := (List.getElem?_eq_some_iff.1 hiy).1
      show i < k
      omega
  refine ⟨?_, ?_, ?_, ?_, ?_, ?_, ?_, ?_, ?_, ?_, ?_, ?_, ?_, ?_, ?_, ?_, ?_, ?_, ?_⟩
  · rw [hs']; exact h.stkOn
  · rw [hs']; exact h.onLt
  · rw [hs']; exact h.sorted
  · rw [hs']; exact h.idxVis
  · rw [hs']; exact h.onVis
  · rw [hpn, ho]; exact fun q hq => h.pathOn q (hsub q hq)
  · rw [hpn, hi]
    have hs := h.pathSorted
    rw [hpo, List.pairwise_append] at hs
    exact hs.1
  · intro q hq
    have hq : q ∈ pre' ++ [(p, kp)] := by rw [hs'] at hq; exact hq
    exact h.pathDeg q (by rw [hp]; exact List.mem_append_left _ hq)
  · rw [ho, hpn, hi]
    intro x hx
    obtain ⟨q, hq, hqx⟩ := h.base x hx
    rw [hpo, List.mem_append, List.mem_singleton] at hq
    rcases hq with hq | rfl
    · exact ⟨q, hq, hqx⟩
    · exact ⟨p, hpq, Nat.le_trans (Nat.le_of_lt (hlt p hpq)) hqx⟩
  · rw [hpn, ho, hi]
    exact fun q hq => h.reachUp q (hsub q hq)
  · rw [ho, hi, hL]
    exact fun x hx => Nat.le_trans (hle x) (h.lowLe x hx)
  · rw [ho, hi, hL]
    intro x hx
    by_cases e : x = p
    · subst e
      rw [upd_same]
      by_cases hm : s.low x ≤ s.low u
      · rw [Nat.min_eq_left hm]; exact h.lowAt x hx
      · rw [Nat.min_eq_right (by omega)]
        obtain ⟨y, h1, h2, h3⟩ := h.lowAt u hu
        exact ⟨y, h1, h2, (h.reachUp x (hsub x hpq) u hu (Nat.le_of_lt (hlt x hpq))).trans h3⟩
    · rw [upd_ne _ _ e]; exact h.lowAt x hx
  · rw [ho, hpn, hi, hL]
    intro x hx hn
    have hxp : x ≠ p := fun e => hn (by rw [e]; exact hpq)
    rw [upd_ne _ _ hxp]
    by_cases e : x = u
    · rw [e]; exact hlow
    · refine h.lowOff x hx (fun hm => ?_)
      rw [hpo, List.mem_append, List.mem_singleton] at hm
      rcases hm with hm | hm
      · exact hn hm
      · exact e hm
  · rw [ho, hpn, hi, hL]
    intro x hx a ha hax hmax
    by_cases hux : s.idx u ≤ s.idx x
    · have hap : a = p := by
        have h1 := hmax p hpq (Nat.le_trans (Nat.le_of_lt (hlt p hpq)) hux)
        exact h.inj (h.pathOn a (hsub a ha)) (h.pathOn p (hsub p hpq)) (Nat.le_antisymm (hpm a ha) h1)
      subst hap
      obtain ⟨g1, g2⟩ := h.nearTop hp hx hux
      have hxa : x ≠ a := fun e => by have := hlt a ha; rw [← e] at this; omega
      rw [upd_same]
      have hm := Nat.min_le_right (s.low a) (s.low u)
      refine ⟨by rw [upd_ne _ _ hxa]; exact Nat.le_trans hm g1, fun y hy hyo => Nat.le_trans hm (g2 y (hproc x y hy) hyo)⟩
    · have hmax' : ∀ q ∈ s.pn, s.idx q ≤ s.idx x → s.idx q ≤ s.idx a := by
        intro q hq hqx
        rw [hpo, List.mem_append, List.mem_singleton] at hq
        rcases hq with hq | rfl
        · exact hmax q hq hqx
        · exact absurd hqx hux
      obtain ⟨g1, g2⟩ := h.near x hx a (hsub a ha) hax hmax'
      refine ⟨?_, fun y hy hyo => Nat.le_trans (hle a) (g2 y (hproc x y hy) hyo)⟩
      by_cases e : x = p
      · subst e
        have : a = x := h.inj (h.pathOn a (hsub a ha)) hx (Nat.le_antisymm hax (hmax x hpq (Nat.le_refl _)))
        rw [this]; exact Nat.le_refl _
      · rw [upd_ne _ _ e]; exact Nat.le_trans (hle a) g1
  · rw [hi]
    exact fun x y hy => h.procVis x y (hproc x y hy)
  · rw [hs']; exact h.closed
  · rw [hs']; exact h.compLt
  · rw [hs']; exact h.same
  · rw [hs']; exact h.sizes

/-- Whatever lies above the root on the stack reaches it. -/
theorem Inv.reachRoot (h : Inv n adj s) (hp : s.path = pre ++ [(u, k)]) (hlow : s.low u = s.idx u) : ∀ (m x : Nat), s.idx x = m → s.on x = true → s.idx u ≤ s.idx x → Reach adj x u := by
  intro m
  induction m using Nat.strongRecOn with
  | _ m ih =>
    intro x hm hx hi
    by_cases e : x = u
    · rw [e]; exact Reach.refl _ _
    · have hn : x ∉ s.pn := by
        intro hxp
        exact e (h.inj hx (h.pathOn u (top_mem hp)) (Nat.le_antisymm (h.topMax hp x hxp) hi))
      have h1 := h.lowOff x hx hn
      have h2 := h.lowLe x hx
      obtain ⟨y, h3, h4, h5⟩ := h.lowAt x hx
      have h6 := (h.nearTop hp hx hi).1
      exact h5.trans (ih (s.idx y) (by omega) y rfl h3 (by omega))
end

theorem count_more {n v : Nat} {q q' : Nat → Bool} (hv : v < n) (h0 : q v = false) (h1 : q' v = true) (h2 : ∀ x, x ≠ v → q' x = q x) : ((List.range n).filter q').length = ((List.range n).filter q).length + 1 := by
  induction n with
  | zero => omega
  | succ m ih =>
    rw [List.range_succ, List.filter_append, List.filter_append, List.length_append, List.length_append]
    by_cases e : v = m
    · subst e
      have : (List.range v).filter q' = (List.range v).filter q := by
        apply List.filter_congr
        intro x hx
        exact h2 x (by rw [List.mem_range] at hx; omega)
      rw [this]
      simp [h0, h1]
    · have h3 := ih (by omega)
      have h4 : q' m = q m := h2 m (fun e' => e e'.symm)
      have h5 : [m].filter q' = [m].filter q := by simp [List.filter, h4]
      rw [h3, h5]; omega
theorem count_list {n : Nat} : ∀ (C : List Nat), C.Nodup → (∀ x ∈ C, x < n) → ((List.range n).filter fun x => decide (x ∈ C)).length = C.length
  | [], _, _ => by simp
  | v :: C, hd, hl => by
    rw [List.nodup_cons] at hd
    rw [count_more (v := v) (q := fun x => decide (x ∈ C)) (hl v (by simp)) (by simp [hd.1]) (by simp) (fun x hx => by simp [hx]), count_list C hd.2 (fun x hx => hl x (by simp [hx]))]
    rfl
end Go.Proofs.Ybulkcxvo
