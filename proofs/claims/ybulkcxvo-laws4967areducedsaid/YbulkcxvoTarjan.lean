/-
  The plain law behind (*graph).components: a state of the walk, what holds of it at every round, and what that gives at the end. No Go in sight.
-/
namespace Go.Proofs.Ybulkcxvo

/-- f with its value at v turned. -/
def upd {α : Type} (f : Nat → α) (v : Nat) (a : α) : Nat → α := fun x => if x = v then a else f x
theorem upd_same {α : Type} (f : Nat → α) (v : Nat) (a : α) : upd f v a v = a := if_pos rfl
theorem upd_ne {α : Type} (f : Nat → α) {v x : Nat} (a : α) (h : x ≠ v) : upd f v a x = f x := if_neg h

/-- v can be reached from u by nought or more edges. -/
def Reach (adj : Nat → List Nat) (u v : Nat) : Prop := ∀ S : Nat → Prop, S u → (∀ x y, S x → y ∈ adj x → S y) → S v
theorem Reach.refl (adj : Nat → List Nat) (u : Nat) : Reach adj u u := fun _ h _ => h
theorem Reach.trans {adj : Nat → List Nat} {u v w : Nat} (h : Reach adj u v) (k : Reach adj v w) : Reach adj u w := fun S hu hc => k S (h S hu hc) hc
theorem Reach.edge {adj : Nat → List Nat} {u v : Nat} (h : v ∈ adj u) : Reach adj u v := fun _ hu hc => hc u v hu h

/-- The walk's state. -/
structure St where
  idx : Nat → Nat
  low : Nat → Nat
  on : Nat → Bool
  stk : List Nat
  path : List (Nat × Nat)
  vis : Nat
  comp : Nat → Nat
  size : List Nat

/-- The path's nodes. -/
def St.pn (s : St) : List Nat := s.path.map Prod.fst
/-- The edge from x to y has been gone on to. -/
def St.proc (adj : Nat → List Nat) (s : St) (x y : Nat) : Prop := ∃ i, (adj x)[i]? = some y ∧ s.on x = true ∧ ∀ p ∈ s.path, p.1 = x → i < p.2
/-- Wholly walked and labelled. -/
def St.done (s : St) (x : Nat) : Prop := 0 < s.idx x ∧ s.on x = false
/-- How many of the first n nodes are done with label c. -/
def St.count (s : St) (n c : Nat) : Nat := ((List.range n).filter fun x => decide (0 < s.idx x) && !s.on x && s.comp x == c).length

structure Inv (n : Nat) (adj : Nat → List Nat) (s : St) : Prop where
  stkOn : ∀ x, x ∈ s.stk ↔ s.on x = true
  onLt : ∀ x, s.on x = true → x < n
  sorted : s.stk.Pairwise fun a b => s.idx a < s.idx b
  idxVis : ∀ x, s.idx x ≤ s.vis
  onVis : ∀ x, s.on x = true → 0 < s.idx x
  pathOn : ∀ p ∈ s.pn, s.on p = true
  pathSorted : s.pn.Pairwise fun a b => s.idx a < s.idx b
  pathDeg : ∀ p ∈ s.path, p.2 ≤ (adj p.1).length
  base : ∀ x, s.on x = true → ∃ p ∈ s.pn, s.idx p ≤ s.idx x
  reachUp : ∀ p ∈ s.pn, ∀ x, s.on x = true → s.idx p ≤ s.idx x → Reach adj p x
  lowLe : ∀ x, s.on x = true → s.low x ≤ s.idx x
  lowAt : ∀ x, s.on x = true → ∃ y, s.on y = true ∧ s.idx y = s.low x ∧ Reach adj x y
  lowOff : ∀ x, s.on x = true → x ∉ s.pn → s.low x ≠ s.idx x
  near : ∀ x, s.on x = true → ∀ p ∈ s.pn, s.idx p ≤ s.idx x → (∀ q ∈ s.pn, s.idx q ≤ s.idx x → s.idx q ≤ s.idx p) →
    s.low p ≤ s.low x ∧ ∀ y, s.proc adj x y → s.on y = true → s.low p ≤ s.idx y
  procVis : ∀ x y, s.proc adj x y → 0 < s.idx y
  closed : ∀ x, s.done x → ∀ y ∈ adj x, s.done y ∧ s.comp y ≤ s.comp x
  compLt : ∀ x, s.done x → s.comp x < s.size.length
  same : ∀ x y, s.done x → s.done y → s.comp x = s.comp y → Reach adj x y
  sizes : ∀ c, c < s.size.length → s.size[c]? = some (s.count n c) ∧ 0 < s.count n c

/-- Nothing walked yet. -/
def St.init : St := ⟨fun _ => 0, fun _ => 0, fun _ => false, [], [], 0, fun _ => 0, []⟩
theorem Inv.init (n : Nat) (adj : Nat → List Nat) : Inv n adj St.init := by
  constructor <;> simp [St.init, St.pn, St.proc, St.done]

/-- A node is entered: P is the path behind the step that leads to it. -/
def St.enter (s : St) (P : List (Nat × Nat)) (v : Nat) : St :=
  { s with idx := upd s.idx v (s.vis + 1), low := upd s.low v (s.vis + 1), on := upd s.on v true, stk := s.stk ++ [v], path := P ++ [(v, 0)], vis := s.vis + 1 }

theorem pairwise_snoc {r : Nat → Nat → Prop} {l : List Nat} {v : Nat} (h : l.Pairwise r) (hv : ∀ x ∈ l, r x v) : (l ++ [v]).Pairwise r := by
  rw [List.pairwise_append]
  refine ⟨h, List.pairwise_singleton _ _, fun a ha b hb => ?_⟩
  rw [List.mem_singleton] at hb
  subst hb
  exact hv a ha

theorem Inv.enter {n : Nat} {adj : Nat → List Nat} {s : St} (h : Inv n adj s) {v : Nat} {P : List (Nat × Nat)} (hv : s.idx v = 0) (hvn : v < n)
    (hP1 : P.map Prod.fst = s.pn) (hP2 : ∀ p ∈ P, p.2 ≤ (adj p.1).length)
    (hP3 : ∀ x y i, (adj x)[i]? = some y → s.on x = true → (∀ p ∈ P, p.1 = x → i < p.2) → (∀ p ∈ s.path, p.1 = x → i < p.2) ∨ y = v)
    (hP4 : ∀ p ∈ s.pn, Reach adj p v) : Inv n adj (s.enter P v) := by
  have hvo : s.on v = false := by
    cases e : s.on v with
    | false => rfl
    | true => have := h.onVis v e; omega
  have hne : ∀ x, s.on x = true → x ≠ v := fun x hx e => by rw [e, hvo] at hx; cases hx
  have hpn : (s.enter P v).pn = s.pn ++ [v] := by
    show (P ++ [(v, 0)]).map Prod.fst = _
    rw [List.map_append, hP1]; rfl
  have hon : ∀ x, (s.enter P v).on x = true ↔ s.on x = true ∨ x = v := by
    intro x
    simp only [St.enter, upd]
    by_cases e : x = v <;> simp [e]
  have hix : ∀ x, x ≠ v → (s.enter P v).idx x = s.idx x := fun x hx => upd_ne _ _ hx
  have hiv : (s.enter P v).idx v = s.vis + 1 := upd_same _ _ _
  have hlx : ∀ x, x ≠ v → (s.enter P v).low x = s.low x := fun x hx => upd_ne _ _ hx
  have hlv : (s.enter P v).low v = s.vis + 1 := upd_same _ _ _
  have hpv : ∀ p ∈ s.pn, p ≠ v := fun p hp => hne p (h.pathOn p hp)
  have hproc : ∀ x y, (s.enter P v).proc adj x y → (s.proc adj x y ∨ y = v) ∧ s.on x = true := by
    rintro x y ⟨i, hi, hx, hall⟩
    have hxo : s.on x = true := by
      rcases (hon x).1 hx with hx | rfl
      · exact hx
      · have := hall (x, 0) (by simp [St.enter]) rfl
        omega
    refine ⟨?_, hxo⟩
    rcases hP3 x y i hi hxo (fun p hp => hall p (by simp [St.enter, hp])) with h1 | h1
    · exact .inl ⟨i, hi, hxo, h1⟩
    · exact .inr h1
  have hdone : ∀ x, (s.enter P v).done x ↔ s.done x := by
    intro x
    unfold St.done
    by_cases e : x = v
    · subst e
      constructor
      · intro hd
        have := (hon x).2 (.inr rfl)
        rw [hd.2] at this; cases this
      · intro hd; omega
    · rw [hix x e]
      have : (s.enter P v).on x = s.on x := upd_ne _ _ e
      rw [this]
  refine ⟨?_, ?_, ?_, ?_, ?_, ?_, ?_, ?_, ?_, ?_, ?_, ?_, ?_, ?_, ?_, ?_, ?_, ?_, ?_⟩
  · intro x
    rw [hon, ← h.stkOn]
    simp [St.enter]
  · intro x hx
    rcases (hon x).1 hx with hx | rfl
    · exact h.onLt x hx
    · exact hvn
  · show (s.stk ++ [v]).Pairwise _
    refine pairwise_snoc ?_ fun x hx => ?_
    · refine h.sorted.imp_of_mem fun {a b} ha hb hab => ?_
      rw [hix a (hne a ((h.stkOn a).1 ha)), hix b (hne b ((h.stkOn b).1 hb))]; exact hab
    · rw [hix x (hne x ((h.stkOn x).1 hx)), hiv]
      have := h.idxVis x; omega
  · intro x
    show (s.enter P v).idx x ≤ s.vis + 1
    by_cases e : x = v
    · rw [e, hiv]; omega
    · rw [hix x e]; have := h.idxVis x; omega
  · intro x hx
    rcases (hon x).1 hx with hx | rfl
    · rw [hix x (hne x hx)]; exact h.onVis x hx
    · rw [hiv]; omega
  · intro p hp
    rw [hpn, List.mem_append, List.mem_singleton] at hp
    exact (hon p).2 (hp.imp (h.pathOn p) id)
  · rw [hpn]
    refine pairwise_snoc ?_ fun x hx => ?_
    · refine h.pathSorted.imp_of_mem fun {a b} ha hb hab => ?_
      rw [hix a (hpv a ha), hix b (hpv b hb)]; exact hab
    · rw [hix x (hpv x hx), hiv]
      have := h.idxVis x; omega
  · intro p hp
    have hp : p ∈ P ++ [(v, 0)] := hp
    rw [List.mem_append, List.mem_singleton] at hp
    rcases hp with hp | rfl
    · exact hP2 p hp
    · exact Nat.zero_le _
  · intro x hx
    rw [hpn]
    rcases (hon x).1 hx with hx | rfl
    · obtain ⟨p, hp, hi⟩ := h.base x hx
      exact ⟨p, by simp [hp], by rw [hix p (hpv p hp), hix x (hne x hx)]; exact hi⟩
    · exact ⟨x, by simp, Nat.le_refl _⟩
  · intro p hp x hx hi
    rw [hpn, List.mem_append, List.mem_singleton] at hp
    rcases (hon x).1 hx with hxo | rfl
    · rcases hp with hp | hp
      · rw [hix p (hpv p hp), hix x (hne x hxo)] at hi
        exact h.reachUp p hp x hxo hi
      · rw [hp, hiv, hix x (hne x hxo)] at hi
        have := h.idxVis x; omega
    · rcases hp with hp | rfl
      · exact hP4 p hp
      · exact Reach.refl _ _
  · intro x hx
    rcases (hon x).1 hx with hx | rfl
    · rw [hlx x (hne x hx), hix x (hne x hx)]; exact h.lowLe x hx
    · rw [hlv, hiv]; exact Nat.le_refl _
  · intro x hx
    rcases (hon x).1 hx with hx | rfl
    · obtain ⟨y, h1, h2, h3⟩ := h.lowAt x hx
      exact ⟨y, (hon y).2 (.inl h1), by rw [hix y (hne y h1), hlx x (hne x hx)]; exact h2, h3⟩
    · exact ⟨x, hx, by rw [hiv, hlv], Reach.refl _ _⟩
  · intro x hx hn
    rw [hpn, List.mem_append, List.mem_singleton] at hn
    have hxv : x ≠ v := fun e => hn (.inr e)
    rcases (hon x).1 hx with hx | rfl
    · rw [hlx x hxv, hix x hxv]
      exact h.lowOff x hx (fun e => hn (.inl e))
    · exact absurd rfl hxv
  · intro x hx p hp hi hmax
    rw [hpn, List.mem_append, List.mem_singleton] at hp
    rcases (hon x).1 hx with hx | rfl
    · have hxv := hne x hx
      have hpv' : p ≠ v := by
        intro e
        rw [e, hiv, hix x hxv] at hi
        have := h.idxVis x; omega
      replace hp : p ∈ s.pn := hp.resolve_right hpv'
      rw [hix p hpv', hix x hxv] at hi
      have hmax' : ∀ q ∈ s.pn, s.idx q ≤ s.idx x → s.idx q ≤ s.idx p := by
        intro q hq hqx
        have := hmax q (by rw [hpn]; simp [hq]) (by rw [hix q (hpv q hq), hix x hxv]; exact hqx)
        rwa [hix q (hpv q hq), hix p hpv'] at this
      obtain ⟨g1, g2⟩ := h.near x hx p hp hi hmax'
      refine ⟨by rw [hlx p hpv', hlx x hxv]; exact g1, fun y hy hyo => ?_⟩
      rw [hlx p hpv']
      rcases (hon y).1 hyo with hyo2 | hyo2
      · rw [hix y (hne y hyo2)]
        rcases (hproc x y hy).1 with hy | hy
        · exact g2 y hy hyo2
        · exact absurd hy (hne y hyo2)
      · rw [hyo2, hiv]
        have a1 := h.lowLe p (h.pathOn p hp)
        have a2 := h.idxVis p
        omega
    · have := hmax x (by rw [hpn]; simp) (Nat.le_refl _)
      have hpx : p = x := by
        rcases hp with hp | hp
        · rw [hiv, hix p (hpv p hp)] at this
          have := h.idxVis p; omega
        · exact hp
      subst hpx
      refine ⟨Nat.le_refl _, fun y hy _ => ?_⟩
      exact absurd rfl (hne p (hproc p y hy).2)
  · intro x y hy
    rcases (hproc x y hy).1 with h1 | rfl
    · have hyv : y ≠ v := fun e => by have := h.procVis x y h1; rw [e] at this; omega
      rw [hix y hyv]; exact h.procVis x y h1
    · rw [hiv]; omega
  · intro x hx y hy
    obtain ⟨g1, g2⟩ := h.closed x ((hdone x).1 hx) y hy
    exact ⟨(hdone y).2 g1, g2⟩
  · intro x hx
    exact h.compLt x ((hdone x).1 hx)
  · intro x y hx hy
    exact h.same x y ((hdone x).1 hx) ((hdone y).1 hy)
  · intro c hc
    have e : (s.enter P v).count n c = s.count n c := by
      unfold St.count
      congr 1
      apply List.filter_congr
      intro x _
      have := hdone x
      unfold St.done at this
      show (decide (0 < (s.enter P v).idx x) && !(s.enter P v).on x && s.comp x == c) = _
      by_cases e : x = v
      · subst e
        have a1 : (s.enter P x).on x = true := (hon x).2 (.inr rfl)
        simp [a1, hv]
      · have a1 : (s.enter P v).on x = s.on x := upd_ne _ _ e
        rw [hix x e, a1]
    rw [e]
    exact h.sizes c hc
end Go.Proofs.Ybulkcxvo
