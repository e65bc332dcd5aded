/-
  The plain law behind (*graph).components: a component labelled; how many rounds are left; the end.
-/
import Derived.Test.YbulkcxvoTarjanLeave
namespace Go.Proofs.Ybulkcxvo

/-- A component C has been taken off the stack and labelled. -/
def St.label (s : St) (pre : List (Nat × Nat)) (L : Nat → Nat) (front C : List Nat) : St :=
  { s with path := pre, low := L, stk := front, on := fun x => s.on x && !decide (x ∈ C), comp := fun x => if x ∈ C then s.size.length else s.comp x, size := s.size ++ [C.length] }

theorem Inv.label {n : Nat} {adj : Nat → List Nat} {s : St} {u k : Nat} {pre : List (Nat × Nat)} {front back : List Nat} {L : Nat → Nat} (h : Inv n adj s) (hp : s.path = pre ++ [(u, k)]) (hk : (adj u).length ≤ k) (hlow : s.low u = s.idx u)
    (hL : ∀ x, L x = s.low x) (hstk : s.stk = front ++ u :: back) : Inv n adj (s.label pre L front (u :: back)) := by
  obtain ⟨C, hC⟩ : ∃ C, C = u :: back := ⟨_, rfl⟩
  rw [← hC] at hstk ⊢
  obtain rfl : L = s.low := funext hL
  obtain ⟨s', hs'⟩ : ∃ s', s' = s.label pre s.low front C := ⟨_, rfl⟩
  rw [← hs']
  have hu := h.pathOn u (top_mem hp)
  have hso := h.sorted
  rw [hstk, List.pairwise_append] at hso
  have huC : u ∈ C := by rw [hC]; simp
  have hCu : ∀ x ∈ C, s.idx u ≤ s.idx x := by
    intro x hx
    have h1 := hso.2.1
    rw [hC, List.pairwise_cons] at h1
    rw [hC] at hx
    rcases List.mem_cons.1 hx with rfl | hx
    · exact Nat.le_refl _
    · exact Nat.le_of_lt (h1.1 x hx)
  have hCon : ∀ x ∈ C, s.on x = true := fun x hx => (h.stkOn x).1 (by rw [hstk]; simp [hx])
  have hCiff : ∀ x, s.on x = true → (x ∈ C ↔ s.idx u ≤ s.idx x) := by
    intro x hx
    refine ⟨hCu x, fun hi => ?_⟩
    have hm := (h.stkOn x).2 hx
    rw [hstk, List.mem_append] at hm
    rcases hm with hm | hm
    · have := hso.2.2 x hm u huC; omega
    · exact hm
  have hon : ∀ x, s'.on x = true ↔ s.on x = true ∧ s.idx x < s.idx u := by
    intro x
    have e : s'.on x = (s.on x && !decide (x ∈ C)) := by rw [hs']; rfl
    rw [e]
    constructor
    · intro h1
      simp only [Bool.and_eq_true, Bool.not_eq_true', decide_eq_false_iff_not] at h1
      refine ⟨h1.1, ?_⟩
      have := (hCiff x h1.1).2
      by_cases hi : s.idx u ≤ s.idx x
      · exact absurd (this hi) h1.2
      · omega
    · rintro ⟨h1, h2⟩
      simp only [Bool.and_eq_true, Bool.not_eq_true', decide_eq_false_iff_not]
      exact ⟨h1, fun hx => by have := hCu x hx; omega⟩
  have hi : s'.idx = s.idx := by rw [hs']; rfl
  have hl : s'.low = s.low := by rw [hs']; rfl
  have hcin : ∀ x, x ∈ C → s'.comp x = s.size.length := fun x hx => by rw [hs']; exact if_pos hx
  have hcout : ∀ x, x ∉ C → s'.comp x = s.comp x := fun x hx => by rw [hs']; exact if_neg hx
  have hsz : s'.size = s.size ++ [C.length] := by rw [hs']; rfl
  have hdone : ∀ x, s'.done x → (x ∈ C ∧ s.on x = true) ∨ (x ∉ C ∧ s.done x) := by
    intro x hd
    unfold St.done at hd ⊢
    rw [hi] at hd
    cases e : s.on x with
    | false => exact .inr ⟨fun hx => (by have := hCon x hx; rw [e] at this; cases this), hd.1, rfl⟩
    | true =>
      refine .inl ⟨?_, rfl⟩
      rw [hCiff x e]
      by_cases hlt : s.idx x < s.idx u
      · have := (hon x).2 ⟨e, hlt⟩
        rw [hd.2] at this; cases this
      · omega
  have hdoneC : ∀ x ∈ C, s'.done x := by
    intro x hx
    unfold St.done
    rw [hi]
    refine ⟨h.onVis x (hCon x hx), ?_⟩
    cases e : s'.on x with
    | false => rfl
    | true => have := ((hon x).1 e).2; have := hCu x hx; omega
  have hdoneO : ∀ x, s.done x → s'.done x ∧ x ∉ C := by
    intro x hd
    have hxC : x ∉ C := fun hx => by have := hCon x hx; rw [hd.2] at this; cases this
    refine ⟨⟨by rw [hi]; exact hd.1, ?_⟩, hxC⟩
    cases e : s'.on x with
    | false => rfl
    | true => have := ((hon x).1 e).1; rw [hd.2] at this; cases this
  obtain ⟨qs, hqs⟩ : ∃ qs, qs = pre.map Prod.fst := ⟨_, rfl⟩
  have hpn : s'.pn = qs := by rw [hqs, hs']; rfl
  have hpo : s.pn = qs ++ [u] := by rw [hqs]; exact pn_of hp
  have hlt : ∀ q ∈ qs, s.idx q < s.idx u := by rw [hqs]; exact h.preLt hp
  have hsub : ∀ q ∈ qs, q ∈ s.pn := fun q hq => by rw [hpo]; simp [hq]
  have hproc : ∀ x y, s'.proc adj x y → s.proc adj x y := by
    rintro x y ⟨i, hiy, hx, hall⟩
    have hx' := (hon x).1 hx
    refine ⟨i, hiy, hx'.1, fun q hq hqx => ?_⟩
    rw [hp, List.mem_append, List.mem_singleton] at hq
    rcases hq with hq | rfl
    · exact hall q (by rw [hs']; exact hq) hqx
    · have hqx : u = x := hqx
      subst hqx
      omega
  refine ⟨?_, ?_, ?_, ?_, ?_, ?_, ?_, ?_, ?_, ?_, ?_, ?_, ?_, ?_, ?_, ?_, ?_, ?_, ?_⟩
  · intro x
    rw [hon]
    have e : s'.stk = front := by rw [hs']; rfl
    rw [e]
    constructor
    · intro hx
      exact ⟨(h.stkOn x).1 (by rw [hstk]; simp [hx]), hso.2.2 x hx u huC⟩
    · rintro ⟨h1, h2⟩
      have hm := (h.stkOn x).2 h1
      rw [hstk, List.mem_append] at hm
      rcases hm with hm | hm
      · exact hm
      · have := hCu x hm; omega
  · exact fun x hx => h.onLt x ((hon x).1 hx).1
  · rw [hi]
    have e : s'.stk = front := by rw [hs']; rfl
    rw [e]; exact hso.1
  · rw [hi]
    have e : s'.vis = s.vis := by rw [hs']; rfl
    rw [e]; exact h.idxVis
  · rw [hi]; exact fun x hx => h.onVis x ((hon x).1 hx).1
  · rw [hpn]; exact fun q hq => (hon q).2 ⟨h.pathOn q (hsub q hq), hlt q hq⟩
  · rw [hpn, hi]
    have hs := h.pathSorted
    rw [hpo, List.pairwise_append] at hs
    exact hs.1
  · intro q hq
    have hq : q ∈ pre := by rw [hs'] at hq; exact hq
    exact h.pathDeg q (by rw [hp]; exact List.mem_append_left _ hq)
  · rw [hpn, hi]
    intro x hx
    obtain ⟨hx1, hx2⟩ := (hon x).1 hx
    obtain ⟨q, hq, hqx⟩ := h.base x hx1
    rw [hpo, List.mem_append, List.mem_singleton] at hq
    rcases hq with hq | rfl
    · exact ⟨q, hq, hqx⟩
    · omega
  · rw [hpn, hi]
    exact fun q hq x hx => h.reachUp q (hsub q hq) x ((hon x).1 hx).1
  · rw [hi, hl]
    exact fun x hx => h.lowLe x ((hon x).1 hx).1
  · rw [hi, hl]
    intro x hx
    obtain ⟨hx1, hx2⟩ := (hon x).1 hx
    obtain ⟨y, h1, h2, h3⟩ := h.lowAt x hx1
    have := h.lowLe x hx1
    exact ⟨y, (hon y).2 ⟨h1, by omega⟩, h2, h3⟩
  · rw [hi, hl, hpn]
    intro x hx hn
    obtain ⟨hx1, hx2⟩ := (hon x).1 hx
    refine h.lowOff x hx1 (fun hm => ?_)
    rw [hpo, List.mem_append, List.mem_singleton] at hm
    rcases hm with hm | rfl
    · exact hn hm
    · omega
  · rw [hi, hl, hpn]
    intro x hx a ha hax hmax
    obtain ⟨hx1, hx2⟩ := (hon x).1 hx
    have hmax' : ∀ q ∈ s.pn, s.idx q ≤ s.idx x → s.idx q ≤ s.idx a := by
      intro q hq hqx
      rw [hpo, List.mem_append, List.mem_singleton] at hq
      rcases hq with hq | rfl
      · exact hmax q hq hqx
      · omega
    obtain ⟨g1, g2⟩ := h.near x hx1 a (hsub a ha) hax hmax'
    exact ⟨g1, fun y hy hyo => g2 y (hproc x y hy) ((hon y).1 hyo).1⟩
  · rw [hi]
    exact fun x y hy => h.procVis x y (hproc x y hy)
  · intro x hx y hy
    rcases hdone x hx with ⟨h1, h2⟩ | ⟨h1, h2⟩
    · have hpr := h.procAll hp hk h2 (hCu x h1) hy
      have hvy := h.procVis x y hpr
      rw [hcin x h1]
      cases e : s.on y with
      | true =>
        have hyC : y ∈ C := by
          rw [hCiff y e, ← hlow]
          exact (h.nearTop hp h2 (hCu x h1)).2 y hpr e
        exact ⟨hdoneC y hyC, by rw [hcin y hyC]; exact Nat.le_refl _⟩
      | false =>
        have hd : s.done y := ⟨hvy, e⟩
        obtain ⟨g1, g2⟩ := hdoneO y hd
        exact ⟨g1, by rw [hcout y g2]; exact Nat.le_of_lt (h.compLt y hd)⟩
    · obtain ⟨g1, g2⟩ := h.closed x h2 y hy
      obtain ⟨g3, g4⟩ := hdoneO y g1
      exact ⟨g3, by rw [hcout y g4, hcout x h1]; exact g2⟩
  · intro x hx
    rw [hsz, List.length_append, List.length_singleton]
    rcases hdone x hx with ⟨h1, h2⟩ | ⟨h1, h2⟩
    · rw [hcin x h1]; omega
    · rw [hcout x h1]; have := h.compLt x h2; omega
  · intro x y hx hy e
    rcases hdone x hx with ⟨h1, h2⟩ | ⟨h1, h2⟩ <;> rcases hdone y hy with ⟨h3, h4⟩ | ⟨h3, h4⟩
    · exact (h.reachRoot hp hlow _ x rfl h2 (hCu x h1)).trans (h.reachUp u (top_mem hp) y h4 (hCu y h3))
    · rw [hcin x h1, hcout y h3] at e
      have := h.compLt y h4; omega
    · rw [hcin y h3, hcout x h1] at e
      have := h.compLt x h2; omega
    · rw [hcout x h1, hcout y h3] at e
      exact h.same x y h2 h4 e
  · intro c hc
    rw [hsz, List.length_append, List.length_singleton] at hc
    rw [hsz]
    by_cases e : c < s.size.length
    · have hcount : s'.count n c = s.count n c := by
        unfold St.count
        congr 1
        apply List.filter_congr
        intro x _
        rw [hi]
        by_cases hx : x ∈ C
        · have h1 := hcin x hx
          have h2 := hCon x hx
          rw [h1, h2]
          have : (s.size.length == c) = false := by simp; omega
          simp [this]
        · rw [hcout x hx]
          have e2 : s'.on x = s.on x := by
            have : s'.on x = (s.on x && !decide (x ∈ C)) := by rw [hs']; rfl
            rw [this]; simp [hx]
          rw [e2]
      rw [hcount, List.getElem?_append_left e]
      exact h.sizes c e
    · have hcs : c = s.size.length := by omega
      subst hcs
      have hnd : C.Nodup := by
        have h1 := hso.2.1
        refine h1.imp (fun {a b} hab e => ?_)
        rw [e] at hab; omega
      have hcount : s'.count n s.size.length = C.length := by
        rw [← count_list C hnd (fun x hx => h.onLt x (hCon x hx))]
        unfold St.count
        congr 1
        apply List.filter_congr
        intro x _
        rw [hi]
        by_cases hx : x ∈ C
        · have h1 := hcin x hx
          have h2 := hdoneC x hx
          unfold St.done at h2
          rw [hi] at h2
          simp [h1, h2.1, h2.2, hx]
        · rw [hcout x hx]
          simp only [hx, decide_false]
          have e2 : s'.on x = s.on x := by
            have : s'.on x = (s.on x && !decide (x ∈ C)) := by rw [hs']; rfl
            rw [this]; simp [hx]
          rw [e2]
          cases eo : s.on x with
          | true => simp
          | false =>
            by_cases h0 : 0 < s.idx x
            · have := h.compLt x ⟨h0, eo⟩
              have hf : (s.comp x == s.size.length) = false := by simp; omega
              simp [hf]
            · simp [h0]
      rw [hcount]
      refine ⟨by simp, ?_⟩
      rw [hC]; simp
theorem Inv.stkSplit {n : Nat} {adj : Nat → List Nat} {s : St} {u k : Nat} {pre : List (Nat × Nat)} (h : Inv n adj s) (hp : s.path = pre ++ [(u, k)]) : ∃ front back, s.stk = front ++ u :: back :=
  List.append_of_mem ((h.stkOn u).2 (h.pathOn u (top_mem hp)))

/-- What is left to do: at each round it is less. -/
def unv (n : Nat) (adj : Nat → List Nat) (idx : Nat → Nat) : Nat := ((List.range n).map fun x => if idx x = 0 then (adj x).length + 2 else 0).sum
def wt (adj : Nat → List Nat) (path : List (Nat × Nat)) : Nat := (path.map fun p => (adj p.1).length - p.2 + 1).sum
theorem wt_snoc (adj : Nat → List Nat) (pre : List (Nat × Nat)) (u k : Nat) : wt adj (pre ++ [(u, k)]) = wt adj pre + ((adj u).length - k + 1) := by
  unfold wt
  rw [List.map_append, List.sum_append]; simp
theorem unv_enter (adj : Nat → List Nat) (idx : Nat → Nat) (v m : Nat) (hv : idx v = 0) : ∀ n, v < n → unv n adj (upd idx v (m + 1)) + ((adj v).length + 2) = unv n adj idx
  | 0, h => by omega
  | n + 1, h => by
    unfold unv
    rw [List.range_succ, List.map_append, List.map_append, List.sum_append, List.sum_append]
    by_cases e : v = n
    · subst e
      have : (List.range v).map (fun x => if upd idx v (m + 1) x = 0 then (adj x).length + 2 else 0) = (List.range v).map (fun x => if idx x = 0 then (adj x).length + 2 else 0) := by
        apply List.map_congr_left
        intro x hx
        rw [List.mem_range] at hx
        rw [upd_ne _ _ (by omega)]
      rw [this]
      simp [upd_same, hv]
    · have ih := unv_enter adj idx v m hv n (by omega)
      unfold unv at ih
      have : upd idx v (m + 1) n = idx n := upd_ne _ _ (fun e' => e e'.symm)
      simp only [List.map_cons, List.map_nil, List.sum_cons, List.sum_nil, Nat.add_zero, this]
      omega

/-- At the end. -/
theorem Inv.fin {n : Nat} {adj : Nat → List Nat} {s : St} (h : Inv n adj s) (hp : s.path = []) (hall : ∀ x, x < n → 0 < s.idx x) (hadj : ∀ x, x < n → ∀ y ∈ adj x, y < n) :
    (∀ x, x < n → s.comp x < s.size.length) ∧ (∀ c, c < s.size.length → s.size[c]? = some ((List.range n).filter fun x => s.comp x == c).length ∧ 0 < ((List.range n).filter fun x => s.comp x == c).length) ∧
    (∀ x y, x < n → y < n → (s.comp x = s.comp y ↔ Reach adj x y ∧ Reach adj y x)) ∧ (∀ x y, x < n → y < n → Reach adj x y → s.comp y ≤ s.comp x) := by
  have hoff : ∀ x, s.on x = false := by
    intro x
    cases e : s.on x with
    | false => rfl
    | true =>
      obtain ⟨p, hpp, _⟩ := h.base x e
      unfold St.pn at hpp
      rw [hp] at hpp
      simp at hpp
  have hd : ∀ x, x < n → s.done x := fun x hx => ⟨hall x hx, hoff x⟩
  have hr : ∀ x y, x < n → Reach adj x y → y < n ∧ s.comp y ≤ s.comp x := by
    intro x y hx hxy
    refine hxy (fun z => z < n ∧ s.comp z ≤ s.comp x) ⟨hx, Nat.le_refl _⟩ ?_
    rintro a b ⟨ha1, ha2⟩ hb
    exact ⟨hadj a ha1 b hb, Nat.le_trans (h.closed a (hd a ha1) b hb).2 ha2⟩
  refine ⟨fun x hx => h.compLt x (hd x hx), fun c hc => ?_, fun x y hx hy => ⟨fun e => ⟨h.same x y (hd x hx) (hd y hy) e, h.same y x (hd y hy) (hd x hx) e.symm⟩, fun ⟨h1, h2⟩ => ?_⟩, fun x y hx _ hxy => (hr x y hx hxy).2⟩
  · have e : s.count n c = ((List.range n).filter fun x => s.comp x == c).length := by
      unfold St.count
      congr 1
      apply List.filter_congr
      intro x hx
      rw [List.mem_range] at hx
      simp [hall x hx, hoff x]
    rw [← e]
    exact h.sizes c hc
  · exact Nat.le_antisymm (hr y x hy h2).2 (hr x y hx h1).2
end Go.Proofs.Ybulkcxvo
