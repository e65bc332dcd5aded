/-
  LawS4967BComponents: what its walk needs.
-/
import Derived.Test.YbulkcxvoCompsMain
import Derived.Test.YbulkcxvoReach
import Derived.Test.YbulkcxvoEq
namespace Go.Proofs.Ybulkcxvo
open Go.RowKit

theorem unv_sum {n : Nat} {at_ val : Nat → Nat} (mono : ∀ u, u < n → at_ u ≤ at_ (u + 1)) : ∀ k, k ≤ n → ((List.range k).map fun x => if (0 : Nat) = 0 then (adjF n at_ val x).length + 2 else 0).sum + at_ 0 = at_ k + 2 * k
  | 0, _ => by simp
  | k + 1, h => by
    have ih := unv_sum (val := val) mono k (by omega)
    rw [List.range_succ, List.map_append, List.sum_append]
    have hl := adjF_len (at_ := at_) (val := val) (show k < n by omega)
    have hm := mono k (by omega)
    simp only [List.map_cons, List.map_nil, List.sum_cons, List.sum_nil, if_true] at ih ⊢
    rw [hl]
    omega
theorem unv_le {n t : Nat} {at_ val : Nat → Nat} (hn : n ≤ 256) (ht : t ≤ 524288) (mono : ∀ u, u < n → at_ u ≤ at_ (u + 1)) (le : at_ n ≤ t) : unv n (adjF n at_ val) (fun _ => 0) ≤ 600000 := by
  have := unv_sum (val := val) mono n (Nat.le_refl _)
  show ((List.range n).map fun x => if (0 : Nat) = 0 then (adjF n at_ val x).length + 2 else 0).sum ≤ 600000
  omega
/-- How many of the first k nodes bear the label. -/
def cntC (comp : Nat → Nat) (k c : Nat) : Nat := ((List.range k).filter fun x => comp x == c).length
theorem cntC_zero (comp : Nat → Nat) : cntC comp 0 = fun _ => 0 := by funext c; simp [cntC]
theorem cntC_step (comp : Nat → Nat) (k : Nat) : upd (cntC comp k) (comp k) (cntC comp k (comp k) + 1) = cntC comp (k + 1) := by
  funext c
  by_cases e : c = comp k
  · rw [e, upd_same]
    simp [cntC, List.range_succ]
  · rw [upd_ne _ _ e]
    have : ¬ comp k = c := fun x => e x.symm
    simp [cntC, List.range_succ, this]
theorem cntC_le (comp : Nat → Nat) (k c : Nat) : cntC comp k c ≤ k := by
  refine Nat.le_trans (List.length_filter_le _ _) ?_
  simp
theorem adjF_lt {n t : Nat} {at_ val : Nat → Nat} (le : ∀ u, u ≤ n → at_ u ≤ t) (vlt : ∀ i, i < t → val i < n) : ∀ x, x < n → ∀ y ∈ adjF n at_ val x, y < n := by
  intro x hx y hy
  unfold adjF at hy
  rw [if_pos hx, List.mem_map] at hy
  obtain ⟨i, hi, rfl⟩ := hy
  rw [List.mem_range] at hi
  have := le (x + 1) (by omega)
  exact vlt _ (by omega)
/-- What components and breach answer, told together. -/
structure Ans (n : Nat) (adj : Nat → List Nat) (comp : Nat → Nat) (size : List Nat) : Prop where
  lt : ∀ x, x < n → comp x < size.length
  sz : ∀ c, c < size.length → size[c]? = some (cntC comp n c) ∧ 0 < cntC comp n c
  same : ∀ x y, x < n → y < n → (comp x = comp y ↔ Reach adj x y ∧ Reach adj y x)
  ord : ∀ x y, x < n → y < n → Reach adj x y → comp y ≤ comp x
theorem Ans.of {n t : Nat} {at_ val : Nat → Nat} {s : St} (h : Inv n (adjF n at_ val) s) (hp : s.path = []) (hall : ∀ x, x < n → 0 < s.idx x) (le : ∀ u, u ≤ n → at_ u ≤ t) (vlt : ∀ i, i < t → val i < n) : Ans n (adjF n at_ val) s.comp s.size := by
  obtain ⟨h1, h2, h3, h4⟩ := h.fin hp hall (adjF_lt le vlt)
  exact ⟨h1, h2, h3, h4⟩
theorem Ans.len {n : Nat} {adj : Nat → List Nat} {comp : Nat → Nat} {size : List Nat} (h : Ans n adj comp size) : size.length ≤ n := by
  -- each label is some node's
  have hd : (List.range size.length).Nodup := List.nodup_range
  have hex : ∀ c, c < size.length → ∃ x, x < n ∧ comp x = c := by
    intro c hc
    have hpos := (h.sz c hc).2
    unfold cntC at hpos
    obtain ⟨x, hx⟩ := List.exists_mem_of_length_pos hpos
    rw [List.mem_filter, List.mem_range] at hx
    exact ⟨x, hx.1, by simpa using hx.2⟩
  obtain ⟨rep, hrep⟩ : ∃ rep : Nat → Nat, ∀ c, c < size.length → rep c < n ∧ comp (rep c) = c := by
    refine ⟨fun c => if hc : c < size.length then Classical.choose (hex c hc) else 0, fun c hc => ?_⟩
    simp only [dif_pos hc]
    exact Classical.choose_spec (hex c hc)
  have hnd : ((List.range size.length).map rep).Nodup := by
    refine List.pairwise_map.2 (hd.imp_of_mem fun {a b} ha hb hab e => hab ?_)
    rw [← (hrep a (List.mem_range.1 ha)).2, ← (hrep b (List.mem_range.1 hb)).2, e]
  have hlt : ∀ x ∈ (List.range size.length).map rep, x < n := by
    intro x hx
    obtain ⟨c, hc, rfl⟩ := List.mem_map.1 hx
    exact (hrep c (List.mem_range.1 hc)).1
  have h1 := count_list _ hnd hlt
  rw [List.length_map, List.length_range] at h1
  rw [← h1]
  refine Nat.le_trans (List.length_filter_le _ _) ?_
  simp
theorem info9 : (Yba.prog.info? 9).map (fun i => (i.zero, i.size, i.bytes)) = some (some (.string ⟨#[]⟩), 1, 16) := by kernel_rfl
theorem make22 (n : Nat) (hn : n ≤ 1000000) : ∃ cs, ∀ w : World, (Instr.makeSlice 22 (.int .i64 (n : Int)) (.int .i64 (n : Int))).run Yba.prog w = .ok (.slice (some ⟨w.heap.size, 0, none⟩) n n) (w.alloc (.cells cs 9)) := by
  obtain ⟨i, hi, hz, hs, hb⟩ := info_parts info9
  refine ⟨madeCells (Value.string ⟨#[]⟩).cells ((n : Int).toNat * i.size), fun w => ?_⟩
  exact run_make (P := Yba.prog) w 22 9 i _ Yba.underlying22 hi hz .i64 .i64 n n (by omega) (Int.le_refl _) (by rw [hb]; omega) (by omega)
/-- What the law holds between its steps. -/
structure Lm (w wc : World) (n t pg ab vb p3 : Nat) (at_ val comp : Nat → Nat) : Prop where
  bel : Below w.heap.size w wc
  gm : Gm wc pg n t ab vb at_ val
  cmp : IR wc p3 n comp
theorem Lm.keep {w wc W : World} {n t pg ab vb p3 : Nat} {at_ val comp : Nat → Nat} (h : Lm w wc n t pg ab vb p3 at_ val comp) (hb : Below wc.heap.size wc W) : Lm w W n t pg ab vb p3 at_ val comp :=
  ⟨h.bel.trans (hb.mono h.bel.size), h.gm.keep hb, h.cmp.keep (hb.block _ h.cmp.lt)⟩
theorem gm_of {w1 W : World} {n t pg ab vb : Nat} {at_ val : Nat → Nat} {cells : Array Value} {ty : TypeId} {nm : Option Addr} {c : Nat} (hb : Below w1.heap.size w1 W) (h : W.heap[pg]? = some (.cells cells ty (0, 0))) (h0 : cells[0]? = some (.slice nm n c)) (h1 : cells[1]? = some (.slice (some ⟨ab, 0, none⟩) (n + 1) (n + 1))) (h2 : cells[2]? = some (.slice (some ⟨vb, 0, none⟩) t t))
    (ra : IR w1 ab (n + 1) at_) (rv : IR w1 vb t val) (mono : ∀ u, u < n → at_ u ≤ at_ (u + 1)) (le : ∀ u, u ≤ n → at_ u ≤ t) (vlt : ∀ i, i < t → val i < n) : Gm W pg n t ab vb at_ val := by
  refine ⟨⟨nm, c, ?_⟩, ?_, ?_, ra.keep (hb.block _ ra.lt), rv.keep (hb.block _ rv.lt), mono, le, vlt⟩
  · rw [cell_of_row _ _ _ _ _ _ h]; exact h0
  · rw [cell_of_row _ _ _ _ _ _ h]; exact h1
  · rw [cell_of_row _ _ _ _ _ _ h]; exact h2
theorem below_draw (w : World) : Below w.heap.size w w.drew := ⟨rfl, rfl, rfl, Nat.le_refl _, fun _ _ => rfl⟩
theorem below_draws (w : World) (k : Nat) : Below w.heap.size w (w.drewN k) := ⟨rfl, rfl, rfl, Nat.le_refl _, fun _ _ => rfl⟩
theorem vals_lt (n m : Nat) (fr to : Nat → Nat) : ∀ i, i < atF n fr m n → valF n fr to m m i < n := by
  intro i hi
  by_cases h : n = 0
  · subst h
    exact absurd hi (Nat.not_lt_zero _)
  · exact val_lt n m fr to (by omega) m i
theorem at_top {n m : Nat} {fr : Nat → Nat} (hn : n ≤ 256) (hm : m ≤ 2048) : atF n fr m n ≤ 524288 := by
  have h1 := at_le n m fr n
  have h2 : n * m ≤ 256 * 2048 := Nat.mul_le_mul hn hm
  omega
end Go.Proofs.Ybulkcxvo
