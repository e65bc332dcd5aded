/-
  zzs4967brows: the rows of a list of edges.
-/
import Derived.Test.YbulkcxvoMem
namespace Go.Proofs.Ybulkcxvo
open Go.RowKit

section
variable (n m : Nat) (fr to : Nat → Nat)
/-- How many of the first k edges start at f. -/
def cF (n : Nat) (fr : Nat → Nat) (f : Nat) : Nat → Nat
  | 0 => 0
  | k + 1 => cF n fr f k + if fr k % n = f then 1 else 0
def cnt (n : Nat) (fr : Nat → Nat) (k : Nat) : Nat → Nat := fun j => if j = 0 then 0 else cF n fr (j - 1) k
def atF (n : Nat) (fr : Nat → Nat) (m : Nat) : Nat → Nat
  | 0 => 0
  | j + 1 => atF n fr m j + cF n fr j m
def preF (n : Nat) (fr : Nat → Nat) (m j : Nat) : Nat → Nat := fun x => if x ≤ j then atF n fr m x else cnt n fr m x
def nextF (n : Nat) (fr : Nat → Nat) (m k : Nat) : Nat → Nat := fun f => atF n fr m f + cF n fr f k
def valF (n : Nat) (fr to : Nat → Nat) (m : Nat) : Nat → (Nat → Nat)
  | 0 => fun _ => 0
  | k + 1 => upd (valF n fr to m k) (nextF n fr m k (fr k % n)) (to k % n)
theorem cnt_zero : cnt n fr 0 = fun _ => 0 := by
  funext j
  simp [cnt, cF]
theorem cnt_step (k : Nat) : upd (cnt n fr k) (fr k % n + 1) (cnt n fr k (fr k % n + 1) + 1) = cnt n fr (k + 1) := by
  funext j
  by_cases e : j = fr k % n + 1
  · subst e
    rw [upd_same]
    simp [cnt, cF]
  · rw [upd_ne _ _ e]
    by_cases h0 : j = 0
    · simp [cnt, h0]
    · have : ¬ fr k % n = j - 1 := by omega
      simp [cnt, h0, cF, this]
theorem pre_zero : preF n fr m 0 = cnt n fr m := by
  funext x
  unfold preF
  by_cases h : x ≤ 0
  · have : x = 0 := by omega
    subst this
    simp [atF, cnt]
  · simp [h]
theorem pre_step (j : Nat) : upd (preF n fr m j) (j + 1) (preF n fr m j (j + 1) + preF n fr m j j) = preF n fr m (j + 1) := by
  funext x
  by_cases e : x = j + 1
  · subst e
    rw [upd_same]
    have h1 : ¬ j + 1 ≤ j := by omega
    simp only [preF, h1, if_false, Nat.le_refl, if_true, cnt, Nat.add_sub_cancel, atF, Nat.succ_ne_zero]
    omega
  · rw [upd_ne _ _ e]
    unfold preF
    by_cases h : x ≤ j
    · simp [h, show x ≤ j + 1 by omega]
    · simp [h, show ¬ x ≤ j + 1 by omega]
theorem next_step (k : Nat) : upd (nextF n fr m k) (fr k % n) (nextF n fr m k (fr k % n) + 1) = nextF n fr m (k + 1) := by
  funext f
  by_cases e : f = fr k % n
  · subst e
    rw [upd_same]
    simp [nextF, cF]; omega
  · rw [upd_ne _ _ e]
    have : ¬ fr k % n = f := fun x => e x.symm
    simp [nextF, cF, this]
theorem cF_le (f : Nat) : ∀ k, cF n fr f k ≤ k
  | 0 => Nat.le_refl _
  | k + 1 => by
    have := cF_le f k
    unfold cF
    split <;> omega
theorem cF_mono (f : Nat) {k : Nat} : ∀ {l : Nat}, k ≤ l → cF n fr f k ≤ cF n fr f l
  | 0, h => by
    have : k = 0 := by omega
    subst this; exact Nat.le_refl _
  | l + 1, h => by
    by_cases e : k = l + 1
    · rw [e]; exact Nat.le_refl _
    · have := cF_mono f (k := k) (l := l) (by omega)
      show _ ≤ cF n fr f l + _
      omega
theorem at_mono {i : Nat} : ∀ {j : Nat}, i ≤ j → atF n fr m i ≤ atF n fr m j
  | 0, h => by
    have : i = 0 := by omega
    subst this; exact Nat.le_refl _
  | j + 1, h => by
    by_cases e : i = j + 1
    · rw [e]; exact Nat.le_refl _
    · have := at_mono (i := i) (j := j) (by omega)
      show _ ≤ atF n fr m j + _
      omega
theorem at_le : ∀ j, atF n fr m j ≤ j * m
  | 0 => by simp [atF]
  | j + 1 => by
    have h1 := at_le j
    have h2 := cF_le n fr j m
    unfold atF
    rw [Nat.succ_mul]; omega
theorem next_lt {k : Nat} (hk : k < m) (hn : 0 < n) : nextF n fr m k (fr k % n) < atF n fr m n := by
  have h1 : cF n fr (fr k % n) (k + 1) ≤ cF n fr (fr k % n) m := cF_mono n fr _ (by omega)
  have h2 : cF n fr (fr k % n) (k + 1) = cF n fr (fr k % n) k + 1 := by simp [cF]
  have h3 : atF n fr m (fr k % n + 1) ≤ atF n fr m n := at_mono n m fr (Nat.mod_lt _ hn)
  have h4 : atF n fr m (fr k % n + 1) = atF n fr m (fr k % n) + cF n fr (fr k % n) m := rfl
  unfold nextF
  omega
theorem val_lt (hn : 0 < n) : ∀ k i, valF n fr to m k i < n
  | 0, _ => hn
  | k + 1, i => by
    unfold valF
    by_cases e : i = nextF n fr m k (fr k % n)
    · rw [e, upd_same]; exact Nat.mod_lt _ hn
    · rw [upd_ne _ _ e]; exact val_lt hn k i
end
theorem ir_congr {n : Nat} {f g : Nat → Nat} (h : ∀ i, i < n → f i = g i) : ir n f = ir n g := by
  unfold ir
  congr 1
  apply List.map_congr_left
  intro i hi
  rw [h i (List.mem_range.1 hi)]
theorem IR.congr {w : World} {b n : Nat} {f g : Nat → Nat} (h : IR w b n f) (e : ∀ i, i < n → f i = g i) : IR w b n g := by
  unfold IR at h ⊢
  rw [← ir_congr e]; exact h

/-- The edges lie in memory. -/
def Edges (w : World) (ao : Option Addr) (m : Nat) (fr to : Nat → Nat) : Prop := 0 < m → ∃ b off, ao = some ⟨b, off, none⟩ ∧ b < w.heap.size ∧
  ∀ i, i < m → w.cell? ⟨b, off + i * 2, none⟩ = some (.int .u16 (fr i : Int)) ∧ w.cell? ⟨b, off + i * 2 + 1, none⟩ = some (.int .u16 (to i : Int)) ∧ fr i < 65536 ∧ to i < 65536

theorem size3 : (Yba.prog.info? 3).map (·.size) = some 1 := by kernel_rfl
theorem wpList_copy_ir {w : World} {ops : Array Oper} {rest : List Oper} {o : Oper} {a : Act} {Q : Exit → Act → World → Prop} (hgd : o.guard = none) (d s : Operand)
    (ho : o.op = .call { callee := .builtin .copy, args := #[d, s], argTypes := #[34, 34] }) (g ab n dCap sCap : Nat) (hd : a.eval d = .slice (some ⟨g, 0, none⟩) n dCap) (hs : a.eval s = .slice (some ⟨ab, 0, none⟩) n sCap)
    (f0 f : Nat → Nat) (hg : IR w g n f0) (hsrc : ∀ j, j < n → w.cell? ⟨ab, j, none⟩ = some (.int .i64 (f j : Int)))
    (h : ∀ W, IR W g n f → (∀ b, b ≠ g → W.heap[b]? = w.heap[b]?) → Below g w W → wpList Yba.prog ops Q rest (a.put o.dst (.int .i64 (n : Int))) W) : wpList Yba.prog ops Q (o :: rest) a w := by
  have hl : (ir n f).toList.length = n := by simp [ir]
  refine wpList_copy_own hgd d s 34 34 ho 3 Yba.underlying34 size3 g 0 n dCap ⟨ab, 0, none⟩ n sCap hd hs (ir n f0) 3 hg (ir n f).toList (by rw [hl]; simp) ?_ (by simp [ir]) ?_ ?_
  · intro j v hv
    have hj : j < n := by
      have := (List.getElem?_eq_some_iff.1 hv).1
      omega
    rw [Addr.add_mid, Nat.zero_add, hsrc j hj, ← hv]
    simp [ir, hj]
  · intro v hv
    simp [ir] at hv
    obtain ⟨i, _, rfl⟩ := hv
    rfl
  · have e : ((ir n f0).toList.take 0 ++ ((ir n f).toList ++ (ir n f0).toList.drop (0 + (ir n f).toList.length))).toArray = ir n f := by
      rw [hl]
      simp [ir]
    rw [e]
    have e2 : goInt (ir n f).toList.length = .int .i64 (n : Int) := by rw [hl]; rfl
    rw [e2]
    refine h _ (setRow_heap w g _ _ 3 _ hg) (fun b hb => ?_) (below_setRow (Below.refl _ _) (Nat.le_refl _) _)
    simp only [World.setRow, Array.getElem?_modify]
    rw [if_neg (fun e => hb e.symm)]

/-- The state of the first two loops. -/
structure Bs (w wr : World) (n : Nat) (f : Nat → Nat) : Prop where
  bel : Below w.heap.size w wr
  res : wr.heap[w.heap.size]? = some (.cells #[.slice none 0 0, .slice none 0 0] 43 (0, 0))
  row : IR wr (w.heap.size + 1) (n + 1) f
theorem Edges.keep {w w' : World} {ao : Option Addr} {m : Nat} {fr to : Nat → Nat} (h : Edges w ao m fr to) (hb : Below w.heap.size w w') : Edges w' ao m fr to := by
  intro h0
  obtain ⟨b, off, e, hlt, hc⟩ := h h0
  refine ⟨b, off, e, Nat.lt_of_lt_of_le hlt hb.size, fun i hi => ?_⟩
  have hbb := hb.block b hlt
  obtain ⟨h1, h2, h3⟩ := hc i hi
  exact ⟨by rw [← h1]; simp only [World.cell?, hbb], by rw [← h2]; simp only [World.cell?, hbb], h3⟩

theorem two_cells {w : World} {g : Nat} {a b : Value} {t : TypeId} (h : w.heap[g]? = some (.cells #[a, b] t (0, 0))) (x y : Value) : ((w.setCell ⟨g, 0, none⟩ x).setCell ⟨g, 1, none⟩ y).heap[g]? = some (.cells #[x, y] t (0, 0)) := by
  rw [heap_setCell_same _ _ _ _ _ _ (heap_setCell_same _ _ _ _ _ _ h)]
  simp
/-- The state of the third loop. -/
structure Cs (w wr : World) (n m t vb nb : Nat) (fr to : Nat → Nat) (k : Nat) : Prop where
  bs : Bs w wr n (atF n fr m)
  val : IR wr vb t (valF n fr to m k)
  nxt : IR wr nb n (nextF n fr m k)
theorem Cs.keep {w wr W : World} {n m t vb nb : Nat} {fr to : Nat → Nat} {k : Nat} (h : Cs w wr n m t vb nb fr to k) (hb : Below w.heap.size wr W) (hk : ∀ b, b < wr.heap.size → W.heap[b]? = wr.heap[b]?) : Cs w W n m t vb nb fr to k :=
  ⟨⟨h.bs.bel.trans hb, (hk _ (lt_of_block h.bs.res)).trans h.bs.res, h.bs.row.keep (hk _ h.bs.row.lt)⟩, h.val.keep (hk _ h.val.lt), h.nxt.keep (hk _ h.nxt.lt)⟩
theorem Cs.same {w W W' : World} {n m t vb nb : Nat} {fr to : Nat → Nat} {k : Nat} (h : Cs w W n m t vb nb fr to k) (e : W'.heap = W.heap) (e1 : W'.os = W.os) (e2 : W'.tape = W.tape) (e3 : W'.output = W.output) : Cs w W' n m t vb nb fr to k := by
  obtain ⟨⟨h1, h2, h3⟩, h4, h5⟩ := h
  unfold IR at h3 h4 h5
  rw [← e] at h2 h3 h4 h5
  refine ⟨⟨⟨e1.trans h1.os, e2.trans h1.tape, e3.trans h1.output, by rw [e]; exact h1.size, fun b hb => by rw [e]; exact h1.block b hb⟩, h2, h3⟩, h4, h5⟩
theorem Cs.step {w wr : World} {n m t vb nb : Nat} {fr to : Nat → Nat} {k q : Nat} (h : Cs w wr n m t vb nb fr to k) (h1 : w.heap.size + 1 < vb) (h2 : w.heap.size + 1 < nb) (h3 : vb ≠ nb) (hq : q = nextF n fr m k (fr k % n)) :
    Cs w ((wr.setCell ⟨vb, q, none⟩ (.int .i64 ((to k % n : Nat) : Int))).setCell ⟨nb, fr k % n, none⟩ (.int .i64 ((q + 1 : Nat) : Int))) n m t vb nb fr to (k + 1) := by
  refine ⟨⟨?_, ?_, ?_⟩, ?_, ?_⟩
  · exact (h.bs.bel.setCell (by show w.heap.size ≤ vb; omega) _).setCell (by show w.heap.size ≤ nb; omega) _
  · rw [heap_setCell_other _ _ _ _ (by show w.heap.size ≠ nb; omega), heap_setCell_other _ _ _ _ (by show w.heap.size ≠ vb; omega)]; exact h.bs.res
  · exact h.bs.row.keep (by rw [heap_setCell_other _ _ _ _ (by show w.heap.size + 1 ≠ nb; omega), heap_setCell_other _ _ _ _ (by show w.heap.size + 1 ≠ vb; omega)])
  · have := h.val.set q (to k % n)
    refine IR.keep (w := wr.setCell ⟨vb, q, none⟩ (.int .i64 ((to k % n : Nat) : Int))) ?_ (heap_setCell_other _ _ _ _ h3)
    unfold valF
    rw [← hq]; exact this
  · have := IR.keep (w' := wr.setCell ⟨vb, q, none⟩ (.int .i64 ((to k % n : Nat) : Int))) h.nxt (heap_setCell_other _ _ _ _ (fun e => h3 e.symm))
    have h4 := this.set (fr k % n) (q + 1)
    rw [hq, next_step] at h4
    rw [hq]; exact h4

set_option maxRecDepth 100000 in
theorem brows_pos (n m c : Nat) (ao : Option Addr) (fr to : Nat → Nat) (w : World) (hn : 0 < n) (hn2 : n ≤ 256) (hm : m ≤ 2048) (he : Edges w ao m fr to) :
    Calls Yba.prog 13 #[.int .i64 (n : Int), .slice ao m c] w fun e w' => ∃ ab vb, e = .returned (.agg #[.slice (some ⟨ab, 0, none⟩) (n + 1) (n + 1), .slice (some ⟨vb, 0, none⟩) (atF n fr m n) (atF n fr m n)]) ∧
      w.heap.size ≤ ab ∧ w.heap.size ≤ vb ∧ ab ≠ vb ∧ IR w' ab (n + 1) (atF n fr m) ∧ IR w' vb (atF n fr m n) (valF n fr to m m) ∧ Below w.heap.size w w' := by
  have hn0 : (0 : Int) < (n : Int) := by omega
  have hni : (n : Int) ≤ 256 := by omega
  have hmi : (m : Int) ≤ 2048 := by omega
  have hmk1 := make34 (n + 1) (by omega)
  have hmk2 := make34 n (by omega)
  simp only [Int.natCast_add, Int.cast_ofNat_Int] at hmk1
  go_enter Yba.func13, Yba.ntmps13
  go_wp2
  obtain ⟨w1, hw1⟩ : ∃ w1, w1 = (w.alloc (.cells #[.slice none 0 0, .slice none 0 0] 43)).alloc (.cells (ir (n + 1) fun _ => 0) 3) := ⟨_, rfl⟩
  have H1 : Hid (Bs w w1 n (cnt n fr 0)) := by
    refine ⟨?_, ?_, ?_⟩
    · rw [hw1]; exact ((Below.refl _ _).alloc (Nat.le_refl _) _).alloc (by simp) _
    · rw [hw1, Below.heap_alloc _ _ _ (by simp)]; exact heap_alloc_new w _
    · rw [hw1, cnt_zero]
      have := heap_alloc_new (w.alloc (.cells #[.slice none 0 0, .slice none 0 0] 43)) (.cells (ir (n + 1) fun _ => 0) 3)
      simpa [IR] using this
  rw [← hw1]
  clear hw1
  go_loopw [21] (fun i wr => ∃ k : Nat, k ≤ m ∧ i = .int .i64 (k : Int) ∧ Bs w wr n (cnt n fr k)) (fun i _ => m - (intOf i).toNat)
  case atStart => exact ⟨0, Nat.zero_le _, rfl, H1.out⟩
  case round =>
    obtain ⟨k, hk, rfl, hbs⟩ := hrel
    by_cases hlt : k < m
    · have hki : (k : Int) < (m : Int) := by omega
      obtain ⟨b, off, rfl, hbw, hcs⟩ := (he.keep hbs.bel) (by omega)
      obtain ⟨c1, c2, l1, l2⟩ := hcs k hlt
      have hmod : Int.tmod (fr k : Int) (n : Int) = ((fr k % n : Nat) : Int) := rfl
      have hml : fr k % n < n := Nat.mod_lt _ hn
      have hmli : ((fr k % n : Nat) : Int) < (n : Int) := by omega
      have HS : Hid (_ = _) := cnt_step n fr k
      have hal : ∀ o, (wr.alloc o).cell? ⟨w.heap.size + 1, fr k % n + 1, none⟩ = some (.int .i64 (cnt n fr k (fr k % n + 1) : Int)) := fun o => (hbs.row.keep (Below.heap_alloc wr o _ hbs.row.lt)).cell (by omega)
      have hfz : ∀ o, (wr.alloc o).frozen? ⟨w.heap.size + 1, fr k % n + 1, none⟩ = false := fun o => (hbs.row.keep (Below.heap_alloc wr o _ hbs.row.lt)).fz _
      have hcl : (cnt n fr k (fr k % n + 1) : Int) ≤ 2048 := by
        have := cF_le n fr (fr k % n) k
        simp [cnt]; omega
      have HB : Hid (_ ∧ _) := ⟨hbs, hcs⟩
      clear hbs hcs
      generalize fr k % n = f at *
      obtain ⟨q, hq⟩ : ∃ q, q = cnt n fr k (f + 1) := ⟨_, rfl⟩
      rw [← hq] at hal hcl
      have HQ : Hid (q = cnt n fr k (f + 1)) := hq
      clear hq
      go_wp2
      go_round
      case rel =>
        refine ⟨k + 1, by omega, by go_num, ?_⟩
        have hbs := HB.out.1
        have hlt1 := hbs.row.lt
        rw [← HS.out, ← HQ.out]
        refine ⟨(hbs.bel.alloc (by omega) _).setCell (by simp) _, ?_, ?_⟩
        · rw [heap_setCell_other _ _ _ _ (by simp), Below.heap_alloc _ _ _ (by omega)]; exact hbs.res
        · have := (hbs.row.keep (Below.heap_alloc wr (.cells #[.int .u16 (fr k : Int), .int .u16 (to k : Int)] 87) _ hlt1)).set (f + 1) (q + 1)
          simpa using this
      case measure => simp [intOf]; omega
    · obtain rfl : m = k := by omega
      have HB : Hid (Bs w wr n (cnt n fr m)) := hbs
      clear hbs hk hlt H1
      go_wp2
      go_loopw [8] (fun i wz => ∃ j : Nat, j ≤ n ∧ i = .int .i64 (j : Int) ∧ Bs w wz n (preF n fr m j)) (fun i _ => n - (intOf i).toNat)
      case atStart => exact ⟨0, Nat.zero_le _, rfl, by rw [pre_zero]; exact HB.out⟩
      case round =>
        obtain ⟨j, hj, rfl, hbs⟩ := hrel
        by_cases hlt : j < n
        · have hji : (j : Int) < (n : Int) := by omega
          have hr1 := hbs.row.cell (i := j) (by omega)
          have hr2 := hbs.row.cell (i := j + 1) (by omega)
          have hfz := hbs.row.fz (j + 1)
          have hb1 : preF n fr m j j ≤ 524288 := by
            have h1 := at_le n m fr j
            have h2 : j * m ≤ 256 * 2048 := Nat.mul_le_mul (by omega) hm
            simp [preF]; omega
          have hb2 : preF n fr m j (j + 1) ≤ 2048 := by
            have h1 := cF_le n fr j m
            have h2 : ¬ j + 1 ≤ j := by omega
            simp [preF, cnt, h2]; omega
          have HS : Hid (_ = _) := pre_step n m fr j
          have HC : Hid (Bs w wr n (preF n fr m j)) := hbs
          clear hbs
          obtain ⟨q1, hq1⟩ : ∃ q, q = preF n fr m j j := ⟨_, rfl⟩
          obtain ⟨q2, hq2⟩ : ∃ q, q = preF n fr m j (j + 1) := ⟨_, rfl⟩
          rw [← hq1] at hr1 hb1
          rw [← hq2] at hr2 hb2
          have HQ : Hid (_ ∧ _) := ⟨hq1, hq2⟩
          clear hq1 hq2
          have hs1 : (q2 : Int) + (q1 : Int) ≤ 600000 := by omega
          go_wp2
          go_region
          all_goals
            go_wp2
            go_round
            case rel =>
              refine ⟨j + 1, by omega, by go_num, ?_⟩
              have hbs := HC.out
              rw [← HS.out, ← HQ.out.1, ← HQ.out.2]
              have hset := hbs.row.set (j + 1) (q2 + q1)
              refine ⟨(hbs.bel.setCell (by simp) _).trans ⟨rfl, rfl, rfl, Nat.le_refl _, fun _ _ => rfl⟩, ?_, ?_⟩
              · show (wr.setCell _ _).heap[w.heap.size]? = _
                rw [heap_setCell_other _ _ _ _ (by simp)]; exact hbs.res
              · exact hset
            case measure => simp [intOf]; omega
        · obtain rfl : n = j := by omega
          have hat : ∀ x, x ≤ n → preF n fr m n x = atF n fr m x := fun x hx => by simp [preF, hx]
          have hrow : IR wr (w.heap.size + 1) (n + 1) (atF n fr m) := hbs.row.congr (fun x hx => hat x (by omega))
          have hcN := hrow.cell (i := n) (by omega)
          have hbd : atF n fr m n ≤ 524288 := by
            have h1 := at_le n m fr n
            have h2 : n * m ≤ 256 * 2048 := Nat.mul_le_mul hn2 hm
            omega
          have hmk3 := make34 (atF n fr m n) (by omega)
          have HC : Hid (Bs w wr n (atF n fr m)) := ⟨hbs.bel, hbs.res, hrow⟩
          clear hbs hrow hat HB hmk1
          obtain ⟨t, ht⟩ : ∃ t, t = atF n fr m n := ⟨_, rfl⟩
          rw [← ht] at hcN hbd hmk3
          have HT : Hid (t = atF n fr m n) := ht
          clear ht
          have hti : (t : Int) ≤ 524288 := by omega
          have hpw : w.heap.size + 1 < wr.heap.size := HC.out.row.lt
          have hA : ∀ o1 o2, ((wr.alloc o1).alloc o2).heap[w.heap.size + 1]? = wr.heap[w.heap.size + 1]? := fun o1 o2 => by
            rw [Below.heap_alloc _ _ _ (by simp; omega), Below.heap_alloc _ _ _ hpw]
          have hN : ∀ o1 o2, ((wr.alloc o1).alloc o2).heap[wr.heap.size + 1]? = some o2 := fun o1 o2 => by
            have := heap_alloc_new (wr.alloc o1) o2
            simpa using this
          have HA : Hid (_ ∧ _) := ⟨hA, hN⟩
          clear hA hN
          go_wp2_with (refine wpList_copy_ir rfl (.tmp 60) (.tmp 63) rfl (wr.heap.size + 1) (w.heap.size + 1) n n (n + 1) rfl rfl (fun _ => 0) (atF n fr m) (HA.out.2 _ _) (fun j hj => (HC.out.row.keep (HA.out.1 _ _)).cell (by omega)) ?_; intro W hW1 hW2 hW3)
          obtain ⟨vb, hvb⟩ : ∃ vb, vb = wr.heap.size := ⟨_, rfl⟩
          obtain ⟨nb, hnb⟩ : ∃ nb, nb = wr.heap.size + 1 := ⟨_, rfl⟩
          have hcs0 : Cs w W n m t vb nb fr to 0 := by
            have hb := HC.out
            have e1 : ∀ o1 o2 b, b < wr.heap.size → ((wr.alloc o1).alloc o2).heap[b]? = wr.heap[b]? := fun o1 o2 b hb => by
              rw [Below.heap_alloc _ _ _ (by simp; omega), Below.heap_alloc _ _ _ hb]
            have e2 : ∀ o1 o2, ((wr.alloc o1).alloc o2).heap[wr.heap.size]? = some o1 := fun o1 o2 => by
              rw [Below.heap_alloc _ _ _ (by simp)]; exact heap_alloc_new wr o1
            refine ⟨⟨?_, ?_, ?_⟩, ?_, ?_⟩
            · exact ((hb.bel.alloc (by omega) _).alloc (by simp; omega) _).trans (hW3.mono (by omega))
            · rw [hW2 _ (by omega), e1 _ _ _ (by omega)]; exact hb.res
            · exact hb.row.keep (by rw [hW2 _ (by omega), e1 _ _ _ hpw])
            · rw [hvb]; unfold IR; rw [hW2 _ (by omega), e2]; rfl
            · rw [hnb]
              exact hW1.congr (fun i _ => by simp [nextF, cF])
          rw [← hnb, ← hvb]
          have HV : Hid (w.heap.size + 1 < vb ∧ w.heap.size + 1 < nb ∧ nb ≠ vb) := ⟨by omega, by omega, by omega⟩
          have HC0 : Hid (Cs w W n m t vb nb fr to 0) := hcs0
          clear hcs0 hnb hvb hW1 hW2 hW3 HA hmk2 hmk3 hcN hpw
          go_loopw [69] (fun i wz => ∃ k : Nat, k ≤ m ∧ i = .int .i64 (k : Int) ∧ Cs w wz n m t vb nb fr to k) (fun i _ => m - (intOf i).toNat)
          case atStart => exact ⟨0, Nat.zero_le _, rfl, HC0.out⟩
          case round =>
            obtain ⟨k, hk, rfl, hcs⟩ := hrel
            by_cases hlt : k < m
            · have hki : (k : Int) < (m : Int) := by omega
              obtain ⟨b, off, rfl, hbw, hcells⟩ := (he.keep hcs.bs.bel) (by omega)
              obtain ⟨c1, c2, l1, l2⟩ := hcells k hlt
              have hmod : Int.tmod (fr k : Int) (n : Int) = ((fr k % n : Nat) : Int) := rfl
              have hmod2 : Int.tmod (to k : Int) (n : Int) = ((to k % n : Nat) : Int) := rfl
              have hml : fr k % n < n := Nat.mod_lt _ hn
              have hmli : ((fr k % n : Nat) : Int) < (n : Int) := by omega
              have hql : nextF n fr m k (fr k % n) < t := by rw [HT.out]; exact next_lt n m fr hlt hn
              have hA1 : ∀ o, (wr.alloc o).cell? ⟨nb, fr k % n, none⟩ = some (.int .i64 (nextF n fr m k (fr k % n) : Int)) := fun o => (hcs.nxt.keep (Below.heap_alloc wr o _ hcs.nxt.lt)).cell hml
              have hA2 : ∀ o, (wr.alloc o).cell? ⟨vb, nextF n fr m k (fr k % n), none⟩ = some (.int .i64 (valF n fr to m k (nextF n fr m k (fr k % n)) : Int)) := fun o => (hcs.val.keep (Below.heap_alloc wr o _ hcs.val.lt)).cell hql
              have hF1 : ∀ o, (wr.alloc o).frozen? ⟨nb, fr k % n, none⟩ = false := fun o => (hcs.nxt.keep (Below.heap_alloc wr o _ hcs.nxt.lt)).fz _
              have hF2 : ∀ o, (wr.alloc o).frozen? ⟨vb, nextF n fr m k (fr k % n), none⟩ = false := fun o => (hcs.val.keep (Below.heap_alloc wr o _ hcs.val.lt)).fz _
              have hne := HV.out.2.2
              have HK : Hid (Cs w wr n m t vb nb fr to k) := hcs
              clear hcs hcells
              obtain ⟨q, hq⟩ : ∃ q, q = nextF n fr m k (fr k % n) := ⟨_, rfl⟩
              rw [← hq] at hA1 hA2 hF2 hql
              have hqi : (q : Int) < (t : Int) := by omega
              have HQ : Hid (q = nextF n fr m k (fr k % n)) := hq
              clear hq
              have HZ : Hid (∀ o, Cs w (((wr.alloc o).setCell ⟨vb, q, none⟩ (.int .i64 ((to k % n : Nat) : Int))).setCell ⟨nb, fr k % n, none⟩ (.int .i64 ((q + 1 : Nat) : Int))) n m t vb nb fr to (k + 1)) := fun o =>
                (HK.out.keep ((Below.refl _ _).alloc (by have := HK.out.bs.bel.size; omega) o) (fun b hb => Below.heap_alloc wr o b hb)).step HV.out.1 HV.out.2.1 (fun e => hne e.symm) HQ.out
              generalize valF n fr to m k q = q0 at *
              generalize hff : fr k % n = f at *
              generalize hvv : to k % n = v at *
              go_wp2
              go_region
              all_goals
                go_wp2
                go_round
                case rel => exact ⟨k + 1, by omega, by go_num, (HZ.out _).same rfl rfl rfl rfl⟩
                case measure => simp [intOf]; omega
            · obtain rfl : m = k := by omega
              have hr0 : wr.cell? ⟨w.heap.size, 0, none⟩ = some (.slice none 0 0) := by rw [cell_of_row _ _ _ _ _ _ hcs.bs.res]; rfl
              have hr1 : wr.cell? ⟨w.heap.size, 1, none⟩ = some (.slice none 0 0) := by rw [cell_of_row _ _ _ _ _ _ hcs.bs.res]; rfl
              have hz0 : wr.frozen? ⟨w.heap.size, 0, none⟩ = false := frozen_of_row _ _ _ _ _ hcs.bs.res
              have hz1 : wr.frozen? ⟨w.heap.size, 1, none⟩ = false := frozen_of_row _ _ _ _ _ hcs.bs.res
              have HK : Hid (Cs w wr n m t vb nb fr to m) := hcs
              have HR : Hid (∀ x y, _) := two_cells hcs.bs.res
              clear hcs
              go_wp2
              (try simp only [Exit.inBlock, Exit.then])
              refine bodyPost_ret (results_cell_row rfl _ _ w.heap.size 43 _ (0, 0) _ rfl (HR.out _ _) Yba.underlying43 rfl (by kernel_rfl)) rfl ?_
              have h := HK.out
              have hv := HV.out
              refine ⟨w.heap.size + 1, vb, ?_, by omega, by omega, by omega, ?_, ?_, ?_⟩
              · rw [← HT.out]
              · exact h.bs.row.keep (by rw [heap_setCell_other _ _ _ _ (by simp), heap_setCell_other _ _ _ _ (by simp)])
              · rw [← HT.out]
                exact h.val.keep (by rw [heap_setCell_other _ _ _ _ (by show vb ≠ w.heap.size; omega), heap_setCell_other _ _ _ _ (by show vb ≠ w.heap.size; omega)])
              · exact (h.bs.bel.setCell (Nat.le_refl _) _).setCell (Nat.le_refl _) _

set_option maxRecDepth 100000 in
theorem brows_nil (m c : Nat) (ao : Option Addr) (fr to : Nat → Nat) (w : World) :
    Calls Yba.prog 13 #[.int .i64 0, .slice ao m c] w fun e w' => ∃ ab vb, e = .returned (.agg #[.slice (some ⟨ab, 0, none⟩) (0 + 1) (0 + 1), .slice (some ⟨vb, 0, none⟩) (atF 0 fr m 0) (atF 0 fr m 0)]) ∧
      w.heap.size ≤ ab ∧ w.heap.size ≤ vb ∧ ab ≠ vb ∧ IR w' ab (0 + 1) (atF 0 fr m) ∧ IR w' vb (atF 0 fr m 0) (valF 0 fr to m m) ∧ Below w.heap.size w w' := by
  have hmk1 := make34 1 (by omega)
  have hmk2 := make34 0 (by omega)
  simp only [Int.cast_ofNat_Int] at hmk1 hmk2
  go_enter Yba.func13, Yba.ntmps13
  go_wp2
  obtain ⟨w1, hw1⟩ : ∃ w1, w1 = (w.alloc (.cells #[.slice none 0 0, .slice none 0 0] 43)).alloc (.cells (ir 1 fun _ => 0) 3) := ⟨_, rfl⟩
  have h1 : Bs w w1 0 (atF 0 fr m) := by
    refine ⟨?_, ?_, ?_⟩
    · rw [hw1]; exact ((Below.refl _ _).alloc (Nat.le_refl _) _).alloc (by simp) _
    · rw [hw1, Below.heap_alloc _ _ _ (by simp)]; exact heap_alloc_new w _
    · have := heap_alloc_new (w.alloc (.cells #[.slice none 0 0, .slice none 0 0] 43)) (.cells (ir 1 fun _ => 0) 3)
      rw [hw1]
      have h2 : IR ((w.alloc (.cells #[.slice none 0 0, .slice none 0 0] 43)).alloc (.cells (ir 1 fun _ => 0) 3)) (w.heap.size + 1) (0 + 1) (fun _ => 0) := by simpa [IR] using this
      refine h2.congr (fun i hi => ?_)
      have : i = 0 := by omega
      subst this; rfl
  rw [← hw1]
  clear hw1
  have hc0 : w1.cell? ⟨w.heap.size + 1, 0, none⟩ = some (.int .i64 0) := h1.row.cell (i := 0) (by omega)
  have H1 : Hid (Bs w w1 0 (atF 0 fr m)) := h1
  clear h1 hmk1
  refine wp_loop_once ?_
  have HN : Hid (∀ o1 o2, ((w1.alloc o1).alloc o2).heap[w1.heap.size + 1]? = some o2) := fun o1 o2 => by
    have := heap_alloc_new (w1.alloc o1) o2
    simpa using this
  have hpw : w.heap.size + 1 < w1.heap.size := H1.out.row.lt
  have HW : Hid (∀ o1 o2 W, (∀ b, b ≠ w1.heap.size + 1 → W.heap[b]? = ((w1.alloc o1).alloc o2).heap[b]?) → Below (w1.heap.size + 1) ((w1.alloc o1).alloc o2) W → Bs w W 0 (atF 0 fr m) ∧ W.heap[w1.heap.size]? = some o1) := by
    intro o1 o2 W h2 h3
    have e1 : ∀ b, b < w1.heap.size → ((w1.alloc o1).alloc o2).heap[b]? = w1.heap[b]? := fun b hb => by
      rw [Below.heap_alloc _ _ _ (by simp; omega), Below.heap_alloc _ _ _ hb]
    have e2 : ((w1.alloc o1).alloc o2).heap[w1.heap.size]? = some o1 := by
      rw [Below.heap_alloc _ _ _ (by simp)]; exact heap_alloc_new w1 o1
    have hb := H1.out
    refine ⟨⟨?_, ?_, ?_⟩, ?_⟩
    · exact ((hb.bel.alloc (by omega) _).alloc (by simp; omega) _).trans (h3.mono (by omega))
    · rw [h2 _ (by omega), e1 _ (by omega)]; exact hb.res
    · exact hb.row.keep (by rw [h2 _ (by omega), e1 _ hpw])
    · rw [h2 _ (by omega), e2]
  clear hpw
  go_wp2_with (refine wpList_copy_ir rfl (.tmp 60) (.tmp 63) rfl (w1.heap.size + 1) (w.heap.size + 1) 0 0 1 rfl rfl (fun _ => 0) (fun _ => 0) (HN.out _ _) (fun j hj => absurd hj (by omega)) ?_; intro W hW1 hW2 hW3; have hB := HW.out _ _ W hW2 hW3; have hr0 : W.cell? ⟨w.heap.size, 0, none⟩ = some (.slice none 0 0) := (by rw [cell_of_row _ _ _ _ _ _ hB.1.res]; rfl); have hr1 : W.cell? ⟨w.heap.size, 1, none⟩ = some (.slice none 0 0) := (by rw [cell_of_row _ _ _ _ _ _ hB.1.res]; rfl); have hz0 : W.frozen? ⟨w.heap.size, 0, none⟩ = false := frozen_of_row _ _ _ _ _ hB.1.res; have hz1 : W.frozen? ⟨w.heap.size, 1, none⟩ = false := frozen_of_row _ _ _ _ _ hB.1.res; have HB : Hid (_ ∧ _) := hB; clear hB hW1 hW2 hW3)
  (try simp only [Exit.inBlock, Exit.then])
  refine bodyPost_ret (results_cell_row rfl _ _ w.heap.size 43 _ (0, 0) _ rfl (two_cells HB.out.1.res _ _) Yba.underlying43 rfl (by kernel_rfl)) rfl ?_
  have h := HB.out.1
  have hlt := H1.out.row.lt
  refine ⟨w.heap.size + 1, w1.heap.size, rfl, by omega, by omega, by omega, ?_, ?_, ?_⟩
  · exact h.row.keep (by rw [heap_setCell_other _ _ _ _ (by simp), heap_setCell_other _ _ _ _ (by simp)])
  · unfold IR
    rw [heap_setCell_other _ _ _ _ (by show w1.heap.size ≠ w.heap.size; omega), heap_setCell_other _ _ _ _ (by show w1.heap.size ≠ w.heap.size; omega), HB.out.2]
    rfl
  · exact (h.bel.setCell (Nat.le_refl _) _).setCell (Nat.le_refl _) _

theorem brows_any (n m c : Nat) (ao : Option Addr) (fr to : Nat → Nat) (w : World) (hn : n ≤ 256) (hm : m ≤ 2048) (he : Edges w ao m fr to) :
    Calls Yba.prog 13 #[.int .i64 (n : Int), .slice ao m c] w fun e w' => ∃ ab vb, e = .returned (.agg #[.slice (some ⟨ab, 0, none⟩) (n + 1) (n + 1), .slice (some ⟨vb, 0, none⟩) (atF n fr m n) (atF n fr m n)]) ∧
      w.heap.size ≤ ab ∧ w.heap.size ≤ vb ∧ ab ≠ vb ∧ IR w' ab (n + 1) (atF n fr m) ∧ IR w' vb (atF n fr m n) (valF n fr to m m) ∧ Below w.heap.size w w' := by
  by_cases h : n = 0
  · subst h; exact brows_nil m c ao fr to w
  · exact brows_pos n m c ao fr to w (by omega) hn hm he
end Go.Proofs.Ybulkcxvo
