/-
  The walk over LawS4966BSums.
-/
import Derived.Test.YbulkcxvaDoorSums
import Derived.Deep.Upon
namespace Go.Proofs.YbulkcxvaDoor
open Go.RowKit
attribute [local go_sem ↓] Go.wp_at_zero Go.wp_at_succ

theorem below_cells {B : Nat} {a : World} (b : Nat) (hb : B ≤ b) : ∀ (vs : List Value) (o : Nat) {w : World}, Below B a w → Below B a (w.setCells b o vs)
  | [], _, _, h => h
  | v :: r, o, _, h => below_cells b hb r (o + 1) (h.setCell hb v)

/-- A take of a drawn region, the slot named. -/
theorem take_to {P : Program} {md : Region.Mode} {ops : Array Oper} {Q : Exit → Act → World → Prop} {S : World → Prop} {i : Nat} {oi : Oper} {fuel : Nat} {listed : Array Bool} {a : Act} {w : World} (d : Nat) (v : Value) (hi : ops[i]? = some oi) (hd : oi.dst = some d)
    (hs : Region.noSelect ops = true) (hf : Region.free md ops listed i = true) (hr : (Region.ready md ops listed).contains i = true)
    (hQ : ∀ c a w, Q (.panic c) (a.put oi.dst v) w → Q (.panic c) a w) (hy : YieldsIf P ops S oi v a) (hS : S w)
    (h : wpAnyH P md ops Q S fuel (listed.setIfInBounds i true) (a.put (some d) v) w) : wpAnyH P md ops Q S (fuel + 1) listed a w :=
  wpAnyH_take hi hs hf hr hQ hy hS (hd ▸ h)

theorem yields_build {ops : Array Oper} {S : World → Prop} {op : Oper} {a : Act} (hw : Region.wanted op (yielded ops a.tmps) = true) (t : TypeId) (parts : Array (Nat × Operand)) (ho : op.op = .build t parts) (cells : Array Value)
    (hb : Ybad.prog.built t (parts.map fun (i, x) => (i, a.eval x)).toList = some cells) : YieldsIf Ybad.prog ops S op (.agg cells) a :=
  .inl ⟨hw, fun w _ => by
    unfold execOp
    simp only [ho, Sem.run_bind, run_build w t _ cells hb, Result.andThen_ok]
    rfl⟩

/-- The nought sum's cells. -/
def zero36 : Array Value := sumCells ⟨#[]⟩ false 0 (fun _ => 0) false
theorem info25 : (Ybad.prog.info? 25).map (fun i => (i.zero, i.size, i.bytes)) = some (some (.agg zero36), 36, 72) := by kernel_rfl
theorem make41 (n : Nat) (hn : n ≤ 1024) (w : World) : (Instr.makeSlice 41 (.int .i64 (n : Int)) (.int .i64 (n : Int))).run Ybad.prog w = .ok (.slice (some ⟨w.heap.size, 0, none⟩) n n) (w.alloc (.cells (madeCells zero36 (n * 36)) 25)) := by
  obtain ⟨i, hi, hz, hs, hb⟩ := info_parts info25
  have := run_make (P := Ybad.prog) w 41 25 i _ Ybad.underlying41 hi hz .i64 .i64 n n (by omega) (Int.le_refl _) (by rw [hb]; omega) (by omega)
  simpa [hs, Value.cells] using this

theorem Sx.c0 (x : Sx) : x.cells[0]? = some (.string x.key) := rfl
theorem Sx.c1 (x : Sx) : x.cells[1]? = some (.bool x.held) := rfl
theorem Sx.c2 (x : Sx) : x.cells[2]? = some (.int .u64 (x.ver : Int)) := rfl
theorem Sx.c35 (x : Sx) : x.cells[35]? = some (.bool x.rem) := rfl
/-- The digest's cells, as a list. -/
def Sx.dig (x : Sx) : List Value := (digCells x.dg).toList
theorem Sx.digLen (x : Sx) : (Ybad.prog.info? 23).map (·.size) = some x.dig.length := size_dig x.dg
theorem Sx.split (x : Sx) : x.cells = [.string x.key, .bool x.held, .int .u64 (x.ver : Int)] ++ (x.dig ++ [.bool x.rem]) := rfl
theorem Sx.built (x : Sx) : Ybad.prog.built 25 [(0, .string x.key), (1, .bool x.held), (2, .int .u64 (x.ver : Int)), (3, .agg x.dig.toArray), (4, .bool x.rem)] = some x.cells.toArray := built_sum x.key x.held x.ver x.dg x.rem
theorem dig_range {w : World} {b o : Nat} {x : Sx} (h : w.rangeAt b o x.cells) : w.rangeAt b (o + 3) x.dig := by
  intro j v hv
  have hl := (List.getElem?_eq_some_iff.1 hv).1
  have h1 := h (3 + j) v (by
    rw [x.split, List.getElem?_append_right (by simp), List.getElem?_append_left (by simpa using hl)]
    simpa using hv)
  rw [← Nat.add_assoc] at h1
  exact h1
theorem flat_take (L : List Sx) (k : Nat) (hk : k < L.length) : flat (L.take (k + 1)) = flat (L.take k) ++ L[k].cells := by
  unfold flat
  rw [List.take_succ_eq_append_getElem hk, List.flatMap_append]; simp
theorem range_append {w : World} {b o : Nat} {xs ys : List Value} (h : w.rangeAt b o xs) (k : w.rangeAt b (o + xs.length) ys) : w.rangeAt b o (xs ++ ys) := by
  intro j v hv
  by_cases hj : j < xs.length
  · rw [List.getElem?_append_left hj] at hv
    exact h j v hv
  · rw [List.getElem?_append_right (by omega)] at hv
    have := k (j - xs.length) v hv
    rw [show o + xs.length + (j - xs.length) = o + j by omega] at this
    exact this
theorem keys_take (L : List Sx) (k : Nat) (hk : k < L.length) : keys (L.take (k + 1)) = keys (L.take k) + L[k].key.size := by
  unfold keys
  rw [List.take_succ_eq_append_getElem hk, List.map_append, List.sum_append]
  simp only [List.map_cons, List.map_nil, List.sum_cons, List.sum_nil, Nat.add_zero]
theorem flatB_keys (L : List Sx) (hok : ∀ x ∈ L, x.ok) (hk : ∀ x ∈ L, x.key.size < 18446744073709551616) : (flatB L).length ≤ keys L + L.length * 100 := by
  induction L with
  | nil => simp [flatB]
  | cons x r ih =>
    have e1 : flatB (x :: r) = x.bytes ++ flatB r := rfl
    have e2 : keys (x :: r) = x.key.size + keys r := by simp [keys]
    have := ih (fun y hy => hok y (by simp [hy])) (fun y hy => hk y (by simp [hy]))
    have h2 := x.blen (hok x (by simp)) (hk x (by simp))
    rw [e1, e2, List.length_append, List.length_cons]; omega
theorem key_le (L : List Sx) : ∀ x ∈ L, x.key.size ≤ keys L := by
  induction L with
  | nil => intro x hx; simp at hx
  | cons y r ih =>
    intro x hx
    have e2 : keys (y :: r) = y.key.size + keys r := by simp [keys]
    rcases List.mem_cons.1 hx with rfl | hx
    · omega
    · have := ih x hx; omega

/-- The second loop's state. -/
structure Lp (w wr : World) (L : List Sx) (n k : Nat) (want : Value) : Prop where
  bel : Below w.heap.size w wr
  rg : wr.rangeAt w.heap.size 0 (flat (L.take k))
  th : wr.there w.heap.size 0 (n * 36)
  own : wr.ownsRow (w.heap.size + 1) 5 1 want (flatB (L.take k)).length (bc (flatB (L.take k)))
  sz : w.heap.size + 1 ≤ wr.heap.size

theorem Lp.start (w : World) (L : List Sx) (n : Nat) : Lp w (w.alloc (.cells (madeCells zero36 (n * 36)) 25)) L n 0 (.slice none 0 0) := by
  refine ⟨(Below.refl _ _).alloc (Nat.le_refl _) _, fun j v hv => by simp [flat] at hv, fun j hj => ?_, ⟨rfl, .inl ⟨rfl, rfl⟩⟩, by simp⟩
  have hb := heap_alloc_new w (.cells (madeCells zero36 (n * 36)) 25)
  refine ⟨?_, frozen_of_row _ _ _ _ _ hb⟩
  rw [cell_of_row _ _ _ _ _ _ hb, Nat.zero_add, Array.getElem?_eq_getElem (by rw [size_madeCells]; exact hj)]
  rfl
theorem own_but {w w' : World} {B n g0 : Nat} {v : Value} {xs : List Value} (h : w.ownsRow B 5 1 v n xs) (h0 : g0 < B) (hk : ∀ b, b < w.heap.size → b ≠ g0 → w'.heap[b]? = w.heap[b]?) : w'.ownsRow B 5 1 v n xs := by
  obtain ⟨o1, o2⟩ := h
  refine ⟨o1, ?_⟩
  rcases o2 with o2 | ⟨g, cap, cu, e, hB, hh, r⟩
  · exact .inl o2
  · exact .inr ⟨g, cap, cu, e, hB, (hk g (lt_of_block hh) (by omega)).trans hh, r⟩
/-- Behind the store of one sum. -/
theorem Lp.store {w wr W : World} {L : List Sx} {n k : Nat} {want : Value} (h : Lp w wr L n k want) (hk : k < L.length) (hn : L.length = n) (hW : W = wr.drew.setCells w.heap.size (k * 36) L[k].cells) :
    Below w.heap.size w W ∧ W.rangeAt w.heap.size 0 (flat (L.take (k + 1))) ∧ W.there w.heap.size 0 (n * 36) ∧ W.ownsRow (w.heap.size + 1) 5 1 want (flatB (L.take k)).length (bc (flatB (L.take k))) ∧ w.heap.size + 1 ≤ W.heap.size ∧ W.rangeAt w.heap.size (k * 36) L[k].cells := by
  have ht : wr.drew.there w.heap.size (k * 36) L[k].cells.length := by
    rw [World.there_drew]
    intro j hj
    rw [Sx.len] at hj
    have := h.th (k * 36 + j) (by omega)
    rw [Nat.zero_add] at this
    exact this
  have hs : W.rangeAt w.heap.size (k * 36) L[k].cells := by rw [hW]; exact World.rangeAt_setCells_same _ _ _ _ ht
  have hl : (flat (L.take k)).length = k * 36 := by rw [flat_len, List.length_take, Nat.min_eq_left (by omega)]
  have hd : Below w.heap.size w wr.drew := h.bel.trans ⟨rfl, rfl, rfl, Nat.le_refl _, fun _ _ => rfl⟩
  refine ⟨?_, ?_, ?_, ?_, ?_, hs⟩
  · rw [hW]; exact below_cells w.heap.size (Nat.le_refl _) _ _ hd
  · rw [flat_take L k hk]
    refine range_append ?_ (by rw [hl, Nat.zero_add]; exact hs)
    rw [hW]
    exact World.rangeAt_setCells_apart (by rw [World.rangeAt_drew]; exact h.rg) _ _ _ (.inr (.inl (by omega)))
  · rw [hW]; exact World.there_setCells (by rw [World.there_drew]; exact h.th) _ _ _
  · refine own_but h.own (Nat.lt_succ_self _) (fun b hb hne => ?_)
    rw [hW]; exact World.heap_setCells_other wr.drew _ _ _ hb hne
  · rw [hW]
    have := (below_cells w.heap.size (Nat.le_refl _) L[k].cells (k * 36) (Below.refl w.heap.size wr.drew)).size
    exact Nat.le_trans h.sz this

theorem keys_le (L : List Sx) (k : Nat) : keys (L.take k) ≤ keys L := by
  have e : keys L = keys (L.take k) + keys (L.drop k) := by
    unfold keys
    rw [← List.sum_append, ← List.map_append, List.take_append_drop]
  omega
theorem there_kept {w w' : World} {b o n : Nat} (h : w.there b o n) (hb : w'.heap[b]? = w.heap[b]?) : w'.there b o n := by
  intro j hj
  have := h j hj
  simpa only [World.cell?, World.frozen?, hb] using this
theorem lp_next {w W w5 : World} {L : List Sx} {n k g m cap : Nat} {want : Value} {x : Sx}
    (h : Below w.heap.size w W ∧ W.rangeAt w.heap.size 0 (flat (L.take (k + 1))) ∧ W.there w.heap.size 0 (n * 36) ∧ W.ownsRow (w.heap.size + 1) 5 1 want (flatB (L.take k)).length (bc (flatB (L.take k))) ∧ w.heap.size + 1 ≤ W.heap.size ∧ W.rangeAt w.heap.size (k * 36) x.cells)
    (hG : Gr want (.slice (some ⟨g, 0, none⟩) m cap) W w5)
    (ho : w5.ownsRow (w.heap.size + 1) 5 1 (.slice (some ⟨g, 0, none⟩) m cap) (flatB (L.take k) ++ sumBytes x.key.data.toList x.held x.ver (digBytes x.dg) x.rem).length (bc (flatB (L.take k) ++ sumBytes x.key.data.toList x.held x.ver (digBytes x.dg) x.rem)))
    (hT : flatB (L.take (k + 1)) = flatB (L.take k) ++ x.bytes) : Lp w w5 L n (k + 1) (.slice (some ⟨g, 0, none⟩) m cap) := by
  obtain ⟨h1, h2, h3, h4, h5, h6⟩ := h
  have ha := own_at h4
  have hb : w5.heap[w.heap.size]? = W.heap[w.heap.size]? := hG.block _ (by omega) (fun e => by have := ha _ e; omega)
  refine ⟨h1.trans (hG.below (by omega) (fun g e => by have := ha g e; omega)), range_kept h2 hb, there_kept h3 hb, ?_, Nat.le_trans h5 hG.size⟩
  rw [hT]; exact ho

set_option maxRecDepth 100000 in
set_option maxHeartbeats 4000000 in
theorem sums_small (ao : Option Addr) (L : List Sx) (n c : Nat) (w : World) (hn : n ≤ 1024) (hL : L.length = n) (hok : ∀ x ∈ L, x.ok) (hkm : ∀ x ∈ L, x.key.size ≤ 4611686018427387904)
    (hin : 0 < n → ∃ b off, ao = some ⟨b, off, none⟩ ∧ b < w.heap.size ∧ w.rangeAt b off (flat L)) :
    Calls Ybad.prog 4 #[.slice ao n c] w fun e w' => e = .returned (.bool true) ∧ Below w.heap.size w w' := by
  have hni : (n : Int) ≤ 1024 := by omega
  have hmk := make41 n hn
  have HH : Hid (_ ∧ _ ∧ _ ∧ _) := ⟨hL, hok, hkm, hin⟩
  clear hL hok hkm hin
  go_enter Ybad.func4, Ybad.ntmps4
  go_wp2
  go_loop [3, 4] (fun t i => ∃ k : Nat, k ≤ n ∧ i = .int .i64 (k : Int) ∧ ∃ s : Nat, s = keys (L.take k) ∧ s ≤ 1048576 ∧ t = .int .i64 (s : Int)) (fun _ i => n - (intOf i).toNat)
  case atStart => exact ⟨0, Nat.zero_le _, rfl, 0, rfl, by omega, rfl⟩
  case round =>
    obtain ⟨k, hk, rfl, s, hs, hs1, rfl⟩ := hrel
    have hs2 : (s : Int) ≤ 1048576 := by omega
    by_cases hlt : k < n
    · have hki : (k : Int) < (n : Int) := by omega
      obtain ⟨b, off, rfl, hbw, hr⟩ := HH.out.2.2.2 (by omega)
      have hkL : k < L.length := by have := HH.out.1; omega
      have hx : L[k] ∈ L := List.getElem_mem hkL
      have h36 : w.rangeAt b (off + k * 36) L[k].cells := range_flat hr k hkL
      have hc0 := h36 0 _ (Sx.c0 _)
      rw [Nat.add_zero] at hc0
      have hm := HH.out.2.2.1 _ hx
      have hm2 : (L[k].key.size : Int) ≤ 4611686018427387904 := by omega
      have HK : Hid (_ = _) := keys_take L k hkL
      have HC : Hid (_ ∧ _) := ⟨h36, hr⟩
      clear h36 hr hx
      generalize L[k] = x at *
      by_cases hbig : 1048576 < s + x.key.size
      · have hb2 : (1048576 : Int) < (s : Int) + (x.key.size : Int) := by omega
        go_wp2
        go_ret
        exact ⟨rfl, Below.refl _ _⟩
      · have hb2 : (s : Int) + (x.key.size : Int) ≤ 1048576 := by omega
        go_wp2
        go_round
        case rel => exact ⟨k + 1, by omega, by go_num, s + x.key.size, by rw [HK.out, hs], by omega, by go_num⟩
        case measure => simp [intOf]; omega
    · obtain rfl : n = k := by omega
      have hfk : keys L ≤ 1048576 := by
        have := HH.out.1
        rw [hs, ← this, List.take_length] at hs1
        exact hs1
      have HF : Hid (keys L ≤ 1048576) := hfk
      clear hs hs1 hs2 hfk hk hlt
      go_wp2
      clear hmk
      go_loopw [6, 7] (fun want i wr => ∃ k : Nat, k ≤ n ∧ i = .int .i64 (k : Int) ∧ Lp w wr L n k want) (fun _ i _ => n - (intOf i).toNat)
      case atStart => exact ⟨0, Nat.zero_le _, rfl, Lp.start w L n⟩
      case round =>
        obtain ⟨k, hk, rfl, hlp⟩ := hrel
        by_cases hlt : k < n
        · have hki : (k : Int) < (n : Int) := by omega
          obtain ⟨b, off, rfl, hbw, hr⟩ := HH.out.2.2.2 (by omega)
          have hkL : k < L.length := by have := HH.out.1; omega
          have h36 : wr.rangeAt b (off + k * 36) L[k].cells := range_kept (range_flat hr k hkL) (hlp.bel.block b hbw)
          have hth : wr.there w.heap.size (k * 36) 36 := by
            intro j hj
            have := hlp.th (k * 36 + j) (by omega)
            rw [Nat.zero_add] at this
            exact this
          have HT : Hid (_ = _) := flatB_take L k hkL
          have HY : Hid (keys (L.take k) + L[k].key.size ≤ keys L) := by rw [← keys_take L k hkL]; exact keys_le L (k + 1)
          have HX : Hid (_ ∧ _) := ⟨HH.out.2.1 _ (List.getElem_mem hkL), HH.out.2.2.1 _ (List.getElem_mem hkL)⟩
          have HQ : Hid (∀ W, W = wr.drew.setCells w.heap.size (k * 36) L[k].cells → _) := fun W hW => hlp.store hkL HH.out.1 hW
          have HR : Hid (_ ∧ _ ∧ _) := ⟨h36, hth, hbw⟩
          clear h36 hth hlp hr
          generalize L[k] = x at *
          go_wp2
          refine wp_region_held_drew (S := fun w' => w'.rangeAt b (off + k * 36) x.cells) (by kernel_rfl) (by simpa using HR.out.1) (fun hHeld => ?_)
          refine take_to (i := 0) 37 (.slice (some ⟨w.heap.size, 0, none⟩) n n) rfl rfl (by kernel_rfl) (by kernel_rfl) (by kernel_rfl) (fun _ _ _ h => h) (Or.inl ⟨by rfl, by intro w hSw; go_simp⟩) hHeld ?_
          simp only [Act.put, List.setIfInBounds_toArray, List.set_cons_succ, List.set_cons_zero]
          refine take_to (i := 1) 38 (.int .i64 (k : Int)) rfl rfl (by kernel_rfl) (by kernel_rfl) (by kernel_rfl) (fun _ _ _ h => h) (Or.inl ⟨by rfl, by intro w hSw; go_simp⟩) hHeld ?_
          simp only [Act.put, List.setIfInBounds_toArray, List.set_cons_succ, List.set_cons_zero]
          refine take_to (i := 2) 39 (.slice (some ⟨b, off, none⟩) n c) rfl rfl (by kernel_rfl) (by kernel_rfl) (by kernel_rfl) (fun _ _ _ h => h) (Or.inl ⟨by rfl, by intro w hSw; go_simp⟩) hHeld ?_
          simp only [Act.put, List.setIfInBounds_toArray, List.set_cons_succ, List.set_cons_zero]
          refine take_to (i := 3) 40 (.int .i64 (k : Int)) rfl rfl (by kernel_rfl) (by kernel_rfl) (by kernel_rfl) (fun _ _ _ h => h) (Or.inl ⟨by rfl, by intro w hSw; go_simp⟩) hHeld ?_
          simp only [Act.put, List.setIfInBounds_toArray, List.set_cons_succ, List.set_cons_zero]
          refine take_to (i := 4) 41 (.pointer (some ⟨b, off + k * 36, none⟩)) rfl rfl (by kernel_rfl) (by kernel_rfl) (by kernel_rfl) (fun _ _ _ h => h) (Or.inl ⟨by rfl, by intro w hSw; go_simp⟩) hHeld ?_
          simp only [Act.put, List.setIfInBounds_toArray, List.set_cons_succ, List.set_cons_zero]
          refine take_to (i := 5) 42 (.pointer (some ⟨b, off + k * 36, none⟩)) rfl rfl (by kernel_rfl) (by kernel_rfl) (by kernel_rfl) (fun _ _ _ h => h) (Or.inl ⟨by rfl, by intro w hSw; go_simp⟩) hHeld ?_
          simp only [Act.put, List.setIfInBounds_toArray, List.set_cons_succ, List.set_cons_zero]
          refine take_to (i := 6) 43 (.string x.key) rfl rfl (by kernel_rfl) (by kernel_rfl) (by kernel_rfl) (fun _ _ _ h => h) (Or.inl ⟨by rfl, by intro w hSw; have hc := hSw 0 _ x.c0; rw [Nat.add_zero] at hc; go_simp⟩) hHeld ?_
          simp only [Act.put, List.setIfInBounds_toArray, List.set_cons_succ, List.set_cons_zero]
          refine take_to (i := 7) 44 (.slice (some ⟨b, off, none⟩) n c) rfl rfl (by kernel_rfl) (by kernel_rfl) (by kernel_rfl) (fun _ _ _ h => h) (Or.inl ⟨by rfl, by intro w hSw; go_simp⟩) hHeld ?_
          simp only [Act.put, List.setIfInBounds_toArray, List.set_cons_succ, List.set_cons_zero]
          refine take_to (i := 8) 45 (.int .i64 (k : Int)) rfl rfl (by kernel_rfl) (by kernel_rfl) (by kernel_rfl) (fun _ _ _ h => h) (Or.inl ⟨by rfl, by intro w hSw; go_simp⟩) hHeld ?_
          simp only [Act.put, List.setIfInBounds_toArray, List.set_cons_succ, List.set_cons_zero]
          refine take_to (i := 9) 46 (.pointer (some ⟨b, off + k * 36, none⟩)) rfl rfl (by kernel_rfl) (by kernel_rfl) (by kernel_rfl) (fun _ _ _ h => h) (Or.inl ⟨by rfl, by intro w hSw; go_simp⟩) hHeld ?_
          simp only [Act.put, List.setIfInBounds_toArray, List.set_cons_succ, List.set_cons_zero]
          refine take_to (i := 10) 47 (.pointer (some ⟨b, off + k * 36 + 1, none⟩)) rfl rfl (by kernel_rfl) (by kernel_rfl) (by kernel_rfl) (fun _ _ _ h => h) (Or.inl ⟨by rfl, by intro w hSw; go_simp⟩) hHeld ?_
          simp only [Act.put, List.setIfInBounds_toArray, List.set_cons_succ, List.set_cons_zero]
          refine take_to (i := 11) 48 (.bool x.held) rfl rfl (by kernel_rfl) (by kernel_rfl) (by kernel_rfl) (fun _ _ _ h => h) (Or.inl ⟨by rfl, by intro w hSw; have hc := hSw 1 _ x.c1; go_simp⟩) hHeld ?_
          simp only [Act.put, List.setIfInBounds_toArray, List.set_cons_succ, List.set_cons_zero]
          refine take_to (i := 12) 49 (.slice (some ⟨b, off, none⟩) n c) rfl rfl (by kernel_rfl) (by kernel_rfl) (by kernel_rfl) (fun _ _ _ h => h) (Or.inl ⟨by rfl, by intro w hSw; go_simp⟩) hHeld ?_
          simp only [Act.put, List.setIfInBounds_toArray, List.set_cons_succ, List.set_cons_zero]
          refine take_to (i := 13) 50 (.int .i64 (k : Int)) rfl rfl (by kernel_rfl) (by kernel_rfl) (by kernel_rfl) (fun _ _ _ h => h) (Or.inl ⟨by rfl, by intro w hSw; go_simp⟩) hHeld ?_
          simp only [Act.put, List.setIfInBounds_toArray, List.set_cons_succ, List.set_cons_zero]
          refine take_to (i := 14) 51 (.pointer (some ⟨b, off + k * 36, none⟩)) rfl rfl (by kernel_rfl) (by kernel_rfl) (by kernel_rfl) (fun _ _ _ h => h) (Or.inl ⟨by rfl, by intro w hSw; go_simp⟩) hHeld ?_
          simp only [Act.put, List.setIfInBounds_toArray, List.set_cons_succ, List.set_cons_zero]
          refine take_to (i := 15) 52 (.pointer (some ⟨b, off + k * 36 + 2, none⟩)) rfl rfl (by kernel_rfl) (by kernel_rfl) (by kernel_rfl) (fun _ _ _ h => h) (Or.inl ⟨by rfl, by intro w hSw; go_simp⟩) hHeld ?_
          simp only [Act.put, List.setIfInBounds_toArray, List.set_cons_succ, List.set_cons_zero]
          refine take_to (i := 16) 53 (.int .u64 (x.ver : Int)) rfl rfl (by kernel_rfl) (by kernel_rfl) (by kernel_rfl) (fun _ _ _ h => h) (Or.inl ⟨by rfl, by intro w hSw; have hc := hSw 2 _ x.c2; go_simp⟩) hHeld ?_
          simp only [Act.put, List.setIfInBounds_toArray, List.set_cons_succ, List.set_cons_zero]
          refine take_to (i := 17) 54 (.slice (some ⟨b, off, none⟩) n c) rfl rfl (by kernel_rfl) (by kernel_rfl) (by kernel_rfl) (fun _ _ _ h => h) (Or.inl ⟨by rfl, by intro w hSw; go_simp⟩) hHeld ?_
          simp only [Act.put, List.setIfInBounds_toArray, List.set_cons_succ, List.set_cons_zero]
          refine take_to (i := 18) 55 (.int .i64 (k : Int)) rfl rfl (by kernel_rfl) (by kernel_rfl) (by kernel_rfl) (fun _ _ _ h => h) (Or.inl ⟨by rfl, by intro w hSw; go_simp⟩) hHeld ?_
          simp only [Act.put, List.setIfInBounds_toArray, List.set_cons_succ, List.set_cons_zero]
          refine take_to (i := 19) 56 (.pointer (some ⟨b, off + k * 36, none⟩)) rfl rfl (by kernel_rfl) (by kernel_rfl) (by kernel_rfl) (fun _ _ _ h => h) (Or.inl ⟨by rfl, by intro w hSw; go_simp⟩) hHeld ?_
          simp only [Act.put, List.setIfInBounds_toArray, List.set_cons_succ, List.set_cons_zero]
          refine take_to (i := 20) 57 (.pointer (some ⟨b, off + k * 36 + 3, none⟩)) rfl rfl (by kernel_rfl) (by kernel_rfl) (by kernel_rfl) (fun _ _ _ h => h) (Or.inl ⟨by rfl, by intro w hSw; go_simp⟩) hHeld ?_
          simp only [Act.put, List.setIfInBounds_toArray, List.set_cons_succ, List.set_cons_zero]
          refine take_to (i := 21) 58 (.agg x.dig.toArray) rfl rfl (by kernel_rfl) (by kernel_rfl) (by kernel_rfl) (fun _ _ _ h => h) (yieldsIf_load_mid (by rfl) 23 (.tmp 57) rfl b (off + k * 36 + 3) rfl x.dig _ (fun w h => dig_range h) Ybad.underlying23 rfl x.digLen) hHeld ?_
          simp only [Act.put, List.setIfInBounds_toArray, List.set_cons_succ, List.set_cons_zero]
          refine take_to (i := 22) 59 (.slice (some ⟨b, off, none⟩) n c) rfl rfl (by kernel_rfl) (by kernel_rfl) (by kernel_rfl) (fun _ _ _ h => h) (Or.inl ⟨by rfl, by intro w hSw; go_simp⟩) hHeld ?_
          simp only [Act.put, List.setIfInBounds_toArray, List.set_cons_succ, List.set_cons_zero]
          refine take_to (i := 23) 60 (.int .i64 (k : Int)) rfl rfl (by kernel_rfl) (by kernel_rfl) (by kernel_rfl) (fun _ _ _ h => h) (Or.inl ⟨by rfl, by intro w hSw; go_simp⟩) hHeld ?_
          simp only [Act.put, List.setIfInBounds_toArray, List.set_cons_succ, List.set_cons_zero]
          refine take_to (i := 24) 61 (.pointer (some ⟨b, off + k * 36, none⟩)) rfl rfl (by kernel_rfl) (by kernel_rfl) (by kernel_rfl) (fun _ _ _ h => h) (Or.inl ⟨by rfl, by intro w hSw; go_simp⟩) hHeld ?_
          simp only [Act.put, List.setIfInBounds_toArray, List.set_cons_succ, List.set_cons_zero]
          refine take_to (i := 25) 62 (.pointer (some ⟨b, off + k * 36 + 35, none⟩)) rfl rfl (by kernel_rfl) (by kernel_rfl) (by kernel_rfl) (fun _ _ _ h => h) (Or.inl ⟨by rfl, by intro w hSw; go_simp⟩) hHeld ?_
          simp only [Act.put, List.setIfInBounds_toArray, List.set_cons_succ, List.set_cons_zero]
          refine take_to (i := 26) 63 (.bool x.rem) rfl rfl (by kernel_rfl) (by kernel_rfl) (by kernel_rfl) (fun _ _ _ h => h) (Or.inl ⟨by rfl, by intro w hSw; have hc := hSw 35 _ x.c35; go_simp⟩) hHeld ?_
          simp only [Act.put, List.setIfInBounds_toArray, List.set_cons_succ, List.set_cons_zero]
          refine take_to (i := 27) 64 (.agg x.cells.toArray) rfl rfl (by kernel_rfl) (by kernel_rfl) (by kernel_rfl) (fun _ _ _ h => h) (yields_build (by rfl) 25 _ rfl x.cells.toArray (by simp only [List.map_toArray, List.map_cons, List.map_nil]; exact x.built)) hHeld ?_
          simp only [Act.put, List.setIfInBounds_toArray, List.set_cons_succ, List.set_cons_zero]
          refine take_to (i := 28) 65 (.pointer (some ⟨w.heap.size, k * 36, none⟩)) rfl rfl (by kernel_rfl) (by kernel_rfl) (by kernel_rfl) (fun _ _ _ h => h) (Or.inl ⟨by rfl, by intro w hSw; go_simp⟩) hHeld ?_
          simp only [Act.put, List.setIfInBounds_toArray, List.set_cons_succ, List.set_cons_zero]
          refine wpAnyH_ready (rs := [29]) (by kernel_rfl) (by simp) ?_
          refine AllReadyH.cons rfl (fun K hK => ?_) AllReadyH.nil
          rw [if_pos (by rfl)]
          refine wp_store_mid 25 _ _ rfl w.heap.size (k * 36) x.cells.toArray rfl rfl (by rw [World.there_drew]; exact HR.out.2.1) x.size' x.one ?_
          rw [List.toList_toArray]
          obtain ⟨W, hW⟩ : ∃ W, W = wr.drew.setCells w.heap.size (k * 36) x.cells := ⟨_, rfl⟩
          rw [← hW]
          have HS := HQ.out W hW
          refine hK.out _ _ ?_ (fun hHeld2 => ?_)
          · show World.rangeAt W b (off + k * 36) x.cells
            rw [hW]
            exact World.rangeAt_setCells_apart (by rw [World.rangeAt_drew]; exact HR.out.1) _ _ _ (.inl (by have := HR.out.2.2; omega))
          have HS : Hid (_ ∧ _ ∧ _ ∧ _ ∧ _ ∧ _) := HS
          clear hK K hW hHeld2 hHeld
          refine wpAnyH_done (by kernel_rfl) ?_ _
          simp only [List.getElem_toArray, List.getElem_cons_succ, List.getElem_cons_zero, Act.put]
          go_wp2_with (refine wpList_load_mid (by rfl) 25 (.tmp 69) (by rfl) w.heap.size (k * 36) (by rfl) x.cells _ HS.out.2.2.2.2.2 Ybad.underlying25 rfl x.size ?_)
          have hlim : (flatB (L.take k)).length + x.key.size + 100 ≤ 140737488355328 := by
            have h1 := flatB_keys (L.take k) (fun y hy => HH.out.2.1 y (List.mem_of_mem_take hy)) (fun y hy => by have := HH.out.2.2.1 y (List.mem_of_mem_take hy); omega)
            have h2 := HF.out
            have h3 := HY.out
            have h4 : (L.take k).length ≤ 1024 := by rw [List.length_take]; omega
            omega
          refine (model_any (w.heap.size + 1) u6 (flatB (L.take k)) x.cells.toArray x.key x.held x.ver (digBytes x.dg) x.rem W (x.isSum HX.out.1) HS.out.2.2.2.1 HS.out.2.2.2.2.1 hlim).mono ?_
          rintro e w5 ⟨g, m, cap, rfl, ho, hG⟩
          have hnx := lp_next HS.out hG ho HT.out
          have HN : Hid (Lp w w5 L n (k + 1) _) := hnx
          clear hnx ho hG HS
          go_wp2
          go_round
          case rel => exact ⟨k + 1, by omega, by go_num, HN.out⟩
          case measure => simp [intOf]; omega
        · obtain rfl : n = k := by omega
          have HP : Hid (Lp w wr L n n u6) := hlp
          clear hlp hk hlt
          go_wp2_with fail
          have hL := HH.out.1
          have ht : L.take n = L := by rw [← hL, List.take_length]
          obtain ⟨W1, hW1⟩ : ∃ W1, W1 = wr.alloc (.cells #[.slice none 0 0] 29) := ⟨_, rfl⟩
          obtain ⟨pw, hpw⟩ : ∃ pw, pw = wr.heap.size := ⟨_, rfl⟩
          rw [← hW1, ← hpw]
          have f1 : W1.heap[pw]? = some (.cells #[.slice none 0 0] 29 (0, 0)) := by rw [hW1, hpw]; exact heap_alloc_new wr _
          have f2 : W1.rangeAt w.heap.size 0 (flat L) := by
            have := HP.out.rg
            rw [ht] at this
            rw [hW1]
            exact World.rangeAt_alloc this _
          have f3 : W1.heap.size = wr.heap.size + 1 := by rw [hW1]; simp
          have f4 := HP.out.sz
          have f5 : (flatB L).length ≤ 2000000 := by
            have h1 := flatB_keys L HH.out.2.1 (fun y hy => by have := HH.out.2.2.1 y hy; omega)
            have h2 := HF.out
            omega
          have f6 : ∀ b, b < wr.heap.size → W1.heap[b]? = wr.heap[b]? := fun b hb => by rw [hW1]; exact Below.heap_alloc _ _ _ hb
          have f7 : Below w.heap.size w W1 := by rw [hW1]; exact HP.out.bel.alloc HP.out.bel.size _
          have f8 := sums_any L w.heap.size pw n W1 f1 f2 (by omega) (by omega) (by omega) HH.out.2.1 (fun y hy => by have h1 := key_le L y hy; have h2 := HF.out; omega) f5
          rw [hL] at f8
          refine f8.mono ?_
          rintro e w6 ⟨rfl, B6, v6, hB6, hc6, ho6, hf6⟩
          have g1 : ∀ b, b < wr.heap.size → w6.heap[b]? = wr.heap[b]? := fun b hb => (hf6.block b (by omega) (by omega) (by omega) (by omega) (by simp [Value.ownBlock])).trans (f6 b hb)
          have g2 : w6.ownsRow (w.heap.size + 1) 5 1 u6 (flatB L).length (bc (flatB L)) := by
            have := own_kept HP.out.own g1
            rw [ht] at this
            exact this
          have g3 : Below w.heap.size w w6 := f7.trans ⟨hf6.os, hf6.tape, hf6.output, hf6.size, fun b hb => hf6.block b (by omega) (by omega) (by omega) (by omega) (by simp [Value.ownBlock])⟩
          have g4 : w6.cell? ⟨pw, 0, none⟩ = some v6 := by rw [cell_of_row _ _ _ _ _ _ hc6]; rfl
          have H6 : Hid (_ ∧ _ ∧ _) := ⟨ho6, g2, g3⟩
          clear hB6 hc6 ho6 hf6 g1 g2 g3 f8 f7 f6 f5 f4 f3 f2 f1 ht hL hW1 hpw
          go_wp2_with fail
          refine (equal_any H6.out.1 H6.out.2.1).mono ?_
          rintro e w7 ⟨rfl, hw7⟩
          rw [hw7]
          clear hw7
          go_wp2
          go_ret
          exact ⟨rfl, H6.out.2.2⟩

set_option maxRecDepth 100000 in
theorem sums_big (ao : Option Addr) (n c : Nat) (w : World) (hn : 1024 < n) :
    Calls Ybad.prog 4 #[.slice ao n c] w fun e w' => e = .returned (.bool true) ∧ Below w.heap.size w w' := by
  have hni : (1024 : Int) < (n : Int) := by omega
  go_enter Ybad.func4, Ybad.ntmps4
  go_wp2
  go_ret
  exact ⟨rfl, Below.refl _ _⟩
end Go.Proofs.YbulkcxvaDoor
