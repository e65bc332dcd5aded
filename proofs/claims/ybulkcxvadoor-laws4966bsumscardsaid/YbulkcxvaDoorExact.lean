/-
  The walk over LawS4966BExact.
-/
import Derived.Test.YbulkcxvaDoorWs
import Derived.Laws.Tables
import Derived.Deep.MidRow
namespace Go.Proofs.YbulkcxvaDoor
open Go.RowKit
attribute [local go_sem ↓] Go.wp_at_zero Go.wp_at_succ

/-- A digest's 32 cells. -/
def digCells (d : Nat → Int) : Array Value := #[.int .u8 (d 0), .int .u8 (d 1), .int .u8 (d 2), .int .u8 (d 3), .int .u8 (d 4), .int .u8 (d 5), .int .u8 (d 6), .int .u8 (d 7), .int .u8 (d 8), .int .u8 (d 9), .int .u8 (d 10), .int .u8 (d 11), .int .u8 (d 12), .int .u8 (d 13), .int .u8 (d 14), .int .u8 (d 15), .int .u8 (d 16), .int .u8 (d 17), .int .u8 (d 18), .int .u8 (d 19), .int .u8 (d 20), .int .u8 (d 21), .int .u8 (d 22), .int .u8 (d 23), .int .u8 (d 24), .int .u8 (d 25), .int .u8 (d 26), .int .u8 (d 27), .int .u8 (d 28), .int .u8 (d 29), .int .u8 (d 30), .int .u8 (d 31)]
/-- A sum's 36 cells. -/
def sumCells (key : ByteArray) (held : Bool) (ver : Int) (d : Nat → Int) (rem : Bool) : Array Value := #[.string key, .bool held, .int .u64 ver, .int .u8 (d 0), .int .u8 (d 1), .int .u8 (d 2), .int .u8 (d 3), .int .u8 (d 4), .int .u8 (d 5), .int .u8 (d 6), .int .u8 (d 7), .int .u8 (d 8), .int .u8 (d 9), .int .u8 (d 10), .int .u8 (d 11), .int .u8 (d 12), .int .u8 (d 13), .int .u8 (d 14), .int .u8 (d 15), .int .u8 (d 16), .int .u8 (d 17), .int .u8 (d 18), .int .u8 (d 19), .int .u8 (d 20), .int .u8 (d 21), .int .u8 (d 22), .int .u8 (d 23), .int .u8 (d 24), .int .u8 (d 25), .int .u8 (d 26), .int .u8 (d 27), .int .u8 (d 28), .int .u8 (d 29), .int .u8 (d 30), .int .u8 (d 31), .bool rem]
theorem built_sum (key : ByteArray) (held : Bool) (ver : Int) (d : Nat → Int) (rem : Bool) : Ybad.prog.built 25 [(0, .string key), (1, .bool held), (2, .int .u64 ver), (3, .agg (digCells d)), (4, .bool rem)] = some (sumCells key held ver d rem) := by kernel_rfl
theorem size_dig (d : Nat → Int) : (Ybad.prog.info? 23).map (·.size) = some (digCells d).size := by kernel_rfl
theorem size_sum (key : ByteArray) (held : Bool) (ver : Int) (d : Nat → Int) (rem : Bool) : (Ybad.prog.info? 25).map (·.size) = some (sumCells key held ver d rem).size := by kernel_rfl
theorem one_sum (key : ByteArray) (held : Bool) (ver : Int) (d : Nat → Int) (rem : Bool) : (sumCells key held ver d rem).all (·.oneCell') = true := by kernel_rfl
/-- The digest's bytes. -/
def digBytes (d : Nat → Int) : List UInt8 := (List.range 32).map fun i => UInt8.ofNat (d i).toNat
theorem isSum_cells (key : ByteArray) (held : Bool) (ver : Nat) (d : Nat → Int) (rem : Bool) (hv : ver < 18446744073709551616) (hd : ∀ i, 0 ≤ d i ∧ d i ≤ 255) : IsSum (sumCells key held ver d rem) key held ver (digBytes d) rem := by
  refine ⟨rfl, rfl, rfl, rfl, fun j u hj => ?_, by simp [digBytes], hv⟩
  have hl := bc_at hj
  have hl' : j < 32 := by simpa [digBytes] using hl
  have e1 : (sumCells key held ver d rem)[3 + j]? = some (.int .u8 (d j)) := by
    match j, hl' with
    | 0, _ => rfl
    | 1, _ => rfl
    | 2, _ => rfl
    | 3, _ => rfl
    | 4, _ => rfl
    | 5, _ => rfl
    | 6, _ => rfl
    | 7, _ => rfl
    | 8, _ => rfl
    | 9, _ => rfl
    | 10, _ => rfl
    | 11, _ => rfl
    | 12, _ => rfl
    | 13, _ => rfl
    | 14, _ => rfl
    | 15, _ => rfl
    | 16, _ => rfl
    | 17, _ => rfl
    | 18, _ => rfl
    | 19, _ => rfl
    | 20, _ => rfl
    | 21, _ => rfl
    | 22, _ => rfl
    | 23, _ => rfl
    | 24, _ => rfl
    | 25, _ => rfl
    | 26, _ => rfl
    | 27, _ => rfl
    | 28, _ => rfl
    | 29, _ => rfl
    | 30, _ => rfl
    | 31, _ => rfl
  rw [e1]
  have h1 := hd j
  have e3 : (bc (digBytes d))[j]? = some (.int .u8 (d j)) := by
    simp [bc, digBytes, hl']; omega
  rw [← e3]; exact hj

theorem wpList_build_to {ops : Array Oper} {rest : List Oper} {o : Oper} {a : Act} {w : World} {Q : Exit → Act → World → Prop} (hg : o.guard = none) (t : TypeId) (parts : Array (Nat × Operand)) (ho : o.op = .build t parts) (S : Array Value)
    (hb : Ybad.prog.built t (parts.map fun (i, x) => (i, a.eval x)).toList = some S) (h : wpList Ybad.prog ops Q rest (a.put o.dst (.agg S)) w) : wpList Ybad.prog ops Q (o :: rest) a w :=
  wpList_build hg t parts ho (by rw [hb]; rfl) (by rw [hb]; exact h)
/-- A whole row stored into a variable that the call has just made: the world behind it as a letter. -/
theorem wpList_store_abs {ops : Array Oper} {rest : List Oper} {o : Oper} {a : Act} {w w0 : World} {Q : Exit → Act → World → Prop} (hgd : o.guard = none) (ty : TypeId) (x y : Operand) (ho : o.op = .store ty x y)
    (g : Nat) (cells : Array Value) (hx : a.eval x = .pointer (some ⟨g, 0, none⟩)) (hy : a.eval y = .agg cells)
    (t : TypeId) (old : Array Value) (hg : w.heap[g]? = some (.cells old t (0, 0))) (hi : (Ybad.prog.info? ty).map (·.size) = some cells.size)
    (hold : old.size = cells.size) (h1 : cells.all (·.oneCell') = true) (hb : Below g w0 w)
    (h : ∀ w', w'.heap[g]? = some (.cells cells t (0, 0)) → Below g w0 w' → w'.heap.size = w.heap.size → wpList Ybad.prog ops Q rest (a.put o.dst undef) w') : wpList Ybad.prog ops Q (o :: rest) a w :=
  wpList_store_row hgd ty x y ho g cells hx hy t old hg hi hold h1 (h _ (setRow_heap w g old cells t _ hg) (below_setRow hb (Nat.le_refl _) _) (by simp [World.setRow]))
theorem new2 (w : World) (o1 o2 : Obj) : ((w.alloc o1).alloc o2).heap[w.heap.size + 1]? = some o2 := by
  have := heap_alloc_new (w.alloc o1) o2
  rw [size_up] at this
  exact this
theorem below2 (w : World) (o1 o2 : Obj) : Below (w.heap.size + 1) (w.alloc o1) ((w.alloc o1).alloc o2) := (Below.refl _ _).alloc (by simp) _

theorem own_kept {w w' : World} {B n : Nat} {v : Value} {xs : List Value} (h : w.ownsRow B 5 1 v n xs) (hk : ∀ b, b < w.heap.size → w'.heap[b]? = w.heap[b]?) : w'.ownsRow B 5 1 v n xs := by
  obtain ⟨o1, o2⟩ := h
  refine ⟨o1, ?_⟩
  rcases o2 with o2 | ⟨g, cap, cu, e, hB, hh, r⟩
  · exact .inl o2
  · exact .inr ⟨g, cap, cu, e, hB, (hk g (lt_of_block hh)).trans hh, r⟩
theorem range_of {w : World} {g : Nat} {t : TypeId} {l : List Value} (h : w.heap[g]? = some (.cells l.toArray t (0, 0))) : w.rangeAt g 0 l := by
  intro j v hj
  rw [Nat.zero_add, cell_of_row _ _ _ _ _ _ h]
  simpa using hj
theorem Fr.below {B0 pb gb pw : Nat} {v v' : Value} {w w' : World} (h : Fr pb gb pw v v' w w') (h0 : B0 ≤ w.heap.size) (h1 : B0 ≤ pb) (h2 : B0 ≤ gb) (h3 : B0 ≤ pw) (h4 : ∀ g, v.ownBlock = some g → B0 ≤ g) : Below B0 w w' :=
  ⟨h.os, h.tape, h.output, h.size, fun b hb => h.block b (by omega) (by omega) (by omega) (by omega) (fun e => by have := h4 b e; omega)⟩

theorem sum_len {S : Array Value} {key : ByteArray} {held rem : Bool} {ver : Nat} {dg : List UInt8} (h : IsSum S key held ver dg rem) (hk : key.size < 18446744073709551616) : (sumBytes key.data.toList held ver dg rem).length ≤ key.size + 100 := by
  have a1 := (uv_facts hk).1
  have a2 := (uv_facts h.vl).1
  have a3 := h.dl
  unfold sumBytes
  have e : key.data.toList.length = key.size := rfl
  cases held <;> cases rem <;> simp only [List.length_append, e, Bool.false_eq_true, if_true, if_false, List.length_cons, List.length_nil] <;> omega

set_option maxRecDepth 100000 in
set_option maxHeartbeats 4000000 in
theorem exact_small (key : ByteArray) (held rem : Bool) (ver : Nat) (dg : List UInt8) (D : Array Value) (Sl : List Value) (w : World) (hk : key.size ≤ 1048576) (sd : (Ybad.prog.info? 23).map (·.size) = some D.size)
    (bs : Ybad.prog.built 25 [(0, .string key), (1, .bool held), (2, .int .u64 (ver : Int)), (3, .agg D), (4, .bool rem)] = some Sl.toArray) (ss : (Ybad.prog.info? 25).map (·.size) = some Sl.length) (s36 : Sl.length = 36) (hone : ∀ v ∈ Sl, v.oneCell' = true) (hS : IsSum Sl.toArray key held ver dg rem) :
    Calls Ybad.prog 3 #[.string key, .bool held, .int .u64 (ver : Int), .agg D, .bool rem] w fun e w' => e = .returned (.bool true) ∧ Below w.heap.size w w' := by
  have hki : (key.size : Int) ≤ 1048576 := by omega
  have hkd : decide (1048576 < (key.size : Int)) = false := by simp; omega
  have HD : Hid (_ ∧ _ ∧ _ ∧ _ ∧ _ ∧ _) := ⟨sd, bs, (by simpa using ss : (Ybad.prog.info? 25).map (·.size) = some Sl.toArray.size), (by simpa using s36.symm : 36 = Sl.toArray.size), all_oneCell_toArray hone, hS⟩
  have HE : Hid (_ ∧ _ ∧ _) := ⟨ss, s36, hone⟩
  clear sd bs ss hone hS s36
  go_enter Ybad.func3, Ybad.ntmps3
  go_wp2_with (first | (refine wpList_load_row (by rfl) 23 (.tmp 8) (by rfl) w.heap.size (by rfl) 23 D (0, 0) _ (heap_alloc_new w _) Ybad.underlying23 (by rfl) HD.out.1 ?_) | (refine wpList_build_to (by rfl) 25 _ (by rfl) Sl.toArray (by simp only [List.map_toArray, List.map_cons, List.map_nil]; exact HD.out.2.1) ?_) | (refine wpList_store_abs (w0 := w.alloc (.cells D 23)) (by rfl) 25 (.tmp 11) (.tmp 22) (by rfl) (w.heap.size + 1) Sl.toArray (by rfl) (by rfl) 25 _ (new2 w _ _) HD.out.2.2.1 (by exact HD.out.2.2.2.1) HD.out.2.2.2.2.1 (below2 w _ _) ?_; intro W g1 g2 g3; have g4 : W.heap.size = w.heap.size + 2 := g3.trans (by simp); have HG : Hid (_ ∧ _ ∧ _) := ⟨g1, g2, g4⟩; clear g1 g2 g3 g4))
  obtain ⟨W1, hW1⟩ : ∃ W1, W1 = W.alloc (.cells #[.slice none 0 0] 29) := ⟨_, rfl⟩
  obtain ⟨pw, hpw⟩ : ∃ pw, pw = W.heap.size := ⟨_, rfl⟩
  rw [← hW1, ← hpw]
  have f1 : W1.heap[pw]? = some (.cells #[.slice none 0 0] 29 (0, 0)) := by rw [hW1, hpw]; exact heap_alloc_new W _
  have f2 : W1.heap[w.heap.size + 1]? = some (.cells Sl.toArray 25 (0, 0)) := by
    rw [hW1, Below.heap_alloc _ _ _ (lt_of_block HG.out.1)]; exact HG.out.1
  have f4 : W1.heap.size = w.heap.size + 3 ∧ pw = w.heap.size + 2 := by
    have := HG.out.2.2
    rw [hW1, hpw, size_up]; omega
  have f3 : Below w.heap.size w W1 := by
    have h1 : Below w.heap.size w (w.alloc (.cells D 23)) := (Below.refl _ _).alloc (Nat.le_refl _) _
    have h2 := HG.out.2.1
    rw [hW1]
    exact (h1.trans (h2.mono (by omega))).alloc (by have := HG.out.2.2; omega) _
  clear hW1 hpw HG
  refine (new_any pw W1 f1).mono ?_
  rintro e w2 ⟨rfl, hb2, hbl2, hsz2⟩
  obtain ⟨pb, hpb⟩ : ∃ pb, pb = W1.heap.size + 1 := ⟨_, rfl⟩
  obtain ⟨gb, hgb⟩ : ∃ gb, gb = W1.heap.size := ⟨_, rfl⟩
  rw [← hpb, ← hgb] at hb2
  rw [← hpb]
  have m2 : w2.heap[w.heap.size + 1]? = some (.cells Sl.toArray 25 (0, 0)) := (hbl2.block _ (by omega)).trans f2
  have b2 : Below w.heap.size w w2 := f3.trans (hbl2.mono (by omega))
  have HN : Hid (w.heap.size + 3 = gb ∧ w.heap.size + 4 = pb ∧ pw = w.heap.size + 2 ∧ w2.heap.size = w.heap.size + 5) := by
    refine ⟨?_, ?_, f4.2, ?_⟩ <;> omega
  have H2 : Hid (_ ∧ _ ∧ _) := ⟨hb2, m2, b2⟩
  clear hpb hgb hb2 m2 b2 hbl2 hsz2 f1 f2 f3 f4
  generalize w2.heap.size = B at *
  go_wp2_with (refine wpList_load_row (by rfl) 25 (.tmp 11) (by rfl) (w.heap.size + 1) (by rfl) 25 Sl.toArray (0, 0) _ H2.out.2.1 Ybad.underlying25 (by rfl) HD.out.2.2.1 ?_)
  refine (ws_any Sl.toArray key held ver dg rem H2.out.1 HD.out.2.2.2.2.2 (by simp; omega)).mono ?_
  rintro e w3 ⟨rfl, out3, pend3, v3, hb3, hs3, hf3⟩
  have H3 : Hid (_ ∧ _ ∧ _) := ⟨hb3, hs3, hf3⟩
  clear hb3 hs3 hf3
  go_wp2_with fail
  have hlim3 : out3.length + pend3.length ≤ 140737488355328 := by
    have a1 := congrArg List.length H3.out.2.1
    have a2 := sum_len HD.out.2.2.2.2.2 (by omega)
    simp at a1
    omega
  refine (flush_any H3.out.1 hlim3).mono ?_
  rintro e w4 ⟨rfl, v4, hb4, hf4⟩
  have hb5 : Buf w4 B pb gb pw (sumBytes key.data.toList held ver dg rem) [] v4 := by
    have := H3.out.2.1
    simp at this
    rw [← this]; exact hb4
  have hf5 := H3.out.2.2.trans hf4
  have N := HN.out
  have m4 : w4.heap[w.heap.size + 1]? = some (.cells Sl.toArray 25 (0, 0)) := (hf5.block _ (by have := lt_of_block H2.out.2.1; omega) (by omega) (by omega) (by omega) (by simp [Value.ownBlock])).trans H2.out.2.1
  have b4 : Below w.heap.size w w4 := H2.out.2.2.trans (hf5.below (by have := H2.out.2.2.size; omega) (by omega) (by omega) (by omega) (by simp [Value.ownBlock]))
  have c4 : w4.cell? ⟨pw, 0, none⟩ = some v4 := by rw [cell_of_row _ _ _ _ _ _ hb5.hw]; rfl
  have r4 := range_of m4
  have H4 : Hid (_ ∧ _ ∧ _) := ⟨hb5, m4, b4⟩
  clear hb4 hf4 hb5 hf5 m4 b4 hlim3 N H3
  go_wp2_with fail
  refine wp_region_held_drew (S := fun w' => w'.cell? ⟨pw, 0, none⟩ = some v4 ∧ w'.rangeAt (w.heap.size + 1) 0 Sl) (by kernel_rfl) ⟨by simpa using c4, by simpa using r4⟩ (fun hHeld => ?_)
  refine wpAnyH_take (i := 4) rfl (by kernel_rfl) (by kernel_rfl) (by kernel_rfl) (fun _ _ _ h => h) (yieldsIf_load_mid (by rfl) 25 (.tmp 11) rfl (w.heap.size + 1) 0 rfl Sl _ (fun w h => h.2) Ybad.underlying25 rfl HE.out.1) hHeld ?_
  refine wpAnyH_take (i := 0) (v := .pointer (some ⟨pw, 0, none⟩)) rfl (by kernel_rfl) (by kernel_rfl) (by kernel_rfl) (fun _ _ _ h => h) (Or.inl ⟨by rfl, by intro w hSw; go_simp⟩) hHeld ?_
  refine wpAnyH_take (i := 1) (v := .pointer (some ⟨pw, 0, none⟩)) rfl (by kernel_rfl) (by kernel_rfl) (by kernel_rfl) (fun _ _ _ h => h) (Or.inl ⟨by rfl, by intro w hSw; go_simp⟩) hHeld ?_
  refine wpAnyH_take (i := 2) (v := .pointer (some ⟨pw, 0, none⟩)) rfl (by kernel_rfl) (by kernel_rfl) (by kernel_rfl) (fun _ _ _ h => h) (Or.inl ⟨by rfl, by intro w hSw; go_simp⟩) hHeld ?_
  refine wpAnyH_take (i := 3) (v := v4) rfl (by kernel_rfl) (by kernel_rfl) (by kernel_rfl) (fun _ _ _ h => h) (Or.inl ⟨by rfl, by intro w hSw; go_simp⟩) hHeld ?_
  simp only [Act.put, List.setIfInBounds_toArray]
  refine wpAnyH_ready (rs := [5]) (by kernel_rfl) (by simp) ?_
  refine AllReadyH.cons rfl (fun K hK => ?_) AllReadyH.nil
  go_simp
  refine (model_any B (.slice none 0 0) [] Sl.toArray key held ver dg rem _ HD.out.2.2.2.2.2 ⟨rfl, .inl ⟨rfl, rfl⟩⟩ (by exact H4.out.1.Bw) (by simp; omega)).mono ?_
  rintro e w5 ⟨g, n, cap, rfl, ho, hG⟩
  have k5 : ∀ b, b < w4.heap.size → w5.heap[b]? = w4.heap[b]? := (fun b hb => hG.block b hb (by simp [Value.ownBlock]))
  have m5 : w5.heap[w.heap.size + 1]? = some (.cells Sl.toArray 25 (0, 0)) := (k5 _ (lt_of_block H4.out.2.1)).trans H4.out.2.1
  have q5 := own_kept H4.out.1.own k5
  have r5 := range_of m5
  have c5 : w5.cell? ⟨pw, 0, none⟩ = some v4 := (by rw [cell_of_row _ _ _ _ _ _ ((k5 _ (lt_of_block H4.out.1.hw)).trans H4.out.1.hw)]; rfl)
  have b5 : Below w.heap.size w w5 := H4.out.2.2.trans (Gr.below (w := w4) ⟨hG.os, hG.tape, hG.output, hG.size, hG.block, hG.sink⟩ H4.out.2.2.size (by simp [Value.ownBlock]))
  have H5 : Hid (_ ∧ _ ∧ _) := ⟨ho, q5, b5⟩
  clear ho hG k5 m5 q5 b5
  refine hK.out _ _ ⟨c5, r5⟩ (fun hHeld2 => ?_)
  clear hK K
  refine wpAnyH_ready (rs := [6]) (by kernel_rfl) (by simp) ?_
  refine AllReadyH.cons rfl (fun K hK => ?_) AllReadyH.nil
  go_simp
  refine (equal_any H5.out.2.1 H5.out.1).mono ?_
  rintro e w6 ⟨rfl, hw6⟩
  rw [hw6]
  clear hw6
  refine hK.out _ _ ⟨c5, r5⟩ (fun hHeld3 => ?_)
  clear hK K
  refine wpAnyH_ready (rs := [7]) (by kernel_rfl) (by simp) ?_
  refine AllReadyH.cons rfl (fun K hK => ?_) AllReadyH.nil
  go_simp
  refine hK.out _ _ ⟨c5, r5⟩ (fun hHeld3 => ?_)
  clear hK K
  refine wpAnyH_done (by kernel_rfl) ?_ _
  go_wp2
  go_ret
  exact ⟨rfl, H5.out.2.2⟩
end Go.Proofs.YbulkcxvaDoor
