/-
  The walk over collect.
-/
import Derived.Test.YbulkcxvoColl
import Derived.BigRegion
import Derived.Deep.RegionLaw
namespace Go.Proofs.Ybulkcxvo
open Go.RowKit

theorem at_succ (n : Nat) (fr : Nat → Nat) (k : Nat) : ∀ j, atF n fr (k + 1) j = atF n fr k j + if fr k % n < j then 1 else 0
  | 0 => by simp [atF]
  | j + 1 => by
    have ih := at_succ n fr k j
    show atF n fr (k + 1) j + (cF n fr j k + if fr k % n = j then 1 else 0) = atF n fr k j + cF n fr j k + _
    rw [ih]
    by_cases h1 : fr k % n < j
    · rw [if_pos h1, if_neg (by omega), if_pos (by omega)]; omega
    · by_cases h2 : fr k % n = j
      · rw [if_neg h1, if_pos h2, if_pos (by omega)]; omega
      · rw [if_neg h1, if_neg h2, if_neg (by omega)]; omega
theorem at_all (n : Nat) (fr : Nat → Nat) (hn : 0 < n) : ∀ k, atF n fr k n = k
  | 0 => by
    have : ∀ j, atF n fr 0 j = 0 := by
      intro j
      induction j with
      | zero => rfl
      | succ j ih => show atF n fr 0 j + 0 = 0; rw [ih]
    exact this n
  | k + 1 => by
    rw [at_succ, at_all n fr hn k, if_pos (Nat.mod_lt _ hn)]

/-- copy as a step of a region that draws: what it leaves of every other block. -/
theorem step_copy_at {P : Program} {ops : Array Oper} {o : Oper} {a : Act} {w : World} {K : Act → World → Prop} {Q : Exit → Act → World → Prop} {E : Prop} (hgd : o.guard = none) (d s : Operand) (dT sT : TypeId)
    (ho : o.op = .call { callee := .builtin .copy, args := #[d, s], argTypes := #[dT, sT] }) (elem : TypeId) (hu : P.underlying dT = some (.slice elem)) (hsz : (P.info? elem).map (·.size) = some 1)
    (dp sp : Option Addr) (dLen dCap sLen sCap : Nat) (hd : a.eval d = .slice dp dLen dCap) (hs : a.eval s = .slice sp sLen sCap)
    (g off : Nat) (cur : List Value) (t : TypeId) (hg : w.heap[g]? = some (.cells cur.toArray t (0, 0))) (cs : List Value) (hn : cs.length = Nat.min sLen dLen)
    (hpos : 0 < cs.length → dp = some ⟨g, off, none⟩ ∧ ∃ ad, sp = some ad ∧ ∀ j v, cs[j]? = some v → w.cell? (ad.add j) = some v)
    (hfit : off + cs.length ≤ cur.length) (h1 : ∀ v ∈ cs, v.oneCell' = true)
    (h : ∀ w', RowKit.Hid (w'.heap[g]? = some (.cells (splice cur off cs).toArray t (0, 0)) ∧ (∀ b, b ≠ g → w'.heap[b]? = w.heap[b]?) ∧ w'.os = w.os ∧ w'.tape = w.tape ∧ w'.output = w.output ∧ w'.heap.size = w.heap.size) → K (a.put o.dst (goInt cs.length)) w') :
    if Region.wanted o (yielded ops a.tmps) = true then Oper.wp P o a w K Q else E := by
  have hw : Region.wanted o (yielded ops a.tmps) = true := by simp [Region.wanted, hgd]
  rw [if_pos hw]
  by_cases h0 : cs.length = 0
  · obtain rfl : cs = [] := List.eq_nil_of_length_eq_zero h0
    have hrun := run_copy_none (P := P) w dT sT o.type elem dp sp dLen dCap sLen sCap hu hsz (by simpa using hn.symm)
    unfold Oper.wp
    simp [execOp, ho, resolve, invoke, builtin, hd, hs, hrun, Result.andThen]
    exact h w ⟨by simpa [splice] using hg, fun _ _ => rfl, rfl, rfl, rfl, rfl⟩
  · obtain ⟨rfl, ad, rfl, hsrc⟩ := hpos (by omega)
    have hrun := run_copy_row (P := P) w dT sT o.type elem g off dLen dCap ad sLen sCap cur.toArray t cs hu hsz hg hn hsrc (by simpa using hfit) h1
    unfold Oper.wp
    simp [execOp, ho, resolve, invoke, builtin, hd, hs, hrun, Result.andThen]
    exact h _ ⟨by simpa [splice] using setRow_heap w g _ _ t _ hg, fun b hb => setRow_other w g b _ hb, rfl, rfl, rfl, by simp [World.setRow]⟩

theorem shift_row (nn : Nat) (g h : Nat → Nat) : (splice (ir (nn + 1) g).toList 1 ((List.range nn).map fun j => Value.int .i64 ((h (j + 1) : Nat) : Int))).toArray = ir (nn + 1) (fun j => if j = 0 then g 0 else h j) := by
  unfold splice ir
  rw [List.range_succ_eq_map]
  have e : ((0 :: (List.range nn).map Nat.succ).map fun i => Value.int .i64 ((g i : Nat) : Int)).length = nn + 1 := by simp
  have e2 : (((0 :: (List.range nn).map Nat.succ).map fun i => Value.int .i64 ((g i : Nat) : Int)).toArray.toList).drop (1 + ((List.range nn).map fun j => Value.int .i64 ((h (j + 1) : Nat) : Int)).length) = [] := by
    apply List.drop_eq_nil_of_le
    simp
    omega
  rw [e2]
  simp [Function.comp_def]

/-- What is emitted is bounded. -/
theorem edges_ok {n I m nn : Nat} {rk : Nat → Int} {tx : Nat → Nat} {it : Nat → Int} {kd : Nat → Nat} (hb : Hb n I m rk tx it kd) (hm : m ≤ 512) (hrk : ∀ u, u < n → rk u < (nn : Int)) {L : List (Nat × Nat)} (hL : L = (runA (accL rk tx it kd m)).ed) :
    L.length ≤ 262656 ∧ (∀ e ∈ L, e.1 < nn ∧ e.2 < nn) ∧ atF nn (frL L) L.length nn = L.length := by
  have hok : Ok nn (accL rk tx it kd m).length (runA (accL rk tx it kd m)) := by
    refine ok_run nn _ fun a ha => ?_
    unfold accL at ha
    rw [List.mem_filterMap] at ha
    obtain ⟨i, hi, hai⟩ := ha
    rw [List.mem_range] at hi
    unfold accOf at hai
    split at hai
    · cases hai
    · rename_i hno
      simp only [Option.some.injEq] at hai
      rw [← hai]
      have := hrk (tx i) (hb.tlt i (by omega))
      show (rk (tx i)).toNat < nn
      omega
  have hal : (accL rk tx it kd m).length ≤ 512 := by
    unfold accL
    refine Nat.le_trans (List.length_filterMap_le _ _) ?_
    simp; omega
  have hll : L.length ≤ 262656 := by
    have h1 := hok.elen
    rw [← hL] at h1
    have h2 : (accL rk tx it kd m).length * ((accL rk tx it kd m).length + 1) ≤ 512 * 513 := Nat.mul_le_mul hal (by omega)
    omega
  have hlt : ∀ e ∈ L, e.1 < nn ∧ e.2 < nn := by rw [hL]; exact hok.elt
  refine ⟨hll, hlt, ?_⟩
  by_cases h : nn = 0
  · have h0 : L.length = 0 := by
      cases L with
      | nil => rfl
      | cons a r => have := hlt a (by simp); omega
    rw [h, h0]; rfl
  · exact at_all nn _ (by omega) _
/-- collect's answer in memory. -/
structure Cp (w w' : World) (nn vb : Nat) (L : List (Nat × Nat)) : Prop where
  ge : w.heap.size + 4 ≤ vb
  at_ : IR w' (w.heap.size + 2) (nn + 1) (atF nn (frL L) L.length)
  val : IR w' vb L.length (valF nn (frL L) (toL L) L.length L.length)
  bel : Below w.heap.size w w'

set_option maxRecDepth 100000 in
set_option maxHeartbeats 4000000 in
theorem coll_any (w : World) (gb pg n I m rkb : Nat) (so : Option Addr) (sc : Nat) (rk : Nat → Int) (tx : Nat → Nat) (it : Nat → Int) (kd : Nat → Nat) (hb : Hb n I m rk tx it kd) (hn : n ≤ 512) (hI : I ≤ 16) (hm : m ≤ 512) (nn : Nat) (hnn : nn ≤ 512) (hrk : ∀ u, u < n → rk u < (nn : Int)) (hG : Gf w gb pg n I m rkb so sc rk tx it kd) (L : List (Nat × Nat)) (hL : L = (runA (accL rk tx it kd m)).ed) :
    Calls Yba.prog 20 #[.int .i64 (nn : Int), .nilFunc, .func (.func 21) #[] #[.pointer (some ⟨gb, 0, none⟩)]] w fun e w' => ∃ vb, e = .returned (.agg #[.slice (some ⟨w.heap.size + 2, 0, none⟩) (nn + 1) (nn + 1), .slice (some ⟨vb, 0, none⟩) L.length L.length]) ∧ Cp w w' nn vb L := by
  have hnni : (nn : Int) ≤ 512 := by omega
  obtain ⟨hll, hlt, ht⟩ := edges_ok hb hm hrk hL
  have HL : Hid (L.length ≤ 262656 ∧ (∀ e ∈ L, e.1 < nn ∧ e.2 < nn) ∧ atF nn (frL L) L.length nn = L.length ∧ L = (runA (accL rk tx it kd m)).ed) := ⟨hll, hlt, ht, hL⟩
  have HG : Hid (Gf w gb pg n I m rkb so sc rk tx it kd ∧ Hb n I m rk tx it kd ∧ n ≤ 512 ∧ I ≤ 16 ∧ m ≤ 512) := ⟨hG, hb, hn, hI, hm⟩
  clear hll hlt ht hL hG hb hn hI hm
  have hmk := make34 (nn + 1) (by omega)
  simp only [Int.natCast_add, Int.cast_ofNat_Int] at hmk
  have hnil : ∀ w : World, (binOp BinOp.eql 97 .nilFunc .nilFunc).run Yba.prog w = .ok (.bool true) w := fun _ => by kernel_rfl
  obtain ⟨W0, hW0⟩ : ∃ W0, W0 = (((w.alloc (.cells #[.func (.func 21) #[] #[.pointer (some ⟨gb, 0, none⟩)]] 96)).alloc (.cells #[.slice none 0 0, .slice none 0 0] 43)).alloc (.cells (ir (nn + 1) fun _ => 0) 3)).alloc (.cells #[.slice (some ⟨w.heap.size + 2, 0, none⟩) (nn + 1) (nn + 1), .slice none 0 0] 43) := ⟨_, rfl⟩
  have hsz0 : W0.heap.size = w.heap.size + 4 := by rw [hW0]; simp only [size_up]
  have hcb0 : Cb w W0 nn (.func (.func 21) #[] #[.pointer (some ⟨gb, 0, none⟩)]) (.slice none 0 0) := by
    rw [hW0]
    refine ⟨((((Below.refl _ w).alloc (Nat.le_refl _) _).alloc (by simp) _).alloc (by simp; omega) _).alloc (by simp; omega) _, ?_, ?_, ?_⟩
    · simp only [alloc_at, size_up]
      rw [if_neg (by omega), if_neg (by omega), if_neg (by omega), if_pos trivial]
    · simp only [alloc_at, size_up]
      rw [if_neg (by omega), if_neg (by omega), if_pos trivial]
    · simp only [alloc_at, size_up]
      rw [if_pos trivial]
  have hrow0 : IR W0 (w.heap.size + 2) (nn + 1) (cnt nn (frL L) 0) := by
    rw [hW0, cnt_zero]
    unfold IR
    simp only [alloc_at, size_up]
    rw [if_neg (by omega), if_pos trivial]
  have hab : Below W0.heap.size W0 (W0.alloc (.cells #[.func (.func 25) #[] #[.pointer (some ⟨w.heap.size + 3, 0, none⟩)]] 91)) := (Below.refl _ _).alloc (Nat.le_refl _) _
  have HC : Hid (Calls Yba.prog 23 #[.func (.func 25) #[] #[.pointer (some ⟨w.heap.size + 3, 0, none⟩)], .pointer (some ⟨w.heap.size, 0, none⟩)] W0 fun e w' => e = .returned (.tuple #[]) ∧ S1 w nn (.func (.func 21) #[] #[.pointer (some ⟨gb, 0, none⟩)]) (.func (.func 25) #[] #[.pointer (some ⟨w.heap.size + 3, 0, none⟩)]) (frL L) L.length w') := by
    have h3 := HL.out.2.2.2
    have := count_any W0 w.heap.size gb pg n I m rkb so sc rk tx it kd HG.out.2.1 HG.out.2.2.1 HG.out.2.2.2.1 HG.out.2.2.2.2 (w.heap.size + 3) (S1 w nn (.func (.func 21) #[] #[.pointer (some ⟨gb, 0, none⟩)]) (.func (.func 25) #[] #[.pointer (some ⟨w.heap.size + 3, 0, none⟩)]) (frL L))
      (fun k w' h => HG.out.1.keep h.cb.bel) (fun k w1 w2 h hb => h.below hb (by omega)) (fun k e w' he h _ => by
        rw [← h3] at he
        have hk : k < L.length := (List.getElem?_eq_some_iff.1 he).1
        have := h.put he (HL.out.2.1 e (List.mem_of_getElem? he)).1 (by omega) (by have := HL.out.1; omega)
        rw [hsz0]
        exact this) (fun o => by
        have hb1 : Below W0.heap.size W0 (W0.alloc o) := (Below.refl _ _).alloc (Nat.le_refl _) _
        rw [cell_of_row _ _ _ _ _ _ ((hb1.block _ (by omega)).trans hcb0.bx)]; rfl)
      ⟨hcb0.below hab (by omega), by rw [← hsz0]; exact heap_alloc_new _ _, hrow0.keep (hab.block _ (by omega))⟩
    rw [← h3] at this
    exact this.mono fun e w' h => ⟨h.1, h.2.1⟩
  clear hab hcb0 hrow0 hsz0
  go_enter Yba.func20, Yba.ntmps20
  go_wp2_with fail
  simp only [Nat.add_assoc, Nat.reduceAdd]
  rw [← hW0]
  clear hW0
  refine HC.out.mono ?_
  rintro e w2 ⟨rfl, hs2⟩
  have H2 : Hid (Cb w w2 nn (.func (.func 21) #[] #[.pointer (some ⟨gb, 0, none⟩)]) (.slice none 0 0) ∧ IR w2 (w.heap.size + 2) (nn + 1) (preF nn (frL L) L.length 0)) := ⟨hs2.cb, by rw [pre_zero]; exact hs2.row⟩
  clear hs2 HC W0 hmk hnil
  go_wp2
  go_loopw [20] (fun i wr => ∃ k : Nat, k ≤ nn ∧ i = .int .i64 (k : Int) ∧ Cb w wr nn (.func (.func 21) #[] #[.pointer (some ⟨gb, 0, none⟩)]) (.slice none 0 0) ∧ IR wr (w.heap.size + 2) (nn + 1) (preF nn (frL L) L.length k)) (fun i _ => nn - (intOf i).toNat)
  case atStart => exact ⟨0, Nat.zero_le _, rfl, H2.out⟩
  case round =>
    clear H2
    rename World => w3
    obtain ⟨k, hk, rfl, hcb, hrow⟩ := hrel
    by_cases hlt : k < nn
    · have hki : (k : Int) < (nn : Int) := by omega
      have c0 := hcb.c0
      have r1 := hrow.cell (i := k) (by omega)
      have r2 := hrow.cell (i := k + 1) (by omega)
      have f2 := hrow.fz (k + 1)
      have hb1 : preF nn (frL L) L.length k k ≤ 262656 := by
        unfold preF
        rw [if_pos (Nat.le_refl _)]
        have h1 := at_mono nn L.length (frL L) (show k ≤ nn by omega)
        have h2 := HL.out.2.2.1
        have h3 := HL.out.1
        omega
      have hb2 : preF nn (frL L) L.length k (k + 1) ≤ 262656 := by
        unfold preF
        rw [if_neg (by omega)]
        have h1 := cnt_le nn (frL L) L.length (k + 1)
        have h3 := HL.out.1
        omega
      have hb1i : (preF nn (frL L) L.length k k : Int) ≤ 262656 := by omega
      have hb2i : (preF nn (frL L) L.length k (k + 1) : Int) ≤ 262656 := by omega
      have H3 : Hid (Cb w w3 nn (.func (.func 21) #[] #[.pointer (some ⟨gb, 0, none⟩)]) (.slice none 0 0) ∧ IR w3 (w.heap.size + 2) (nn + 1) (preF nn (frL L) L.length k)) := ⟨hcb, hrow⟩
      have HX : Hid (upd (preF nn (frL L) L.length k) (k + 1) (preF nn (frL L) L.length k (k + 1) + preF nn (frL L) L.length k k) = preF nn (frL L) L.length (k + 1)) := pre_step nn L.length (frL L) k
      clear hcb hrow hb1 hb2
      go_wp2
      go_region
      go_wp2
      go_round
      case rel =>
        refine ⟨k + 1, by omega, by go_num, (H3.out.1.set (.inl rfl) _).draw, ?_⟩
        rw [← HX.out]
        exact (H3.out.2.set (k + 1) (preF nn (frL L) L.length k (k + 1) + preF nn (frL L) L.length k k)).keep rfl
      case measure => simp [intOf]; omega
    · obtain rfl : nn = k := by omega
      have c0 := hcb.c0
      have hpt : preF nn (frL L) L.length nn nn = L.length := by
        unfold preF
        rw [if_pos (Nat.le_refl _)]
        exact HL.out.2.2.1
      have r1 := hrow.cell (i := nn) (by omega)
      rw [hpt] at r1
      have hMb : L.length ≤ 262656 := HL.out.1
      have hMi : (L.length : Int) ≤ 262656 := by omega
      have hmk := make34 L.length (by omega)
      have hsz := hcb.sz
      have hal : Below w3.heap.size w3 (w3.alloc (.cells (ir L.length fun _ => 0) 3)) := (Below.refl _ _).alloc (Nat.le_refl _) _
      have hcb4 := hcb.below hal (by omega)
      have c1 := hcb4.c1
      have f1 : (w3.alloc (.cells (ir L.length fun _ => 0) 3)).frozen? ⟨w.heap.size + 3, 1, none⟩ = false := frozen_of_row _ _ _ _ _ hcb4.rbx
      have hS2 : S2 w nn L.length L.length w3.heap.size (.func (.func 21) #[] #[.pointer (some ⟨gb, 0, none⟩)]) (frL L) (toL L) 0 ((w3.alloc (.cells (ir L.length fun _ => 0) 3)).setCell ⟨w.heap.size + 3, 1, none⟩ (.slice (some ⟨w3.heap.size, 0, none⟩) L.length L.length)) := by
        have kb : ∀ b, b ≠ w.heap.size + 3 → ((w3.alloc (.cells (ir L.length fun _ => 0) 3)).setCell ⟨w.heap.size + 3, 1, none⟩ (.slice (some ⟨w3.heap.size, 0, none⟩) L.length L.length)).heap[b]? = (w3.alloc (.cells (ir L.length fun _ => 0) 3)).heap[b]? := fun b hb => heap_setCell_other _ _ _ _ hb
        refine ⟨⟨hcb4.bel.setCell (by show w.heap.size ≤ w.heap.size + 3; omega) _, (kb _ (by omega)).trans hcb4.bx, (kb _ (by omega)).trans hcb4.res, ?_⟩, ?_, ?_⟩
        · rw [heap_setCell_same _ _ _ _ _ _ hcb4.rbx]; rfl
        · refine IR.congr ((hrow.keep (hal.block _ (by omega))).keep (kb _ (by omega))) fun j hj => ?_
          unfold preF
          by_cases h : j < nn
          · rw [if_pos (by omega), if_pos h]; rfl
          · obtain rfl : j = nn := by omega
            rw [if_pos (by omega), if_neg h]
        · exact (IR.new w3 L.length (fun _ => 0)).keep (kb _ (by omega))
      have hbx : ((w3.alloc (.cells (ir L.length fun _ => 0) 3)).setCell ⟨w.heap.size + 3, 1, none⟩ (.slice (some ⟨w3.heap.size, 0, none⟩) L.length L.length)).cell? ⟨w.heap.size, 0, none⟩ = some (.func (.func 21) #[] #[.pointer (some ⟨gb, 0, none⟩)]) := by
        rw [cell_of_row _ _ _ _ _ _ hS2.cb.bx]; rfl
      have HW : Hid (S2 w nn L.length L.length w3.heap.size (.func (.func 21) #[] #[.pointer (some ⟨gb, 0, none⟩)]) (frL L) (toL L) 0 ((w3.alloc (.cells (ir L.length fun _ => 0) 3)).setCell ⟨w.heap.size + 3, 1, none⟩ (.slice (some ⟨w3.heap.size, 0, none⟩) L.length L.length)) ∧ w.heap.size + 4 ≤ w3.heap.size ∧ ((w3.alloc (.cells (ir L.length fun _ => 0) 3)).setCell ⟨w.heap.size + 3, 1, none⟩ (.slice (some ⟨w3.heap.size, 0, none⟩) L.length L.length)).heap.size = w3.heap.size + 1) := ⟨hS2, hsz, by simp⟩
      clear hcb hrow hcb4 hal hS2 hpt hsz
      go_wp2_with fail
      obtain ⟨W4, hW4⟩ : ∃ W4, W4 = (w3.alloc (.cells (ir L.length fun _ => 0) 3)).setCell ⟨w.heap.size + 3, 1, none⟩ (.slice (some ⟨w3.heap.size, 0, none⟩) L.length L.length) := ⟨_, rfl⟩
      rw [← hW4] at HW hbx ⊢
      clear hW4 c0 r1 c1 f1 hmk
      generalize w3.heap.size = vb at *
      have h3 := HL.out.2.2.2
      have h4 := HL.out.2.2.1
      have hfill := fill_any (f := 26) (cv := .pointer (some ⟨w.heap.size + 3, 0, none⟩)) (.inr rfl) W4 gb pg n I m rkb so sc rk tx it kd HG.out.2.1 HG.out.2.2.1 HG.out.2.2.2.1 HG.out.2.2.2.2 (S2 w nn L.length L.length vb (.func (.func 21) #[] #[.pointer (some ⟨gb, 0, none⟩)]) (frL L) (toL L))
        (fun k w' h => HG.out.1.keep h.cb.bel) (fun k w1 w2 h hb => h.below hb (by have := HW.out.2.1; have := HW.out.2.2; omega) (by have := HW.out.2.2; omega)) (fun k e w' he h _ => by
          rw [← h3] at he
          have h' : S2 w nn L.length (atF nn (frL L) L.length nn) vb (.func (.func 21) #[] #[.pointer (some ⟨gb, 0, none⟩)]) (frL L) (toL L) k w' := by rw [h4]; exact h
          have := h'.put (B := W4.heap.size) he (HL.out.2.1 e (List.mem_of_getElem? he)) (by omega) (by omega) HW.out.2.1 (by have := HW.out.2.2; omega)
          rw [h4] at this
          exact this) HW.out.1
      rw [← h3] at hfill
      clear h3 h4
      refine hfill.mono ?_
      rintro e w5 ⟨rfl, hs5, _⟩
      have HV : Hid (w.heap.size + 4 ≤ vb) := HW.out.2.1
      clear hfill HW hbx HG
      have c0 := hs5.cb.c0
      have H5 : Hid (S2 w nn L.length L.length vb (.func (.func 21) #[] #[.pointer (some ⟨gb, 0, none⟩)]) (frL L) (toL L) L.length w5) := hs5
      clear hs5
      have hone : (1 : Int) ≤ (nn : Int) + 1 := by omega
      have htwo : (nn : Int) ≤ (nn : Int) + 1 := by omega
      go_wp2
      obtain ⟨cs, hcs⟩ : ∃ cs, cs = (List.range nn).map fun j => Value.int .i64 ((atF nn (frL L) L.length (j + 1) : Nat) : Int) := ⟨_, rfl⟩
      obtain ⟨cur, hcur⟩ : ∃ cur, cur = (ir (nn + 1) fun j => if j < nn then nextF nn (frL L) L.length L.length j else atF nn (frL L) L.length nn).toList := ⟨_, rfl⟩
      have HY : Hid (cs.length = nn ∧ cur.length = nn + 1 ∧ (∀ v ∈ cs, v.oneCell' = true) ∧ w5.heap[w.heap.size + 2]? = some (.cells cur.toArray 3 (0, 0)) ∧ (∀ j v, cs[j]? = some v → w5.cell? ((⟨w.heap.size + 2, 0, none⟩ : Addr).add j) = some v)) := by
        refine ⟨by rw [hcs]; simp, by rw [hcur]; simp [ir], ?_, by rw [hcur]; exact H5.out.row, ?_⟩
        · intro v hv
          rw [hcs, List.mem_map] at hv
          obtain ⟨j, _, rfl⟩ := hv
          rfl
        · intro j v hv
          have hj : j < nn := by
            have := (List.getElem?_eq_some_iff.1 hv).1
            rw [hcs] at this
            simpa using this
          rw [hcs] at hv
          simp [hj] at hv
          rw [Addr.add_mid, Nat.zero_add, H5.out.row.cell (i := j) (by omega), if_pos hj, ← hv]
          rfl
      go_region_law (refine step_copy_at rfl (.tmp 49) (.tmp 53) 34 34 rfl 3 Yba.underlying34 size3 (if nn = 0 then some ⟨w.heap.size + 2, 0, none⟩ else some ⟨w.heap.size + 2, 1, none⟩) (some ⟨w.heap.size + 2, 0, none⟩) nn nn nn (nn + 1) (by simp [Act.eval, Act.put]) (by simp [Act.eval, Act.put]) (w.heap.size + 2) 1 cur 3 HY.out.2.2.2.1 cs (by rw [HY.out.1]; simp) (fun hp => ⟨if_neg (by have := HY.out.1; omega), _, rfl, HY.out.2.2.2.2⟩) (by have := HY.out.1; have := HY.out.2.1; omega) HY.out.2.2.1 ?_; intro w6 h6)
      all_goals
        have hrow6 : IR w6 (w.heap.size + 2) (nn + 1) (fun j => if j = 0 then (if 0 < nn then nextF nn (frL L) L.length L.length 0 else atF nn (frL L) L.length nn) else atF nn (frL L) L.length j) := by
          have h := h6.out.1
          rw [hcs, hcur, shift_row] at h
          exact h
        have hcb6 : Cb w w6 nn (.func (.func 21) #[] #[.pointer (some ⟨gb, 0, none⟩)]) (.slice (some ⟨vb, 0, none⟩) L.length L.length) :=
          H5.out.cb.keep h6.out.2.2.1 h6.out.2.2.2.1 h6.out.2.2.2.2.1 (by rw [h6.out.2.2.2.2.2]; exact Nat.le_refl _) fun b hb hne => h6.out.2.1 b hne
        have hval6 : IR w6 vb L.length (valF nn (frL L) (toL L) L.length L.length) := H5.out.val.keep (h6.out.2.1 vb (by have := HV.out; omega))
        have hr7 := (hrow6.set 0 0).congr (g := atF nn (frL L) L.length) fun i hi => by
          by_cases e : i = 0
          · rw [e, upd_same]; rfl
          · rw [upd_ne _ _ e, if_neg e]
        have hcb7 := hcb6.set (i := 0) (.inl rfl) (.int .i64 ((0 : Nat) : Int))
        have hval7 := hval6.keep (w' := w6.setCell ⟨w.heap.size + 2, 0, none⟩ (.int .i64 ((0 : Nat) : Int))) (heap_setCell_other _ _ _ _ (by have := HV.out; show vb ≠ w.heap.size + 2; omega))
        have d0 := hcb6.c0
        have d1 := hrow6.cell (i := 0) (by omega)
        have d2 := hrow6.fz 0
        have d3 := hcb7.c0
        have d4 := hcb7.c1
        have d5 : (w6.setCell ⟨w.heap.size + 2, 0, none⟩ (.int .i64 ((0 : Nat) : Int))).cell? ⟨w.heap.size + 1, 0, none⟩ = some (.slice none 0 0) := by rw [cell_of_row _ _ _ _ _ _ hcb7.res]; rfl
        have d6 : (w6.setCell ⟨w.heap.size + 2, 0, none⟩ (.int .i64 ((0 : Nat) : Int))).cell? ⟨w.heap.size + 1, 1, none⟩ = some (.slice none 0 0) := by rw [cell_of_row _ _ _ _ _ _ hcb7.res]; rfl
        have d7 : (w6.setCell ⟨w.heap.size + 2, 0, none⟩ (.int .i64 ((0 : Nat) : Int))).frozen? ⟨w.heap.size + 1, 0, none⟩ = false := frozen_of_row _ _ _ _ _ hcb7.res
        have d8 : (w6.setCell ⟨w.heap.size + 2, 0, none⟩ (.int .i64 ((0 : Nat) : Int))).frozen? ⟨w.heap.size + 1, 1, none⟩ = false := frozen_of_row _ _ _ _ _ hcb7.res
        have H7 : Hid (Cb w (w6.setCell ⟨w.heap.size + 2, 0, none⟩ (.int .i64 ((0 : Nat) : Int))) nn (.func (.func 21) #[] #[.pointer (some ⟨gb, 0, none⟩)]) (.slice (some ⟨vb, 0, none⟩) L.length L.length) ∧ IR (w6.setCell ⟨w.heap.size + 2, 0, none⟩ (.int .i64 ((0 : Nat) : Int))) (w.heap.size + 2) (nn + 1) (atF nn (frL L) L.length) ∧ IR (w6.setCell ⟨w.heap.size + 2, 0, none⟩ (.int .i64 ((0 : Nat) : Int))) vb L.length (valF nn (frL L) (toL L) L.length L.length)) := ⟨hcb7, hr7, hval7⟩
        clear hrow6 hcb6 hval6 hr7 hcb7 hval7 h6 HY H5 hcs hcur c0 hone htwo
        simp only [Int.cast_ofNat_Int] at d3 d4 d5 d6 d7 d8 H7
        go_wp2
        all_goals
          try subst h
          refine bodyPost_ret (results_cell_row rfl _ _ (w.heap.size + 1) 43 _ (0, 0) _ rfl (two_cells H7.out.1.res _ _) Yba.underlying43 rfl (by kernel_rfl)) rfl ?_
          refine ⟨vb, rfl, HV.out, ?_, ?_, ?_⟩
          · exact H7.out.2.1.keep ((heap_setCell_other _ ⟨w.heap.size + 1, 1, none⟩ _ _ (by simp)).trans (heap_setCell_other _ ⟨w.heap.size + 1, 0, none⟩ _ _ (by simp)))
          · exact H7.out.2.2.keep ((heap_setCell_other _ ⟨w.heap.size + 1, 1, none⟩ _ _ (by have := HV.out; show vb ≠ w.heap.size + 1; omega)).trans (heap_setCell_other _ ⟨w.heap.size + 1, 0, none⟩ _ _ (by have := HV.out; show vb ≠ w.heap.size + 1; omega)))
          · exact (H7.out.1.bel.setCell (by show w.heap.size ≤ w.heap.size + 1; omega) _).setCell (by show w.heap.size ≤ w.heap.size + 1; omega) _
end Go.Proofs.Ybulkcxvo
