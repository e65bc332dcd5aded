/-
  The walk over newGraph.
-/
import Derived.Test.YbulkcxvoNg
import Derived.BigRegion
import Derived.Deep.RegionLaw
import Derived.Deep.Cut
import Derived.Deep.CutRange
namespace Go.Proofs.Ybulkcxvo
open Go.RowKit

theorem info9s : (Yba.prog.info? 9).map (fun i => (i.zero, i.size, i.bytes)) = some (some (.string ⟨#[]⟩), 1, 16) := by kernel_rfl
theorem make22c (n : Nat) (hn : n ≤ 1000000) : ∃ A : Array Value, A.size = n ∧ ∀ w : World, (Instr.makeSlice 22 (.int .i64 0) (.int .i64 (n : Int))).run Yba.prog w = .ok (.slice (some ⟨w.heap.size, 0, none⟩) 0 n) (w.alloc (.cells A 9)) := by
  obtain ⟨i, hi, hz, hs, hb⟩ := info_parts info9s
  refine ⟨madeCells (Value.string ⟨#[]⟩).cells ((n : Int).toNat * i.size), by rw [hs]; simp [madeCells], fun w => ?_⟩
  exact run_make (P := Yba.prog) w 22 9 i _ Yba.underlying22 hi hz .i64 .i64 0 n (by omega) (by omega) (by rw [hb]; omega) (by omega)

theorem ng_start1 (w : World) (n I m : Nat) (so : Option Addr) (sc : Nat) (nm : Nat → ByteArray) (E P : Nat → Nat) (A : Array Value) (hA : A.size = n) :
    Ng w (((w.alloc (.cells A 9)).alloc (.cells (ir n fun _ => 0) 3)).alloc (.cells (gcells (.slice (some ⟨w.heap.size, 0, none⟩) 0 n) (.slice none 0 0) (.slice none 0 0) (.slice so m sc) (.slice (some ⟨w.heap.size + 1, 0, none⟩) n n) (.int .i64 (I : Int))) 64)).drew (w.heap.size + 1 + 1) w.heap.size (w.heap.size + 1) n I m so sc nm E P [] (fun _ => 0) := by
  refine ⟨((((Below.refl _ w).alloc (Nat.le_refl _) _).alloc (by simp) _).alloc (by simp; omega) _).trans ((below_drew _).mono (by simp; omega)), ?_, ⟨A, ?_, hA, by simp⟩, ?_, by omega, by omega, by omega, by omega, by omega, by omega⟩
  · show (World.alloc _ _).heap[_]? = _
    simp only [alloc_at, size_up]
    rw [if_pos trivial]; rfl
  · show (World.alloc _ _).heap[_]? = _
    simp only [alloc_at, size_up]
    rw [if_neg (by omega), if_neg (by omega), if_pos trivial]
  · show (World.alloc _ _).heap[_]? = _
    simp only [alloc_at, size_up]
    rw [if_neg (by omega), if_pos trivial]; rfl
theorem ng_start2 (w : World) (n I m : Nat) (so : Option Addr) (sc : Nat) (nm : Nat → ByteArray) (E P : Nat → Nat) (A : Array Value) (hA : A.size = n) :
    Ng w (((w.alloc (.cells (ir n fun _ => 0) 3)).alloc (.cells A 9)).alloc (.cells (gcells (.slice (some ⟨w.heap.size + 1, 0, none⟩) 0 n) (.slice none 0 0) (.slice none 0 0) (.slice so m sc) (.slice (some ⟨w.heap.size, 0, none⟩) n n) (.int .i64 (I : Int))) 64)).drew (w.heap.size + 1 + 1) (w.heap.size + 1) w.heap.size n I m so sc nm E P [] (fun _ => 0) := by
  refine ⟨((((Below.refl _ w).alloc (Nat.le_refl _) _).alloc (by simp) _).alloc (by simp; omega) _).trans ((below_drew _).mono (by simp; omega)), ?_, ⟨A, ?_, hA, by simp⟩, ?_, by omega, by omega, by omega, by omega, by omega, by omega⟩
  · show (World.alloc _ _).heap[_]? = _
    simp only [alloc_at, size_up]
    rw [if_pos trivial]; rfl
  · show (World.alloc _ _).heap[_]? = _
    simp only [alloc_at, size_up]
    rw [if_neg (by omega), if_pos trivial]
  · show (World.alloc _ _).heap[_]? = _
    simp only [alloc_at, size_up]
    rw [if_neg (by omega), if_neg (by omega), if_pos trivial]; rfl

/-- newGraph's answer in memory. -/
structure Gn (w0 w : World) (pg nb rkb ab vb n I m : Nat) (so : Option Addr) (sc : Nat) (nm : Nat → ByteArray) (E P : Nat → Nat) (L : List (Nat × Nat)) : Prop where
  bel : Below w0.heap.size w0 w
  g : w.heap[pg]? = some (.cells (gcells (.slice (some ⟨nb, 0, none⟩) (kept E P n).length n) (.slice (some ⟨ab, 0, none⟩) ((kept E P n).length + 1) ((kept E P n).length + 1)) (.slice (some ⟨vb, 0, none⟩) L.length L.length) (.slice so m sc) (.slice (some ⟨rkb, 0, none⟩) n n) (.int .i64 (I : Int))) 64 (0, 0))
  nr : NR w nb n nm (kept E P n)
  rk : ZR w rkb n (rkI E P n)
  at_ : IR w ab ((kept E P n).length + 1) (atF (kept E P n).length (frL L) L.length)
  val : IR w vb L.length (valF (kept E P n).length (frL L) (toL L) L.length L.length)

set_option maxRecDepth 100000 in
set_option maxHeartbeats 4000000 in
theorem newg_any (w : World) (hb n I m : Nat) (ta : Option Addr) (tc eb pb : Nat) (so : Option Addr) (sc : Nat) (nm : Nat → ByteArray) (E P tx : Nat → Nat) (it : Nat → Int) (kd : Nat → Nat) (hN : Nb w hb n I m ta tc eb pb so sc nm E P tx it kd) (hP : Pm n I m E P tx it kd) (hn : n ≤ 512) (hI : I ≤ 16) (hm : m ≤ 512) (L : List (Nat × Nat)) (hL : L = (runA (accL (rkI E P n) tx it kd m)).ed) :
    Calls Yba.prog 10 #[.pointer (some ⟨hb, 0, none⟩)] w fun e w' => ∃ pg nb rkb ab vb, e = .returned (.pointer (some ⟨pg, 0, none⟩)) ∧ Gn w w' pg nb rkb ab vb n I m so sc nm E P L := by
  have hni : (n : Int) ≤ 512 := by omega
  obtain ⟨A, hA, hmk⟩ := make22c n (by omega)
  have hmk2 := make34 n (by omega)
  have c0 := hN.h0
  have c1 := hN.h3
  have c2 := hN.h4
  have a0 : ∀ o, (w.alloc o).cell? ⟨hb, 0, none⟩ = some (.slice ta n tc) := fun o => (hN.keep ((Below.refl _ w).alloc (Nat.le_refl _) o)).h0
  have a1 : ∀ o, (w.alloc o).cell? ⟨hb, 3, none⟩ = some (.slice so m sc) := fun o => (hN.keep ((Below.refl _ w).alloc (Nat.le_refl _) o)).h3
  have a2 : ∀ o, (w.alloc o).cell? ⟨hb, 4, none⟩ = some (.int .i64 (I : Int)) := fun o => (hN.keep ((Below.refl _ w).alloc (Nat.le_refl _) o)).h4
  have b0 : ∀ o o', ((w.alloc o).alloc o').cell? ⟨hb, 0, none⟩ = some (.slice ta n tc) := fun o o' => (hN.keep (((Below.refl _ w).alloc (Nat.le_refl _) o).alloc (by simp) o')).h0
  have b1 : ∀ o o', ((w.alloc o).alloc o').cell? ⟨hb, 3, none⟩ = some (.slice so m sc) := fun o o' => (hN.keep (((Below.refl _ w).alloc (Nat.le_refl _) o).alloc (by simp) o')).h3
  have b2 : ∀ o o', ((w.alloc o).alloc o').cell? ⟨hb, 4, none⟩ = some (.int .i64 (I : Int)) := fun o o' => (hN.keep (((Below.refl _ w).alloc (Nat.le_refl _) o).alloc (by simp) o')).h4
  have HN : Hid (Nb w hb n I m ta tc eb pb so sc nm E P tx it kd ∧ Pm n I m E P tx it kd) := ⟨hN, hP⟩
  have HL : Hid (L = (runA (accL (rkI E P n) tx it kd m)).ed) := hL
  clear hN hP hL
  go_enter Yba.func10, Yba.ntmps10
  go_upto_region 1 with fail
  go_cut [3] from 6 (fun s3 wc => ∃ pg nb rkb, s3 = .pointer (some ⟨pg, 0, none⟩) ∧ Ng w wc pg nb rkb n I m so sc nm E P [] (fun _ => 0))
  case first =>
    go_region
    all_goals
      go_wp2_with fail
      go_meet
      case rel => first | exact ⟨_, _, _, rfl, ng_start1 w n I m so sc nm E P A hA⟩ | exact ⟨_, _, _, rfl, ng_start2 w n I m so sc nm E P A hA⟩
  case rest =>
    clear hmk hmk2 c0 c1 c2 a0 a1 a2 b0 b1 b2
    obtain ⟨pg, nb, rkb, rfl, hng⟩ := hcut
    have hN := HN.out.1.keep hng.bel
    have c2 := hN.h2
    have H1 : Hid (Ng w wc pg nb rkb n I m so sc nm E P (kept E P 0) (rkI E P 0)) := hng
    clear hng hN
    go_wp2
    go_loopw [33] (fun i wr => ∃ k : Nat, k ≤ n ∧ i = .int .i64 (k : Int) ∧ Ng w wr pg nb rkb n I m so sc nm E P (kept E P k) (rkI E P k)) (fun i _ => n - (intOf i).toNat)
    case atStart => exact ⟨0, Nat.zero_le _, rfl, H1.out⟩
    case round =>
      clear H1 c2 wc
      rename World => w1
      obtain ⟨k, hk, rfl, hng⟩ := hrel
      have hN := HN.out.1.keep hng.bel
      by_cases hlt : k < n
      · have hki : (k : Int) < (n : Int) := by omega
        have hpn := HN.out.2.plt k hlt
        have hpi : (P k : Int) < (n : Int) := by omega
        have p1 := hN.byN.cell hlt
        have g4 : w1.cell? ⟨pg, 4, none⟩ = some (.slice (some ⟨rkb, 0, none⟩) n n) := (hng.cell 4).1
        have r1 := hng.rk.cell hpn
        have f1 := hng.rk.fz (P k)
        have h2 := hng.setRk (P k) (-1)
        have hN2 := HN.out.1.keep h2.bel
        have e1 := hN2.h1
        have e2 := hN2.ends.cell hpn
        have H2 : Hid (Ng w (w1.setCell ⟨rkb, P k, none⟩ (.int .i64 (-1))) pg nb rkb n I m so sc nm E P (kept E P k) (upd (rkI E P k) (P k) (-1))) := h2
        have hEb := HN.out.2.elt (P k) hpn
        clear hng hN h2 hN2
        by_cases hE : E (P k) = 4
        · have hEi : (E (P k) : Int) = 4 := by omega
          rw [hEi] at e2
          have HX : Hid (kept E P (k + 1) = kept E P k ∧ rkI E P (k + 1) = upd (rkI E P k) (P k) (-1)) := ⟨by unfold kept; rw [if_pos hE, List.append_nil]; cases k <;> rfl, by show upd _ _ (if _ then _ else _) = _; rw [if_pos hE]⟩
          go_wp2
          go_round
          case rel =>
            refine ⟨k + 1, by omega, by go_num, ?_⟩
            rw [HX.out.1, HX.out.2]
            exact H2.out
          case measure => simp [intOf]; omega
        · have hEi : ((E (P k) : Int) != 4) = true := by simp; omega
          have HX : Hid (kept E P (k + 1) = kept E P k ++ [P k] ∧ rkI E P (k + 1) = upd (rkI E P k) (P k) ((kept E P k).length : Int) ∧ (kept E P k).length ≤ k) := ⟨by show _ ++ (if _ then _ else _) = _; rw [if_neg hE], by show upd _ _ (if _ then _ else _) = _; rw [if_neg hE], kept_le E P k⟩
          obtain ⟨tb, off, hta, htb, hst⟩ := HN.out.1.nam (by omega)
          have hst := hst (P k) hpn
          go_wp2
          have g4' : (w1.setCell ⟨rkb, P k, none⟩ (.int .i64 (-1))).cell? ⟨pg, 4, none⟩ = some (.slice (some ⟨rkb, 0, none⟩) n n) := (H2.out.cell 4).1
          have g0' : (w1.setCell ⟨rkb, P k, none⟩ (.int .i64 (-1))).cell? ⟨pg, 0, none⟩ = some (.slice (some ⟨nb, 0, none⟩) (kept E P k).length n) := (H2.out.cell 0).1
          have r1' := H2.out.rk.cell hpn
          have f1' := H2.out.rk.fz (P k)
          obtain ⟨W2, hW2⟩ : ∃ W2, W2 = w1.setCell ⟨rkb, P k, none⟩ (.int .i64 (-1)) := ⟨_, rfl⟩
          rw [← hW2] at H2 g4' g0' r1' f1' ⊢
          clear hW2 g4 r1 f1 e1 e2 p1
          go_region
          have H3 : Hid (Ng w (W2.setCell ⟨rkb, P k, none⟩ (.int .i64 ((kept E P k).length : Int))).drew pg nb rkb n I m so sc nm E P (kept E P k) (rkI E P (k + 1))) := by
            have h := H2.out.setRk (P k) ((kept E P k).length : Int)
            have e : upd (upd (rkI E P k) (P k) (-1)) (P k) ((kept E P k).length : Int) = rkI E P (k + 1) := by
              rw [HX.out.2.1]
              funext x
              by_cases ex : x = P k
              · rw [ex, upd_same, upd_same]
              · rw [upd_ne _ _ ex, upd_ne _ _ ex, upd_ne _ _ ex]
            rw [e] at h
            exact h.keep (below_drew _)
          obtain ⟨W3, hW3⟩ : ∃ W3, W3 = (W2.setCell ⟨rkb, P k, none⟩ (.int .i64 ((kept E P k).length : Int))).drew := ⟨_, rfl⟩
          rw [← hW3] at H3 ⊢
          clear hW3 H2 g4' g0' r1' f1'
          go_wp2
          have hlk : (kept E P k).length < n := by have := HX.out.2.2; omega
          have hN3 := HN.out.1.keep H3.out.bel
          have hal : ∀ o, Below W3.heap.size W3 (W3.alloc o) := fun o => (Below.refl _ _).alloc (Nat.le_refl _) o
          have g0 : W3.cell? ⟨pg, 0, none⟩ = some (.slice (some ⟨nb, 0, none⟩) (kept E P k).length n) := (H3.out.cell 0).1
          have g0a : ∀ o, (W3.alloc o).cell? ⟨pg, 0, none⟩ = some (.slice (some ⟨nb, 0, none⟩) (kept E P k).length n) := fun o => ((H3.out.keep (hal o)).cell 0).1
          have t0 := hN3.h0
          rw [hta] at t0
          have t1 : W3.cell? ⟨tb, off + P k, none⟩ = some (.string (nm (P k))) := (World.cell?_of_block (H3.out.bel.block tb htb)).trans hst
          have n1 := H3.out.n1
          obtain ⟨i0, hi0, hz0, hz1, hz2⟩ := info_parts info9s
          have HY : Hid (∀ o, ((W3.alloc o).drew.cell? ⟨nb, 0 + (kept E P k).length * 1 + 0, none⟩).isSome = true ∧ (W3.alloc o).drew.frozen? ⟨nb, 0 + (kept E P k).length * 1 + 0, none⟩ = false) := fun o => by
            have := ((H3.out.keep (hal o)).nr.some (j := (kept E P k).length) hlk)
            rw [Nat.zero_add, Nat.mul_one, Nat.add_zero]
            exact this
          have hsc : ∀ (W : World) (o : Nat) (v : Value), W.setCells nb o [v] = W.setCell ⟨nb, o, none⟩ v := fun _ _ _ => rfl
          have hbk : ((W3.alloc (.cells #[.string (nm (P k))] 9)).drew.setCells nb (kept E P k).length [.string (nm (P k))]).heap[pg]? = W3.heap[pg]? := by
            rw [hsc, heap_setCell_other _ _ _ _ (show pg ≠ nb from n1)]
            exact (hal _).block pg (lt_of_block H3.out.g)
          have z1 : ((W3.alloc (.cells #[.string (nm (P k))] 9)).drew.setCells nb (kept E P k).length [.string (nm (P k))]).cell? ⟨pg, 0, none⟩ = some (.slice (some ⟨nb, 0, none⟩) (kept E P k).length n) := (World.cell?_of_block hbk).trans g0
          have z2 : ((W3.alloc (.cells #[.string (nm (P k))] 9)).drew.setCells nb (kept E P k).length [.string (nm (P k))]).frozen? ⟨pg, 0, none⟩ = false := (World.frozen?_of_block hbk).trans (H3.out.cell 0).2
          have HZ : Hid (∀ (W : World) (o : Nat) (v : Value), W.setCells nb o [v] = W.setCell ⟨nb, o, none⟩ v) := hsc
          clear hsc hbk
          go_region_law (refine step_append_room rfl (.tmp 66) (.tmp 74) 22 rfl 9 i0 1 Yba.underlying22 hi0 hz1 nb 0 (kept E P k).length n (by simp [Act.eval]) ⟨W3.heap.size, 0, none⟩ 1 1 [.string (nm (P k))] (by simp [Act.eval]) rfl (by intro j u hj; have hl := (List.getElem?_eq_some_iff.1 hj).1; obtain rfl : j = 0 := (by simpa using hl); simp at hj; subst hj; simp [Addr.add]) (by simp [Value.oneCell']) (by omega) (by intro j hj; obtain rfl : j = 0 := (by simpa using hj); exact HY.out _) ?_)
          all_goals
            go_wp2
            go_round
            case rel =>
              refine ⟨k + 1, by omega, by go_num, ?_⟩
              have h := ((H3.out.keep (hal (.cells #[.string (nm (P k))] 9))).keep (below_drew _)).push (u := P k) hlk
              rw [HX.out.1]
              exact h
            case measure => simp [intOf]; omega
      · obtain rfl : n = k := by omega
        have hlk := kept_le E P n
        have hG : Gg w1 pg n I m rkb (kept E P n).length (some ⟨nb, 0, none⟩) n so sc (rkI E P n) tx it kd := ⟨(hng.cell 0).1, (hng.cell 3).1, (hng.cell 4).1, (hng.cell 5).1, hng.rk, hN.sts⟩
        have hrb := rk_bounds (E := E) HN.out.2.plt HN.out.2.inj
        have hHb : Hb n I m (rkI E P n) tx it kd := ⟨HN.out.2.tlt, HN.out.2.ilt, HN.out.2.klt, fun u hu => ⟨by have := (hrb u hu).1; omega, (hrb u hu).2⟩⟩
        have hcall := reduce_any w1 pg n I m rkb (kept E P n).length (some ⟨nb, 0, none⟩) n so sc (rkI E P n) tx it kd hHb hn hI hm (by omega) (fun u hu => (hrb u hu).1) hG (.slice none 0 0) (.slice none 0 0) (hng.cell 1).1 (hng.cell 2).1 (fun i => (hng.cell i).2) L HL.out
        have HC : Hid (Calls Yba.prog 17 #[.pointer (some ⟨pg, 0, none⟩)] w1 fun e w' => e = .returned (.tuple #[]) ∧ ∃ W ab vb, Rd w1 W (kept E P n).length ab vb L ∧ w' = (W.setCell ⟨pg, 1, none⟩ (.slice (some ⟨ab, 0, none⟩) ((kept E P n).length + 1) ((kept E P n).length + 1))).setCell ⟨pg, 2, none⟩ (.slice (some ⟨vb, 0, none⟩) L.length L.length)) := hcall
        have H1 : Hid (Ng w w1 pg nb rkb n I m so sc nm E P (kept E P n) (rkI E P n)) := hng
        clear hcall hng hN hG hrb hHb hlk
        go_wp2_with fail
        refine HC.out.mono ?_
        rintro e w2 ⟨rfl, W, ab, vb, hrd, hw2⟩
        have H2 : Hid (Gn w w2 pg nb rkb ab vb n I m so sc nm E P L) := by
          have h1 := H1.out.keep hrd.bel
          have hlt := lt_of_block H1.out.g
          have hlt2 := H1.out.nr.lt
          have hlt3 := H1.out.rk.lt
          have kb : ∀ b, b ≠ pg → w2.heap[b]? = W.heap[b]? := fun b hb => by
            rw [hw2, heap_setCell_other _ _ _ _ (show b ≠ pg from hb), heap_setCell_other _ _ _ _ (show b ≠ pg from hb)]
          refine ⟨?_, ?_, h1.nr.keep (kb _ (Ne.symm h1.n1)), h1.rk.keep (kb _ (Ne.symm h1.n2)), hrd.at_.keep (kb _ (by have := hrd.ga; omega)), hrd.val.keep (kb _ (by have := hrd.gv; omega))⟩
          · rw [hw2]; exact (h1.bel.setCell h1.gpg _).setCell h1.gpg _
          · rw [hw2, heap_setCell_same _ _ _ _ _ _ (heap_setCell_same _ _ _ _ _ _ h1.g)]; rfl
        clear hrd hw2 HC H1
        go_wp2
        go_ret
        exact ⟨pg, nb, rkb, ab, vb, rfl, H2.out⟩
end Go.Proofs.Ybulkcxvo
