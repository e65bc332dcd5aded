/-
  The walk over LawS4967AReduced.
-/
import Derived.Test.YbulkcxvoRedQ
import Derived.Deep.CutBlock
import Derived.Deep.CutRange
import Derived.Test.YbulkcxvoNames
namespace Go.Proofs.Ybulkcxvo
open Go.RowKit

set_option maxRecDepth 100000 in
set_option maxHeartbeats 4000000 in
theorem reduced_any (w : World) (n nc en ec pn pc on oc iv : Nat) (na ea pa oa : Option Addr) (nm : Nat → ByteArray) (hn : n ≤ 512) (hon : on ≤ 512) (hiv : iv < 256) (h0 : na = none → n = 0 ∧ nc = 0) (hnm : Strs w na n nm) (ev pv f g h : Nat → Nat) (he : U8s w ea en ev) (hp : U16s w pa pn pv) (hops : Ops w oa on f g h) :
    Calls Yba.prog 4 #[.slice na n nc, .slice ea en ec, .slice pa pn pc, .slice oa on oc, .int .u8 (iv : Int)] w fun e w' => e = .returned (.bool true) ∧ Below w.heap.size w w' := by
  have hni : (n : Int) ≤ 512 := by omega
  have honi : (on : Int) ≤ 512 := by omega
  have HB : Hid (Calls Yba.prog 6 #[.slice na n nc, .slice ea en ec, .slice pa pn pc, .slice oa on oc, .int .u8 (iv : Int)] w fun e w' => ∃ hb, e = .returned (.pointer (some ⟨hb, 0, none⟩)) ∧ Bx w w' hb n on nm) := build_any w n nc en ec pn pc on oc iv na ea pa oa nm hn hon hiv h0 hnm ev pv f g h he hp hops
  clear h0 hnm he hp hops hiv
  go_enter Yba.func4, Yba.ntmps4
  go_wp2_with fail
  refine HB.out.mono ?_
  rintro e w1 ⟨hb, rfl, I, m, ta, tc, eb, pb, so, sc, E, P, tx, it, kd, hI, hm, hso, hN, hP, hb1⟩
  have H1 : Hid (Nb w1 hb n I m ta tc eb pb so sc nm E P tx it kd ∧ Pm n I m E P tx it kd ∧ Below w.heap.size w w1 ∧ I ≤ 16 ∧ m ≤ on) := ⟨hN, hP, hb1, hI, hm⟩
  have hm5 : m ≤ 512 := by omega
  have hmi : (m : Int) ≤ 512 := by omega
  clear hN hP hb1 hI hm hso HB
  go_wp2_with fail
  refine (ranks_any w1 hb n I m ta tc eb pb so sc nm E P tx it kd H1.out.1 H1.out.2.1 hn).mono ?_
  rintro e w2 ⟨rfl, hrx⟩
  have hN2 := H1.out.1.keep hrx.bel
  have c3 := hN2.h3
  obtain ⟨A0, hA0, hmk⟩ := make68c m (by omega)
  obtain ⟨B, hB⟩ : ∃ B, B = w2.heap.size := ⟨_, rfl⟩
  obtain ⟨nn, hnn⟩ : ∃ nn, nn = (kept E P n).length := ⟨_, rfl⟩
  have hnl := kept_le E P n
  have HN : Hid (nn = (kept E P n).length ∧ nn ≤ n) := ⟨hnn, by omega⟩
  have hal : Below w2.heap.size w2 (w2.alloc (.cells A0 70)) := (Below.refl _ _).alloc (Nat.le_refl _) _
  have H2 : Hid (Nb w2 hb n I m ta tc eb pb so sc nm E P tx it kd ∧ Below w.heap.size w w2 ∧ ZR w2 (w1.heap.size + 1) n (rkI E P n) ∧ Below B w2 (w2.alloc (.cells A0 70)) ∧ (w2.alloc (.cells A0 70)).ownsRow B 70 3 (.slice (some ⟨B, 0, none⟩) 0 m) 0 [] ∧ B ≤ (w2.alloc (.cells A0 70)).heap.size ∧ B = w2.heap.size) := by
    refine ⟨hN2, H1.out.2.2.1.trans (hrx.bel.mono H1.out.2.2.1.size), hrx.rk, by rw [hB]; exact hal, ⟨rfl, .inr ⟨B, m, A0, rfl, Nat.le_refl _, by rw [hB]; exact heap_alloc_new w2 _, Nat.zero_le _, by unfold maxLen; omega, hA0, rfl⟩⟩, by rw [hB, size_up]; omega, hB⟩
  have c3a : (w2.alloc (.cells A0 70)).cell? ⟨hb, 3, none⟩ = some (.slice so m sc) := (hN2.keep hal).h3
  generalize w1.heap.size + 1 = rb at *
  clear hrx hN2 hal hA0 hnl
  rw [← hnn]
  clear hnn
  go_wp2
  rw [← hB]
  obtain ⟨W2, hW2⟩ : ∃ W2, W2 = w2.alloc (.cells A0 70) := ⟨_, rfl⟩
  rw [← hW2] at H2 ⊢
  clear hW2 hB c3 c3a hmk
  go_loopw [14, 61] (fun av i wr => ∃ k : Nat, k ≤ m ∧ i = .int .i64 (k : Int) ∧ Below B w2 wr ∧ wr.ownsRow B 70 3 av (accL (rkI E P n) tx it kd k).length (acL (accL (rkI E P n) tx it kd k)) ∧ B ≤ wr.heap.size) (fun _ i _ => m - (intOf i).toNat)
  case atStart => exact ⟨0, Nat.zero_le _, rfl, H2.out.2.2.2.1, H2.out.2.2.2.2.1, H2.out.2.2.2.2.2.1⟩
  case round =>
    rename World => w3
    obtain ⟨k, hk, rfl, hbl, hown, hsz⟩ := hrel
    obtain ⟨ao, cap, rfl⟩ := own_val hown
    have hB := H2.out.2.2.2.2.2.2
    have hN3 := H2.out.1.keep (by rw [hB] at hbl; exact hbl)
    have hrk3 : ZR w3 rb n (rkI E P n) := H2.out.2.2.1.keep (hbl.block _ (by rw [hB]; exact H2.out.2.2.1.lt))
    by_cases hlt : k < m
    · have hki : (k : Int) < (m : Int) := by omega
      obtain ⟨sb, off, rfl, hsb, hst⟩ := hN3.sts (by omega)
      obtain ⟨s1, s2, s3⟩ := hst k hlt
      have htn := H1.out.2.1.tlt k hlt
      have hit := H1.out.2.1.ilt k hlt
      have hkb := H1.out.2.1.klt k hlt
      have hal : Below w3.heap.size w3 (w3.alloc (.cells #[.int .i64 (tx k : Int), .int .i64 (it k), .int .u8 (kd k : Int)] 32)) := (Below.refl _ _).alloc (Nat.le_refl _) _
      have hrk4 := hrk3.keep (hal.block _ hrk3.lt)
      have a3 := hrk4.cell htn
      have hti : (tx k : Int) < (n : Int) := by omega
      have hrb := rk_bounds (E := E) H1.out.2.1.plt H1.out.2.1.inj (tx k) htn
      have H3 : Hid (Below B w2 (w3.alloc (.cells #[.int .i64 (tx k : Int), .int .i64 (it k), .int .u8 (kd k : Int)] 32)) ∧ (w3.alloc (.cells #[.int .i64 (tx k : Int), .int .i64 (it k), .int .u8 (kd k : Int)] 32)).ownsRow B 70 3 (.slice ao (accL (rkI E P n) tx it kd k).length cap) (accL (rkI E P n) tx it kd k).length (acL (accL (rkI E P n) tx it kd k)) ∧ B ≤ (w3.alloc (.cells #[.int .i64 (tx k : Int), .int .i64 (it k), .int .u8 (kd k : Int)] 32)).heap.size ∧ (accL (rkI E P n) tx it kd k).length ≤ 300000 ∧ (w3.alloc (.cells #[.int .i64 (tx k : Int), .int .i64 (it k), .int .u8 (kd k : Int)] 32)).heap.size = w3.heap.size + 1) := by
        refine ⟨hbl.trans (hal.mono hsz), hown.alloc _, by rw [size_up]; omega, ?_, size_up _ _⟩
        have : (accL (rkI E P n) tx it kd k).length ≤ k := by
          unfold accL
          refine Nat.le_trans (List.length_filterMap_le _ _) ?_
          simp
        omega
      clear hbl hown hN3 hrk3 hal hrk4 hst hB
      by_cases hneg : it k < 0
      · have HK : Hid (accL (rkI E P n) tx it kd (k + 1) = accL (rkI E P n) tx it kd k) := accL_skip (.inr hneg)
        go_wp2
        go_round
        case rel => exact ⟨k + 1, by omega, by go_num, by rw [HK.out]; exact ⟨H3.out.1, H3.out.2.1, H3.out.2.2.1⟩⟩
        case measure => simp [intOf]; omega
      · have hnd : decide (it k < 0) = false := decide_eq_false hneg
        by_cases hneg2 : rkI E P n (tx k) < 0
        · have HK : Hid (accL (rkI E P n) tx it kd (k + 1) = accL (rkI E P n) tx it kd k) := accL_skip (.inl hneg2)
          go_wp2
          go_round
          case rel => exact ⟨k + 1, by omega, by go_num, by rw [HK.out]; exact ⟨H3.out.1, H3.out.2.1, H3.out.2.2.1⟩⟩
          case measure => simp [intOf]; omega
        · have hnd2 : decide (rkI E P n (tx k) < 0) = false := decide_eq_false hneg2
          obtain ⟨u, hu⟩ := Int.eq_ofNat_of_zero_le (show 0 ≤ rkI E P n (tx k) by omega)
          obtain ⟨x, hx⟩ := Int.eq_ofNat_of_zero_le (show 0 ≤ it k by omega)
          rw [hu] at a3 hnd2
          rw [hx] at s2 H3 hnd a3
          by_cases hkd : kd k = 1
          · have HK : Hid (accL (rkI E P n) tx it kd (k + 1) = accL (rkI E P n) tx it kd k ++ [⟨u, x, false⟩]) := by
              have := accL_take (kd := kd) hu hx
              rw [show (kd k != 1) = false by simp [hkd]] at this
              exact this
            have hki1 : (kd k : Int) = 1 := by omega
            rw [hki1] at s3 H3 a3
            clear hu hx
            obtain ⟨W4, hW4⟩ : ∃ W4, W4 = w3.alloc (.cells #[.int .i64 (tx k : Int), .int .i64 (x : Int), .int .u8 1] 32) := ⟨_, rfl⟩
            rw [← hW4] at H3
            have HW : Hid (W4 = w3.alloc (.cells #[.int .i64 (tx k : Int), .int .i64 (x : Int), .int .u8 1] 32)) := hW4
            clear hW4
            go_wp2_with (at_builtin; rw [← HW.out]; refine wpList_pushA rfl (.tmp 75) (.tmp 83) rfl B (.slice ao (accL (rkI E P n) tx it kd k).length cap) (accL (rkI E P n) tx it kd k) ⟨u, x, false⟩ rfl (w3.heap.size + 1) H3.out.2.2.2.2 rfl H3.out.2.1 H3.out.2.2.1 H3.out.2.2.2.1 ?_; intro g2 cap2 W5 ho5 hg5; have H5 : Hid (_ ∧ _) := ⟨ho5, hg5⟩; clear ho5 hg5)
            go_round
            case rel =>
              refine ⟨k + 1, by omega, by go_num, ?_⟩
              rw [HK.out, List.length_append, List.length_singleton]
              have h5 := H5.out.1
              rw [List.length_append, List.length_singleton] at h5
              exact ⟨H3.out.1.trans (H5.out.2.below H3.out.2.2.1 fun g e => (own_ge H3.out.2.1 g e).1), h5, Nat.le_trans H3.out.2.2.1 H5.out.2.size⟩
            case measure => simp [intOf]; omega
          · have HK : Hid (accL (rkI E P n) tx it kd (k + 1) = accL (rkI E P n) tx it kd k ++ [⟨u, x, true⟩]) := by
              have := accL_take (kd := kd) hu hx
              rw [show (kd k != 1) = true by simp [hkd]] at this
              exact this
            have hki1 : ((kd k : Int) != 1) = true := by simp; omega
            clear hu hx
            obtain ⟨W4, hW4⟩ : ∃ W4, W4 = w3.alloc (.cells #[.int .i64 (tx k : Int), .int .i64 (x : Int), .int .u8 (kd k : Int)] 32) := ⟨_, rfl⟩
            rw [← hW4] at H3
            have HW : Hid (W4 = w3.alloc (.cells #[.int .i64 (tx k : Int), .int .i64 (x : Int), .int .u8 (kd k : Int)] 32)) := hW4
            clear hW4
            go_wp2_with (at_builtin; rw [← HW.out]; refine wpList_pushA rfl (.tmp 75) (.tmp 83) rfl B (.slice ao (accL (rkI E P n) tx it kd k).length cap) (accL (rkI E P n) tx it kd k) ⟨u, x, true⟩ rfl (w3.heap.size + 1) H3.out.2.2.2.2 rfl H3.out.2.1 H3.out.2.2.1 H3.out.2.2.2.1 ?_; intro g2 cap2 W5 ho5 hg5; have H5 : Hid (_ ∧ _) := ⟨ho5, hg5⟩; clear ho5 hg5)
            go_round
            case rel =>
              refine ⟨k + 1, by omega, by go_num, ?_⟩
              rw [HK.out, List.length_append, List.length_singleton]
              have h5 := H5.out.1
              rw [List.length_append, List.length_singleton] at h5
              exact ⟨H3.out.1.trans (H5.out.2.below H3.out.2.2.1 fun g e => (own_ge H3.out.2.1 g e).1), h5, Nat.le_trans H3.out.2.2.1 H5.out.2.size⟩
            case measure => simp [intOf]; omega
    · obtain rfl : m = k := by omega
      obtain ⟨l, hl⟩ : ∃ l, l = accL (rkI E P n) tx it kd m := ⟨_, rfl⟩
      have hll : l.length ≤ m := by
        rw [hl]
        unfold accL
        refine Nat.le_trans (List.length_filterMap_le _ _) ?_
        simp
      have hlu : ∀ i, i < l.length → (acAt l i).u < nn := by
        intro i hi
        have hm := List.mem_of_getElem? (acAt_get hi)
        generalize acAt l i = a at hm
        rw [hl] at hm
        unfold accL at hm
        rw [List.mem_filterMap] at hm
        obtain ⟨s, hs, hai⟩ := hm
        rw [List.mem_range] at hs
        unfold accOf at hai
        split at hai
        · cases hai
        · rename_i hno
          simp only [Option.some.injEq] at hai
          rw [← hai]
          have := rk_bounds (E := E) H1.out.2.1.plt H1.out.2.1.inj (tx s) (H1.out.2.1.tlt s hs)
          rw [← HN.out.1] at this
          show (rkI E P n (tx s)).toNat < nn
          omega
      rw [← hl] at hown ⊢
      have hmk := make71 nn (by have := HN.out.2; omega)
      obtain ⟨T, hT⟩ : ∃ T, T = w3.heap.size := ⟨_, rfl⟩
      have hms : Ms w3 (w3.alloc (.cells (sr nn fun _ => .slice none 0 0) 34)) T nn (fun _ => .slice none 0 0) (RS (acAt l) 0).ed := by rw [hT]; exact ms_start w3 nn
      have H3 : Hid (Nb w3 hb n I m ta tc eb pb so sc nm E P tx it kd ∧ Below w.heap.size w w3 ∧ ZR w3 rb n (rkI E P n) ∧ w3.ownsRow B 70 3 (.slice ao l.length cap) l.length (acL l) ∧ w3.heap.size ≤ T ∧ l = accL (rkI E P n) tx it kd m ∧ (∀ i, i < l.length → (acAt l i).u < nn)) := ⟨hN3, H2.out.2.1.trans (hbl.mono (by rw [hB]; exact H2.out.2.1.size)), hrk3, hown, by omega, hl, hlu⟩
      have HMs : Hid (Ms w3 (w3.alloc (.cells (sr nn fun _ => .slice none 0 0) 34)) T nn (fun _ => .slice none 0 0) (RS (acAt l) 0).ed) := hms
      have hM : l.length ≤ 512 := by omega
      have hMi : (l.length : Int) ≤ 512 := by omega
      clear hms hbl hown hN3 hrk3 hlu hl hll hB H2 hsz
      go_wp2
      rw [← hT]
      obtain ⟨W4, hW4⟩ : ∃ W4, W4 = w3.alloc (.cells (sr nn fun _ => .slice none 0 0) 34) := ⟨_, rfl⟩
      rw [← hW4] at HMs ⊢
      clear hW4 hT hmk
      obtain ⟨A, hA⟩ : ∃ A, A = acAt l := ⟨_, rfl⟩
      rw [← hA] at H3 HMs
      have HAq : Hid (A = acAt l) := hA
      clear hA
      go_loopw [19] (fun jv wr => ∃ (j : Nat) (V : Nat → Value), j ≤ l.length ∧ jv = .int .i64 (j : Int) ∧ Ms w3 wr T nn V (RS A j).ed) (fun jv _ => l.length - (intOf jv).toNat)
      case atStart => exact ⟨0, _, Nat.zero_le _, rfl, HMs.out⟩
      case round =>
        clear HMs W4
        rename World => w4
        obtain ⟨j, V, hj, rfl, hms⟩ := hrel
        have H4 : Hid (Ms w3 w4 T nn V (RS A j).ed) := hms
        by_cases hjl : j < l.length
        · have hji : (j : Int) < (l.length : Int) := by omega
          have hac := ac_later H3.out.2.2.2.1 H3.out.2.2.2.2.1 hms.bel (by omega)
          rw [← HAq.out] at hac
          obtain ⟨ga, rfl, hcell⟩ := hac
          clear hms
          have HCl : Hid (∀ i, i < l.length → w4.cell? ⟨ga, i * 3, none⟩ = some (.int .i64 ((A i).u : Int)) ∧ w4.cell? ⟨ga, i * 3 + 1, none⟩ = some (.int .i64 ((A i).x : Int)) ∧ w4.cell? ⟨ga, i * 3 + 2, none⟩ = some (.bool (A i).w)) := hcell
          clear hcell
          go_upto_block 4 with fail
          go_cut [20, 21, 22] from 88 to 187 (fun s20 s21 s22 wx => ∃ (ro : Option Addr) (rc : Nat) (wi : Int) (R : List Nat), s20 = .slice ro R.length rc ∧ s21 = .int .i64 wi ∧ Below w4.heap.size w4 wx ∧ wx.ownsRow w4.heap.size 3 1 (.slice ro R.length rc) R.length (ic R) ∧ Sc A j wi R ∧ R.length ≤ j)
          case first =>
            go_wp2
            go_loopw [20, 21, 22] (fun s20 s21 s22 wx => ∃ (i : Nat) (R : List Nat), i ≤ j ∧ s22 = .int .i64 ((i : Int) - 1) ∧ s21 = .int .i64 (-1) ∧ R = (rdIx A (A j).x i j).reverse ∧ noW A (A j).x i j ∧ Below w4.heap.size w4 wx ∧ wx.ownsRow w4.heap.size 3 1 s20 R.length (ic R)) (fun _ _ s22 _ => (intOf s22 + 1).toNat)
            case atStart => exact ⟨j, [], Nat.le_refl _, rfl, rfl, by rw [rdIx_top]; rfl, fun t h1 h2 => absurd h2 (by omega), Below.refl _ _, World.ownsRow_nil _ _ _ _⟩
            case round =>
              rename World => w5
              obtain ⟨i, R, hi, rfl, rfl, hR, hno, hbl5, hown⟩ := hrel
              obtain ⟨ro, rc, rfl⟩ := own_val hown
              have hRl : R.length ≤ j := by rw [hR, List.length_reverse]; exact rdIx_len A _ i j
              have H5 : Hid (R = (rdIx A (A j).x i j).reverse ∧ noW A (A j).x i j ∧ Below w4.heap.size w4 w5 ∧ w5.ownsRow w4.heap.size 3 1 (.slice ro R.length rc) R.length (ic R) ∧ w4.heap.size ≤ w5.heap.size ∧ R.length ≤ 300000) := ⟨hR, hno, hbl5, hown, hbl5.size, by omega⟩
              clear hR hno hown
              by_cases hi0 : i = 0
              · subst hi0
                clear hbl5
                go_wp2
                go_meet
                case rel =>
                  obtain ⟨h1, h2, h3, h4, _⟩ := H5.out
                  exact ⟨ro, rc, -1, R, rfl, rfl, h3, h4, by rw [h1]; exact sc_none A j h2, hRl⟩
              · obtain ⟨i', rfl⟩ : ∃ i', i = i' + 1 := ⟨i - 1, by omega⟩
                have hii : ((i' + 1 : Nat) : Int) - 1 = (i' : Int) := by omega
                have hilt : i' < j := by omega
                have hil : i' < l.length := by omega
                have hili : (i' : Int) < (l.length : Int) := by omega
                obtain ⟨x1, x2, x3⟩ := HCl.out i' hil
                obtain ⟨y1, y2, y3⟩ := HCl.out j hjl
                have hgl : ga < w4.heap.size := World.block_lt_of_cell? w4 ⟨ga, j * 3, none⟩ y1
                have e5 := hbl5.block ga hgl
                have x2' : w5.cell? ⟨ga, i' * 3 + 1, none⟩ = some (.int .i64 ((A i').x : Int)) := (World.cell?_of_block e5).trans x2
                have x3' : w5.cell? ⟨ga, i' * 3 + 2, none⟩ = some (.bool (A i').w) := (World.cell?_of_block e5).trans x3
                have y2' : w5.cell? ⟨ga, j * 3 + 1, none⟩ = some (.int .i64 ((A j).x : Int)) := (World.cell?_of_block e5).trans y2
                clear x1 x2 x3 y1 y2 y3 e5 hgl hi0 hbl5 hi
                rw [hii]
                clear hii
                by_cases hx : (A i').x = (A j).x
                · have HX : Hid ((A i').x = (A j).x) := hx
                  rw [hx] at x2'
                  clear hx
                  cases hw : (A i').w
                  · rw [hw] at x3'
                    obtain ⟨d1, d2⟩ := down_read hilt HX.out hw H5.out.2.1
                    have HD : Hid ((rdIx A (A j).x i' j).reverse = (rdIx A (A j).x (i' + 1) j).reverse ++ [i'] ∧ noW A (A j).x i' j) := ⟨d1, d2⟩
                    clear d1 d2
                    generalize hXj : (A j).x = Xj at *
                    clear hXj
                    go_wp2
                    go_quiet (fail)
                    have H6 : Hid (Below w4.heap.size w4 (w5.drewN nq) ∧ (w5.drewN nq).ownsRow w4.heap.size 3 1 (.slice ro R.length rc) R.length (ic R) ∧ w4.heap.size ≤ (w5.drewN nq).heap.size ∧ R.length ≤ 300000) := ⟨H5.out.2.2.1.trans ⟨rfl, rfl, rfl, Nat.le_refl _, fun _ _ => rfl⟩, own_keep H5.out.2.2.2.1 fun _ _ => rfl, H5.out.2.2.2.2.1, H5.out.2.2.2.2.2⟩
                    obtain ⟨W6, hW6⟩ : ∃ W6, W6 = w5.drewN nq := ⟨_, rfl⟩
                    rw [← hW6] at H6 ⊢
                    have x3'' : W6.cell? ⟨ga, i' * 3 + 2, none⟩ = some (.bool false) := by rw [hW6]; exact x3'
                    clear hW6 x2' x3' y2'
                    go_wp2_with (at_builtin; refine wpList_push rfl (.tmp 117) (.tmp 119) rfl w4.heap.size (.slice ro R.length rc) R i' rfl W6.heap.size rfl rfl H6.out.2.1 H6.out.2.2.1 H6.out.2.2.2 ?_; intro g2 cap2 W7 ho7 hg7; have H7 : Hid (_ ∧ _) := ⟨ho7, hg7⟩; clear ho7 hg7)
                    go_round
                    case rel =>
                      refine ⟨i', R ++ [i'], by omega, rfl, rfl, by rw [HD.out.1, H5.out.1], HD.out.2, H6.out.1.trans (H7.out.2.below H6.out.2.2.1 fun g e => (own_ge H6.out.2.1 g e).1), ?_⟩
                      exact H7.out.1
                    case measure => simp [intOf]
                  · rw [hw] at x3'
                    have HS : Hid (Sc A j (i' : Int) R) := by
                      have := sc_some A i' j hilt HX.out hw H5.out.2.1
                      rw [← H5.out.1] at this
                      exact this
                    generalize hXj : (A j).x = Xj at *
                    clear hXj
                    go_wp2
                    go_quiet (fail)
                    go_wp2
                    go_meet
                    case rel => exact ⟨ro, rc, (i' : Int), R, rfl, rfl, H5.out.2.2.1.trans ⟨rfl, rfl, rfl, Nat.le_refl _, fun _ _ => rfl⟩, own_keep H5.out.2.2.2.1 fun _ _ => rfl, HS.out, hRl⟩
                · have hxi : (((A i').x : Int) != ((A j).x : Int)) = true := by simp; omega
                  obtain ⟨d1, d2⟩ := down_other hilt hx H5.out.2.1
                  have HD : Hid (rdIx A (A j).x i' j = rdIx A (A j).x (i' + 1) j ∧ noW A (A j).x i' j) := ⟨d1, d2⟩
                  clear d1 d2 hx
                  generalize (A i').x = X at *
                  generalize hXj : (A j).x = Xj at *
                  clear hXj
                  go_wp2
                  go_quiet (fail)
                  go_wp2
                  go_round
                  case rel =>
                    obtain ⟨h1, _, h3, h4, _⟩ := H5.out
                    exact ⟨i', R, by omega, rfl, rfl, by rw [HD.out.1]; exact h1, HD.out.2, h3.trans ⟨rfl, rfl, rfl, Nat.le_refl _, fun _ _ => rfl⟩, own_keep h4 fun _ _ => rfl⟩
                  case measure => simp [intOf]
          case rest =>
            obtain ⟨ro, rc, wi, R, rfl, rfl, hbl5, hown, hsc, hRj⟩ := hcut
            have HRj : Hid (R.length ≤ j) := hRj
            clear hRj
            have hem : Em w3 wc T nn w4.heap.size V (RS A j).ed (.slice ro R.length rc) R := Em.start (H4.out.keep hbl5) H4.out hown
            have HCc : Hid (∀ i, i < l.length → wc.cell? ⟨ga, i * 3, none⟩ = some (.int .i64 ((A i).u : Int)) ∧ wc.cell? ⟨ga, i * 3 + 2, none⟩ = some (.bool (A i).w)) := by
              intro i hi
              obtain ⟨x1, _, x3⟩ := HCl.out i hi
              have hgl : ga < w4.heap.size := World.block_lt_of_cell? w4 ⟨ga, i * 3, none⟩ x1
              exact ⟨(World.cell?_of_block (hbl5.block ga hgl)).trans x1, (World.cell?_of_block (hbl5.block ga hgl)).trans x3⟩
            have HE : Hid (Em w3 wc T nn w4.heap.size V (RS A j).ed (.slice ro R.length rc) R ∧ Sc A j wi R ∧ T < w4.heap.size) := ⟨hem, hsc, hem.tB⟩
            clear hbl5 hown hsc hem HCl
            have y1 := (HCc.out j hjl).1
            go_upto_region 28 with fail
            go_cut [136] from 88 to 187 (fun s136 wx => ∃ b : Bool, s136 = .bool b ∧ wx = wc ∧ (b = true → ∃ i : Nat, i < j ∧ wi = (i : Int) ∧ emit0 (RS A j).wr (A j) = [((A i).u, (A j).u)]) ∧ (b = false → emit0 (RS A j).wr (A j) = []))
            case first =>
              rcases HE.out.2.1.wr with ⟨h1, h2⟩ | ⟨i, h1, h2, h3⟩
              · subst h1
                have hem0 : Hid (emit0 (RS A j).wr (A j) = []) := if_neg (fun h => by rw [h2] at h; omega)
                clear h2
                go_wp2
                go_meet
                case rel => exact ⟨false, rfl, rfl, (fun h => by cases h), fun _ => hem0.out⟩
              · have hil : (i : Int) < (l.length : Int) := by omega
                have x1 := (HCc.out i (by omega)).1
                by_cases hne : (A i).u = (A j).u
                · have hem0 : Hid (emit0 (RS A j).wr (A j) = []) := if_neg (fun h => by rw [h3, hne] at h; exact h.2 rfl)
                  rw [hne] at x1
                  subst h2
                  clear h3 hne
                  go_wp2
                  go_meet
                  case rel => exact ⟨false, rfl, rfl, (fun h => by cases h), fun _ => hem0.out⟩
                · have hem0 : Hid (emit0 (RS A j).wr (A j) = [((A i).u, (A j).u)]) := by
                    show emit0 (RS A j).wr (A j) = _
                    unfold emit0
                    rw [if_pos (by rw [h3]; omega), h3]
                    rfl
                  have hd : (((A i).u : Int) != ((A j).u : Int)) = true := by simp; omega
                  subst h2
                  clear h3 hne
                  go_wp2
                  go_meet
                  case rel => exact ⟨true, rfl, rfl, (fun _ => ⟨i, h1, rfl, hem0.out⟩), fun h => by cases h⟩
            case rest =>
              obtain ⟨bb, rfl, rfl, hbt, hbf⟩ := hcut
              have HBB : Hid ((bb = true → ∃ i : Nat, i < j ∧ wi = (i : Int) ∧ emit0 (RS A j).wr (A j) = [((A i).u, (A j).u)]) ∧ (bb = false → emit0 (RS A j).wr (A j) = [])) := ⟨hbt, hbf⟩
              clear hbt hbf
              go_upto_if 136 with fail
              go_cut [] from 88 to 187 (fun wx => ∃ V', Em w3 wx T nn w4.heap.size V' ((RS A j).ed ++ emit0 (RS A j).wr (A j)) (.slice ro R.length rc) R)
              case first =>
                cases bb
                · have HM0 : Hid (emit0 (RS A j).wr (A j) = []) := HBB.out.2 rfl
                  clear HBB
                  go_wp2
                  go_meet
                  case rel => exact ⟨V, by rw [HM0.out, List.append_nil]; exact HE.out.1⟩
                · obtain ⟨i, hij, h2, hem⟩ := HBB.out.1 rfl
                  subst h2
                  have HM : Hid (emit0 (RS A j).wr (A j) = [((A i).u, (A j).u)]) := hem
                  clear hem
                  have hil : i < l.length := by omega
                  have hili : (i : Int) < (l.length : Int) := by omega
                  have hfn : (A i).u < nn := H3.out.2.2.2.2.2.2 i hil
                  have hfni : ((A i).u : Int) < (nn : Int) := by omega
                  have x1 := (HCc.out i hil).1
                  have hga : ga < wc.heap.size := World.block_lt_of_cell? wc ⟨ga, i * 3, none⟩ x1
                  have hal : ∀ o, Below wc.heap.size wc (wc.alloc o) := fun o => (Below.refl _ _).alloc (Nat.le_refl _) o
                  have x1a : ∀ o, (wc.alloc o).cell? ⟨ga, i * 3, none⟩ = some (.int .i64 ((A i).u : Int)) := fun o => (World.cell?_of_block ((hal o).block ga hga)).trans x1
                  obtain ⟨vo, vc, hV⟩ := own_val (HE.out.1.ms.tb.own (A i).u hfn)
                  have t1 := (HE.out.1.ms.tb.cell hfn).1
                  rw [hV] at t1
                  have t1a : ∀ o, (wc.alloc o).cell? ⟨T, (A i).u, none⟩ = some (.slice vo (toRow (RS A j).ed (A i).u).length vc) := fun o => (World.cell?_of_block ((hal o).block T (lt_of_block HE.out.1.ms.tb.tab))).trans t1
                  have HO : Hid (wc.ownsRow (T + 1) 3 1 (.slice vo (toRow (RS A j).ed (A i).u).length vc) (toRow (RS A j).ed (A i).u).length (ic (toRow (RS A j).ed (A i).u)) ∧ T + 1 ≤ wc.heap.size ∧ (toRow (RS A j).ed (A i).u).length ≤ 300000 ∧ V (A i).u = .slice vo (toRow (RS A j).ed (A i).u).length vc) := by
                    refine ⟨by rw [← hV]; exact HE.out.1.ms.tb.own (A i).u hfn, HE.out.1.ms.sz, ?_, hV⟩
                    have h1 := toRow_le (RS A j).ed (A i).u
                    have h2 := rs_len (A := A) (N := nn) (j := j) (fun t ht => H3.out.2.2.2.2.2.2 t (by omega)) (by omega)
                    omega
                  have HGa : Hid (ga < wc.heap.size ∧ ga ≤ T) := ⟨hga, by have h1 := (own_ge H3.out.2.2.2.1 ga rfl).2; have h2 := H3.out.2.2.2.2.1; omega⟩
                  clear hV hal hga HBB
                  go_wp2
                  generalize hfu : (A i).u = fu at *
                  go_region_law (refine step_push rfl (.tmp 150) (.tmp 152) rfl (T + 1) (.slice vo (toRow (RS A j).ed fu).length vc) (toRow (RS A j).ed fu) (A j).u (by simp [Act.eval]) wc.heap.size rfl (by simp [Act.eval]) HO.out.1 HO.out.2.1 HO.out.2.2.1 ?_; intro g2 cap2 W7 ho7 hg7; have hx7 := HE.out.1.ms.tb.after hfn (by rw [HO.out.2.2.2]; exact hg7); have z1 := hx7.1; have z2 := hx7.2; rw [HO.out.2.2.2] at z1; have z3 : W7.cell? ⟨ga, i * 3, none⟩ = some (.int .i64 (fu : Int)) := (World.cell?_of_block (hg7.block ga HGa.out.1 (fun e => by have h1 := (own_ge HO.out.1 ga e).1; have h2 := HGa.out.2; omega))).trans x1; have H7 : Hid (_ ∧ _) := ⟨ho7, hg7⟩; clear hx7 ho7 hg7)
                  all_goals
                    go_wp2
                    go_meet
                    case rel =>
                      refine ⟨upd V fu (.slice (some ⟨g2, 0, none⟩) ((toRow (RS A j).ed fu).length + 1) cap2), ?_⟩
                      rw [HM.out]
                      exact HE.out.1.push hfn (by rw [HO.out.2.2.2]; exact H7.out.2) H7.out.1
              case rest =>
                obtain ⟨V2, hem2⟩ := hcut
                have hac2 := ac_later H3.out.2.2.2.1 H3.out.2.2.2.2.1 hem2.ms.bel (by omega)
                rw [← HAq.out] at hac2
                obtain ⟨ga', e', hc2⟩ := hac2
                cases e'
                have HE2 : Hid (Em w3 wc T nn w4.heap.size V2 ((RS A j).ed ++ emit0 (RS A j).wr (A j)) (.slice ro R.length rc) R) := hem2
                have y3 := (hc2 j hjl).2.2
                clear hc2 hem2 y1 HCc
                cases hw : (A j).w
                · rw [hw] at y3
                  have HR : Hid ((RS A (j + 1)).ed = (RS A j).ed ++ emit0 (RS A j).wr (A j)) := by
                    show (RS A (j + 1)).ed = _
                    rw [RS_succ]
                    show _ ++ (_ ++ if (A j).w then _ else []) = _
                    rw [hw]
                    simp
                  go_wp2
                  go_round
                  case rel => exact ⟨j + 1, V2, by omega, by go_num, by rw [HR.out]; exact HE2.out.ms⟩
                  case measure => simp [intOf]; omega
                · rw [hw] at y3
                  have HR : Hid ((RS A (j + 1)).ed = (RS A j).ed ++ emit0 (RS A j).wr (A j) ++ emitR (R.reverse.map fun t => (A t).u) (A j).u) := by
                    show (RS A (j + 1)).ed = _
                    rw [RS_succ, ← HE.out.2.1.rd]
                    show _ ++ (_ ++ if (A j).w then _ else []) = _
                    rw [hw, List.append_assoc]
                    rfl
                  have hRl : R.length ≤ 300000 := by have := HRj.out; omega
                  have hRi : (R.length : Int) ≤ 300000 := by omega
                  go_wp2
                  go_loopw [24] (fun kv wx => ∃ (s : Nat) (V' : Nat → Value), s ≤ R.length ∧ kv = .int .i64 ((R.length : Int) - (s : Int) - 1) ∧ Em w3 wx T nn w4.heap.size V' ((RS A j).ed ++ emit0 (RS A j).wr (A j) ++ emitR ((R.reverse.map fun t => (A t).u).take s) (A j).u) (.slice ro R.length rc) R) (fun kv _ => (intOf kv + 1).toNat)
                  case atStart => exact ⟨0, V2, Nat.zero_le _, by simp, by rw [List.take_zero]; show Em w3 wc T nn w4.heap.size V2 (_ ++ []) _ _; rw [List.append_nil]; exact HE2.out⟩
                  case round =>
                    rename World => w6
                    obtain ⟨s, V', hs, rfl, hem⟩ := hrel
                    by_cases hsl : s < R.length
                    · obtain ⟨q, hq⟩ : ∃ q, q = R.length - 1 - s := ⟨_, rfl⟩
                      have hqi : (R.length : Int) - (s : Int) - 1 = (q : Int) := by omega
                      have hql : q < R.length := by omega
                      have hqli : (q : Int) < (R.length : Int) := by omega
                      obtain ⟨t, ht⟩ : ∃ t, R[q]? = some t := ⟨_, List.getElem?_eq_getElem hql⟩
                      have htj : t < j := HE.out.2.1.lt t (List.mem_of_getElem? ht)
                      have htl : t < l.length := by omega
                      have htli : (t : Int) < (l.length : Int) := by omega
                      obtain ⟨gr, rc', cu, ev, _⟩ := own_is hem.own (by omega)
                      cases ev
                      have r1 := (own_cell hem.own (j := q) (u := .int .i64 (t : Int)) (by simp [ic, ht])).1
                      have hac3 := ac_later H3.out.2.2.2.1 H3.out.2.2.2.2.1 hem.ms.bel (by omega)
                      rw [← HAq.out] at hac3
                      obtain ⟨ga', e', hc3⟩ := hac3
                      cases e'
                      have x1 := (hc3 t htl).1
                      have hnx : (R.reverse.map fun t => (A t).u)[s]? = some (A t).u := by
                        rw [List.getElem?_map, List.getElem?_reverse hsl, ← hq, ht]; rfl
                      have HX : Hid (emitR ((R.reverse.map fun t => (A t).u).take (s + 1)) (A j).u = _) := emitR_next hnx
                      have H6 : Hid (Em w3 w6 T nn w4.heap.size V' ((RS A j).ed ++ emit0 (RS A j).wr (A j) ++ emitR ((R.reverse.map fun t => (A t).u).take s) (A j).u) (.slice (some ⟨gr, 0, none⟩) R.length rc) R) := hem
                      rw [hqi]
                      have HQ : Hid (q = R.length - 1 - s) := hq
                      clear hc3 hnx hem hqi hq
                      by_cases hne : (A t).u = (A j).u
                      · have HX2 : Hid (emitR ((R.reverse.map fun t => (A t).u).take (s + 1)) (A j).u = emitR ((R.reverse.map fun t => (A t).u).take s) (A j).u) := by
                          have := HX.out
                          rw [if_pos hne, List.append_nil] at this
                          exact this
                        rw [hne] at x1
                        clear hne HX
                        go_wp2
                        go_round
                        case rel => exact ⟨s + 1, V', by omega, by have := HQ.out; go_num, by rw [HX2.out]; exact H6.out⟩
                        case measure => simp [intOf]
                      · have HX2 : Hid (emitR ((R.reverse.map fun t => (A t).u).take (s + 1)) (A j).u = emitR ((R.reverse.map fun t => (A t).u).take s) (A j).u ++ [((A t).u, (A j).u)]) := by
                          have := HX.out
                          rw [if_neg hne] at this
                          exact this
                        have hd : (((A t).u : Int) != ((A j).u : Int)) = true := by simp; omega
                        have hfn : (A t).u < nn := H3.out.2.2.2.2.2.2 t htl
                        have hfni : ((A t).u : Int) < (nn : Int) := by omega
                        clear hne HX
                        obtain ⟨D, hD⟩ : ∃ D, D = (RS A j).ed ++ emit0 (RS A j).wr (A j) ++ emitR ((R.reverse.map fun t => (A t).u).take s) (A j).u := ⟨_, rfl⟩
                        rw [← hD] at H6
                        obtain ⟨vo, vc, hV⟩ := own_val (H6.out.ms.tb.own (A t).u hfn)
                        have t1 := (H6.out.ms.tb.cell hfn).1
                        rw [hV] at t1
                        have HO : Hid (w6.ownsRow (T + 1) 3 1 (.slice vo (toRow D (A t).u).length vc) (toRow D (A t).u).length (ic (toRow D (A t).u)) ∧ T + 1 ≤ w6.heap.size ∧ (toRow D (A t).u).length ≤ 300000 ∧ V' (A t).u = .slice vo (toRow D (A t).u).length vc) := by
                          refine ⟨by rw [← hV]; exact H6.out.ms.tb.own (A t).u hfn, H6.out.ms.sz, ?_, hV⟩
                          exact row_bound (fun i hi => H3.out.2.2.2.2.2.2 i (by omega)) (by omega) HR.out hD _
                        have HDD : Hid (D = (RS A j).ed ++ emit0 (RS A j).wr (A j) ++ emitR ((R.reverse.map fun t => (A t).u).take s) (A j).u) := hD
                        clear hV hD
                        go_wp2_with (at_builtin; refine wpList_push rfl (.tmp 183) (.tmp 185) rfl (T + 1) (.slice vo (toRow D (A t).u).length vc) (toRow D (A t).u) (A j).u rfl w6.heap.size rfl rfl HO.out.1 HO.out.2.1 HO.out.2.2.1 ?_; intro g2 cap2 W7 ho7 hg7; have hx7 := H6.out.ms.tb.after hfn (by rw [HO.out.2.2.2]; exact hg7); have z1 := hx7.1; have z2 := hx7.2; rw [HO.out.2.2.2] at z1; have H7 : Hid (_ ∧ _) := ⟨ho7, hg7⟩; clear hx7 ho7 hg7)
                        go_round
                        case rel =>
                          refine ⟨s + 1, upd V' (A t).u (.slice (some ⟨g2, 0, none⟩) ((toRow D (A t).u).length + 1) cap2), by omega, by have := HQ.out; go_num, ?_⟩
                          rw [HX2.out, ← List.append_assoc, ← HDD.out]
                          exact H6.out.push hfn (by rw [HO.out.2.2.2]; exact H7.out.2) H7.out.1
                        case measure => simp [intOf]
                    · obtain rfl : R.length = s := by omega
                      have H6 : Hid (Em w3 w6 T nn w4.heap.size V' (RS A (j + 1)).ed (.slice ro R.length rc) R) := by
                        have h1 := hem
                        rw [List.take_of_length_le (by simp), ← HR.out] at h1
                        exact h1
                      clear hem
                      have hneg : decide ((0 : Int) ≤ (R.length : Int) - (R.length : Int) - 1) = false := decide_eq_false (by omega)
                      go_wp2
                      go_round
                      case rel => exact ⟨j + 1, V', by omega, by go_num, H6.out.ms⟩
                      case measure => simp [intOf]; omega
        · obtain rfl : l.length = j := by omega
          have HRa : Hid ((RS A l.length).ed = (runA l).ed) := by
            show (RS A l.length).ed = _
            rw [HAq.out, RS_all]
          obtain ⟨L, hL⟩ : ∃ L, L = (runA l).ed := ⟨_, rfl⟩
          have hLa : L = (runA (accL (rkI E P n) tx it kd m)).ed := by rw [hL, H3.out.2.2.2.2.2.1]
          have hms4 : Ms w3 w4 T nn V L := by
            have h := hms
            rw [HRa.out, ← hL] at h
            exact h
          have hN4 : Nb w4 hb n I m ta tc eb pb so sc nm E P tx it kd := H3.out.1.keep (hms.bel.mono H3.out.2.2.2.2.1)
          have hrb := rk_bounds (E := E) H1.out.2.1.plt H1.out.2.1.inj
          rw [← HN.out.1] at hrb
          have hHb : Hb n I m (rkI E P n) tx it kd := ⟨H1.out.2.1.tlt, H1.out.2.1.ilt, H1.out.2.1.klt, fun u hu => ⟨by have := (hrb u hu).1; have := HN.out.2; omega, (hrb u hu).2⟩⟩
          have hek := edges_ok hHb hm5 (fun u hu => (hrb u hu).1) hLa
          have H5 : Hid (Nb w4 hb n I m ta tc eb pb so sc nm E P tx it kd ∧ Ms w3 w4 T nn V L ∧ Below w.heap.size w w4 ∧ L = (runA (accL (rkI E P n) tx it kd m)).ed ∧ L.length ≤ 262656 ∧ (∀ e ∈ L, e.1 < nn ∧ e.2 < nn) ∧ atF nn (frL L) L.length nn = L.length) := ⟨hN4, hms4, H3.out.2.1.trans (hms.bel.mono (Nat.le_trans H3.out.2.1.size H3.out.2.2.2.2.1)), hLa, hek⟩
          clear HRa hL hLa hms4 hN4 hrb hHb hek hms H4
          go_wp2_with fail
          refine (newg_any w4 hb n I m ta tc eb pb so sc nm E P tx it kd H5.out.1 H1.out.2.1 hn H1.out.2.2.2.1 hm5 L H5.out.2.2.2.1).mono ?_
          rintro e w5 ⟨pg, nb, rkb, ab, vb, rfl, hgn⟩
          have htl := tl_of H5.out.2.1 hgn HN.out.1 H5.out.2.2.2.2.1 H5.out.2.2.2.2.2.1 H5.out.2.2.2.2.2.2
          have g1 : w5.cell? ⟨pg, 1, none⟩ = some (.slice (some ⟨ab, 0, none⟩) ((kept E P n).length + 1) ((kept E P n).length + 1)) := cell_of_row _ _ _ _ _ _ hgn.g
          have g2 : w5.cell? ⟨pg, 2, none⟩ = some (.slice (some ⟨vb, 0, none⟩) L.length L.length) := cell_of_row _ _ _ _ _ _ hgn.g
          rw [← HN.out.1] at g1
          have HW : Hid (Below w.heap.size w w5) := H5.out.2.2.1.trans (hgn.bel.mono H5.out.2.2.1.size)
          have hnn : nn ≤ 512 := by have := HN.out.2; omega
          clear hgn H5 H3 HAq
          generalize atF nn (frL L) L.length = at_ at *
          generalize valF nn (frL L) (toL L) L.length L.length = val at *
          generalize L.length = t at *
          have HT : Hid (Tl w5 T nn ab vb t at_ val) := htl
          have q0 := htl.ra.cell (i := 0) (by omega)
          have qn := htl.ra.cell (i := nn) (by omega)
          rw [htl.a0] at q0
          rw [htl.an] at qn
          have htb := htl.tle
          have htbi : (t : Int) ≤ 262656 := by omega
          have hnni : (nn : Int) ≤ 512 := by omega
          clear htl
          go_wp2
          go_loopw [29] (fun i wr => ∃ u q : Nat, u ≤ nn ∧ i = .int .i64 (u : Int) ∧ wr = w5.drewN q) (fun i _ => nn - (intOf i).toNat)
          case atStart => exact ⟨0, 0, Nat.zero_le _, rfl, rfl⟩
          case round =>
            obtain ⟨u, q, hu, rfl, rfl⟩ := hrel
            by_cases hul : u < nn
            · have hui : (u : Int) < (nn : Int) := by omega
              have hu1 : (u : Int) < (nn : Int) + 1 := by omega
              have x1 := HT.out.ra.cell (i := u) (by omega)
              have x2 := HT.out.ra.cell (i := u + 1) (by omega)
              have hmo := HT.out.mono u hul
              generalize at_ (u + 1) = b at *
              generalize at_ u = a at *
              have hd : decide (b < a) = false := decide_eq_false (by omega)
              go_wp2
              go_quiet (fail)
              go_wp2
              go_round
              case rel => exact ⟨u + 1, _, by omega, by go_num, rfl⟩
              case measure => simp [intOf]; omega
            · obtain rfl : nn = u := by omega
              go_wp2
              go_loopw [30] (fun i wr => ∃ u q : Nat, u ≤ nn ∧ i = .int .i64 (u : Int) ∧ wr = w5.drewN q) (fun i _ => nn - (intOf i).toNat)
              case atStart => exact ⟨0, _, Nat.zero_le _, rfl, rfl⟩
              case round =>
                obtain ⟨u, q, hu, rfl, rfl⟩ := hrel
                by_cases hul : u < nn
                · have hui : (u : Int) < (nn : Int) := by omega
                  have hu1 : (u : Int) < (nn : Int) + 1 := by omega
                  have x1 := HT.out.ra.cell (i := u) (by omega)
                  have x2 := HT.out.ra.cell (i := u + 1) (by omega)
                  have hmo := HT.out.mono u hul
                  obtain ⟨vo, vc, x3, hin⟩ := HT.out.row u hul
                  have HQ : Hid (∀ j, Calls Yba.prog 12 #[.slice (if t = at_ u then some ⟨vb, 0, none⟩ else some ⟨vb, at_ u, none⟩) (at_ (u + 1) - at_ u) (t - at_ u), .slice vo (at_ (u + 1) - at_ u) vc] (w5.drewN (q + j)) fun e w' => e = .returned (.bool true) ∧ ∃ k, w' = w5.drewN (q + k)) := fun j => HT.out.eqIf hul hin vc q j
                  clear hin
                  generalize at_ (u + 1) = b at *
                  generalize at_ u = a at *
                  have h3 : (a : Int) ≤ (b : Int) := by omega
                  have h4 : (b : Int) ≤ (t : Int) := by omega
                  go_wp2
                  go_quiet ((go_at_call 12; with_reducible exact HQ.out _))
                  go_wp2
                  go_round
                  case rel => exact ⟨u + 1, _, by omega, by go_num, rfl⟩
                  case measure => simp [intOf]; omega
                · obtain rfl : nn = u := by omega
                  go_wp2
                  go_ret
                  exact ⟨rfl, HW.out.trans ((below_draw5 w5 _).mono HW.out.size)⟩
end Go.Proofs.Ybulkcxvo
