/-
  The walk over zzs4967abuild.
-/
import Derived.Test.YbulkcxvoBuildS
import Derived.BigRegion
import Derived.Deep.RegionWith
import Derived.Deep.Cut
import Derived.Deep.CutRange
namespace Go.Proofs.Ybulkcxvo
open Go.RowKit

theorem made_ur (n : Nat) : madeCells #[.int .u8 0] n = ur n (fun _ => 0) := by
  apply Array.ext_getElem?
  intro j
  by_cases hj : j < n
  · simp [madeCells, ur, hj, Nat.mod_one]
  · simp [madeCells, ur, hj]
theorem info30 : (Yba.prog.info? 30).map (fun i => (i.zero, i.size, i.bytes)) = some (some (.int .u8 0), 1, 1) := by kernel_rfl
theorem make33 (n : Nat) (hn : n ≤ 1000000) (w : World) : (Instr.makeSlice 33 (.int .i64 (n : Int)) (.int .i64 (n : Int))).run Yba.prog w = .ok (.slice (some ⟨w.heap.size, 0, none⟩) n n) (w.alloc (.cells (ur n fun _ => 0) 30)) := by
  obtain ⟨i, hi, hz, hs, hb⟩ := info_parts info30
  have := run_make (P := Yba.prog) w 33 30 i _ Yba.underlying33 hi hz .i64 .i64 n n (by omega) (Int.le_refl _) (by rw [hb]; omega) (by omega)
  rw [hs, Nat.mul_one] at this
  rw [← made_ur]
  exact this

/-- A numbered history, its plain bounds with it. -/
def Bx (w w' : World) (hb n on : Nat) (nm : Nat → ByteArray) : Prop := ∃ I m ta tc eb pb so sc E P tx it kd, I ≤ 16 ∧ m ≤ on ∧ (so = none → m = 0 ∧ sc = 0) ∧ Nb w' hb n I m ta tc eb pb so sc nm E P tx it kd ∧ Pm n I m E P tx it kd ∧ Below w.heap.size w w'

set_option maxRecDepth 100000 in
set_option maxHeartbeats 4000000 in
theorem build_any (w : World) (n nc en ec pn pc on oc iv : Nat) (na ea pa oa : Option Addr) (nm : Nat → ByteArray) (hn : n ≤ 512) (hon : on ≤ 512) (hiv : iv < 256) (h0 : na = none → n = 0 ∧ nc = 0) (hnm : Strs w na n nm) (ev pv f g h : Nat → Nat) (he : U8s w ea en ev) (hp : U16s w pa pn pv) (hops : Ops w oa on f g h) :
    Calls Yba.prog 6 #[.slice na n nc, .slice ea en ec, .slice pa pn pc, .slice oa on oc, .int .u8 (iv : Int)] w fun e w' => ∃ hb, e = .returned (.pointer (some ⟨hb, 0, none⟩)) ∧ Bx w w' hb n on nm := by
  have hni : (n : Int) ≤ 512 := by omega
  have hmk := make33 n (by omega)
  have hmk2 := make34 n (by omega)
  have HN : Hid (Strs w na n nm ∧ (na = none → n = 0 ∧ nc = 0)) := ⟨hnm, h0⟩
  have HV : Hid (U8s w ea en ev ∧ U16s w pa pn pv ∧ Ops w oa on f g h) := ⟨he, hp, hops⟩
  clear he hp hops
  have HA : Hid ((∀ o, Strs (w.alloc o).drew na n nm) ∧ ∀ o o', Strs ((w.alloc o).alloc o').drew na n nm) := ⟨fun o => (hnm.keep ((Below.refl _ w).alloc (Nat.le_refl _) o)).keep (below_drew _), fun o o' => (hnm.keep (((Below.refl _ w).alloc (Nat.le_refl _) o).alloc (by simp) o')).keep (below_drew _)⟩
  have hivi : (iv : Int) < 256 := by omega
  obtain ⟨I, hI⟩ : ∃ I, I = iv % 16 + 1 := ⟨_, rfl⟩
  have HI : Hid (IntKind.i64.wrap ((IntKind.i64.wrap (iv : Int)).tmod 16 + 1) = (I : Int) ∧ I = iv % 16 + 1) := by
    refine ⟨?_, hI⟩
    have key : ∀ i : Fin 256, IntKind.i64.wrap ((IntKind.i64.wrap ((i : Nat) : Int)).tmod 16 + 1) = (((i : Nat) % 16 + 1 : Nat) : Int) := by decide +kernel
    rw [hI]
    exact key ⟨iv, hiv⟩
  clear hI
  clear hnm h0
  go_enter Yba.func6, Yba.ntmps6
  go_upto_region 2 with fail
  go_cut [12] from 25 (fun s12 wc => ∃ hb ta tc eb pb, s12 = .pointer (some ⟨hb, 0, none⟩) ∧ B0 w wc hb n I 0 ta tc eb pb none 0 nm (fun _ => 0) (fun _ => 0))
  case first =>
    go_region_with (go_at_call 16; refine (clone_any _ na n nc nm HN.out.2 hn (by first | exact HN.out.1 | exact HA.out.1 _ | exact HA.out.2 _ _)).mono ?_; rintro e w1 ⟨ta, tc, rfl, hc1, hb1⟩; have HC : Hid (_ ∧ _) := ⟨hc1, hb1⟩; clear hc1 hb1)
    all_goals
      go_wp2_with fail
      go_meet
      case rel =>
        rw [HI.out.1]
        first
          | exact ⟨_, ta, tc, _, _, rfl, b0_0E w w1 n I ta tc nm HC.out.1 HC.out.2⟩
          | exact ⟨_, ta, tc, _, _, rfl, b0_0P w w1 n I ta tc nm HC.out.1 HC.out.2⟩
          | exact ⟨_, ta, tc, _, _, rfl, b0_1E w w1 n I ta tc nm HC.out.1 HC.out.2⟩
          | exact ⟨_, ta, tc, _, _, rfl, b0_1P w w1 n I ta tc nm HC.out.1 HC.out.2⟩
          | exact ⟨_, ta, tc, _, _, rfl, b0_2E w w1 n I ta tc nm HC.out.1 HC.out.2⟩
          | exact ⟨_, ta, tc, _, _, rfl, b0_2P w w1 n I ta tc nm HC.out.1 HC.out.2⟩
  case rest =>
    clear hmk hmk2 HA HN
    obtain ⟨hb, ta, tc, eb, pb, rfl, hb0⟩ := hcut
    have HI2 : Hid (1 ≤ I ∧ I ≤ 16) := by have := HI.out.2; exact ⟨by omega, by omega⟩
    clear HI
    have hal : Below wc.heap.size wc (wc.alloc (.cells #[.int .u8 0, .int .u8 3, .int .u8 4] 82)) := (Below.refl _ _).alloc (Nat.le_refl _) _
    have H1 : Hid (B0 w (wc.alloc (.cells #[.int .u8 0, .int .u8 3, .int .u8 4] 82)) hb n I 0 ta tc eb pb none 0 nm (fun _ => 0) (fun x => if x < 0 then x else 0) ∧ (wc.alloc (.cells #[.int .u8 0, .int .u8 3, .int .u8 4] 82)).heap[wc.heap.size]? = some (.cells #[.int .u8 0, .int .u8 3, .int .u8 4] 82 (0, 0))) := ⟨(hb0.keep hal).congrP fun i _ => by simp, heap_alloc_new wc _⟩
    have HT : Hid (hb < wc.heap.size ∧ eb < wc.heap.size ∧ pb < wc.heap.size) := hb0.lts
    clear hal hb0
    go_wp2
    obtain ⟨W1, hW1⟩ : ∃ W1, W1 = wc.alloc (.cells #[.int .u8 0, .int .u8 3, .int .u8 4] 82) := ⟨_, rfl⟩
    rw [← hW1] at H1 ⊢
    clear hW1
    generalize wc.heap.size = tb at *
    go_loopw [14] (fun i wr => ∃ (k : Nat) (E : Nat → Nat), k ≤ n ∧ i = .int .i64 (k : Int) ∧ B0 w wr hb n I 0 ta tc eb pb none 0 nm E (fun x => if x < k then x else 0) ∧ wr.heap[tb]? = some (.cells #[.int .u8 0, .int .u8 3, .int .u8 4] 82 (0, 0)) ∧ (∀ x, E x < 256)) (fun i _ => n - (intOf i).toNat)
    case atStart => exact ⟨0, _, Nat.zero_le _, rfl, H1.out.1, H1.out.2, fun _ => by show 0 < 256; omega⟩
    case round =>
      clear H1
      rename World => w1
      obtain ⟨k, E, hk, rfl, hb0, htb, hE⟩ := hrel
      by_cases hlt : k < n
      · have hki : (k : Int) < (n : Int) := by omega
        have hN1 := HT.out.2.1
        have hN2 := HT.out.2.2
        obtain ⟨ee, hee, hel⟩ : ∃ ee : Nat, (ee = if k < en then ev k else 0) ∧ ee < 256 := by
          refine ⟨_, rfl, ?_⟩
          split
          · rename_i hke
            obtain ⟨b, off, _, _, hc⟩ := HV.out.1 (by omega)
            exact (hc k hke).2
          · omega
        obtain ⟨v, hv, hvc⟩ := tab3 htb (show ee % 3 < 3 by omega)
        have c1 : w1.cell? ⟨hb, 1, none⟩ = some (.slice (some ⟨eb, 0, none⟩) n n) := (hb0.cell 1).1
        have e1 := hb0.ends.cell hlt
        have e2 := hb0.ends.fz k
        have h2 := hb0.setE k v
        have htm : Int.tmod (ee : Int) 3 = ((ee % 3 : Nat) : Int) := rfl
        have hti : ((ee % 3 : Nat) : Int) < 3 := by omega
        have heei : (ee : Int) < 256 := by omega
        have c2 : (w1.setCell ⟨eb, k, none⟩ (.int .u8 (v : Int))).cell? ⟨hb, 2, none⟩ = some (.slice (some ⟨pb, 0, none⟩) n n) := (h2.cell 2).1
        have p1 := h2.byN.cell hlt
        have p2 := h2.byN.fz k
        have H2 : Hid (B0 w (w1.setCell ⟨eb, k, none⟩ (.int .u8 (v : Int))) hb n I 0 ta tc eb pb none 0 nm (upd E k v) (fun x => if x < k then x else 0) ∧ w1.heap[tb]? = some (.cells #[.int .u8 0, .int .u8 3, .int .u8 4] 82 (0, 0)) ∧ (∀ x, E x < 256) ∧ v < 256) := ⟨h2, htb, hE, hv⟩
        have hbw := hb0.bel
        clear h2 hb0 htb hE
        by_cases hke : k < en
        · have hkei : (k : Int) < (en : Int) := by omega
          obtain ⟨b, off, rfl, hbl, hc⟩ := HV.out.1 (by omega)
          have hc1 : w1.cell? ⟨b, off + k, none⟩ = some (.int .u8 (ee : Int)) := by
            rw [hee, if_pos hke, ← (hc k hke).1]
            exact World.cell?_of_block (hbw.block b hbl)
          clear hc hee
          go_wp2
          go_region
          obtain ⟨W2, hW2⟩ : ∃ W2, W2 = w1.setCell ⟨eb, k, none⟩ (.int .u8 (v : Int)) := ⟨_, rfl⟩
          have HT2 : Hid (W2.heap[tb]? = some (.cells #[.int .u8 0, .int .u8 3, .int .u8 4] 82 (0, 0))) := by
            show W2.heap[tb]? = _
            rw [hW2, heap_setCell_other _ _ _ _ (show tb ≠ eb by omega)]
            exact H2.out.2.1
          rw [← hW2] at H2 c2 p1 p2 ⊢
          clear hW2 c1 e1 e2 hvc
          go_wp2
          go_round
          case rel =>
            have h3 := (H2.out.1.setP k k).keep (below_drew _)
            refine ⟨k + 1, upd E k v, by omega, by go_num, h3.congrP fun i _ => ?_, ?_, fun x => ?_⟩
            · by_cases e : i = k
              · rw [e, upd_same, if_pos (by omega)]
              · rw [upd_ne _ _ e]
                by_cases hi : i < k
                · rw [if_pos hi, if_pos (by omega)]
                · rw [if_neg hi, if_neg (by omega)]
            · show (W2.setCell _ _).heap[tb]? = _
              rw [heap_setCell_other _ _ _ _ (show tb ≠ pb by omega)]
              exact HT2.out
            · by_cases e : x = k
              · rw [e, upd_same]; exact H2.out.2.2.2
              · rw [upd_ne _ _ e]; exact H2.out.2.2.1 x
          case measure => simp [intOf]; omega
        · have hkei : decide ((k : Int) < (en : Int)) = false := decide_eq_false (by omega)
          rw [if_neg hke] at hee
          subst hee
          simp only [Nat.zero_mod] at hvc
          clear htm hti heei
          go_wp2
          go_region
          obtain ⟨W2, hW2⟩ : ∃ W2, W2 = w1.setCell ⟨eb, k, none⟩ (.int .u8 (v : Int)) := ⟨_, rfl⟩
          have HT2 : Hid (W2.heap[tb]? = some (.cells #[.int .u8 0, .int .u8 3, .int .u8 4] 82 (0, 0))) := by
            show W2.heap[tb]? = _
            rw [hW2, heap_setCell_other _ _ _ _ (show tb ≠ eb by omega)]
            exact H2.out.2.1
          rw [← hW2] at H2 c2 p1 p2 ⊢
          clear hW2 c1 e1 e2 hvc
          go_wp2
          go_round
          case rel =>
            have h3 := (H2.out.1.setP k k).keep (below_drew _)
            refine ⟨k + 1, upd E k v, by omega, by go_num, h3.congrP fun i _ => ?_, ?_, fun x => ?_⟩
            · by_cases e : i = k
              · rw [e, upd_same, if_pos (by omega)]
              · rw [upd_ne _ _ e]
                by_cases hi : i < k
                · rw [if_pos hi, if_pos (by omega)]
                · rw [if_neg hi, if_neg (by omega)]
            · show (W2.setCell _ _).heap[tb]? = _
              rw [heap_setCell_other _ _ _ _ (show tb ≠ pb by omega)]
              exact HT2.out
            · by_cases e : x = k
              · rw [e, upd_same]; exact H2.out.2.2.2
              · rw [upd_ne _ _ e]; exact H2.out.2.2.1 x
          case measure => simp [intOf]; omega
      · obtain rfl : n = k := by omega
        have H2 : Hid (B0 w w1 hb n I 0 ta tc eb pb none 0 nm E (fun x => x) ∧ ∀ x, E x < 256) := ⟨hb0.congrP fun i hi => if_pos hi, hE⟩
        clear hb0 htb hE HT
        go_upto_if 73 with fail
        go_cut [] from 25 (fun wx => ∃ P, B0 w wx hb n I 0 ta tc eb pb none 0 nm E P ∧ Perm n P ∧ ∀ x, E x < 256)
        case first =>
          by_cases hpn : pn = 0
          · subst hpn
            go_wp2
            go_meet
            case rel => exact ⟨_, H2.out.1, perm_id n, H2.out.2⟩
          · have hpi : (0 : Int) < (pn : Int) := by omega
            obtain ⟨b, off, rfl, hbl, hc⟩ := HV.out.2.1 (by omega)
            have HPV : Hid (∀ i, i < pn → w.cell? ⟨b, off + i, none⟩ = some (.int .u16 (pv i : Int)) ∧ pv i < 65536) := hc
            clear hc
            go_wp2
            go_loopw [16] (fun i wr => ∃ (k : Nat) (P : Nat → Nat), k ≤ n ∧ i = .int .i64 ((k : Int) - 1) ∧ B0 w wr hb n I 0 ta tc eb pb none 0 nm E P ∧ Perm n P) (fun i _ => (intOf i).toNat)
            case atStart => exact ⟨n, _, Nat.le_refl _, rfl, H2.out.1, perm_id n⟩
            case round =>
              rename World => w2
              obtain ⟨k, P, hk, rfl, hb0, hP⟩ := hrel
              have H3 : Hid (B0 w w2 hb n I 0 ta tc eb pb none 0 nm E P ∧ Perm n P) := ⟨hb0, hP⟩
              by_cases hk2 : 2 ≤ k
              · obtain ⟨i', hi'⟩ : ∃ i', k = i' + 1 := ⟨k - 1, by omega⟩
                have hki : (k : Int) - 1 = (i' : Int) := by omega
                have hpos : (0 : Int) < (i' : Int) := by omega
                have hin : i' < n := by omega
                have hini : (i' : Int) < (n : Int) := by omega
                have hm1 : Int.tmod (i' : Int) (pn : Int) = ((i' % pn : Nat) : Int) := rfl
                have hmb : i' % pn < pn := Nat.mod_lt _ (by omega)
                have hmbi : ((i' % pn : Nat) : Int) < (pn : Int) := by omega
                have hpc := HPV.out (i' % pn) hmb
                have pvc : w2.cell? ⟨b, off + i' % pn, none⟩ = some (.int .u16 (pv (i' % pn) : Int)) := (World.cell?_of_block (hb0.bel.block b hbl)).trans hpc.1
                have pvb := hpc.2
                have hm2 : Int.tmod (pv (i' % pn) : Int) ((i' : Int) + 1) = ((pv (i' % pn) % (i' + 1) : Nat) : Int) := rfl
                have hjb : pv (i' % pn) % (i' + 1) < i' + 1 := Nat.mod_lt _ (by omega)
                have hjn : pv (i' % pn) % (i' + 1) < n := by omega
                have hjni : ((pv (i' % pn) % (i' + 1) : Nat) : Int) < (n : Int) := by omega
                have c2 : w2.cell? ⟨hb, 2, none⟩ = some (.slice (some ⟨pb, 0, none⟩) n n) := (hb0.cell 2).1
                have p1 := hb0.byN.cell hin
                have p2 := hb0.byN.fz i'
                have p3 := hb0.byN.cell hjn
                clear hb0 hP hpc
                rw [hki]
                have HKI : Hid (k = i' + 1 ∧ i' < n) := ⟨hi', hin⟩
                clear hi' hki hk2 hk hmb hin
                generalize hjj : pv (i' % pn) % (i' + 1) = j at *
                clear hjj
                generalize pv (i' % pn) = pq at *
                generalize i' % pn = q at *
                go_wp2
                have d2 : (w2.setCell ⟨pb, i', none⟩ (.int .i64 (P j : Int))).cell? ⟨hb, 2, none⟩ = some (.slice (some ⟨pb, 0, none⟩) n n) := ((H3.out.1.setP i' (P j)).cell 2).1
                have d3 := (H3.out.1.setP i' (P j)).byN.cell hjn
                have d4 := (H3.out.1.setP i' (P j)).byN.fz j
                go_region
                obtain ⟨W3, hW3⟩ : ∃ W3, W3 = w2.setCell ⟨pb, i', none⟩ (.int .i64 (P j : Int)) := ⟨_, rfl⟩
                have H4 : Hid (B0 w W3 hb n I 0 ta tc eb pb none 0 nm E (upd P i' (P j))) := by rw [hW3]; exact H3.out.1.setP i' (P j)
                rw [← hW3] at d2 d3 d4 ⊢
                clear hW3 p1 p2 p3 c2 pvc
                go_wp2
                go_round
                case rel =>
                  refine ⟨i', upd (upd P i' (P j)) j (P i'), by have := HKI.out.2; omega, by go_num, ?_, H3.out.2.swap HKI.out.2 hjn⟩
                  exact (H4.out.setP j (P i')).keep (below_drew _)
                case measure => simp [intOf]; have := HKI.out.1; omega
              · have hneg : decide ((0 : Int) < (k : Int) - 1) = false := decide_eq_false (by omega)
                clear hb0 hP
                go_wp2
                go_meet
                case rel => exact ⟨P, H3.out.1, H3.out.2, H2.out.2⟩
        case rest =>
          clear H2 w1
          obtain ⟨P, hb0, hP, hE⟩ := hcut
          obtain ⟨A, hA, hmk⟩ := make28c on (by omega)
          have honi : (on : Int) ≤ 512 := by omega
          obtain ⟨B, hB⟩ : ∃ B, B = wc.heap.size := ⟨_, rfl⟩
          have hlts := hb0.lts
          have hal : Below wc.heap.size wc (wc.alloc (.cells A 32)) := (Below.refl _ _).alloc (Nat.le_refl _) _
          have HB : Hid (hb < B ∧ eb < B ∧ pb < B ∧ (∀ b off, 0 < n → ta = some ⟨b, off, none⟩ → b < B) ∧ w.heap.size ≤ B) := by
            rw [hB]
            refine ⟨hlts.1, hlts.2.1, hlts.2.2, fun b off hn e => ?_, hb0.bel.size⟩
            obtain ⟨b', off', e', hl, _⟩ := hb0.nam hn
            rw [e] at e'
            cases e'
            exact hl
          have HPm : Hid (Perm n P ∧ (∀ x, E x < 256)) := ⟨hP, hE⟩
          have H2 : Hid (B0 w (wc.alloc (.cells A 32)) hb n I 0 ta tc eb pb none 0 nm E P ∧ (wc.alloc (.cells A 32)).ownsRow B 32 3 (.slice (some ⟨B, 0, none⟩) 0 on) 0 [] ∧ (wc.alloc (.cells A 32)).heap.size = B + 1) := by
            refine ⟨hb0.keep hal, ⟨rfl, .inr ⟨B, on, A, rfl, Nat.le_refl _, by rw [hB]; exact heap_alloc_new wc _, Nat.zero_le _, by unfold maxLen; omega, hA, rfl⟩⟩, by rw [hB, size_up]⟩
          clear hb0 hP hE hlts hal
          have c3 : (wc.alloc (.cells A 32)).cell? ⟨hb, 3, none⟩ = some (.slice none 0 0) := (H2.out.1.cell 3).1
          have f3 := (H2.out.1.cell 3).2
          by_cases hn0 : n = 0
          · subst hn0
            go_wp2
            go_ret
            refine ⟨hb, rfl, I, 0, ta, tc, eb, pb, some ⟨wc.heap.size, 0, none⟩, on, E, P, fun _ => 0, fun _ => 0, fun _ => 0, HI2.out.2, Nat.zero_le _, (fun e => by cases e), (H2.out.1.setS _ 0 on).nb (fun h => absurd h (by omega)), ⟨HPm.out.1.plt, HPm.out.1.inj, fun u _ => HPm.out.2 u, fun i hi => absurd hi (by omega), fun i hi => absurd hi (by omega), fun i hi => absurd hi (by omega)⟩, (H2.out.1.setS (some ⟨wc.heap.size, 0, none⟩) 0 on).bel⟩
          · have hn0i : (0 : Int) < (n : Int) := by omega
            have H3 : Hid (B0 w ((wc.alloc (.cells A 32)).alloc (.cells #[.int .u8 1, .int .u8 2, .int .u8 3, .int .u8 4] 83)) hb n I 0 ta tc eb pb none 0 nm E P ∧ ((wc.alloc (.cells A 32)).alloc (.cells #[.int .u8 1, .int .u8 2, .int .u8 3, .int .u8 4] 83)).ownsRow B 32 3 (.slice (some ⟨B, 0, none⟩) 0 on) 0 [] ∧ ((wc.alloc (.cells A 32)).alloc (.cells #[.int .u8 1, .int .u8 2, .int .u8 3, .int .u8 4] 83)).heap[B + 1]? = some (.cells #[.int .u8 1, .int .u8 2, .int .u8 3, .int .u8 4] 83 (0, 0))) := by
              refine ⟨H2.out.1.keep ((Below.refl _ _).alloc (Nat.le_refl _) _), H2.out.2.1.alloc _, ?_⟩
              rw [← H2.out.2.2]
              exact heap_alloc_new _ _
            clear c3 f3 H2
            go_wp2
            rw [← hB]
            obtain ⟨W3, hW3⟩ : ∃ W3, W3 = (wc.alloc (.cells A 32)).alloc (.cells #[.int .u8 1, .int .u8 2, .int .u8 3, .int .u8 4] 83) := ⟨_, rfl⟩
            rw [← hW3] at H3 ⊢
            clear hW3 hB hmk hA
            have hdt : decide (0 < n) = true := decide_eq_true (by omega)
            simp only [hdt]
            clear hdt
            go_loopw [19, 126] (fun sv i wr => ∃ (k : Nat) (tx : Nat → Nat) (it : Nat → Int) (kd : Nat → Nat), k ≤ on ∧ i = .int .i64 (k : Int) ∧ B0 w wr hb n I 0 ta tc eb pb none 0 nm E P ∧ wr.ownsRow B 32 3 sv k (st3 tx it kd k) ∧ wr.heap[B + 1]? = some (.cells #[.int .u8 1, .int .u8 2, .int .u8 3, .int .u8 4] 83 (0, 0)) ∧ sv.ownBlock ≠ some (B + 1) ∧ (∀ i, i < k → tx i < n ∧ it i < (I : Int) ∧ -1 ≤ it i ∧ kd i < 256)) (fun _ i _ => on - (intOf i).toNat)
            case atStart => exact ⟨0, fun _ => 0, fun _ => 0, fun _ => 0, Nat.zero_le _, rfl, H3.out.1, H3.out.2.1, H3.out.2.2, by simp [Value.ownBlock], fun i hi => absurd hi (by omega)⟩
            case round =>
              clear H3
              rename World => w3
              obtain ⟨k, tx, it, kd, hk, rfl, hb0, hown, hkb, hne, hbd⟩ := hrel
              obtain ⟨ao, cap, rfl⟩ := own_val hown
              by_cases hlt : k < on
              · have hki : (k : Int) < (on : Int) := by omega
                obtain ⟨ob, off, rfl, hol, hoc⟩ := HV.out.2.2 (by omega)
                obtain ⟨o1, o2, o3, o4, o5, o6⟩ := hoc k hlt
                have hobk := hb0.bel.block ob hol
                have q1 : w3.cell? ⟨ob, off + k * 3, none⟩ = some (.int .u16 (f k : Int)) := (World.cell?_of_block hobk).trans o1
                have q2 : w3.cell? ⟨ob, off + k * 3 + 1, none⟩ = some (.int .u16 (g k : Int)) := (World.cell?_of_block hobk).trans o2
                have q3 : w3.cell? ⟨ob, off + k * 3 + 2, none⟩ = some (.int .u8 (h k : Int)) := (World.cell?_of_block hobk).trans o3
                clear o1 o2 o3 hobk hoc
                have hm1 : Int.tmod (h k : Int) 4 = ((h k % 4 : Nat) : Int) := rfl
                have hm1b : ((h k % 4 : Nat) : Int) < 4 := by omega
                have hal : ∀ o, Below w3.heap.size w3 (w3.alloc o) := fun o => (Below.refl _ _).alloc (Nat.le_refl _) o
                have hB1 : B + 1 < w3.heap.size := lt_of_block hkb
                have t4 : ∀ o, (w3.alloc o).cell? ⟨B + 1, h k % 4, none⟩ = some (.int .u8 ((h k % 4 + 1 : Nat) : Int)) := fun o => tab4 (((hal o).block _ hB1).trans hkb) (Nat.mod_lt _ (by omega))
                have hIp := HI2.out
                have hm2 : Int.tmod (g k : Int) (I : Int) = ((g k % I : Nat) : Int) := rfl
                have hm3 : Int.tmod (f k : Int) (n : Int) = ((f k % n : Nat) : Int) := rfl
                have hi4 : ∀ o, (w3.alloc o).cell? ⟨hb, 4, none⟩ = some (.int .i64 (I : Int)) := fun o => ((hb0.keep (hal o)).cell 4).1
                have hgI : g k % I < I := Nat.mod_lt _ (by omega)
                have hfn : f k % n < n := Nat.mod_lt _ (by omega)
                have hIpi : (0 : Int) < (I : Int) := by omega
                have H4 : Hid (B0 w w3 hb n I 0 ta tc eb pb none 0 nm E P ∧ w3.ownsRow B 32 3 (.slice ao k cap) k (st3 tx it kd k) ∧ w3.heap[B + 1]? = some (.cells #[.int .u8 1, .int .u8 2, .int .u8 3, .int .u8 4] 83 (0, 0)) ∧ (Value.slice ao k cap).ownBlock ≠ some (B + 1) ∧ (∀ i, i < k → tx i < n ∧ it i < (I : Int) ∧ -1 ≤ it i ∧ kd i < 256) ∧ g k % I < I ∧ f k % n < n ∧ h k % 4 < 4) := ⟨hb0, hown, hkb, hne, hbd, hgI, hfn, Nat.mod_lt _ (by omega)⟩
                clear hb0 hown hkb hne hbd hIp hal
                generalize f k % n = fn at *
                generalize g k % I = gi at *
                generalize h k % 4 = h4 at *
                have hh4 : h4 = 0 ∨ h4 = 1 ∨ h4 = 2 ∨ h4 = 3 := by have := H4.out.2.2.2.2.2.2.2; omega
                rcases hh4 with rfl | rfl | rfl | rfl
                · go_wp2
                  go_quiet (fail)
                  obtain ⟨W4, hW4⟩ : ∃ W4, W4 = (w3.alloc (.cells #[.int .u16 (f k : Int), .int .u16 (g k : Int), .int .u8 (h k : Int)] 85)).drewN nq := ⟨_, rfl⟩
                  have hbb : Below w3.heap.size w3 W4 := by rw [hW4]; exact ((Below.refl _ _).alloc (Nat.le_refl _) _).trans ⟨rfl, rfl, rfl, Nat.le_refl _, fun _ _ => rfl⟩
                  have hsz : W4.heap.size = w3.heap.size + 1 := by rw [hW4]; exact size_up _ _
                  have k0 : W4.cell? ⟨w3.heap.size, 0, none⟩ = some (.int .u16 (f k : Int)) := by rw [hW4, cell_of_row _ _ _ _ _ _ (show ((w3.alloc (.cells #[.int .u16 (f k : Int), .int .u16 (g k : Int), .int .u8 (h k : Int)] 85)).drewN nq).heap[w3.heap.size]? = _ from heap_alloc_new w3 _)]; rfl
                  rw [← hW4]
                  clear hW4
                  have H6 : Hid (B0 w W4 hb n I 0 ta tc eb pb none 0 nm E P ∧ W4.ownsRow B 32 3 (.slice ao k cap) k (st3 tx it kd k) ∧ W4.heap[B + 1]? = some (.cells #[.int .u8 1, .int .u8 2, .int .u8 3, .int .u8 4] 83 (0, 0)) ∧ B + 1 < W4.heap.size ∧ B ≤ W4.heap.size ∧ k ≤ 300000) := ⟨H4.out.1.keep hbb, own_keep H4.out.2.1 fun g e => hbb.block g (own_ge H4.out.2.1 g e).2, (hbb.block _ hB1).trans H4.out.2.2.1, by omega, by omega, by omega⟩
                  clear hbb q1 q2 q3 t4 hi4
                  go_wp2_with (at_builtin; refine wpList_push3 rfl (.tmp 150) (.tmp 159) rfl B (.slice ao k cap) k tx it kd fn (gi : Int) 1 rfl (w3.heap.size + 1) hsz rfl H6.out.2.1 H6.out.2.2.2.2.1 H6.out.2.2.2.2.2 ?_; intro g2 cap2 W5 ho5 hg5; have H7 : Hid (_ ∧ _) := ⟨ho5, hg5⟩; clear ho5 hg5)
                  go_round
                  case rel =>
                    have hge := own_ge H6.out.2.1
                    have hbel : Below B W4 W5 := H7.out.2.below (by omega) fun g e => (hge g e).1
                    have hB2 := HB.out
                    refine ⟨k + 1, _, _, _, by omega, by go_num, H6.out.1.upTo hB2.1 hB2.2.1 hB2.2.2.1 hB2.2.2.2.1 hB2.2.2.2.2 hbel, H7.out.1, (H7.out.2.block _ H6.out.2.2.2.1 H4.out.2.2.2.1).trans H6.out.2.2.1, ?_, fun i hi => ?_⟩
                    · intro e
                      rcases H7.out.2.at_ with ha | ha
                      · exact H4.out.2.2.2.1 (by rw [← ha]; exact e)
                      · have := ha _ e; have := H6.out.2.2.2.1; omega
                    · by_cases e : i = k
                      · subst e
                        rw [upd_same, upd_same, upd_same]
                        have h1 := H4.out.2.2.2.2.2.1
                        have h2 := H4.out.2.2.2.2.2.2.1
                        exact ⟨h2, by omega, by omega, by omega⟩
                      · rw [upd_ne _ _ e, upd_ne _ _ e, upd_ne _ _ e]
                        exact H4.out.2.2.2.2.1 i (by omega)
                  case measure => simp [intOf]; omega
                · go_wp2
                  go_quiet (fail)
                  obtain ⟨W4, hW4⟩ : ∃ W4, W4 = (w3.alloc (.cells #[.int .u16 (f k : Int), .int .u16 (g k : Int), .int .u8 (h k : Int)] 85)).drewN nq := ⟨_, rfl⟩
                  have hbb : Below w3.heap.size w3 W4 := by rw [hW4]; exact ((Below.refl _ _).alloc (Nat.le_refl _) _).trans ⟨rfl, rfl, rfl, Nat.le_refl _, fun _ _ => rfl⟩
                  have hsz : W4.heap.size = w3.heap.size + 1 := by rw [hW4]; exact size_up _ _
                  have k0 : W4.cell? ⟨w3.heap.size, 0, none⟩ = some (.int .u16 (f k : Int)) := by rw [hW4, cell_of_row _ _ _ _ _ _ (show ((w3.alloc (.cells #[.int .u16 (f k : Int), .int .u16 (g k : Int), .int .u8 (h k : Int)] 85)).drewN nq).heap[w3.heap.size]? = _ from heap_alloc_new w3 _)]; rfl
                  rw [← hW4]
                  clear hW4
                  have H6 : Hid (B0 w W4 hb n I 0 ta tc eb pb none 0 nm E P ∧ W4.ownsRow B 32 3 (.slice ao k cap) k (st3 tx it kd k) ∧ W4.heap[B + 1]? = some (.cells #[.int .u8 1, .int .u8 2, .int .u8 3, .int .u8 4] 83 (0, 0)) ∧ B + 1 < W4.heap.size ∧ B ≤ W4.heap.size ∧ k ≤ 300000) := ⟨H4.out.1.keep hbb, own_keep H4.out.2.1 fun g e => hbb.block g (own_ge H4.out.2.1 g e).2, (hbb.block _ hB1).trans H4.out.2.2.1, by omega, by omega, by omega⟩
                  clear hbb q1 q2 q3 t4 hi4
                  go_wp2_with (at_builtin; refine wpList_push3 rfl (.tmp 150) (.tmp 159) rfl B (.slice ao k cap) k tx it kd fn (gi : Int) 2 rfl (w3.heap.size + 1) hsz rfl H6.out.2.1 H6.out.2.2.2.2.1 H6.out.2.2.2.2.2 ?_; intro g2 cap2 W5 ho5 hg5; have H7 : Hid (_ ∧ _) := ⟨ho5, hg5⟩; clear ho5 hg5)
                  go_round
                  case rel =>
                    have hge := own_ge H6.out.2.1
                    have hbel : Below B W4 W5 := H7.out.2.below (by omega) fun g e => (hge g e).1
                    have hB2 := HB.out
                    refine ⟨k + 1, _, _, _, by omega, by go_num, H6.out.1.upTo hB2.1 hB2.2.1 hB2.2.2.1 hB2.2.2.2.1 hB2.2.2.2.2 hbel, H7.out.1, (H7.out.2.block _ H6.out.2.2.2.1 H4.out.2.2.2.1).trans H6.out.2.2.1, ?_, fun i hi => ?_⟩
                    · intro e
                      rcases H7.out.2.at_ with ha | ha
                      · exact H4.out.2.2.2.1 (by rw [← ha]; exact e)
                      · have := ha _ e; have := H6.out.2.2.2.1; omega
                    · by_cases e : i = k
                      · subst e
                        rw [upd_same, upd_same, upd_same]
                        have h1 := H4.out.2.2.2.2.2.1
                        have h2 := H4.out.2.2.2.2.2.2.1
                        exact ⟨h2, by omega, by omega, by omega⟩
                      · rw [upd_ne _ _ e, upd_ne _ _ e, upd_ne _ _ e]
                        exact H4.out.2.2.2.2.1 i (by omega)
                  case measure => simp [intOf]; omega
                · go_upto_region 30 with fail
                  obtain ⟨W4, hW4⟩ : ∃ W4, W4 = w3.alloc (.cells #[.int .u16 (f k : Int), .int .u16 (g k : Int), .int .u8 (h k : Int)] 85) := ⟨_, rfl⟩
                  have hbb : Below w3.heap.size w3 W4 := by rw [hW4]; exact (Below.refl _ _).alloc (Nat.le_refl _) _
                  have hsz : W4.heap.size = w3.heap.size + 1 := by rw [hW4]; exact size_up _ _
                  have k0 : W4.cell? ⟨w3.heap.size, 0, none⟩ = some (.int .u16 (f k : Int)) := by rw [hW4, cell_of_row _ _ _ _ _ _ (heap_alloc_new w3 _)]; rfl
                  rw [← hW4]
                  clear hW4
                  have H6 : Hid (B0 w W4 hb n I 0 ta tc eb pb none 0 nm E P ∧ W4.ownsRow B 32 3 (.slice ao k cap) k (st3 tx it kd k) ∧ W4.heap[B + 1]? = some (.cells #[.int .u8 1, .int .u8 2, .int .u8 3, .int .u8 4] 83 (0, 0)) ∧ B + 1 < W4.heap.size ∧ B ≤ W4.heap.size ∧ k ≤ 300000) := ⟨H4.out.1.keep hbb, own_keep H4.out.2.1 fun g e => hbb.block g (own_ge H4.out.2.1 g e).2, (hbb.block _ hB1).trans H4.out.2.2.1, by omega, by omega, by omega⟩
                  clear hbb q1 q2 q3 t4 hi4
                  go_wp2_with (at_builtin; refine wpList_push3 rfl (.tmp 150) (.tmp 159) rfl B (.slice ao k cap) k tx it kd fn (-1) 3 rfl (w3.heap.size + 1) hsz rfl H6.out.2.1 H6.out.2.2.2.2.1 H6.out.2.2.2.2.2 ?_; intro g2 cap2 W5 ho5 hg5; have H7 : Hid (_ ∧ _) := ⟨ho5, hg5⟩; clear ho5 hg5)
                  go_round
                  case rel =>
                    have hge := own_ge H6.out.2.1
                    have hbel : Below B W4 W5 := H7.out.2.below (by omega) fun g e => (hge g e).1
                    have hB2 := HB.out
                    refine ⟨k + 1, _, _, _, by omega, by go_num, H6.out.1.upTo hB2.1 hB2.2.1 hB2.2.2.1 hB2.2.2.2.1 hB2.2.2.2.2 hbel, H7.out.1, (H7.out.2.block _ H6.out.2.2.2.1 H4.out.2.2.2.1).trans H6.out.2.2.1, ?_, fun i hi => ?_⟩
                    · intro e
                      rcases H7.out.2.at_ with ha | ha
                      · exact H4.out.2.2.2.1 (by rw [← ha]; exact e)
                      · have := ha _ e; have := H6.out.2.2.2.1; omega
                    · by_cases e : i = k
                      · subst e
                        rw [upd_same, upd_same, upd_same]
                        have h1 := H4.out.2.2.2.2.2.1
                        have h2 := H4.out.2.2.2.2.2.2.1
                        exact ⟨h2, by omega, by omega, by omega⟩
                      · rw [upd_ne _ _ e, upd_ne _ _ e, upd_ne _ _ e]
                        exact H4.out.2.2.2.2.1 i (by omega)
                  case measure => simp [intOf]; omega
                · go_upto_region 30 with fail
                  obtain ⟨W4, hW4⟩ : ∃ W4, W4 = w3.alloc (.cells #[.int .u16 (f k : Int), .int .u16 (g k : Int), .int .u8 (h k : Int)] 85) := ⟨_, rfl⟩
                  have hbb : Below w3.heap.size w3 W4 := by rw [hW4]; exact (Below.refl _ _).alloc (Nat.le_refl _) _
                  have hsz : W4.heap.size = w3.heap.size + 1 := by rw [hW4]; exact size_up _ _
                  have k0 : W4.cell? ⟨w3.heap.size, 0, none⟩ = some (.int .u16 (f k : Int)) := by rw [hW4, cell_of_row _ _ _ _ _ _ (heap_alloc_new w3 _)]; rfl
                  rw [← hW4]
                  clear hW4
                  have H6 : Hid (B0 w W4 hb n I 0 ta tc eb pb none 0 nm E P ∧ W4.ownsRow B 32 3 (.slice ao k cap) k (st3 tx it kd k) ∧ W4.heap[B + 1]? = some (.cells #[.int .u8 1, .int .u8 2, .int .u8 3, .int .u8 4] 83 (0, 0)) ∧ B + 1 < W4.heap.size ∧ B ≤ W4.heap.size ∧ k ≤ 300000) := ⟨H4.out.1.keep hbb, own_keep H4.out.2.1 fun g e => hbb.block g (own_ge H4.out.2.1 g e).2, (hbb.block _ hB1).trans H4.out.2.2.1, by omega, by omega, by omega⟩
                  clear hbb q1 q2 q3 t4 hi4
                  go_wp2_with (at_builtin; refine wpList_push3 rfl (.tmp 150) (.tmp 159) rfl B (.slice ao k cap) k tx it kd fn (-1) 4 rfl (w3.heap.size + 1) hsz rfl H6.out.2.1 H6.out.2.2.2.2.1 H6.out.2.2.2.2.2 ?_; intro g2 cap2 W5 ho5 hg5; have H7 : Hid (_ ∧ _) := ⟨ho5, hg5⟩; clear ho5 hg5)
                  go_round
                  case rel =>
                    have hge := own_ge H6.out.2.1
                    have hbel : Below B W4 W5 := H7.out.2.below (by omega) fun g e => (hge g e).1
                    have hB2 := HB.out
                    refine ⟨k + 1, _, _, _, by omega, by go_num, H6.out.1.upTo hB2.1 hB2.2.1 hB2.2.2.1 hB2.2.2.2.1 hB2.2.2.2.2 hbel, H7.out.1, (H7.out.2.block _ H6.out.2.2.2.1 H4.out.2.2.2.1).trans H6.out.2.2.1, ?_, fun i hi => ?_⟩
                    · intro e
                      rcases H7.out.2.at_ with ha | ha
                      · exact H4.out.2.2.2.1 (by rw [← ha]; exact e)
                      · have := ha _ e; have := H6.out.2.2.2.1; omega
                    · by_cases e : i = k
                      · subst e
                        rw [upd_same, upd_same, upd_same]
                        have h1 := H4.out.2.2.2.2.2.1
                        have h2 := H4.out.2.2.2.2.2.2.1
                        exact ⟨h2, by omega, by omega, by omega⟩
                      · rw [upd_ne _ _ e, upd_ne _ _ e, upd_ne _ _ e]
                        exact H4.out.2.2.2.2.1 i (by omega)
                  case measure => simp [intOf]; omega
              · obtain rfl : on = k := by omega
                have H4 : Hid (B0 w w3 hb n I 0 ta tc eb pb none 0 nm E P ∧ Steps w3 ao on tx it kd ∧ (∀ i, i < on → tx i < n ∧ it i < (I : Int) ∧ -1 ≤ it i ∧ kd i < 256) ∧ w3.ownsRow B 32 3 (.slice ao on cap) on (st3 tx it kd on)) := ⟨hb0, steps_of hown, hbd, hown⟩
                have c3 : w3.cell? ⟨hb, 3, none⟩ = some (.slice none 0 0) := (hb0.cell 3).1
                have f3 := (hb0.cell 3).2
                clear hb0 hown hkb hne hbd
                go_wp2
                go_ret
                have hbd := H4.out.2.2.1
                have how : (w3.setCell ⟨hb, 3, none⟩ (.slice ao on cap)).ownsRow B 32 3 (.slice ao on cap) on (st3 tx it kd on) := own_keep H4.out.2.2.2 fun g e => heap_setCell_other _ _ _ _ (by have := (own_ge H4.out.2.2.2 g e).1; have := HB.out.1; show g ≠ hb; omega)
                exact ⟨hb, rfl, I, on, ta, tc, eb, pb, ao, cap, E, P, tx, it, kd, HI2.out.2, Nat.le_refl _, (fun e => by
                  rcases H4.out.2.2.2.2 with ⟨e1, e2⟩ | ⟨g, c, cu, e1, _⟩
                  · simp only [Value.slice.injEq] at e1
                    exact ⟨e2, e1.2.2⟩
                  · rw [e] at e1; cases e1), (H4.out.1.setS ao on cap).nb (steps_of how), ⟨HPm.out.1.plt, HPm.out.1.inj, fun u _ => HPm.out.2 u, fun i hi => (hbd i hi).1, fun i hi => ⟨(hbd i hi).2.1, (hbd i hi).2.2.1⟩, fun i hi => (hbd i hi).2.2.2⟩, (H4.out.1.setS ao on cap).bel⟩
end Go.Proofs.Ybulkcxvo
