/-
  The walk over zzs4967aranks.
-/
import Derived.Test.YbulkcxvoRanks
namespace Go.Proofs.Ybulkcxvo
open Go.RowKit

/-- ranks' own rows. -/
structure Rw (w wx : World) (n : Nat) (pos : Nat → Nat) : Prop where
  bel : Below w.heap.size w wx
  pos : IR wx w.heap.size n pos
structure Rx (w wx : World) (n : Nat) (pos : Nat → Nat) (rk : Nat → Int) : Prop where
  bel : Below w.heap.size w wx
  pos : IR wx w.heap.size n pos
  rk : ZR wx (w.heap.size + 1) n rk
theorem Rx.draw {w wx : World} {n : Nat} {pos : Nat → Nat} {rk : Nat → Int} (h : Rx w wx n pos rk) (q : Nat) : Rx w (wx.drewN q) n pos rk :=
  ⟨h.bel.trans ⟨rfl, rfl, rfl, Nat.le_refl _, fun _ _ => rfl⟩, h.pos, h.rk⟩
theorem Rx.set {w wx : World} {n : Nat} {pos : Nat → Nat} {rk : Nat → Int} (h : Rx w wx n pos rk) (u : Nat) (a : Int) : Rx w (wx.setCell ⟨w.heap.size + 1, u, none⟩ (.int .i64 a)) n pos (upd rk u a) :=
  ⟨h.bel.setCell (by show w.heap.size ≤ w.heap.size + 1; omega) _, h.pos.keep (heap_setCell_other _ _ _ _ (by show w.heap.size ≠ w.heap.size + 1; omega)), h.rk.set u a⟩

set_option maxRecDepth 100000 in
set_option maxHeartbeats 4000000 in
theorem ranks_any (w : World) (hb n I m : Nat) (ta : Option Addr) (tc eb pb : Nat) (so : Option Addr) (sc : Nat) (nm : Nat → ByteArray) (E P tx : Nat → Nat) (it : Nat → Int) (kd : Nat → Nat) (hN : Nb w hb n I m ta tc eb pb so sc nm E P tx it kd) (hP : Pm n I m E P tx it kd) (hn : n ≤ 512) :
    Calls Yba.prog 9 #[.pointer (some ⟨hb, 0, none⟩)] w fun e w' => e = .returned (.tuple #[.slice (some ⟨w.heap.size + 1, 0, none⟩) n n, .int .i64 ((kept E P n).length : Int)]) ∧ Rx w w' n (posI P n) (rkI E P n) := by
  have hni : (n : Int) ≤ 512 := by omega
  have hmk := make34 n (by omega)
  have c0 := hN.h0
  have HN : Hid (Nb w hb n I m ta tc eb pb so sc nm E P tx it kd ∧ Pm n I m E P tx it kd) := ⟨hN, hP⟩
  have H0 : Hid (Rw w (w.alloc (.cells (ir n fun _ => 0) 3)) n (posI P 0)) := ⟨(Below.refl _ _).alloc (Nat.le_refl _) _, IR.new w n _⟩
  clear hN hP
  go_enter Yba.func9, Yba.ntmps9
  go_wp2
  obtain ⟨W0, hW0⟩ : ∃ W0, W0 = w.alloc (.cells (ir n fun _ => 0) 3) := ⟨_, rfl⟩
  have HZ : Hid (W0.heap.size = w.heap.size + 1) := by show W0.heap.size = _; rw [hW0, size_up]
  rw [← hW0] at H0 ⊢
  clear hW0
  go_loopw [6] (fun i wr => ∃ k : Nat, k ≤ n ∧ i = .int .i64 (k : Int) ∧ Rw w wr n (posI P k) ∧ wr.heap.size = w.heap.size + 1) (fun i _ => n - (intOf i).toNat)
  case atStart => exact ⟨0, Nat.zero_le _, rfl, H0.out, HZ.out⟩
  case round =>
    clear H0 HZ
    rename World => w1
    obtain ⟨k, hk, rfl, hrw, hsz⟩ := hrel
    have hN := HN.out.1.keep hrw.bel
    have H1 : Hid (Rw w w1 n (posI P k) ∧ w1.heap.size = w.heap.size + 1) := ⟨hrw, hsz⟩
    by_cases hlt : k < n
    · have hki : (k : Int) < (n : Int) := by omega
      have hpn := HN.out.2.plt k hlt
      have hpi : (P k : Int) < (n : Int) := by omega
      have c2 := hN.h2
      have p1 := hN.byN.cell hlt
      have r1 := hrw.pos.cell hpn
      have f1 := hrw.pos.fz (P k)
      clear hrw hsz hN
      go_wp2
      go_round
      case rel => exact ⟨k + 1, by omega, by go_num, ⟨H1.out.1.bel.setCell (Nat.le_refl _) _, H1.out.1.pos.set (P k) k⟩, by simpa using H1.out.2⟩
      case measure => simp [intOf]; omega
    · obtain rfl : n = k := by omega
      have H2 : Hid (Rx w (w1.alloc (.cells (ir n fun _ => 0) 3)) n (posI P n) (rkU n E P 0)) := by
        have hal : Below w1.heap.size w1 (w1.alloc (.cells (ir n fun _ => 0) 3)) := (Below.refl _ _).alloc (Nat.le_refl _) _
        refine ⟨hrw.bel.trans (hal.mono hrw.bel.size), hrw.pos.keep (hal.block _ hrw.pos.lt), ?_⟩
        have h3 := (IR.new w1 n (fun _ => 0)).zr
        rw [hsz] at h3
        exact h3.congr fun i _ => by unfold rkU; rw [if_neg (by omega)]; rfl
      clear hrw hN
      go_wp2
      obtain ⟨W2, hW2⟩ : ∃ W2, W2 = w1.alloc (.cells (ir n fun _ => 0) 3) := ⟨_, rfl⟩
      rw [← hW2] at H2 ⊢
      clear hW2 hmk H1 hsz
      go_loopw [8, 9] (fun mv i wr => ∃ k : Nat, k ≤ n ∧ i = .int .i64 (k : Int) ∧ mv = .int .i64 (cntE E k : Int) ∧ Rx w wr n (posI P n) (rkU n E P k)) (fun _ i _ => n - (intOf i).toNat)
      case atStart => exact ⟨0, Nat.zero_le _, rfl, rfl, H2.out⟩
      case round =>
        clear H2
        rename World => w2
        obtain ⟨k, hk, rfl, rfl, hrx⟩ := hrel
        have hN := HN.out.1.keep hrx.bel
        have H2 : Hid (Rx w w2 n (posI P n) (rkU n E P k)) := hrx
        by_cases hlt : k < n
        · have hki : (k : Int) < (n : Int) := by omega
          have c1 := hN.h1
          have e1 := hN.ends.cell hlt
          have r1 := hrx.rk.cell hlt
          have f1 := hrx.rk.fz k
          have hEb := HN.out.2.elt k hlt
          have hce := cntE_le E k
          have hcei : (cntE E k : Int) ≤ 512 := by omega
          clear hrx hN
          by_cases hE : E k = 4
          · have hEi : (E k : Int) = 4 := by omega
            rw [hEi] at e1
            have HX : Hid (cntE E (k + 1) = cntE E k) := by show cntE E (k + 1) = _; rw [cntE_step, if_pos hE]; rfl
            go_wp2
            go_round
            case rel =>
              refine ⟨k + 1, by omega, by go_num, by rw [HX.out], ?_⟩
              rw [← rkU_step k (-1) (rk_abort HN.out.2.plt HN.out.2.inj hlt hE)]
              exact H2.out.set k (-1)
            case measure => simp [intOf]; omega
          · have hEi : ((E k : Int) == 4) = false := by simp; omega
            have hEd : decide ((E k : Int) = 4) = false := decide_eq_false (by omega)
            have HX : Hid (cntE E (k + 1) = cntE E k + 1) := by show cntE E (k + 1) = _; rw [cntE_step, if_neg hE]
            go_wp2
            go_loopw [10, 11] (fun c i wr => ∃ v q : Nat, v ≤ n ∧ i = .int .i64 (v : Int) ∧ c = .int .i64 (cntR n E P (posI P n k) v : Int) ∧ wr = w2.drewN q) (fun _ i _ => n - (intOf i).toNat)
            case atStart => exact ⟨0, 0, Nat.zero_le _, rfl, rfl, rfl⟩
            case round =>
              obtain ⟨v, q, hv, rfl, rfl, rfl⟩ := hrel
              by_cases hvl : v < n
              · have hvi : (v : Int) < (n : Int) := by omega
                have hN := HN.out.1.keep H2.out.bel
                have d1 := hN.h1
                have d2 := hN.ends.cell hvl
                have d3 := H2.out.pos.cell hvl
                have d4 := H2.out.pos.cell hlt
                have hcr := cntR_le n E P (posI P n k) v
                have hcri : (cntR n E P (posI P n k) v : Int) ≤ 512 := by omega
                have hvb := HN.out.2.elt v hvl
                clear hN
                by_cases hvE : E v = 4
                · have x1 : ((E v : Int) != 4) = false := by simp; omega
                  have HY : Hid (cntR n E P (posI P n k) (v + 1) = cntR n E P (posI P n k) v) := by
                    show cntR n E P (posI P n k) (v + 1) = _
                    rw [cntR_step, if_neg (fun h => h.1 hvE)]; rfl
                  have hvEi : (E v : Int) = 4 := by omega
                  rw [hvEi] at d2
                  go_wp2
                  go_quiet (fail)
                  go_wp2
                  go_round
                  case rel => exact ⟨v + 1, _, by omega, by go_num, by rw [HY.out], rfl⟩
                  case measure => simp [intOf]; omega
                · have x1 : ((E v : Int) != 4) = true := by simp; omega
                  by_cases hlp : posI P n v < posI P n k
                  · have x2 : (posI P n v : Int) < (posI P n k : Int) := by omega
                    have HY : Hid (cntR n E P (posI P n k) (v + 1) = cntR n E P (posI P n k) v + 1) := by
                      show cntR n E P (posI P n k) (v + 1) = _
                      rw [cntR_step, if_pos ⟨hvE, hlp⟩]
                    go_wp2
                    go_quiet (fail)
                    go_wp2
                    go_round
                    case rel => exact ⟨v + 1, _, by omega, by go_num, by rw [HY.out]; go_num, rfl⟩
                    case measure => simp [intOf]; omega
                  · have x2 : decide ((posI P n v : Int) < (posI P n k : Int)) = false := decide_eq_false (by omega)
                    have x3 : decide (posI P n v < posI P n k) = false := decide_eq_false hlp
                    have HY : Hid (cntR n E P (posI P n k) (v + 1) = cntR n E P (posI P n k) v) := by
                      show cntR n E P (posI P n k) (v + 1) = _
                      rw [cntR_step, if_neg (fun h => hlp h.2)]; rfl
                    go_wp2
                    go_quiet (fail)
                    go_wp2
                    go_round
                    case rel => exact ⟨v + 1, _, by omega, by go_num, by rw [HY.out], rfl⟩
                    case measure => simp [intOf]; omega
              · obtain rfl : n = v := by omega
                go_wp2
                go_round
                case rel =>
                  refine ⟨k + 1, by omega, by go_num, by rw [HX.out]; go_num, ?_⟩
                  rw [← rkU_step k _ (rk_count HN.out.2.plt HN.out.2.inj hlt hE)]
                  exact (H2.out.draw q).set k _
                case measure => simp [intOf]; omega
        · obtain rfl : n = k := by omega
          clear hrx hN
          have HX : Hid (cntE E n = (kept E P n).length) := cntE_all HN.out.2.plt HN.out.2.inj
          go_wp2
          go_ret2
          refine ⟨by rw [← HX.out]; rfl, H2.out.bel, H2.out.pos, H2.out.rk.congr fun i hi => ?_⟩
          unfold rkU
          rw [if_pos hi]
end Go.Proofs.Ybulkcxvo
