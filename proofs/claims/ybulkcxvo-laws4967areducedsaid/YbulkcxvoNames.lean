/-
  The walk over LawS4967ANames.
-/
import Derived.Test.YbulkcxvoBuild
import Derived.Test.YbulkcxvoNew
import Derived.Test.YbulkcxvoRankW
import Derived.Test.YbulkcxvoClones
namespace Go.Proofs.Ybulkcxvo
open Go.RowKit

theorem kept_at {n : Nat} (E P : Nat → Nat) {j : Nat} (hj : j < n) (hE : E (P j) ≠ 4) : (kept E P n)[(kept E P j).length]? = some (P j) := by
  refine at_prefix ?_
  have h := kept_mono E P (show j + 1 ≤ n by omega)
  have e : kept E P (j + 1) = kept E P j ++ [P j] := by
    show kept E P j ++ (if E (P j) = 4 then [] else [P j]) = _
    rw [if_neg hE]
  rw [e] at h
  exact h
theorem names_at {n : Nat} {E P : Nat → Nat} (plt : ∀ i, i < n → P i < n) (inj : ∀ i j, i < n → j < n → P i = P j → i = j) {u : Nat} (hu : u < n) (hr : 0 ≤ rkI E P n u) : ∃ r : Nat, rkI E P n u = (r : Int) ∧ r < (kept E P n).length ∧ (kept E P n)[r]? = some u := by
  obtain ⟨j, hj, rfl⟩ := surj plt inj u hu
  have h := rkI_at (E := E) inj (Nat.le_refl n) j hj
  by_cases hE : E (P j) = 4
  · rw [h, if_pos hE] at hr; omega
  · rw [if_neg hE] at h
    have hk := kept_at E P hj hE
    exact ⟨_, h, (List.getElem?_eq_some_iff.1 hk).1, hk⟩

theorem below_draw5 (w : World) (k : Nat) : Below w.heap.size w (w.drewN k) := ⟨rfl, rfl, rfl, Nat.le_refl _, fun _ _ => rfl⟩
set_option maxRecDepth 100000 in
set_option maxHeartbeats 4000000 in
theorem names_any (w : World) (n nc en ec pn pc on oc iv : Nat) (na ea pa oa : Option Addr) (nm : Nat → ByteArray) (hn : n ≤ 512) (hon : on ≤ 512) (hiv : iv < 256) (h0 : na = none → n = 0 ∧ nc = 0) (hnm : Strs w na n nm) (ev pv f g h : Nat → Nat) (he : U8s w ea en ev) (hp : U16s w pa pn pv) (hops : Ops w oa on f g h) :
    Calls Yba.prog 3 #[.slice na n nc, .slice ea en ec, .slice pa pn pc, .slice oa on oc, .int .u8 (iv : Int)] w fun e w' => e = .returned (.bool true) ∧ Below w.heap.size w w' := by
  have hni : (n : Int) ≤ 512 := by omega
  have honi : (on : Int) ≤ 512 := by omega
  have HB : Hid (Calls Yba.prog 6 #[.slice na n nc, .slice ea en ec, .slice pa pn pc, .slice oa on oc, .int .u8 (iv : Int)] w fun e w' => ∃ hb, e = .returned (.pointer (some ⟨hb, 0, none⟩)) ∧ Bx w w' hb n on nm) := build_any w n nc en ec pn pc on oc iv na ea pa oa nm hn hon hiv h0 hnm ev pv f g h he hp hops
  clear h0 hnm he hp hops hiv
  go_enter Yba.func3, Yba.ntmps3
  go_wp2_with fail
  refine HB.out.mono ?_
  rintro e w1 ⟨hb, rfl, I, m, ta, tc, eb, pb, so, sc, E, P, tx, it, kd, hI, hm, hso, hN, hP, hb1⟩
  have c3 := hN.h3
  have H1 : Hid (Nb w1 hb n I m ta tc eb pb so sc nm E P tx it kd ∧ Pm n I m E P tx it kd ∧ Below w.heap.size w w1 ∧ I ≤ 16 ∧ m ≤ on ∧ (so = none → m = 0 ∧ sc = 0)) := ⟨hN, hP, hb1, hI, hm, hso⟩
  clear hN hP hb1 hI hm hso HB
  go_wp2_with fail
  refine (cloneS_any w1 so m sc tx it kd H1.out.2.2.2.2.2 (by have := H1.out.2.2.2.2.1; omega) H1.out.1.sts).mono ?_
  rintro e w2 ⟨sa, sac, rfl, hs2, hb2⟩
  have hN2 := H1.out.1.keep hb2
  have c2 := hN2.h2
  have H2 : Hid (Nb w2 hb n I m ta tc eb pb so sc nm E P tx it kd ∧ Steps w2 sa m tx it kd ∧ Below w.heap.size w w2) := ⟨hN2, hs2, H1.out.2.2.1.trans (hb2.mono H1.out.2.2.1.size)⟩
  clear hN2 hs2 hb2 c3
  go_wp2_with fail
  refine (cloneI_any w2 (some ⟨pb, 0, none⟩) n n (fun i => (P i : Int)) (fun e => by cases e) hn H2.out.1.byN.ints).mono ?_
  rintro e w3 ⟨pa2, pac, rfl, hp3, hb3⟩
  have H3 : Hid (Nb w3 hb n I m ta tc eb pb so sc nm E P tx it kd ∧ Steps w3 sa m tx it kd ∧ Ints w3 pa2 n (fun i => (P i : Int)) ∧ Below w.heap.size w w3) := ⟨H2.out.1.keep hb3, H2.out.2.1.keep hb3, hp3, H2.out.2.2.trans (hb3.mono H2.out.2.2.size)⟩
  clear hp3 hb3 c2 H2
  go_wp2_with fail
  refine (ranks_any w3 hb n I m ta tc eb pb so sc nm E P tx it kd H3.out.1 H1.out.2.1 hn).mono ?_
  rintro e w4 ⟨rfl, hrx⟩
  have H4 : Hid (Nb w4 hb n I m ta tc eb pb so sc nm E P tx it kd ∧ Steps w4 sa m tx it kd ∧ Ints w4 pa2 n (fun i => (P i : Int)) ∧ Below w.heap.size w w4 ∧ ZR w4 (w3.heap.size + 1) n (rkI E P n)) := ⟨H3.out.1.keep hrx.bel, H3.out.2.1.keep hrx.bel, H3.out.2.2.1.keep hrx.bel, H3.out.2.2.2.trans (hrx.bel.mono H3.out.2.2.2.size), hrx.rk⟩
  clear hrx H3
  generalize w3.heap.size + 1 = rb at *
  go_wp2_with fail
  refine (newg_any w4 hb n I m ta tc eb pb so sc nm E P tx it kd H4.out.1 H1.out.2.1 hn H1.out.2.2.2.1 (by have := H1.out.2.2.2.2.1; omega) _ rfl).mono ?_
  rintro e w5 ⟨pg, nb, rkb, ab, vb, rfl, hgn⟩
  have hN5 := H4.out.1.keep hgn.bel
  have gc : ∀ i, w5.cell? ⟨pg, i, none⟩ = _ := fun i => cell_of_row _ _ _ _ _ _ hgn.g
  have g0 : w5.cell? ⟨pg, 0, none⟩ = some (.slice (some ⟨nb, 0, none⟩) (kept E P n).length n) := gc 0
  have g3 : w5.cell? ⟨pg, 3, none⟩ = some (.slice so m sc) := gc 3
  have g4 : w5.cell? ⟨pg, 4, none⟩ = some (.slice (some ⟨rkb, 0, none⟩) n n) := gc 4
  have g5 : w5.cell? ⟨pg, 5, none⟩ = some (.int .i64 (I : Int)) := gc 5
  have k0 := hN5.h0
  have k2 := hN5.h2
  have k3 := hN5.h3
  have k4 := hN5.h4
  have H5 : Hid (Nb w5 hb n I m ta tc eb pb so sc nm E P tx it kd ∧ Steps w5 sa m tx it kd ∧ Ints w5 pa2 n (fun i => (P i : Int)) ∧ Below w.heap.size w w5 ∧ ZR w5 rb n (rkI E P n) ∧ ZR w5 rkb n (rkI E P n) ∧ NR w5 nb n nm (kept E P n)) := ⟨hN5, H4.out.2.1.keep hgn.bel, H4.out.2.2.1.keep hgn.bel, H4.out.2.2.2.1.trans (hgn.bel.mono H4.out.2.2.2.1.size), H4.out.2.2.2.2.keep (hgn.bel.block _ H4.out.2.2.2.2.lt), hgn.rk, hgn.nr⟩
  have HK : Hid ((kept E P n).length ≤ n) := kept_le E P n
  clear gc hgn hN5 H4
  go_wp2
  go_quiet (fail)
  go_wp2
  go_loopw [17] (fun i wr => ∃ u q : Nat, u ≤ n ∧ i = .int .i64 (u : Int) ∧ wr = w5.drewN q) (fun i _ => n - (intOf i).toNat)
  case atStart => exact ⟨0, nq, Nat.zero_le _, rfl, rfl⟩
  case round =>
    obtain ⟨u, q, hu, rfl, rfl⟩ := hrel
    by_cases hul : u < n
    · have hui : (u : Int) < (n : Int) := by omega
      have x1 := H5.out.2.2.2.2.1.cell hul
      have x2 := H5.out.2.2.2.2.2.1.cell hul
      obtain ⟨tb, toff, rfl, _, hst⟩ := H5.out.1.nam (by omega)
      have x3 := hst u hul
      clear hst
      by_cases hr : 0 ≤ rkI E P n u
      · obtain ⟨r, hr1, hr2, hr3⟩ := names_at H1.out.2.1.plt H1.out.2.1.inj hul hr
        rw [hr1] at x1 x2
        have hr2i : (r : Int) < ((kept E P n).length : Int) := by omega
        have x4 : w5.cell? ⟨nb, r, none⟩ = some (.string (nm u)) := by
          obtain ⟨A, hA1, _, hA3⟩ := H5.out.2.2.2.2.2.2
          rw [cell_of_row _ _ _ _ _ _ hA1]
          exact hA3 r u hr3
        clear hr hr1 hr2 hr3
        go_wp2
        go_quiet (fail)
        go_wp2
        go_quiet (fail)
        go_wp2
        go_round
        case rel => exact ⟨u + 1, _, by omega, by go_num, rfl⟩
        case measure => simp [intOf]; omega
      · have hd : decide (0 ≤ rkI E P n u) = false := decide_eq_false hr
        generalize rkI E P n u = X at *
        go_wp2
        go_quiet (fail)
        go_wp2
        go_quiet (fail)
        go_wp2
        go_round
        case rel => exact ⟨u + 1, _, by omega, by go_num, rfl⟩
        case measure => simp [intOf]; omega
    · obtain rfl : n = u := by omega
      have HM : Hid (m ≤ 1000000) := by have := H1.out.2.2.2.2.1; show m ≤ 1000000; omega
      go_wp2_with fail
      refine (eq_steps so sa m sc sac tx it kd (w5.drewN q) HM.out (H5.out.1.sts.keep (below_draw5 w5 q)) (H5.out.2.1.keep (below_draw5 w5 q))).mono ?_
      rintro e w6 ⟨rfl, q2, rfl⟩
      go_wp2_with fail
      refine (eq_steps so sa m sc sac tx it kd _ HM.out (H5.out.1.sts.keep (below_draw5 w5 _)) (H5.out.2.1.keep (below_draw5 w5 _))).mono ?_
      rintro e w7 ⟨rfl, q3, rfl⟩
      go_wp2_with fail
      refine (eq_cells (some ⟨pb, 0, none⟩) pa2 n n pac (fun i => (P i : Int)) _ (by omega) (H5.out.1.byN.ints.keep (below_draw5 w5 _)) (H5.out.2.2.1.keep (below_draw5 w5 _))).mono ?_
      rintro e w8 ⟨rfl, q4, rfl⟩
      go_wp2
      go_ret
      exact ⟨rfl, H5.out.2.2.2.1.trans ((below_draw5 w5 _).mono H5.out.2.2.2.1.size)⟩
end Go.Proofs.Ybulkcxvo
