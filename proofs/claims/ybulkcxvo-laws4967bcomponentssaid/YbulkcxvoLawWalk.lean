/-
  The walk over LawS4967BComponents.
-/
import Derived.Test.YbulkcxvoLawB
import Derived.BigRegion
namespace Go.Proofs.Ybulkcxvo
open Go.RowKit

set_option maxRecDepth 100000 in
set_option maxHeartbeats 4000000 in
theorem lawB_any (n m c : Nat) (ao : Option Addr) (fr to : Nat → Nat) (w : World) (hn : n ≤ 256) (hm : m ≤ 2048) (he : Edges w ao m fr to) :
    Calls Yba.prog 5 #[.int .u16 (n : Int), .slice ao m c] w fun e w' => e = .returned (.bool true) ∧ Below w.heap.size w w' := by
  have hni : (n : Int) ≤ 256 := by omega
  have hmi : (m : Int) ≤ 2048 := by omega
  have HE : Hid (Edges w ao m fr to) := he
  clear he
  go_enter Yba.func5, Yba.ntmps5
  go_wp2_with fail
  refine (brows_any n m c ao fr to w hn hm HE.out).mono ?_
  rintro e w1 ⟨ab, vb, rfl, hab, hvb, hne, ra, rv, hb1⟩
  have H1 : Hid (w.heap.size ≤ ab ∧ w.heap.size ≤ vb ∧ ab ≠ vb ∧ IR w1 ab (n + 1) (atF n fr m) ∧ IR w1 vb (atF n fr m n) (valF n fr to m m) ∧ Below w.heap.size w w1) := ⟨hab, hvb, hne, ra, rv, hb1⟩
  clear hab hvb hne ra rv hb1
  go_wp2
  obtain ⟨cs, hmk⟩ := make22 n (by omega)
  go_region
  obtain ⟨W2, hW2⟩ : ∃ W2, W2 = (((w1.alloc (.cells #[.slice (some ⟨ab, 0, none⟩) (n + 1) (n + 1), .slice (some ⟨vb, 0, none⟩) (atF n fr m n) (atF n fr m n)] 43)).alloc (.cells cs 9)).alloc
    (.cells #[.slice (some ⟨w1.heap.size + 1, 0, none⟩) n n, .slice (some ⟨ab, 0, none⟩) (n + 1) (n + 1), .slice (some ⟨vb, 0, none⟩) (atF n fr m n) (atF n fr m n), .slice none 0 0, .slice none 0 0, .int .i64 0, .int .u32 0, .int .i32 0, .int .u32 0,
      .slice none 0 0, .slice none 0 0, .slice none 0 0, .slice none 0 0, .slice none 0 0, .slice none 0 0, .slice none 0 0] 64)).drew := ⟨_, rfl⟩
  have hb2 : Below w1.heap.size w1 W2 := by
    rw [hW2]
    exact (((((Below.refl w1.heap.size w1).alloc (Nat.le_refl _) _).alloc (by simp) _).alloc (by simp; omega) _).trans ((below_draw _).mono (by simp; omega)))
  have hG : Gm W2 (w1.heap.size + 1 + 1) n (atF n fr m n) ab vb (atF n fr m) (valF n fr to m m) := by
    refine gm_of hb2 (by rw [hW2]; show (World.alloc _ _).heap[_]? = _; rw [alloc_at, if_pos (by simp)]) rfl rfl rfl H1.out.2.2.2.1 H1.out.2.2.2.2.1 (fun u _ => at_mono n m fr (by omega)) (fun u hu => at_mono n m fr hu) (vals_lt n m fr to)
  have HT : Hid (atF n fr m n ≤ 524288) := at_top hn hm
  have H2 : Hid (Gm W2 (w1.heap.size + 1 + 1) n (atF n fr m n) ab vb (atF n fr m) (valF n fr to m m) ∧ Below w.heap.size w W2) := ⟨hG, H1.out.2.2.2.2.2.trans (hb2.mono H1.out.2.2.2.2.2.size)⟩
  rw [← hW2]
  clear hW2 hb2 hG hmk
  generalize w1.heap.size + 1 + 1 = pg at *
  go_wp2_with fail
  refine (comps_any n (atF n fr m n) pg ab vb (atF n fr m) (valF n fr to m m) W2 H2.out.1 hn HT.out (unv_le hn HT.out H2.out.1.mono (Nat.le_refl _))).mono ?_
  rintro e w3 ⟨vz, s, rfl, hcomp, hsz, hb3, hinv, hpa, hall⟩
  have hans := Ans.of hinv hpa hall H2.out.1.le H2.out.1.vlt
  have hzl := hans.len
  obtain ⟨az, cz, rfl⟩ := own_val hsz
  have H3 : Hid (Lm w w3 n (atF n fr m n) pg ab vb W2.heap.size (atF n fr m) (valF n fr to m m) s.comp ∧ w3.ownsRow (W2.heap.size + 10) 3 1 (.slice az s.size.length cz) s.size.length (ic s.size) ∧ Ans n (adjF n (atF n fr m) (valF n fr to m m)) s.comp s.size) := ⟨⟨H2.out.2.trans (hb3.mono H2.out.2.size), H2.out.1.keep hb3, hcomp⟩, hsz, hans⟩
  clear hcomp hsz hb3 hinv hpa hall hans
  generalize s.comp = comp at *
  generalize s.size = size at *
  clear s
  generalize hZ : size.length = Z at *
  have HZ : Hid (size.length = Z) := hZ
  clear hZ
  have hmk := make34 Z (by omega)
  have hzi : (Z : Int) ≤ 256 := by omega
  go_wp2
  have HC : Hid (Below w3.heap.size w3 (w3.alloc (.cells (ir Z fun _ => 0) 3)) ∧ IR (w3.alloc (.cells (ir Z fun _ => 0) 3)) w3.heap.size Z (cntC comp 0)) := ⟨(Below.refl _ _).alloc (Nat.le_refl _) _, by rw [cntC_zero]; exact IR.new w3 Z _⟩
  obtain ⟨W4, hW4⟩ : ∃ W4, W4 = w3.alloc (.cells (ir Z fun _ => 0) 3) := ⟨_, rfl⟩
  rw [← hW4] at HC ⊢
  clear hW4 hmk
  go_loopw [50] (fun i wr => ∃ k : Nat, k ≤ n ∧ i = .int .i64 (k : Int) ∧ Below w3.heap.size w3 wr ∧ IR wr w3.heap.size Z (cntC comp k)) (fun i _ => n - (intOf i).toNat)
  case atStart => exact ⟨0, Nat.zero_le _, rfl, HC.out.1, HC.out.2⟩
  case round =>
    clear HC
    rename World => w4
    obtain ⟨k, hk, rfl, hb4, hr4⟩ := hrel
    have hL4 := H3.out.1.keep hb4
    have H4 : Hid (Below w3.heap.size w3 w4 ∧ IR w4 w3.heap.size Z (cntC comp k) ∧ Lm w w4 n (atF n fr m n) pg ab vb W2.heap.size (atF n fr m) (valF n fr to m m) comp) := ⟨hb4, hr4, hL4⟩
    by_cases hlt : k < n
    · have hki : (k : Int) < (n : Int) := by omega
      have c1 := hL4.cmp.cell hlt
      have hcz : comp k < Z := by have := H3.out.2.2.lt k hlt; rw [HZ.out] at this; exact this
      have hczi : (comp k : Int) < (Z : Int) := by omega
      have c2 := hr4.cell hcz
      have f2 := hr4.fz (comp k)
      have hcl : (cntC comp k (comp k) : Int) ≤ 256 := by have := cntC_le comp k (comp k); omega
      have hn0 : decide ((comp k : Int) < 0) = false := decide_eq_false (by omega)
      have hn1 : decide ((Z : Int) ≤ (comp k : Int)) = false := decide_eq_false (by omega)
      clear hb4 hr4 hL4
      go_wp2
      go_round
      case rel =>
        refine ⟨k + 1, by omega, by go_num, H4.out.1.setCell (Nat.le_refl _) _, ?_⟩
        rw [← cntC_step]
        exact H4.out.2.1.set (comp k) (cntC comp k (comp k) + 1)
      case measure => simp [intOf]; omega
    · obtain rfl : n = k := by omega
      clear hb4 hr4 hL4
      go_wp2
      have HS : Hid (∀ c, c < Z → ∃ g, az = some ⟨g, 0, none⟩ ∧ w4.cell? ⟨g, c, none⟩ = some (.int .i64 (cntC comp n c : Int)) ∧ 0 < cntC comp n c ∧ w4.cell? ⟨w3.heap.size, c, none⟩ = some (.int .i64 (cntC comp n c : Int))) := by
        intro c hc
        have hown := H3.out.2.1
        obtain ⟨g, cap, cu, hv, _, hh, _⟩ := own_is hown (by omega)
        cases hv
        have hsz := H3.out.2.2.sz c (by rw [HZ.out]; exact hc)
        have hcl := (own_cell hown (j := c) (u := .int .i64 (cntC comp n c : Int)) (by simp [ic, hsz.1])).1
        have hgl := lt_of_block hh
        refine ⟨g, rfl, ?_, hsz.2, H4.out.2.1.cell hc⟩
        rw [← hcl]
        simp only [World.cell?, H4.out.1.block g hgl]
      clear HZ
      go_loopw [71] (fun i wr => ∃ k q : Nat, k ≤ Z ∧ i = .int .i64 (k : Int) ∧ wr = w4.drewN q) (fun i _ => Z - (intOf i).toNat)
      case atStart => exact ⟨0, 0, Nat.zero_le _, rfl, rfl⟩
      case round =>
        obtain ⟨k, q, hkz, rfl, rfl⟩ := hrel
        by_cases hlt : k < Z
        · have hki : (k : Int) < (Z : Int) := by omega
          obtain ⟨g, rfl, z1, z2, z3⟩ := HS.out k hlt
          have hd : decide ((cntC comp n k : Int) = 0) = false := decide_eq_false (by omega)
          have hd' : ((cntC comp n k : Int) == 0) = false := by simp; omega
          generalize cntC comp n k = X at *
          go_wp2
          go_quiet (fail)
          go_wp2
          go_round
          case rel => exact ⟨k + 1, q + nq, by omega, by go_num, rfl⟩
          case measure => simp [intOf]; omega
        · obtain rfl : Z = k := by omega
          go_wp2_with fail
          have hL5 : Lm w (w4.drewN q) n (atF n fr m n) pg ab vb W2.heap.size (atF n fr m) (valF n fr to m m) comp := H4.out.2.2.keep (below_draws _ _)
          refine (brows_any n m c ao fr to (w4.drewN q) hn hm (HE.out.keep (hL5.bel.mono (Nat.le_refl _)))).mono ?_
          rintro e w6 ⟨ab2, vb2, rfl, hab, hvb, hne, ra, rv, hb6⟩
          have hb7 : Below w6.heap.size w6 (w6.alloc (.cells #[.slice (some ⟨ab2, 0, none⟩) (n + 1) (n + 1), .slice (some ⟨vb2, 0, none⟩) (atF n fr m n) (atF n fr m n)] 43)) := (Below.refl _ _).alloc (Nat.le_refl _) _
          have hL7 := (hL5.keep hb6).keep hb7
          have H7 : Hid (Lm w (w6.alloc (.cells #[.slice (some ⟨ab2, 0, none⟩) (n + 1) (n + 1), .slice (some ⟨vb2, 0, none⟩) (atF n fr m n) (atF n fr m n)] 43)) n (atF n fr m n) pg ab vb W2.heap.size (atF n fr m) (valF n fr to m m) comp ∧ IR (w6.alloc (.cells #[.slice (some ⟨ab2, 0, none⟩) (n + 1) (n + 1), .slice (some ⟨vb2, 0, none⟩) (atF n fr m n) (atF n fr m n)] 43)) ab2 (n + 1) (atF n fr m) ∧ IR (w6.alloc (.cells #[.slice (some ⟨ab2, 0, none⟩) (n + 1) (n + 1), .slice (some ⟨vb2, 0, none⟩) (atF n fr m n) (atF n fr m n)] 43)) vb2 (atF n fr m n) (valF n fr to m m)) :=
            ⟨hL7, ra.keep (hb7.block _ ra.lt), rv.keep (hb7.block _ rv.lt)⟩
          have b0 : (w6.alloc (.cells #[.slice (some ⟨ab2, 0, none⟩) (n + 1) (n + 1), .slice (some ⟨vb2, 0, none⟩) (atF n fr m n) (atF n fr m n)] 43)).cell? ⟨w6.heap.size, 0, none⟩ = some (.slice (some ⟨ab2, 0, none⟩) (n + 1) (n + 1)) := by
            rw [cell_of_row _ _ _ _ _ _ (heap_alloc_new w6 _)]; rfl
          have b1 : (w6.alloc (.cells #[.slice (some ⟨ab2, 0, none⟩) (n + 1) (n + 1), .slice (some ⟨vb2, 0, none⟩) (atF n fr m n) (atF n fr m n)] 43)).cell? ⟨w6.heap.size, 1, none⟩ = some (.slice (some ⟨vb2, 0, none⟩) (atF n fr m n) (atF n fr m n)) := by
            rw [cell_of_row _ _ _ _ _ _ (heap_alloc_new w6 _)]; rfl
          clear hab hvb hne ra rv hb6 hL5 hL7 hb7
          go_wp2
          obtain ⟨W7, hW7⟩ : ∃ W7, W7 = w6.alloc (.cells #[.slice (some ⟨ab2, 0, none⟩) (n + 1) (n + 1), .slice (some ⟨vb2, 0, none⟩) (atF n fr m n) (atF n fr m n)] 43) := ⟨_, rfl⟩
          rw [← hW7] at H7 b0 b1 ⊢
          clear hW7
          obtain ⟨nm, nc, g0⟩ := H7.out.1.gm.g0
          have g1 := H7.out.1.gm.g1
          have g2 := H7.out.1.gm.g2
          generalize hT : atF n fr m n = T at *
          clear hT
          generalize atF n fr m = at_ at *
          generalize valF n fr to m m = val at *
          have HQ1 : Hid (∀ j, Calls Yba.prog 12 #[.slice (some ⟨ab, 0, none⟩) (n + 1) (n + 1), .slice (some ⟨ab2, 0, none⟩) (n + 1) (n + 1)] (W7.drewN j) fun e w' => e = .returned (.bool true) ∧ ∃ m, w' = (W7.drewN j).drewN m) := fun j => eq_any ab ab2 (n + 1) (n + 1) (n + 1) at_ (W7.drewN j) (by omega) (H7.out.1.gm.rat.keep rfl) (H7.out.2.1.keep rfl)
          have HQ2 : Hid (∀ j, Calls Yba.prog 12 #[.slice (some ⟨vb, 0, none⟩) T T, .slice (some ⟨vb2, 0, none⟩) T T] (W7.drewN j) fun e w' => e = .returned (.bool true) ∧ ∃ m, w' = (W7.drewN j).drewN m) := fun j => eq_any vb vb2 T T T val (W7.drewN j) (by have := HT.out; omega) (H7.out.1.gm.rval.keep rfl) (H7.out.2.2.keep rfl)
          go_quiet (first | (go_at_call 12; with_reducible exact Calls.quiet_of (HQ1.out _)) | (go_at_call 12; with_reducible exact Calls.quiet_of (HQ2.out _)))
          have hT8 : Lm w (W7.drewN nq) n T pg ab vb W2.heap.size at_ val comp := H7.out.1.keep (below_draws _ _)
          have H8 : Hid (Lm w (W7.drewN nq) n T pg ab vb W2.heap.size at_ val comp ∧ IR (W7.drewN nq) ab2 (n + 1) at_ ∧ IR (W7.drewN nq) vb2 T val) := ⟨hT8, H7.out.2.1.keep rfl, H7.out.2.2.keep rfl⟩
          clear hT8 HQ1 HQ2 g0 g1 g2
          go_wp2_with fail
          refine (breach_any n T ab2 vb2 at_ val (W7.drewN nq) hn HT.out H8.out.2.1 H8.out.2.2 H8.out.1.gm.mono H8.out.1.gm.le H8.out.1.gm.vlt).mono ?_
          rintro e w9 ⟨F, R, rfl, hrm⟩
          have H9 : Hid (Below w.heap.size w w9 ∧ IR w9 W2.heap.size n comp ∧ Ans n (adjF n at_ val) comp size ∧ Rm (W7.drewN nq) w9 n T ab2 vb2 (adjF n at_ val) n F R) := ⟨H8.out.1.bel.trans (hrm.bel.mono H8.out.1.bel.size), H8.out.1.cmp.keep (hrm.bel.block _ H8.out.1.cmp.lt), H3.out.2.2, hrm⟩
          have HX : Hid (∀ u v, u < n → v < n → ∃ Fu Fv ruv rvu, w9.cell? ⟨W2.heap.size, u, none⟩ = some (.int .i64 (comp u : Int)) ∧ w9.cell? ⟨W2.heap.size, v, none⟩ = some (.int .i64 (comp v : Int)) ∧ w9.cell? ⟨W7.heap.size + 1, u, none⟩ = some (.slice (some ⟨Fu, 0, none⟩) n n) ∧ w9.cell? ⟨W7.heap.size + 1, v, none⟩ = some (.slice (some ⟨Fv, 0, none⟩) n n) ∧ w9.cell? ⟨Fu, v, none⟩ = some (.bool ruv) ∧ w9.cell? ⟨Fv, u, none⟩ = some (.bool rvu) ∧
              (comp u = comp v → ruv = true ∧ rvu = true) ∧ (ruv = true → rvu = true → comp u = comp v) ∧ (ruv = true → comp v ≤ comp u)) := by
            intro u v hu hv
            obtain ⟨_, hc, ha, hr⟩ := H9.out
            have r1 := (hr.r hu).1
            have r2 := (hr.r hv).1
            unfold rowF at r1 r2
            rw [if_pos hu] at r1
            rw [if_pos hv] at r2
            have q1 := hr.rch u v hu hv
            have q2 := hr.rch v u hv hu
            have q3 := ha.same u v hu hv
            refine ⟨F u, F v, R u v, R v u, hc.cell hu, hc.cell hv, r1, r2, (hr.rows u hu).2.cell hv, (hr.rows v hv).2.cell hu, fun e => ?_, fun e1 e2 => ?_, fun e => ha.ord u v hu hv (q1.1 e)⟩
            · exact ⟨q1.2 (q3.1 e).1, q2.2 (q3.1 e).2⟩
            · exact q3.2 ⟨q1.1 e1, q2.1 e2⟩
          have H10 : Hid (Below w.heap.size w w9) := H9.out.1
          clear hrm H9 H8 H7 H3 H4 HS b0 b1 H2 HT HE H1
          go_wp2
          go_loopw [16] (fun i wr => ∃ u q : Nat, u ≤ n ∧ i = .int .i64 (u : Int) ∧ wr = w9.drewN q) (fun i _ => n - (intOf i).toNat)
          case atStart => exact ⟨0, 0, Nat.zero_le _, rfl, rfl⟩
          case round =>
            obtain ⟨u, q1, hu, rfl, rfl⟩ := hrel
            by_cases hul : u < n
            · have hui : (u : Int) < (n : Int) := by omega
              go_wp2
              go_loopw [17] (fun i wr => ∃ v q : Nat, v ≤ n ∧ i = .int .i64 (v : Int) ∧ wr = w9.drewN q) (fun i _ => n - (intOf i).toNat)
              case atStart => exact ⟨0, q1, Nat.zero_le _, rfl, rfl⟩
              case round =>
                obtain ⟨v, q2, hv, rfl, rfl⟩ := hrel
                by_cases hvl : v < n
                · have hvi : (v : Int) < (n : Int) := by omega
                  obtain ⟨Fu, Fv, ruv, rvu, x1, x2, x3, x4, x5, x6, y1, y2, y3⟩ := HX.out u v hul hvl
                  by_cases hs : comp u = comp v
                  · obtain ⟨rfl, rfl⟩ := y1 hs
                    rw [← hs] at x2
                    clear y1 y2 y3 hs
                    go_wp2
                    go_quiet (fail)
                    go_wp2
                    go_quiet (fail)
                    go_wp2
                    go_round
                    case rel => exact ⟨v + 1, _, by omega, by go_num, rfl⟩
                    case measure => simp [intOf]; omega
                  · have hd : ((comp u : Int) == (comp v : Int)) = false := by simp; omega
                    cases ruv
                    · clear y1 y2 y3
                      go_wp2
                      go_quiet (fail)
                      go_wp2
                      go_quiet (fail)
                      go_wp2
                      go_round
                      case rel => exact ⟨v + 1, _, by omega, by go_num, rfl⟩
                      case measure => simp [intOf]; omega
                    · obtain rfl : rvu = false := by
                        cases rvu
                        · rfl
                        · exact absurd (y2 rfl rfl) hs
                      have hle := y3 rfl
                      have hd2 : decide ((comp u : Int) < (comp v : Int)) = false := decide_eq_false (by omega)
                      have hd3 : decide (comp u < comp v) = false := decide_eq_false (by omega)
                      have hd4 : ¬ comp u < comp v := by omega
                      clear y1 y2 y3
                      go_wp2
                      go_quiet (fail)
                      go_wp2
                      go_quiet (fail)
                      go_wp2
                      go_round
                      case rel => exact ⟨v + 1, _, by omega, by go_num, rfl⟩
                      case measure => simp [intOf]; omega
                · obtain rfl : n = v := by omega
                  go_wp2
                  go_round
                  case rel => exact ⟨u + 1, q2, by omega, by go_num, rfl⟩
                  case measure => simp [intOf]; omega
            · obtain rfl : n = u := by omega
              go_wp2
              go_ret
              exact ⟨rfl, H10.out.trans ((below_draws _ _).mono H10.out.size)⟩
end Go.Proofs.Ybulkcxvo
