/-
  The walk over (*graph).components: the loops.
-/
import Derived.Test.YbulkcxvoLabel
import Derived.BigRegion
namespace Go.Proofs.Ybulkcxvo
open Go.RowKit

set_option maxRecDepth 100000 in
set_option maxHeartbeats 4000000 in
theorem comps_any (n t pg ab vb : Nat) (at_ val : Nat → Nat) (w : World) (hg : Gm w pg n t ab vb at_ val) (hn : n ≤ 256) (ht : t ≤ 524288) (hun : unv n (adjF n at_ val) (fun _ => 0) ≤ 600000) :
    Calls Yba.prog 14 #[.pointer (some ⟨pg, 0, none⟩)] w fun e w' => ∃ vz s, e = .returned (.tuple #[.slice (some ⟨w.heap.size, 0, none⟩) n n, vz]) ∧ IR w' w.heap.size n s.comp ∧ w'.ownsRow (w.heap.size + 10) 3 1 vz s.size.length (ic s.size) ∧ Below w.heap.size w w' ∧
      Inv n (adjF n at_ val) s ∧ s.path = [] ∧ ∀ x, x < n → 0 < s.idx x := by
  have hni : (n : Int) ≤ 256 := by omega
  have hmk := make34 n (by omega)
  have hmk2 := make79 n (by omega)
  obtain ⟨nm, c, hg0⟩ := hg.g0
  have HG : Hid (Gm w pg n t ab vb at_ val) := hg
  have HI : Hid (Tm w _ n _ _ _ St.init ∧ Inv n (adjF n at_ val) St.init ∧ Bd n (adjF n at_ val) St.init) := ⟨tm_start w n, Inv.init n _, ⟨Nat.le_refl _, Nat.le_refl _, by show 2 * 0 + unv n _ (fun _ => 0) ≤ _; omega⟩⟩
  clear hg hun
  go_enter Yba.func14, Yba.ntmps14
  go_wp2
  simp only [Nat.add_assoc, Nat.reduceAdd]
  obtain ⟨W0, hW0⟩ : ∃ W0, W0 = ((((((((((w.alloc (.cells (ir n fun _ => 0) 3)).alloc (.cells (ir n fun _ => 0) 3)).alloc (.cells #[.slice (some ⟨w.heap.size + 1, 0, none⟩) n n] 34)).alloc (.cells (ir n fun _ => 0) 3)).alloc
    (.cells #[.slice (some ⟨w.heap.size + 3, 0, none⟩) n n] 34)).alloc (.cells (br n fun _ => false) 4)).alloc (.cells #[.slice (some ⟨w.heap.size + 5, 0, none⟩) n n] 79)).alloc (.cells #[.slice none 0 0] 34)).alloc (.cells #[.slice none 0 0] 88)).alloc (.cells #[.int .i64 0] 3)) := ⟨_, rfl⟩
  rw [← hW0] at HI ⊢
  clear hW0 hmk hmk2 hg0
  go_loopw [3, 35] (fun vz i wr => ∃ k : Nat, k ≤ n ∧ i = .int .i64 (k : Int) ∧ ∃ vs vp s, Tm w wr n vs vp vz s ∧ Inv n (adjF n at_ val) s ∧ Bd n (adjF n at_ val) s ∧ s.path = [] ∧ ∀ x, x < k → 0 < s.idx x) (fun _ i _ => n - (intOf i).toNat)
  case atStart => exact ⟨0, Nat.zero_le _, rfl, _, _, _, HI.out.1, HI.out.2.1, HI.out.2.2, rfl, fun x hx => absurd hx (by omega)⟩
  case round =>
    obtain ⟨k, hk, rfl, vs, vp, s, htm, hinv, hbd, hpath, hall⟩ := hrel
    have HA : Hid (Tm w wr n vs vp u3 s ∧ Inv n (adjF n at_ val) s ∧ Bd n (adjF n at_ val) s ∧ s.path = [] ∧ ∀ x, x < k → 0 < s.idx x) := ⟨htm, hinv, hbd, hpath, hall⟩
    by_cases hlt : k < n
    · have hki : (k : Int) < (n : Int) := by omega
      have c2 := htm.c2
      have r1 := htm.rIdx.cell hlt
      by_cases h0 : s.idx k = 0
      · rw [h0] at r1
        have hb := hbd
        clear htm hinv hbd hpath hall
        go_wp2_with fail
        refine (enter_any HA.out.1 hlt hn (by have := hb.b3; omega) (by have := hb.b1; have := hb.b3; omega) (by have := hb.b2; have := hb.b3; omega)).mono ?_
        rintro e w1 ⟨rfl, vs1, vp1, htm1⟩
        have hp0 := HA.out.2.2.2.1
        rw [hp0] at htm1
        have H1 : Hid (Tm w w1 n vs1 vp1 u3 (s.enter [] k) ∧ Inv n (adjF n at_ val) (s.enter [] k) ∧ Bd n (adjF n at_ val) (s.enter [] k) ∧ ∀ x, x < k + 1 → 0 < (s.enter [] k).idx x) := by
          refine ⟨htm1, HA.out.2.1.begin hp0 h0 hlt, hb.enter (by rw [hp0]) h0 hlt, fun x hx => ?_⟩
          show 0 < upd s.idx k (s.vis + 1) x
          by_cases e : x = k
          · rw [e, upd_same]; omega
          · rw [upd_ne _ _ e]; exact HA.out.2.2.2.2 x (by omega)
        clear htm1 hp0 HA hb c2 r1 h0
        obtain ⟨s1, hs1⟩ : ∃ s1, s1 = s.enter [] k := ⟨_, rfl⟩
        rw [← hs1] at H1
        clear hs1
        go_wp2_with fail
        go_loopg [3] (unv n (adjF n at_ val) s1.idx + wt (adjF n at_ val) s1.path) (fun gg vz wx => ∃ vs vp s, gg = unv n (adjF n at_ val) s.idx + wt (adjF n at_ val) s.path ∧ Tm w wx n vs vp vz s ∧ Inv n (adjF n at_ val) s ∧ Bd n (adjF n at_ val) s ∧ ∀ x, x < k + 1 → 0 < s.idx x)
        case atStart => exact ⟨vs1, vp1, s1, rfl, H1.out⟩
        case round =>
          clear H1 s1 vs1 vp1 w1 s vs vp
          obtain ⟨vs, vp, s, rfl, htm, hinv, hbd, hall⟩ := hrel
          have c8 := htm.c8
          by_cases hpe : s.path = []
          · obtain ⟨ao, cap, rfl⟩ := own_val htm.path
            have hl : s.path.length = 0 := by rw [hpe]; rfl
            rw [hl] at c8
            have HA : Hid (_ ∧ _ ∧ _ ∧ _ ∧ _) := ⟨htm, hinv, hbd, hpe, hall⟩
            clear htm hinv hbd hall
            go_wp2
            go_round
            case rel => exact ⟨k + 1, by omega, by go_num, _, _, s, HA.out.1, HA.out.2.1, HA.out.2.2.1, HA.out.2.2.2.1, HA.out.2.2.2.2⟩
            case measure => simp [intOf]; omega
          · obtain ⟨pre, ⟨u, k'⟩, hp⟩ : ∃ pre p, s.path = pre ++ [p] := ⟨_, _, (List.dropLast_concat_getLast hpe).symm⟩
            have hlen : s.path.length = pre.length + 1 := by rw [hp]; simp
            have hun : u < n := hinv.onLt u (hinv.pathOn u (top_mem hp))
            obtain ⟨g, cap, cu, rfl, _, _, hcap, _⟩ := own_is htm.path (by omega)
            rw [hlen] at c8 htm hcap
            have hcapi : (pre.length : Int) ≤ (cap : Int) := by omega
            clear hcap
            have hml : pre.length ≤ 300000 := by have := hbd.b2; have := hbd.b3; omega
            have hmi : (pre.length : Int) ≤ 300000 := by omega
            have hG := HG.out.keep htm.bel
            have pc1 := (htm.pathCells hp).1
            have q1 := hG.g1
            have q2 := hG.g2
            have HA : Hid (Tm w wr n vs (.slice (some ⟨g, 0, none⟩) (pre.length + 1) cap) u3 s ∧ Inv n (adjF n at_ val) s ∧ Bd n (adjF n at_ val) s ∧ Gm wr pg n t ab vb at_ val ∧ ∀ x, x < k + 1 → 0 < s.idx x) := ⟨htm, hinv, hbd, hG, hall⟩
            have HL : Hid ((adjF n at_ val u).length = at_ (u + 1) - at_ u ∧ s.path = pre ++ [(u, k')]) := ⟨adjF_len hun, hp⟩
            have hum : at_ u ≤ at_ (u + 1) := hG.mono u hun
            have hut : at_ (u + 1) ≤ t := hG.le (u + 1) (by omega)
            clear htm hinv hbd hall hG hpe hp hlen
            obtain ⟨m, hm⟩ : ∃ m, m = pre.length := ⟨_, rfl⟩
            rw [← hm] at c8 hml hmi pc1 hcapi
            have HM : Hid (m = pre.length) := hm
            clear hm
            go_wp2_with fail
            refine (of_any ab vb n t u at_ wr hun hn HA.out.2.2.2.1.rat hum hut).mono ?_
            rintro e w1 ⟨o, c1, rfl, ho, hb1⟩
            have ht1 := HA.out.1.keep hb1
            have d8 := ht1.c8
            have pcc := ht1.pathCells HL.out.2
            have d1 := pcc.1
            have d2 := pcc.2.1
            have d3 := pcc.2.2
            rw [← HM.out] at d1 d2 d3 d8
            have H1 : Hid (Tm w w1 n vs (.slice (some ⟨g, 0, none⟩) (pre.length + 1) cap) u3 s ∧ Gm w1 pg n t ab vb at_ val) := ⟨ht1, HA.out.2.2.2.1.keep hb1⟩
            clear ht1 pcc hb1 c8 pc1 q1 q2
            by_cases hkd : k' < at_ (u + 1) - at_ u
            · have hkdi : (k' : Int) < ((at_ (u + 1) - at_ u : Nat) : Int) := by omega
              have hou := ho (by omega)
              subst hou
              have hvc := H1.out.2.rval.cell (i := at_ u + k') (by omega)
              have hvn := H1.out.2.vlt (at_ u + k') (by omega)
              have HE : Hid ((adjF n at_ val u)[k']? = some (val (at_ u + k'))) := adjF_at hun hkd
              have h2 := H1.out.1.top HL.out.2 (k' + 1)
              simp only [Int.natCast_add, Int.cast_ofNat_Int] at h2
              rw [← HM.out] at h2
              have e2 := h2.c2
              have e6 := h2.c6
              have r1 := h2.rIdx.cell hvn
              have r5 := h2.rOn.cell hvn
              have H2 : Hid (Tm w (w1.setCell ⟨g, m * 2 + 1, none⟩ (.int .i64 ((k' : Int) + 1))) n vs (.slice (some ⟨g, 0, none⟩) (m + 1) cap) u3 { s with path := pre ++ [(u, k' + 1)] }) := h2
              have r3 := h2.rLow.cell hun
              have z3 := h2.f 3 u (by omega)
              have e4 := h2.c4
              clear h2
              generalize val (at_ u + k') = v at *
              by_cases hv0 : s.idx v = 0
              · have r1' : (w1.setCell ⟨g, m * 2 + 1, none⟩ (.int .i64 ((k' : Int) + 1))).cell? ⟨w.heap.size + 1, v, none⟩ = some (.int .i64 0) := by rw [r1]; show some (Value.int .i64 (s.idx v : Int)) = _; rw [hv0]; rfl
                clear r1 r5 e6 r3 z3 e4
                have hb := HA.out.2.2.1
                have b1 := hb.b1
                have b2 := hb.b2
                have b3 := hb.b3
                have hpl : (pre ++ [(u, k' + 1)]).length = s.path.length := by rw [HL.out.2]; simp
                have HB : Hid (s.vis ≤ 300000 ∧ s.stk.length ≤ 300000 ∧ (pre ++ [(u, k' + 1)]).length ≤ 300000 ∧ (pre ++ [(u, k' + 1)]).length = s.path.length) := ⟨by omega, by omega, by omega, hpl⟩
                clear hb b1 b2 b3 hpl
                go_wp2_with fail
                refine (enter_any H2.out hvn hn HB.out.1 HB.out.2.1 HB.out.2.2.1).mono ?_
                rintro e w2 ⟨rfl, vs2, vp2, ht2⟩
                have H3 : Hid (Tm w w2 n vs2 vp2 u3 (s.enter (pre ++ [(u, k' + 1)]) v)) := ht2
                clear ht2
                go_wp2
                go_roundg (unv n (adjF n at_ val) (s.enter (pre ++ [(u, k' + 1)]) v).idx + wt (adjF n at_ val) (s.enter (pre ++ [(u, k' + 1)]) v).path)
                case rel =>
                  refine ⟨vs2, vp2, _, rfl, H3.out, HA.out.2.1.goOn HL.out.2 HE.out hv0 hvn, HA.out.2.2.1.enter HB.out.2.2.2 hv0 hvn, fun x hx => ?_⟩
                  show 0 < upd s.idx v (s.vis + 1) x
                  by_cases e : x = v
                  · rw [e, upd_same]; omega
                  · rw [upd_ne _ _ e]; exact HA.out.2.2.2.2 x hx
                case measure => exact left_enter HL.out.2 (by rw [HL.out.1]; exact hkd) hv0 hvn
              · have r1' : (w1.setCell ⟨g, m * 2 + 1, none⟩ (.int .i64 ((k' : Int) + 1))).cell? ⟨w.heap.size + 1, v, none⟩ = some (.int .i64 (s.idx v : Int)) := r1
                have r5' : (w1.setCell ⟨g, m * 2 + 1, none⟩ (.int .i64 ((k' : Int) + 1))).cell? ⟨w.heap.size + 5, v, none⟩ = some (.bool (s.on v)) := r5
                have r3' : (w1.setCell ⟨g, m * 2 + 1, none⟩ (.int .i64 ((k' : Int) + 1))).cell? ⟨w.heap.size + 3, u, none⟩ = some (.int .i64 (s.low u : Int)) := r3
                have hd : decide ((s.idx v : Int) = 0) = false := by simp; omega
                clear r1 r5 r3
                have HX : Hid (∀ x, x < k + 1 → 0 < s.idx x) := HA.out.2.2.2.2
                cases hon : s.on v
                · rw [hon] at r5'
                  go_wp2
                  go_roundg (unv n (adjF n at_ val) s.idx + wt (adjF n at_ val) (pre ++ [(u, k' + 1)]))
                  case rel =>
                    have hb := HA.out.2.2.1
                    refine ⟨vs, _, { s with path := pre ++ [(u, k' + 1)] }, rfl, H2.out, ?_, ⟨hb.b1, ?_, hb.b3⟩, HX.out⟩
                    · exact HA.out.2.1.bump HL.out.2 HE.out (by omega) s.low (fun _ _ => rfl) (Nat.le_refl _) (.inl rfl) (fun e => by rw [hon] at e; cases e)
                    · have := hb.b2
                      rw [HL.out.2] at this
                      simpa using this
                  case measure => exact left_bump HL.out.2 (by rw [HL.out.1]; exact hkd)
                · rw [hon] at r5'
                  go_wp2
                  obtain ⟨W2, hW2⟩ : ∃ W2, W2 = w1.setCell ⟨g, m * 2 + 1, none⟩ (.int .i64 ((k' : Int) + 1)) := ⟨_, rfl⟩
                  rw [← hW2] at H2 r1' r3' z3 e4 e2 ⊢
                  clear hW2 r5' e6 d1 d2 d3 d8 hvc
                  go_region
                  have hmin : (if s.idx v < s.low u then ((s.idx v : Nat) : Int) else ((s.low u : Nat) : Int)) = ((min (s.low u) (s.idx v) : Nat) : Int) := by
                    split <;> omega
                  rw [hmin]
                  have H3 : Hid (Tm w (W2.setCell ⟨w.heap.size + 3, u, none⟩ (.int .i64 ((min (s.low u) (s.idx v) : Nat) : Int))).drew n vs (.slice (some ⟨g, 0, none⟩) (m + 1) cap) u3 { s with path := pre ++ [(u, k' + 1)], low := upd s.low u (min (s.low u) (s.idx v)) }) :=
                    (H2.out.setLow u (min (s.low u) (s.idx v))).same rfl rfl rfl rfl
                  obtain ⟨W3, hW3⟩ : ∃ W3, W3 = (W2.setCell ⟨w.heap.size + 3, u, none⟩ (.int .i64 ((min (s.low u) (s.idx v) : Nat) : Int))).drew := ⟨_, rfl⟩
                  rw [← hW3] at H3 ⊢
                  clear hW3 hmin e2 e4 z3 r1' r3' H2
                  go_wp2
                  go_roundg (unv n (adjF n at_ val) s.idx + wt (adjF n at_ val) (pre ++ [(u, k' + 1)]))
                  case rel =>
                    have hb := HA.out.2.2.1
                    refine ⟨vs, _, { s with path := pre ++ [(u, k' + 1)], low := upd s.low u (min (s.low u) (s.idx v)) }, rfl, H3.out, ?_, ⟨hb.b1, ?_, hb.b3⟩, HX.out⟩
                    · refine HA.out.2.1.bump HL.out.2 HE.out (by omega) _ (fun x hx => upd_ne _ _ hx) (by rw [upd_same]; exact Nat.min_le_left _ _) ?_ (fun _ => by rw [upd_same]; exact Nat.min_le_right _ _)
                      rw [upd_same]
                      by_cases hle : s.low u ≤ s.idx v
                      · exact .inl (Nat.min_eq_left hle)
                      · exact .inr ⟨hon, Nat.min_eq_right (by omega)⟩
                    · have := hb.b2
                      rw [HL.out.2] at this
                      simpa using this
                  case measure => exact left_bump HL.out.2 (by rw [HL.out.1]; exact hkd)
            · have hkdi : decide ((k' : Int) < ((at_ (u + 1) - at_ u : Nat) : Int)) = false := by simp; omega
              have h8 := H1.out.1.f 8 0 (by omega)
              have h2 := H1.out.1.popPath HL.out.2
              rw [← HM.out] at h2
              have e8 := h2.c8
              have e2 := h2.c2
              have e4 := h2.c4
              have r1 := h2.rIdx.cell hun
              have r3 := h2.rLow.cell hun
              have H2 : Hid (Tm w (w1.setCell ⟨w.heap.size + 8, 0, none⟩ (.slice (some ⟨g, 0, none⟩) m cap)) n vs (.slice (some ⟨g, 0, none⟩) m cap) u3 { s with path := pre }) := h2
              clear h2
              have HK : Hid ((adjF n at_ val u).length ≤ k') := by
                show (adjF n at_ val u).length ≤ k'
                rw [HL.out.1]; omega
              obtain ⟨az, cz, rfl⟩ := own_val HA.out.1.size
              by_cases hpre : pre = []
              case' pos =>
                have hroot : s.low u = s.idx u := HA.out.2.1.root (by rw [HL.out.2, hpre])
                have r3' : (w1.setCell ⟨w.heap.size + 8, 0, none⟩ (.slice (some ⟨g, 0, none⟩) m cap)).cell? ⟨w.heap.size + 3, u, none⟩ = some (.int .i64 (s.idx u : Int)) := by rw [← hroot]; exact r3
                have HR : Hid (s.low u = s.idx u) := hroot
                clear r3 hroot
                have hm0 : m = 0 := by rw [HM.out, hpre]; rfl
                subst hm0
                go_wp2
                go_quiet (fail)
                obtain ⟨W3, hW3⟩ : ∃ W3, W3 = (w1.setCell ⟨w.heap.size + 8, 0, none⟩ (.slice (some ⟨g, 0, none⟩) 0 cap)).drewN nq := ⟨_, rfl⟩
                obtain ⟨VP, L, H3⟩ : ∃ VP L, Hid (Tm w W3 n vs VP (.slice az s.size.length cz) { s with path := pre, low := L } ∧ (∀ x, L x = s.low x)) := ⟨_, s.low, by rw [hW3]; exact H2.out.same rfl rfl rfl rfl, fun _ => rfl⟩
                rw [← hW3]
                clear hW3 H2 e8 e2 e4 r1 r3' d8 d1 d2 d3 h8 hpre
              case' neg =>
                obtain ⟨pre', ⟨p, kp⟩, hpp⟩ : ∃ pre' p, pre = pre' ++ [p] := ⟨_, _, (List.dropLast_concat_getLast hpre).symm⟩
                obtain ⟨m', hm'⟩ : ∃ m', m' = pre'.length := ⟨_, rfl⟩
                have hmm : m = m' + 1 := by rw [HM.out, hpp, hm']; simp
                have hm1 : (m : Int) - 1 = (m' : Int) := by omega
                have hm2 : (0 : Int) < (m : Int) := by omega
                have hm3 : (m' : Int) < (m : Int) := by omega
                have hpmem : p ∈ s.pn := by rw [pn_of HL.out.2, hpp]; simp
                have hpo := HA.out.2.1.pathOn p hpmem
                have hpn : p < n := HA.out.2.1.onLt p hpo
                have hplt : s.idx p < s.idx u := HA.out.2.1.preLt HL.out.2 p (by rw [hpp]; simp)
                have hpl : s.low p ≤ s.idx p := HA.out.2.1.lowLe p hpo
                have hpu : u ≠ p := fun e => by rw [e] at hplt; omega
                have hH2 : Tm w (w1.setCell ⟨w.heap.size + 8, 0, none⟩ (.slice (some ⟨g, 0, none⟩) m cap)) n vs (.slice (some ⟨g, 0, none⟩) (pre'.length + 1) cap) (.slice az s.size.length cz) { s with path := pre } := by rw [← hm', ← hmm]; exact H2.out
                have x1 := (hH2.pathCells (u := p) (k := kp) (pre := pre') hpp).1
                rw [← hm'] at x1
                have x2 := hH2.rLow.cell hpn
                have x3 := hH2.f 3 p (by omega)
                have HP : Hid (m' = pre'.length ∧ pre = pre' ++ [(p, kp)] ∧ s.idx p < s.idx u ∧ m = m' + 1 ∧ s.low p ≤ s.idx p ∧ u ≠ p) := ⟨hm', hpp, hplt, hmm, hpl, hpu⟩
                clear hmm hm' hpp hplt hH2 hpmem hpre hpl hpu hpo
                have r3' : (w1.setCell ⟨w.heap.size + 8, 0, none⟩ (.slice (some ⟨g, 0, none⟩) m cap)).cell? ⟨w.heap.size + 3, u, none⟩ = some (.int .i64 (s.low u : Int)) := r3
                clear r3
                go_wp2
                obtain ⟨W2, hW2⟩ : ∃ W2, W2 = w1.setCell ⟨w.heap.size + 8, 0, none⟩ (.slice (some ⟨g, 0, none⟩) m cap) := ⟨_, rfl⟩
                rw [← hW2] at H2 r1 r3' x1 x2 x3 e2 e4 e8 ⊢
                clear hW2 d1 d2 d3 d8 h8
                go_region
                have hmin : (if s.low u < s.low p then ((s.low u : Nat) : Int) else ((s.low p : Nat) : Int)) = ((min (s.low p) (s.low u) : Nat) : Int) := by
                  split <;> omega
                rw [hmin]
                have H3 : Hid (Tm w (W2.setCell ⟨w.heap.size + 3, p, none⟩ (.int .i64 ((min (s.low p) (s.low u) : Nat) : Int))).drew n vs (.slice (some ⟨g, 0, none⟩) m cap) (.slice az s.size.length cz) { s with path := pre, low := upd s.low p (min (s.low p) (s.low u)) }) :=
                  (H2.out.setLow p (min (s.low p) (s.low u))).same rfl rfl rfl rfl
                obtain ⟨W5, hW5⟩ : ∃ W5, W5 = (W2.setCell ⟨w.heap.size + 3, p, none⟩ (.int .i64 ((min (s.low p) (s.low u) : Nat) : Int))).drew := ⟨_, rfl⟩
                rw [← hW5] at H3 ⊢
                clear hW5 hmin e2 e4 e8 r1 r3' x1 x2 x3 H2
                have e2 := H3.out.c2
                have e4 := H3.out.c4
                have r1 : W5.cell? ⟨w.heap.size + 1, u, none⟩ = some (.int .i64 (s.idx u : Int)) := H3.out.rIdx.cell hun
                have r3 : W5.cell? ⟨w.heap.size + 3, u, none⟩ = some (.int .i64 (s.low u : Int)) := by
                  have := H3.out.rLow.cell hun
                  rw [this]
                  show some (Value.int .i64 ((upd s.low p (min (s.low p) (s.low u)) u : Nat) : Int)) = _
                  rw [upd_ne _ _ HP.out.2.2.2.2.2]
                by_cases hlu : s.low u = s.idx u
                case neg =>
                  have hd : ((s.low u : Int) != (s.idx u : Int)) = true := by simp; omega
                  have HX : Hid (∀ x, x < k + 1 → 0 < s.idx x) := HA.out.2.2.2.2
                  have HY : Hid (s.low u ≠ s.idx u) := hlu
                  clear hlu
                  go_wp2
                  go_quiet (fail)
                  go_wp2
                  go_roundg (unv n (adjF n at_ val) s.idx + wt (adjF n at_ val) pre)
                  case rel =>
                    have hb := HA.out.2.2.1
                    refine ⟨vs, _, { s with path := pre, low := upd s.low p (min (s.low p) (s.low u)) }, rfl, H3.out.same rfl rfl rfl rfl, ?_, ⟨hb.b1, ?_, hb.b3⟩, HX.out⟩
                    · have hp2 := HL.out.2
                      rw [HP.out.2.1] at hp2 ⊢
                      exact HA.out.2.1.leave hp2 HK.out HY.out
                    · have := hb.b2
                      rw [HL.out.2] at this
                      simp at this
                      show pre.length ≤ s.vis
                      omega
                  case measure => exact left_pop HL.out.2
                have HR : Hid (s.low u = s.idx u) := hlu
                rw [hlu] at r3
                clear hlu
                go_wp2
                go_quiet (fail)
                obtain ⟨W3, hW3⟩ : ∃ W3, W3 = W5.drewN nq := ⟨_, rfl⟩
                rw [← hW3]
                have H4 : Tm w W3 n vs (.slice (some ⟨g, 0, none⟩) m cap) (.slice az s.size.length cz) { s with path := pre, low := upd s.low p (min (s.low p) (s.low u)) } := by rw [hW3]; exact H3.out.same rfl rfl rfl rfl
                clear hW3 e2 e4 r1 r3 H3
                obtain ⟨VP, L, H3⟩ : ∃ VP L, Hid (Tm w W3 n vs VP (.slice az s.size.length cz) { s with path := pre, low := L } ∧ (∀ x, L x = s.low x)) := by
                  refine ⟨_, _, H4, fun x => ?_⟩
                  by_cases e : x = p
                  · rw [e, upd_same]
                    have h1 := HP.out.2.2.1
                    have h2 := HP.out.2.2.2.2.1
                    have h3 := HR.out
                    omega
                  · rw [upd_ne _ _ e]
                clear H4 HP hm1 hm2 hm3 hpn
              all_goals
                have HZ : Hid (s.size.length ≤ 300000 ∧ w.heap.size + 10 ≤ W3.heap.size) := ⟨by have := HA.out.2.2.1.b1; have := HA.out.2.2.1.b3; omega, H3.out.1.Bw⟩
                go_wp2_with (at_builtin; refine wpList_push rfl (.tmp 147) (.tmp 148) rfl (w.heap.size + 10) (.slice az s.size.length cz) s.size 0 rfl W3.heap.size rfl rfl H3.out.1.size HZ.out.2 HZ.out.1 ?_; intro gz capz W4 ho4 hg4)
                have hge := H3.out.1.ownGe.2.2
                have ht4 := H3.out.1.sizeTo (hg4.below (by have := H3.out.1.Bw; omega) hge) hg4.size hg4.block ho4 hg4.at_
                clear hge
                obtain ⟨front, back, hfb⟩ := HA.out.2.1.stkSplit HL.out.2
                obtain ⟨gs, caps, _, rfl, _, _, hcs, _⟩ := own_is ht4.stk (by show 0 < s.stk.length; rw [hfb, List.length_append, List.length_cons]; omega)
                have hsl : s.stk.length = front.length + 1 + back.length := by rw [hfb]; simp; omega
                have H4 : Hid (Tm w W4 n (.slice (some ⟨gs, 0, none⟩) (front.length + 1 + back.length) caps) VP (.slice (some ⟨gz, 0, none⟩) (s.size.length + 1) capz) { s with path := pre, low := L, size := s.size ++ [0] } ∧ (∀ x, L x = s.low x)) := by
                  rw [← hsl]; exact ⟨ht4, H3.out.2⟩
                have HF : Hid (s.stk = front ++ u :: back ∧ front.length + 1 + back.length ≤ 300000 ∧ front.length + 1 + back.length ≤ caps ∧ s.size.length ≤ 300000) := ⟨hfb, by have := HA.out.2.2.1.b1; have := HA.out.2.2.1.b3; omega, by rw [← hsl]; exact hcs, HZ.out.1⟩
                clear ht4 ho4 hg4 H3 HZ hfb hsl hcs
                go_loopg [] (back.length + 1) (fun gg wx => ∃ (q : Nat) (s' : St), gg = q + 1 ∧ q ≤ back.length ∧ Tm w wx n (.slice (some ⟨gs, 0, none⟩) (front.length + 1 + q) caps) VP (.slice (some ⟨gz, 0, none⟩) (s.size.length + 1) capz) s' ∧ s'.stk = front ++ u :: back.take q ∧
                  (∀ x, s'.on x = (s.on x && !decide (x ∈ back.drop q))) ∧ (∀ x, s'.comp x = if x ∈ back.drop q then s.size.length else s.comp x) ∧ s'.size = s.size ++ [back.length - q] ∧ s'.idx = s.idx ∧ s'.low = L ∧ s'.path = pre ∧ s'.vis = s.vis)
                case atStart =>
                  refine ⟨back.length, _, rfl, Nat.le_refl _, H4.out.1, ?_, ?_, ?_, ?_, rfl, rfl, rfl, rfl⟩
                  · rw [List.take_length]; exact HF.out.1
                  · intro x; rw [List.drop_length]; simp
                  · intro x; rw [List.drop_length]; simp
                  · rw [Nat.sub_self]
                case round =>
                  obtain ⟨q, s', rfl, hq, htm, hstk, hon, hcomp, hsz, hix, hlo, hpa, hvi⟩ := hrel
                  have HQ : Hid (q ≤ back.length ∧ s'.stk = front ++ u :: back.take q ∧ (∀ x, s'.on x = (s.on x && !decide (x ∈ back.drop q))) ∧ (∀ x, s'.comp x = if x ∈ back.drop q then s.size.length else s.comp x) ∧ s'.size = s.size ++ [back.length - q] ∧ s'.idx = s.idx ∧ s'.low = L ∧ s'.path = pre ∧ s'.vis = s.vis) := ⟨hq, hstk, hon, hcomp, hsz, hix, hlo, hpa, hvi⟩
                  obtain ⟨l, x, hlx, hll, hxs, hxu⟩ : ∃ l x, s'.stk = l ++ [x] ∧ l.length = front.length + q ∧ x ∈ s.stk ∧ ((x = u ∧ q = 0 ∧ l = front) ∨ (x ≠ u ∧ ∃ q', ∃ hq : q' < back.length, q = q' + 1 ∧ x = back[q'] ∧ l = front ++ u :: back.take q')) := by
                    rw [hstk, HF.out.1]
                    match q, hq with
                    | 0, _ => exact ⟨front, u, rfl, rfl, by simp, .inl ⟨rfl, rfl, rfl⟩⟩
                    | q' + 1, hq =>
                      refine ⟨front ++ u :: back.take q', back[q'], ?_, ?_, by simp, .inr ⟨?_, q', hq, rfl, rfl, rfl⟩⟩
                      · rw [List.take_succ_eq_append_getElem hq]; simp
                      · simp; omega
                      · intro e
                        have hs := HA.out.2.1.sorted
                        rw [HF.out.1, List.pairwise_append, List.pairwise_cons] at hs
                        have := hs.2.1.1 back[q'] (List.getElem_mem _)
                        rw [e] at this
                        omega
                  have hxn : x < n := HA.out.2.1.onLt x ((HA.out.2.1.stkOn x).1 hxs)
                  have hl1 : front.length + 1 + q = l.length + 1 := by omega
                  have hj : s'.size.length = s.size.length + 1 := by rw [hsz]; simp
                  rw [hl1] at htm
                  have hjl : back.length - q ≤ 300000 := by have := HF.out.2.1; omega
                  have hll2 : l.length ≤ 300000 := by have := HF.out.2.1; omega
                  have hlc : (l.length : Int) ≤ (caps : Int) := by have := HF.out.2.2.1; omega
                  have hzl : s.size.length ≤ 300000 := HF.out.2.2.2
                  have c7 := htm.c7
                  have t1 := htm.stkTop hlx
                  have f7 := htm.f 7 0 (by omega)
                  have g5 := htm.rOn.cell hxn
                  have g0 := htm.rComp.cell hxn
                  have h1 := htm.popStk hlx
                  have c6 := h1.c6
                  have f5 := h1.f 5 x (by omega)
                  have h2 := h1.setOn x false
                  have f0 := h2.f 0 x (by omega)
                  simp only [Nat.add_zero] at f0
                  have h3 := h2.setComp x s.size.length
                  have z1 := h3.sizeCell hsz
                  have z2 := z1.2
                  have z1 := z1.1
                  have h4 := h3.sizeSet hsz (back.length - q + 1)
                  simp only [Int.natCast_add, Int.cast_ofNat_Int] at h4
                  have H5 : Hid (_ ∧ (x ∈ s.stk) ∧ l.length = front.length + q) := ⟨h4, hxs, hll⟩
                  clear h1 h2 h3 h4 htm hstk hon hcomp hsz hix hlo hpa hvi hxs hll hl1 hj hlx
                  generalize hM : l.length = M at *
                  have HMM : Hid (l.length = M) := hM
                  clear hM
                  generalize hZ : s.size.length = Z at *
                  have HZZ : Hid (s.size.length = Z) := hZ
                  clear hZ
                  generalize hB : back.length - q = B at *
                  have HBB : Hid (back.length - q = B) := hB
                  clear hB
                  rcases hxu with ⟨rfl, hq0, hlf⟩ | ⟨hxu, q', hq', hqq, hxb, hlf⟩
                  · have HE : Hid (q = 0 ∧ l = front) := ⟨hq0, hlf⟩
                    clear hq0 hlf
                    go_wp2
                    go_roundg (unv n (adjF n at_ val) s.idx + wt (adjF n at_ val) pre)
                    case rel =>
                      obtain ⟨h1, h2⟩ := HE.out
                      have hZZ := HZZ.out
                      have hBB := HBB.out
                      have hMM := HMM.out
                      subst h1 h2 hZZ hBB hMM
                      obtain ⟨_, hstk, hon, hcomp, hsz, hix, hlo, hpa, hvi⟩ := HQ.out
                      rw [List.drop_zero] at hon hcomp
                      have heq := label_eq (front := l) (u := x) hon hcomp hix hlo hpa hvi
                      have hT := H5.out.1
                      rw [Nat.sub_zero] at hT
                      rw [heq] at hT
                      have hb := HA.out.2.2.1
                      refine ⟨_, _, _, rfl, hT, HA.out.2.1.label HL.out.2 HK.out HR.out H4.out.2 HF.out.1, ⟨?_, ?_, hb.b3⟩, HA.out.2.2.2.2⟩
                      · have h5 := hb.b1
                        rw [HF.out.1] at h5
                        show l.length + (s.size ++ [(x :: back).length]).length ≤ s.vis
                        simp at h5 ⊢
                        omega
                      · have h5 := hb.b2
                        rw [HL.out.2] at h5
                        simp at h5
                        show pre.length ≤ s.vis
                        omega
                    case measure => exact left_pop HL.out.2
                  · have HE : Hid (∃ hq' : q' < back.length, q = q' + 1 ∧ x = back[q'] ∧ l = front ++ u :: back.take q') := ⟨hq', hqq, hxb, hlf⟩
                    have hxi : ((x : Int) == (u : Int)) = false := by simp; omega
                    clear hqq hxb hlf
                    go_wp2
                    go_roundg q
                    case rel =>
                      obtain ⟨_, h1, h2, h3⟩ := HE.out
                      have hZZ := HZZ.out
                      have hBB := HBB.out
                      have hMM := HMM.out
                      subst hZZ hBB hMM
                      subst h1
                      obtain ⟨_, hstk, hon, hcomp, hsz, hix, hlo, hpa, hvi⟩ := HQ.out
                      have hpo := pop_on hq' hon hcomp
                      rw [← h2] at hpo
                      have hT := H5.out.1
                      have hl1 : l.length = front.length + 1 + q' := by rw [H5.out.2.2]; omega
                      refine ⟨q', { s' with stk := l, on := upd s'.on x false, comp := upd s'.comp x s.size.length, size := s.size ++ [back.length - (q' + 1) + 1] }, rfl, by omega, by rw [← hl1]; exact hT, h3, hpo.1, hpo.2, ?_, hix, hlo, hpa, hvi⟩
                      show s.size ++ [back.length - (q' + 1) + 1] = s.size ++ [back.length - q']
                      rw [show back.length - (q' + 1) + 1 = back.length - q' by omega]
                    case measure => omega
      · have h1 : (0 : Int) ≠ (s.idx k : Int) := by omega
        have hd : decide ((s.idx k : Int) = 0) = false := by simp; omega
        clear htm hinv hbd hpath hall
        go_wp2
        go_round
        case rel => exact ⟨k + 1, by omega, by go_num, vs, vp, s, HA.out.1, HA.out.2.1, HA.out.2.2.1, HA.out.2.2.2.1, fun x hx => by
          by_cases e : x = k
          · rw [e]; omega
          · exact HA.out.2.2.2.2 x (by omega)⟩
        case measure => simp [intOf]; omega
    · obtain rfl : n = k := by omega
      clear htm hinv hbd hpath hall
      go_wp2
      go_ret2
      exact ⟨u3, s, rfl, HA.out.1.rComp, HA.out.1.size, HA.out.1.bel, HA.out.2.1, HA.out.2.2.2.1, HA.out.2.2.2.2⟩
end Go.Proofs.Ybulkcxvo
