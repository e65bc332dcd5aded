/-
  The walk over reduce's closure.
-/
import Derived.Test.YbulkcxvoFillM
namespace Go.Proofs.Ybulkcxvo
open Go.RowKit

set_option maxRecDepth 100000 in
set_option maxHeartbeats 4000000 in
theorem fill_any {f : Nat} {cv : Value} (hf : f = 24 ∨ f = 26) (w : World) (gb pg n I m rkb : Nat) (so : Option Addr) (sc : Nat) (rk : Nat → Int) (tx : Nat → Nat) (it : Nat → Int) (kd : Nat → Nat) (hb : Hb n I m rk tx it kd) (hn : n ≤ 512) (hI : I ≤ 16) (hm : m ≤ 512)
    (S : Nat → World → Prop) (hG : ∀ k w', S k w' → Gf w' gb pg n I m rkb so sc rk tx it kd) (hst : ∀ k w1 w2, S k w1 → Below w.heap.size w1 w2 → S k w2)
    (hput : ∀ k e w', (runA (accL rk tx it kd m)).ed[k]? = some e → S k w' → w.heap.size ≤ w'.heap.size → Calls Yba.prog f #[.int .i64 (e.1 : Int), .int .i64 (e.2 : Int), cv] w' fun r w'' => r = .returned (.tuple #[]) ∧ S (k + 1) w'' ∧ Ab w.heap.size w' w'')
    (h0 : S 0 w) : Calls Yba.prog 21 #[.func (.func f) #[] #[cv], .pointer (some ⟨gb, 0, none⟩)] w fun e w' => e = .returned (.tuple #[]) ∧ S (runA (accL rk tx it kd m)).ed.length w' ∧ w.heap.size ≤ w'.heap.size := by
  have hni : (n : Int) ≤ 512 := by omega
  have hIi : (I : Int) ≤ 16 := by omega
  have hmi : (m : Int) ≤ 512 := by omega
  have hmk := make34 I (by omega)
  have hmk2 := make71 I (by omega)
  have HS : Hid ((∀ k w', S k w' → Gf w' gb pg n I m rkb so sc rk tx it kd) ∧ (∀ k w1 w2, S k w1 → Below w.heap.size w1 w2 → S k w2) ∧ Hb n I m rk tx it kd) := ⟨hG, hst, hb⟩
  have HP : Hid (∀ k e w', (runA (accL rk tx it kd m)).ed[k]? = some e → S k w' → w.heap.size ≤ w'.heap.size → Calls Yba.prog f #[.int .i64 (e.1 : Int), .int .i64 (e.2 : Int), cv] w' fun r w'' => r = .returned (.tuple #[]) ∧ S (k + 1) w'' ∧ Ab w.heap.size w' w'') := hput
  have hS1 := hst 0 w _ h0 ((Below.refl _ w).alloc (Nat.le_refl _) (.cells #[.func (.func f) #[] #[cv]] 95))
  have hS2 := hst 0 _ _ hS1 ((Below.refl _ _).alloc (by simp) (.cells (ir I fun _ => 0) 3))
  have hS3 := hst 0 _ _ hS2 ((Below.refl _ _).alloc (by simp; omega) (.cells (sr I fun _ => .slice none 0 0) 34))
  have a1 := (hG _ _ hS1).c0
  have a2 := (hG _ _ hS1).items
  have a3 := (hG _ _ hS2).c0
  have a4 := (hG _ _ hS2).items
  have HF : Hid (Fm _ w.heap.size I _ _ _ _ ∧ S 0 (((w.alloc (.cells #[.func (.func f) #[] #[cv]] 95)).alloc (.cells (ir I fun _ => 0) 3)).alloc (.cells (sr I fun _ => .slice none 0 0) 34))) := ⟨fm_start w I (.func (.func f) #[] #[cv]), hS3⟩
  clear hS1 hS2 hS3 hG hst hb hput h0
  go_enter Yba.func21, Yba.ntmps21
  go_wp2
  simp only [Nat.add_assoc, Nat.reduceAdd]
  obtain ⟨W0, hW0⟩ : ∃ W0, W0 = (((w.alloc (.cells #[.func (.func f) #[] #[cv]] 95)).alloc (.cells (ir I fun _ => 0) 3)).alloc (.cells (sr I fun _ => .slice none 0 0) 34)) := ⟨_, rfl⟩
  rw [← hW0] at HF ⊢
  clear hW0 hmk hmk2 a1 a2 a3 a4
  go_loopw [26] (fun i wr => ∃ k : Nat, k ≤ I ∧ i = .int .i64 (k : Int) ∧ S 0 wr ∧ Fm wr w.heap.size I (.func (.func f) #[] #[cv]) (fun x => if x < k then -1 else 0) (fun _ => .slice none 0 0) (fun _ => [])) (fun i _ => I - (intOf i).toNat)
  case atStart => exact ⟨0, Nat.zero_le _, rfl, HF.out.2, by simpa using HF.out.1⟩
  case round =>
    clear HF W0
    rename World => w1
    obtain ⟨k, hk, rfl, hs, hfm⟩ := hrel
    by_cases hlt : k < I
    · have hki : (k : Int) < (I : Int) := by omega
      have c1 := hfm.wrr.cell hlt
      have f1 := hfm.wrr.fz k
      have H1 : Hid (S 0 w1 ∧ Fm w1 w.heap.size I (.func (.func f) #[] #[cv]) (fun x => if x < k then -1 else 0) (fun _ => .slice none 0 0) (fun _ => [])) := ⟨hs, hfm⟩
      clear hs hfm
      go_wp2
      go_round
      case rel =>
        refine ⟨k + 1, by omega, by go_num, HS.out.2.1 0 _ _ H1.out.1 ((Below.refl _ _).setCell (by show w.heap.size ≤ w.heap.size + 1; omega) _), ?_⟩
        have h3 := H1.out.2.setWr k (-1)
        have : upd (fun x => if x < k then (-1 : Int) else 0) k (-1) = fun x => if x < k + 1 then (-1 : Int) else 0 := by
          funext x
          by_cases e : x = k
          · rw [e, upd_same, if_pos (by omega)]
          · rw [upd_ne _ _ e]
            by_cases h : x < k
            · rw [if_pos h, if_pos (by omega)]
            · rw [if_neg h, if_neg (by omega)]
        rw [this] at h3
        exact h3
      case measure => simp [intOf]; omega
    · obtain rfl : I = k := by omega
      have hG := HS.out.1 _ _ hs
      have a1 := hG.c0
      have a2 := hG.stp
      have hfm0 : Fm w1 w.heap.size I (.func (.func f) #[] #[cv]) (fun _ => -1) (fun _ => .slice none 0 0) (fun _ => []) := ⟨hfm.box, hfm.wrr.congr fun i hi => if_pos hi, hfm.tb⟩
      have H1 : Hid (S 0 w1 ∧ Fm w1 w.heap.size I (.func (.func f) #[] #[cv]) (fun _ => -1) (fun _ => .slice none 0 0) (fun _ => [])) := ⟨hs, hfm0⟩
      clear hs hfm hfm0 hG
      go_wp2
      go_loopw [38] (fun i wx => ∃ (k : Nat) (V : Nat → Value), k ≤ m ∧ i = .int .i64 (k : Int) ∧ S (runA (accL rk tx it kd k)).ed.length wx ∧ Fm wx w.heap.size I (.func (.func f) #[] #[cv]) (runA (accL rk tx it kd k)).wr V (runA (accL rk tx it kd k)).rd) (fun i _ => m - (intOf i).toNat)
      case atStart => exact ⟨0, fun _ => .slice none 0 0, Nat.zero_le _, rfl, H1.out.1, H1.out.2⟩
      case round =>
        clear H1 a1 a2
        rename World => w2
        obtain ⟨k, V, hk, rfl, hs, hfm⟩ := hrel
        by_cases hlt : k < m
        · have hki : (k : Int) < (m : Int) := by omega
          have hG := HS.out.1 _ _ hs
          obtain ⟨sb, off, rfl, hsb, hst⟩ := hG.sts (by omega)
          obtain ⟨s1, s2, s3⟩ := hst k hlt
          have htn := HS.out.2.2.tlt k hlt
          have hit := HS.out.2.2.ilt k hlt
          have hkb := HS.out.2.2.klt k hlt
          have hrb := HS.out.2.2.rge (tx k) htn
          have hal : Below w2.heap.size w2 (w2.alloc (.cells #[.int .i64 (tx k : Int), .int .i64 (it k), .int .u8 (kd k : Int)] 32)) := (Below.refl _ _).alloc (Nat.le_refl _) _
          have hs3 := HS.out.2.1 _ _ (w2.alloc (.cells #[.int .i64 (tx k : Int), .int .i64 (it k), .int .u8 (kd k : Int)] 32)) hs (hal.mono (by have := hfm.sz; omega))
          have hfm3 := hfm.keep (W := w2.alloc (.cells #[.int .i64 (tx k : Int), .int .i64 (it k), .int .u8 (kd k : Int)] 32)) (fun b _ hb => hal.block b hb)
          have hst8 : (w2.alloc (.cells #[.int .i64 (tx k : Int), .int .i64 (it k), .int .u8 (kd k : Int)] 32)).heap[w2.heap.size]? = some (.cells #[.int .i64 (tx k : Int), .int .i64 (it k), .int .u8 (kd k : Int)] 32 (0, 0)) := heap_alloc_new w2 _
          have hG3 := HS.out.1 _ _ hs3
          have a1 := hG3.c0
          have a2 := hG3.rank
          have a3 := hG3.rkr.cell htn
          have hti : (tx k : Int) < (n : Int) := by omega
          have H3 : Hid (S (runA (accL rk tx it kd k)).ed.length (w2.alloc (.cells #[.int .i64 (tx k : Int), .int .i64 (it k), .int .u8 (kd k : Int)] 32)) ∧ Fm (w2.alloc (.cells #[.int .i64 (tx k : Int), .int .i64 (it k), .int .u8 (kd k : Int)] 32)) w.heap.size I (.func (.func f) #[] #[cv]) (runA (accL rk tx it kd k)).wr V (runA (accL rk tx it kd k)).rd ∧
            (w2.alloc (.cells #[.int .i64 (tx k : Int), .int .i64 (it k), .int .u8 (kd k : Int)] 32)).heap[w2.heap.size]? = some (.cells #[.int .i64 (tx k : Int), .int .i64 (it k), .int .u8 (kd k : Int)] 32 (0, 0))) := ⟨hs3, hfm3, hst8⟩
          have b1 : (w2.alloc (.cells #[.int .i64 (tx k : Int), .int .i64 (it k), .int .u8 (kd k : Int)] 32)).cell? ⟨w2.heap.size, 0, none⟩ = some (.int .i64 (tx k : Int)) := by rw [cell_of_row _ _ _ _ _ _ hst8]; rfl
          have b2 : (w2.alloc (.cells #[.int .i64 (tx k : Int), .int .i64 (it k), .int .u8 (kd k : Int)] 32)).cell? ⟨w2.heap.size, 1, none⟩ = some (.int .i64 (it k)) := by rw [cell_of_row _ _ _ _ _ _ hst8]; rfl
          have b3 : (w2.alloc (.cells #[.int .i64 (tx k : Int), .int .i64 (it k), .int .u8 (kd k : Int)] 32)).cell? ⟨w2.heap.size, 2, none⟩ = some (.int .u8 (kd k : Int)) := by rw [cell_of_row _ _ _ _ _ _ hst8]; rfl
          have hsz := hfm.sz
          clear hs hfm hG hst hal hs3 hfm3 hst8 hG3
          have hN8 : w.heap.size + 3 ≤ w2.heap.size := hsz
          clear hsz
          go_wp2
          obtain ⟨W3, hW3⟩ : ∃ W3, W3 = w2.alloc (.cells #[.int .i64 (tx k : Int), .int .i64 (it k), .int .u8 (kd k : Int)] 32) := ⟨_, rfl⟩
          rw [← hW3] at H3 a1 a2 a3 b1 b2 b3 ⊢
          clear hW3 s1 s2 s3
          by_cases hneg : rk (tx k) < 0 ∨ it k < 0
          · have HK : Hid (accL rk tx it kd (k + 1) = accL rk tx it kd k) := accL_skip hneg
            have H4 : ∀ q, Hid (S (runA (accL rk tx it kd (k + 1))).ed.length (W3.drewN q) ∧ Fm (W3.drewN q) w.heap.size I (.func (.func f) #[] #[cv]) (runA (accL rk tx it kd (k + 1))).wr V (runA (accL rk tx it kd (k + 1))).rd) := by
              intro q
              rw [HK.out]
              exact ⟨HS.out.2.1 _ _ _ H3.out.1 ⟨rfl, rfl, rfl, Nat.le_refl _, fun _ _ => rfl⟩, H3.out.2.1.keep fun _ _ _ => rfl⟩
            by_cases h1 : rk (tx k) < 0
            · clear hneg
              go_quiet (fail)
              go_wp2
              go_round
              case rel => exact ⟨k + 1, V, by omega, by go_num, (H4 nq).out⟩
              case measure => simp [intOf]; omega
            · have h2 : it k < 0 := by omega
              have h3 : decide (rk (tx k) < 0) = false := decide_eq_false h1
              clear hneg
              go_quiet (fail)
              go_wp2
              go_round
              case rel => exact ⟨k + 1, V, by omega, by go_num, (H4 nq).out⟩
              case measure => simp [intOf]; omega
          · obtain ⟨u, hu⟩ := Int.eq_ofNat_of_zero_le (show 0 ≤ rk (tx k) by omega)
            obtain ⟨x, hx⟩ := Int.eq_ofNat_of_zero_le (show 0 ≤ it k by omega)
            have hxI : x < I := by omega
            have hun : u < n := by omega
            have HK : Hid (runA (accL rk tx it kd (k + 1)) = (runA (accL rk tx it kd k)).step ⟨u, x, kd k != 1⟩ ∧ (runA (accL rk tx it kd (k + 1))).ed <+: (runA (accL rk tx it kd m)).ed ∧ Ok n (accL rk tx it kd k).length (runA (accL rk tx it kd k)) ∧ (accL rk tx it kd k).length ≤ k) := by
              refine ⟨by rw [accL_take hu hx, runA_snoc], ed_prefix (by omega), ok_run n _ fun a ha => ?_, ?_⟩
              · unfold accL at ha
                rw [List.mem_filterMap] at ha
                obtain ⟨i, hi, hai⟩ := ha
                rw [List.mem_range] at hi
                unfold accOf at hai
                split at hai
                · cases hai
                · rename_i hno
                  simp only [Option.some.injEq] at hai
                  rw [← hai]
                  have := HS.out.2.2.rge (tx i) (HS.out.2.2.tlt i (by omega))
                  show (rk (tx i)).toNat < n
                  omega
              · unfold accL
                refine Nat.le_trans (List.length_filterMap_le _ _) ?_
                simp
            rw [hu] at a3
            rw [hx] at b2
            have hxi : (x : Int) < (I : Int) := by omega
            clear hneg
            simp only [hx] at H3 ⊢
            go_quiet (fail)
            have H4 : Hid (S (runA (accL rk tx it kd k)).ed.length (W3.drewN nq) ∧ Fm (W3.drewN nq) w.heap.size I (.func (.func f) #[] #[cv]) (runA (accL rk tx it kd k)).wr V (runA (accL rk tx it kd k)).rd ∧ (W3.drewN nq).heap[w2.heap.size]? = some (.cells #[.int .i64 (tx k : Int), .int .i64 (x : Int), .int .u8 (kd k : Int)] 32 (0, 0))) :=
              ⟨HS.out.2.1 _ _ _ H3.out.1 ⟨rfl, rfl, rfl, Nat.le_refl _, fun _ _ => rfl⟩, H3.out.2.1.keep fun _ _ _ => rfl, H3.out.2.2⟩
            obtain ⟨W4, hW4⟩ : ∃ W4, W4 = W3.drewN nq := ⟨_, rfl⟩
            rw [← hW4] at H4 ⊢
            clear hW4 H3 a1 a2 a3 b1 b2 b3
            clear nq W3
            generalize runA (accL rk tx it kd k) = st at *
            have c1 := H4.out.2.1.wrr.cell hxI
            have HE : Hid (Calls Yba.prog 22 #[.int .i64 (st.wr x), .int .i64 (u : Int), .pointer (some ⟨w.heap.size, 0, none⟩)] W4 fun e w' => e = .returned (.tuple #[]) ∧ (S (st.ed ++ emit0 st.wr ⟨u, x, kd k != 1⟩).length w' ∧ Ab w.heap.size W4 w')) := by
              have hpre : st.ed ++ emit0 st.wr ⟨u, x, kd k != 1⟩ <+: (runA (accL rk tx it kd m)).ed := by
                refine List.IsPrefix.trans ?_ HK.out.2.1
                rw [HK.out.1]
                show _ <+: st.ed ++ (emit0 st.wr ⟨u, x, kd k != 1⟩ ++ _)
                rw [← List.append_assoc]
                exact List.prefix_append _ _
              by_cases hc : 0 ≤ st.wr x ∧ st.wr x ≠ (u : Int)
              · obtain ⟨r, hr⟩ := Int.eq_ofNat_of_zero_le hc.1
                have he : emit0 st.wr ⟨u, x, kd k != 1⟩ = [(r, u)] := by
                  unfold emit0
                  rw [if_pos hc]
                  show [((st.wr x).toNat, u)] = _
                  rw [hr]; rfl
                rw [he] at hpre ⊢
                refine edge_put _ _ w.heap.size f cv W4 _ hf hc.1 hc.2 H4.out.2.1.bx ?_
                rw [hr, List.length_append, List.length_singleton]
                exact HP.out st.ed.length (r, u) W4 (at_prefix hpre) H4.out.1 (by have := H4.out.2.1.sz; omega)
              · have he : emit0 st.wr ⟨u, x, kd k != 1⟩ = [] := if_neg hc
                rw [he, List.append_nil]
                refine (edge_skip _ _ _ W4 (by omega)).mono ?_
                rintro e w' ⟨rfl, rfl⟩
                exact ⟨rfl, H4.out.1, Nat.le_refl _, fun _ _ _ => rfl⟩
            go_wp2_with fail
            refine HE.out.mono ?_
            rintro e w5 ⟨rfl, hs5, hab⟩
            have hfm5 := H4.out.2.1.keep (W := w5) hab.block
            have h85 := (hab.block w2.heap.size (by omega) (lt_of_block H4.out.2.2)).trans H4.out.2.2
            have b3 : w5.cell? ⟨w2.heap.size, 2, none⟩ = some (.int .u8 (kd k : Int)) := by rw [cell_of_row _ _ _ _ _ _ h85]; rfl
            have H5 : Hid (S (st.ed ++ emit0 st.wr ⟨u, x, kd k != 1⟩).length w5 ∧ Fm w5 w.heap.size I (.func (.func f) #[] #[cv]) st.wr V st.rd) := ⟨hs5, hfm5⟩
            obtain ⟨ao, cap, hVx⟩ := own_val (hfm5.tb.own x hxI)
            have c2 := (hfm5.tb.cell hxI).1
            have f2 := (hfm5.tb.cell hxI).2
            rw [hVx] at c2
            have hrl : (st.rd x).length ≤ 512 := by have := HK.out.2.2.1.rlen x; have := HK.out.2.2.2; omega
            clear hs5 hab hfm5 h85 HE H4 c1
            by_cases hkd : kd k = 1
            · have hki1 : (kd k : Int) = 1 := by omega
              rw [hki1] at b3
              have HO : Hid (w5.ownsRow (w.heap.size + 3) 3 1 (.slice ao (st.rd x).length cap) (st.rd x).length (ic (st.rd x)) ∧ w.heap.size + 3 ≤ w5.heap.size ∧ (st.rd x).length ≤ 300000) := ⟨by rw [← hVx]; exact H5.out.2.tb.own x hxI, H5.out.2.sz, by omega⟩
              have HV : Hid (V x = .slice ao (st.rd x).length cap) := hVx
              have HR : Hid (runA (accL rk tx it kd (k + 1)) = ⟨st.wr, upd st.rd x (st.rd x ++ [u]), st.ed ++ (emit0 st.wr ⟨u, x, kd k != 1⟩ ++ [])⟩) := by
                show runA (accL rk tx it kd (k + 1)) = _
                rw [HK.out.1]
                have : (kd k != 1) = false := by simp [hkd]
                unfold Rs.step
                simp only [this]
                rfl
              clear hVx
              go_wp2_with (at_builtin; refine wpList_push rfl (.tmp 73) (.tmp 75) rfl (w.heap.size + 3) (.slice ao (st.rd x).length cap) (st.rd x) u rfl w5.heap.size rfl rfl HO.out.1 HO.out.2.1 HO.out.2.2 ?_; intro g2 cap2 W6 ho6 hg6; have hx6 := H5.out.2.tb.after hxI (by rw [HV.out]; exact hg6); have x6a := hx6.1; have x6b := hx6.2; rw [HV.out] at x6a; have H6 : Hid (_ ∧ _) := ⟨hg6, ho6⟩; clear hx6 ho6 hg6)
              go_round
              case rel =>
                refine ⟨k + 1, upd V x (.slice (some ⟨g2, 0, none⟩) ((st.rd x).length + 1) cap2), by omega, by go_num, ?_⟩
                rw [HR.out]
                have hg6 : Gx (V x) (.slice (some ⟨g2, 0, none⟩) ((st.rd x).length + 1) cap2) w5 W6 := by rw [HV.out]; exact H6.out.1
                refine ⟨?_, H5.out.2.push hxI hg6 H6.out.2⟩
                rw [List.append_nil]
                refine HS.out.2.1 _ _ _ H5.out.1 ((hg6.below (by have := HO.out.2.1; omega) fun g e => ?_).setCell (by show w.heap.size ≤ w.heap.size + 2; omega) _)
                have := (own_ge (H5.out.2.tb.own x hxI) g e).1
                omega
              case measure => simp [intOf]; omega
            · have hki1 : ((kd k : Int) == 1) = false := by simp; omega
              have hki2 : decide ((kd k : Int) = 1) = false := decide_eq_false (by omega)
              have hrli : ((st.rd x).length : Int) ≤ 512 := by omega
              have HV : Hid (V x = .slice ao (st.rd x).length cap) := hVx
              have HR : Hid (runA (accL rk tx it kd (k + 1)) = ⟨upd st.wr x (u : Int), upd st.rd x [], st.ed ++ (emit0 st.wr ⟨u, x, kd k != 1⟩ ++ emitR (st.rd x) u)⟩) := by
                show runA (accL rk tx it kd (k + 1)) = _
                rw [HK.out.1]
                have : (kd k != 1) = true := by simp [hkd]
                unfold Rs.step
                simp only [this]
                rfl
              have HB : Hid (w.heap.size ≤ w5.heap.size) := by have := H5.out.2.sz; show w.heap.size ≤ w5.heap.size; omega
              clear hVx
              go_wp2
              go_loopw [83] (fun i wx => ∃ j : Nat, j ≤ (st.rd x).length ∧ i = .int .i64 (j : Int) ∧ S (st.ed ++ (emit0 st.wr ⟨u, x, kd k != 1⟩ ++ emitR ((st.rd x).take j) u)).length wx ∧ Fm wx w.heap.size I (.func (.func f) #[] #[cv]) st.wr V st.rd) (fun i _ => (st.rd x).length - (intOf i).toNat)
              case atStart => exact ⟨0, Nat.zero_le _, rfl, by rw [List.take_zero]; show S (st.ed ++ (emit0 st.wr ⟨u, x, kd k != 1⟩ ++ [])).length w5; rw [List.append_nil]; exact H5.out.1, H5.out.2⟩
              case round =>
                clear H5 HB b3 c2 f2
                rename World => w6
                obtain ⟨j, hj, rfl, hs, hfm⟩ := hrel
                by_cases hjl : j < (st.rd x).length
                · have hji : (j : Int) < ((st.rd x).length : Int) := by omega
                  obtain ⟨r, hr⟩ : ∃ r, (st.rd x)[j]? = some r := ⟨_, List.getElem?_eq_getElem hjl⟩
                  have hown := hfm.tb.own x hxI
                  rw [HV.out] at hown
                  obtain ⟨g, cap', cu, hv, _⟩ := own_is hown (by omega)
                  cases hv
                  have c3 := (own_cell hown (j := j) (u := .int .i64 (r : Int)) (by simp [ic, hr])).1
                  have H6 : Hid (S (st.ed ++ (emit0 st.wr ⟨u, x, kd k != 1⟩ ++ emitR ((st.rd x).take j) u)).length w6 ∧ Fm w6 w.heap.size I (.func (.func f) #[] #[cv]) st.wr V st.rd) := ⟨hs, hfm⟩
                  have HE : Hid (Calls Yba.prog 22 #[.int .i64 (r : Int), .int .i64 (u : Int), .pointer (some ⟨w.heap.size, 0, none⟩)] w6 fun e w' => e = .returned (.tuple #[]) ∧ (S (st.ed ++ (emit0 st.wr ⟨u, x, kd k != 1⟩ ++ emitR ((st.rd x).take (j + 1)) u)).length w' ∧ Ab w.heap.size w6 w')) := by
                    rw [emitR_next hr]
                    by_cases hc : r = u
                    · rw [if_pos hc, List.append_nil]
                      refine (edge_skip _ _ _ w6 (by omega)).mono ?_
                      rintro e w' ⟨rfl, rfl⟩
                      exact ⟨rfl, hs, Nat.le_refl _, fun _ _ _ => rfl⟩
                    · have hpre : (st.ed ++ (emit0 st.wr ⟨u, x, kd k != 1⟩ ++ emitR ((st.rd x).take j) u)) ++ [(r, u)] <+: (runA (accL rk tx it kd m)).ed := by
                        refine List.IsPrefix.trans ?_ HK.out.2.1
                        rw [HR.out]
                        have h1 := emitR_take (st.rd x) (j + 1) u
                        rw [emitR_next hr, if_neg hc] at h1
                        obtain ⟨t, ht⟩ := h1
                        show _ <+: st.ed ++ (emit0 st.wr ⟨u, x, kd k != 1⟩ ++ emitR (st.rd x) u)
                        rw [← ht]
                        exact ⟨t, by simp⟩
                      rw [if_neg hc]
                      refine edge_put _ _ w.heap.size f cv w6 _ hf (by omega) (by omega) hfm.bx ?_
                      have := HP.out _ (r, u) w6 (at_prefix hpre) hs (by have := hfm.sz; omega)
                      refine this.mono fun e w' h => ⟨h.1, ?_, h.2.2⟩
                      have h2 := h.2.1
                      rw [show (st.ed ++ (emit0 st.wr ⟨u, x, kd k != 1⟩ ++ (emitR ((st.rd x).take j) u ++ [(r, u)]))).length = (st.ed ++ (emit0 st.wr ⟨u, x, kd k != 1⟩ ++ emitR ((st.rd x).take j) u)).length + 1 by simp; omega]
                      exact h2
                  clear hs hfm hown
                  go_wp2_with fail
                  refine HE.out.mono ?_
                  rintro e w7 ⟨rfl, hs7, hab⟩
                  have H7 : Hid (S (st.ed ++ (emit0 st.wr ⟨u, x, kd k != 1⟩ ++ emitR ((st.rd x).take (j + 1)) u)).length w7 ∧ Fm w7 w.heap.size I (.func (.func f) #[] #[cv]) st.wr V st.rd) := ⟨hs7, H6.out.2.keep hab.block⟩
                  clear hs7 hab HE H6
                  go_wp2
                  go_round
                  case rel => exact ⟨j + 1, by omega, by go_num, H7.out⟩
                  case measure => simp [intOf]; omega
                · obtain rfl : (st.rd x).length = j := by omega
                  rw [List.take_length] at hs
                  have c2 := (hfm.tb.cell hxI).1
                  have f2 := (hfm.tb.cell hxI).2
                  rw [HV.out] at c2
                  have c4 := hfm.wrr.cell hxI
                  have f4 := hfm.wrr.fz x
                  have H6 : Hid (S (st.ed ++ (emit0 st.wr ⟨u, x, kd k != 1⟩ ++ emitR (st.rd x) u)).length w6 ∧ Fm w6 w.heap.size I (.func (.func f) #[] #[cv]) st.wr V st.rd) := ⟨hs, hfm⟩
                  clear hs hfm
                  go_wp2
                  go_region
                  have H8 : Hid (S (st.ed ++ (emit0 st.wr ⟨u, x, kd k != 1⟩ ++ emitR (st.rd x) u)).length ((w6.setCell ⟨w.heap.size + 1, x, none⟩ (.int .i64 (u : Int))).setCell ⟨w.heap.size + 2, x, none⟩ (.slice ao 0 cap)).drew ∧ Fm ((w6.setCell ⟨w.heap.size + 1, x, none⟩ (.int .i64 (u : Int))).setCell ⟨w.heap.size + 2, x, none⟩ (.slice ao 0 cap)).drew w.heap.size I (.func (.func f) #[] #[cv]) (upd st.wr x (u : Int)) (upd V x (.slice ao 0 cap)) (upd st.rd x [])) := by
                    refine ⟨HS.out.2.1 _ _ _ H6.out.1 ((((Below.refl _ _).setCell (by show w.heap.size ≤ w.heap.size + 1; omega) _).setCell (by show w.heap.size ≤ w.heap.size + 2; omega) _).trans ⟨rfl, rfl, rfl, Nat.le_refl _, fun _ _ => rfl⟩), ?_⟩
                    exact ((H6.out.2.setWr x u).cut hxI HV.out).keep fun _ _ _ => rfl
                  obtain ⟨W8, hW8⟩ : ∃ W8, W8 = ((w6.setCell ⟨w.heap.size + 1, x, none⟩ (.int .i64 (u : Int))).setCell ⟨w.heap.size + 2, x, none⟩ (.slice ao 0 cap)).drew := ⟨_, rfl⟩
                  rw [← hW8] at H8 ⊢
                  clear hW8 c2 f2 c4 f4 H6
                  go_wp2
                  go_round
                  case rel =>
                    refine ⟨k + 1, upd V x (.slice ao 0 cap), by omega, by go_num, ?_⟩
                    rw [HR.out]
                    exact H8.out
                  case measure => simp [intOf]; omega
        · obtain rfl : m = k := by omega
          have H3 : Hid (S (runA (accL rk tx it kd m)).ed.length w2 ∧ w.heap.size ≤ w2.heap.size) := ⟨hs, by have := hfm.sz; omega⟩
          clear hs hfm
          go_wp2
          go_end0
          exact ⟨rfl, H3.out⟩
end Go.Proofs.Ybulkcxvo
