/-
  The walk over zzs4967breach.
-/
import Derived.Test.YbulkcxvoBfs
namespace Go.Proofs.Ybulkcxvo
open Go.RowKit

set_option maxRecDepth 100000 in
set_option maxHeartbeats 4000000 in
theorem breach_any (n t ab vb : Nat) (at_ val : Nat → Nat) (w : World) (hn : n ≤ 256) (ht : t ≤ 524288) (h1 : IR w ab (n + 1) at_) (h2 : IR w vb t val) (mono : ∀ u, u < n → at_ u ≤ at_ (u + 1)) (le : ∀ u, u ≤ n → at_ u ≤ t) (vlt : ∀ i, i < t → val i < n) :
    Calls Yba.prog 15 #[.int .i64 (n : Int), .agg #[.slice (some ⟨ab, 0, none⟩) (n + 1) (n + 1), .slice (some ⟨vb, 0, none⟩) t t]] w fun e w' => ∃ F R, e = .returned (.slice (some ⟨w.heap.size + 1, 0, none⟩) n n) ∧ Rm w w' n t ab vb (adjF n at_ val) n F R := by
  have hni : (n : Int) ≤ 256 := by omega
  have hmk := make77 n (by omega)
  have hmk2 := make79 n (by omega)
  have HG : Hid (IR w ab (n + 1) at_ ∧ IR w vb t val ∧ (∀ u, u < n → at_ u ≤ at_ (u + 1)) ∧ (∀ u, u ≤ n → at_ u ≤ t) ∧ (∀ i, i < t → val i < n)) := ⟨h1, h2, mono, le, vlt⟩
  have HI : Hid (Rm w _ n t ab vb (adjF n at_ val) 0 _ _) := rm_start w n t ab vb (adjF n at_ val)
  clear h1 h2 mono le vlt
  go_enter Yba.func15, Yba.ntmps15
  go_wp2
  obtain ⟨W0, hW0⟩ : ∃ W0, W0 = ((w.alloc (.cells #[.slice (some ⟨ab, 0, none⟩) (n + 1) (n + 1), .slice (some ⟨vb, 0, none⟩) t t] 43)).alloc (.cells (sr n fun _ => .slice none 0 0) 79)) := ⟨_, rfl⟩
  rw [← hW0] at HI ⊢
  clear hW0 hmk
  go_loopw [6] (fun i wr => ∃ k : Nat, k ≤ n ∧ i = .int .i64 (k : Int) ∧ ∃ F R, Rm w wr n t ab vb (adjF n at_ val) k F R) (fun i _ => n - (intOf i).toNat)
  case atStart => exact ⟨0, Nat.zero_le _, rfl, _, _, HI.out⟩
  case round =>
    rename World => w1
    obtain ⟨k, hk, rfl, F, R, hrm⟩ := hrel
    have HA : Hid (Rm w w1 n t ab vb (adjF n at_ val) k F R) := hrm
    by_cases hlt : k < n
    · have hki : (k : Int) < (n : Int) := by omega
      have hsc : (w1.alloc (.cells (br n fun _ => false) 4)).cell? ⟨w1.heap.size, k, none⟩ = some (.bool false) := (BR.new w1 n _).cell hlt
      have hsf : (w1.alloc (.cells (br n fun _ => false) 4)).frozen? ⟨w1.heap.size, k, none⟩ = false := (BR.new w1 n _).fz k
      have HQ : Hid (Qm w1 _ n _ _ [k]) := qm_start w1 n k
      clear hrm
      go_wp2
      obtain ⟨Wq, hWq⟩ : ∃ Wq, Wq = ((w1.alloc (.cells ((br n fun _ => false).setIfInBounds k (.bool true)) 4)).alloc (.cells #[.int .i64 (k : Int)] 3)) := ⟨_, rfl⟩
      rw [← hWq] at HQ ⊢
      clear hWq hsc hsf hmk2
      go_loopw [8, 9] (fun vq i wx => ∃ (h : Nat) (q : List Nat) (seen : Nat → Bool) (g cap : Nat), h ≤ q.length ∧ i = .int .i64 (h : Int) ∧ vq = .slice (some ⟨g, 0, none⟩) q.length cap ∧ Qm w1 wx n seen (.slice (some ⟨g, 0, none⟩) q.length cap) q ∧ Bf n (adjF n at_ val) k seen q h 0) (fun _ i _ => n - (intOf i).toNat)
      case atStart => exact ⟨0, [k], _, _, _, Nat.zero_le _, rfl, rfl, HQ.out, Bf.init hlt⟩
      case round =>
        clear HQ Wq
        rename World => w2
        obtain ⟨h, q, seen, g, cap, hh, rfl, rfl, hqm, hbf⟩ := hrel
        have hA2 := HA.out.keep hqm.bel
        have H2 : Hid (Qm w1 w2 n seen (.slice (some ⟨g, 0, none⟩) q.length cap) q ∧ Bf n (adjF n at_ val) k seen q h 0 ∧ Rm w w2 n t ab vb (adjF n at_ val) k F R) := ⟨hqm, hbf, hA2⟩
        have hql : q.length ≤ n := hbf.len
        have hqi : (q.length : Int) ≤ 256 := by omega
        by_cases hhl : h < q.length
        · have hhi : (h : Int) < (q.length : Int) := by omega
          obtain ⟨u, hu⟩ : ∃ u, q[h]? = some u := ⟨_, List.getElem?_eq_getElem hhl⟩
          have hun : u < n := hbf.lt u (List.mem_of_getElem? hu)
          have huni : (u : Int) < (n : Int) := by omega
          have k1 := hqm.cell hu
          have b0 := hA2.b0
          have a1 := (HG.out.1.keep (hA2.bel.block _ HG.out.1.lt)).cell (i := u) (by omega)
          have hhb : (h : Int) ≤ 256 := by omega
          have hm1 := HG.out.2.2.1 u hun
          have hm2 := HG.out.2.2.2.1 (u + 1) (by omega)
          have HU : Hid (q[h]? = some u) := hu
          clear hqm hbf hA2 hu
          go_wp2
          go_loopw [8, 11] (fun vq i wx => ∃ (j : Nat) (q : List Nat) (seen : Nat → Bool) (g cap : Nat), j ≤ at_ (u + 1) - at_ u ∧ i = .int .i64 ((at_ u + j : Nat) : Int) ∧ vq = .slice (some ⟨g, 0, none⟩) q.length cap ∧ Qm w1 wx n seen (.slice (some ⟨g, 0, none⟩) q.length cap) q ∧ Bf n (adjF n at_ val) k seen q h j ∧ q[h]? = some u) (fun _ i _ => at_ (u + 1) - (intOf i).toNat)
          case atStart => exact ⟨0, q, seen, g, cap, Nat.zero_le _, rfl, rfl, H2.out.1, H2.out.2.1, HU.out⟩
          case round =>
            clear H2 HU hqi hql hhl hhi hh b0 a1 k1
            rename World => w3
            obtain ⟨j, q, seen, g, cap, hj, rfl, rfl, hqm, hbf, hu⟩ := hrel
            have hA2 := HA.out.keep hqm.bel
            have b0 := hA2.b0
            have b1 := hA2.b1
            have a1 := (HG.out.1.keep (hA2.bel.block _ HG.out.1.lt)).cell (i := u + 1) (by omega)
            have hql : q.length ≤ n := hbf.len
            have H3 : Hid (Qm w1 w3 n seen (.slice (some ⟨g, 0, none⟩) q.length cap) q ∧ Bf n (adjF n at_ val) k seen q h j ∧ q[h]? = some u ∧ Rm w w3 n t ab vb (adjF n at_ val) k F R) := ⟨hqm, hbf, hu, hA2⟩
            by_cases hjd : j < at_ (u + 1) - at_ u
            · have hji : ((at_ u + j : Nat) : Int) < (at_ (u + 1) : Int) := by omega
              have hti : ((at_ u + j : Nat) : Int) < (t : Int) := by omega
              have hpb : ((at_ u + j : Nat) : Int) ≤ 524288 := by omega
              have hvc := (HG.out.2.1.keep (hA2.bel.block _ HG.out.2.1.lt)).cell (i := at_ u + j) (by omega)
              have hvn := HG.out.2.2.2.2 (at_ u + j) (by omega)
              have HE : Hid ((adjF n at_ val u)[j]? = some (val (at_ u + j))) := adjF_at hun hjd
              have HP : Hid (at_ u + j + 1 = at_ u + (j + 1) ∧ at_ u + j < at_ (u + 1)) := ⟨by omega, by omega⟩
              generalize val (at_ u + j) = v at *
              generalize hpp : at_ u + j = p at *
              have HPP : Hid (at_ u + j = p) := hpp
              clear hpp
              have hsc := hqm.seen.cell hvn
              have hsf := hqm.seen.fz v
              clear hqm hbf hu hA2
              cases hsv : seen v
              · rw [hsv] at hsc
                have h5 := H3.out.1.set v
                have HX : Hid ((w3.setCell ⟨w1.heap.size, v, none⟩ (.bool true)).ownsRow (w1.heap.size + 1) 3 1 (.slice (some ⟨g, 0, none⟩) q.length cap) q.length (ic q) ∧ w1.heap.size + 1 ≤ (w3.setCell ⟨w1.heap.size, v, none⟩ (.bool true)).heap.size ∧ Qm w1 (w3.setCell ⟨w1.heap.size, v, none⟩ (.bool true)) n (upd seen v true) (.slice (some ⟨g, 0, none⟩) q.length cap) q ∧ q.length ≤ 300000) := ⟨h5.row, h5.sz, h5, by omega⟩
                clear h5
                go_wp2_with (at_builtin; refine wpList_push rfl (.tmp 65) (.tmp 67) rfl (w1.heap.size + 1) (.slice (some ⟨g, 0, none⟩) q.length cap) q v rfl w3.heap.size (by simp) rfl HX.out.1 HX.out.2.1 HX.out.2.2.2 ?_; intro g2 cap2 w4 ho4 hg4; have H4 : Hid (Qm w1 w4 n (upd seen v true) (.slice (some ⟨g2, 0, none⟩) (q ++ [v]).length cap2) (q ++ [v])) := (by have := HX.out.2.2.1.push hg4 ho4; rw [List.length_append, List.length_singleton]; exact this); clear ho4 hg4)
                go_round
                case rel =>
                  refine ⟨j + 1, q ++ [v], upd seen v true, g2, cap2, by omega, ?_, ?_, H4.out, H3.out.2.1.new H3.out.2.2.1 HE.out hsv hvn, ?_⟩
                  · have := HPP.out; go_num
                  · rw [List.length_append, List.length_singleton]
                  · rw [List.getElem?_append_left (List.getElem?_eq_some_iff.1 H3.out.2.2.1).1]; exact H3.out.2.2.1
                case measure =>
                  have h1 := HP.out.2
                  have h2 := HPP.out
                  simp [intOf]
                  omega
              · rw [hsv] at hsc
                go_wp2
                go_round
                case rel => exact ⟨j + 1, q, seen, g, cap, by omega, by have := HPP.out; go_num, rfl, H3.out.1, H3.out.2.1.old H3.out.2.2.1 HE.out hsv, H3.out.2.2.1⟩
                case measure =>
                  have h1 := HP.out.2
                  have h2 := HPP.out
                  simp [intOf]
                  omega
            · have hji : decide (((at_ u + j : Nat) : Int) < (at_ (u + 1) : Int)) = false := by simp; omega
              clear hqm hbf hu hA2
              go_wp2
              go_round
              case rel =>
                have hl := (List.getElem?_eq_some_iff.1 H3.out.2.2.1).1
                exact ⟨h + 1, q, seen, g, cap, by omega, by go_num, rfl, H3.out.1, H3.out.2.1.next H3.out.2.2.1 (by rw [adjF_len hun]; omega)⟩
              case measure =>
                have hl := (List.getElem?_eq_some_iff.1 H3.out.2.2.1).1
                simp [intOf]; omega
        · have hhi : decide ((h : Int) < (q.length : Int)) = false := by simp; omega
          have r := hA2.r hlt
          have r1 := r.1
          have r2 := r.2
          clear r hqm hbf hA2
          go_wp2
          go_round
          case rel =>
            refine ⟨k + 1, by omega, by go_num, _, _, H2.out.2.2.step (g := w1.heap.size) HA.out.sz H2.out.1.seen fun v _ => H2.out.2.1.fin (by omega) v⟩
          case measure => simp [intOf]; omega
    · obtain rfl : n = k := by omega
      clear hrm
      go_wp2
      go_ret
      exact ⟨F, R, rfl, HA.out⟩
end Go.Proofs.Ybulkcxvo
