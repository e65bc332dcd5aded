/-
  WriteString, of whatever length.
-/
import Derived.Test.YbulkcxvaDoorByte
import Derived.Deep.LoopGhost
import Derived.Lib.IndexBytes
namespace Go.Proofs.YbulkcxvaDoor
open Go.RowKit
attribute [local go_sem ↓] Go.wp_at_zero Go.wp_at_succ

/-- The sink has no WriteString. -/
theorem noStringWriter (v : Value) (xT : TypeId) (w : World) : (Instr.typeAssert (.iface 26 v) xT 60 true).run Ybad.prog w = .ok (.tuple #[.nilIface, .bool false]) w := run_typeAssert_lacksB Ybad.underlying60 (by kernel_rfl) (by kernel_rfl) v xT w

/-- What the loop of WriteString keeps. -/
structure Inv (w wx : World) (B pb gb pw : Nat) (out pend sl : List UInt8) (v : Value) (done : Nat) (str : ByteArray) (g : Nat) (out1 pend1 : List UInt8) (v1 : Value) : Prop where
  buf : Buf wx B pb gb pw out1 pend1 v1
  sum : out1 ++ pend1 = out ++ pend ++ sl.take done
  rest : str.data.toList = sl.drop done
  fr : Fr pb gb pw v v1 w wx
  le : done ≤ sl.length
  gh : g = 2 * str.size + (if pend1 = [] then 0 else 1)

theorem Inv.step {w wr w3 : World} {B pb gb pw : Nat} {out pend sl : List UInt8} {v : Value} {done : Nat} {st : ByteArray} {g : Nat} {out1 pend1 : List UInt8} {v1 v3 : Value} {t : Nat} (h : Inv w wr B pb gb pw out pend sl v done st g out1 pend1 v1)
    (hb : Buf w3 B pb gb pw (out1 ++ (pend1 ++ st.data.toList.take t)) [] v3) (hf : Fr pb gb pw v1 v3 wr w3) (ht : t ≤ st.size) :
    Inv w w3 B pb gb pw out pend sl v (done + t) (st.extract t st.size) (2 * (st.size - t)) (out1 ++ (pend1 ++ st.data.toList.take t)) [] v3 := by
  have hl : done + st.size = sl.length := by
    have e := congrArg List.length h.rest
    have := h.le
    simp at e
    omega
  refine ⟨hb, ?_, ?_, h.fr.trans hf, by omega, ?_⟩
  · rw [List.append_nil, ← List.append_assoc, h.sum, h.rest, List.append_assoc, ← List.take_add]
  · rw [Lib.extract_to_end, h.rest, List.drop_drop]
  · have e : (st.extract t st.size).size = st.size - t := by
      simp
    rw [e]
    simp

set_option maxRecDepth 100000 in
set_option maxHeartbeats 4000000 in
theorem string_any {w : World} {B pb gb pw : Nat} {out pend : List UInt8} {v : Value} (str : ByteArray) (h : Buf w B pb gb pw out pend v) (hlim : out.length + str.size + 8192 ≤ 140737488355328) :
    Calls Ybad.prog 14 #[.pointer (some ⟨pb, 0, none⟩), .string str] w fun e w' => e = .returned (.tuple #[.int .i64 (str.size : Int), .nilIface]) ∧
      ∃ out' pend' v', Buf w' B pb gb pw out' pend' v' ∧ out' ++ pend' = out ++ pend ++ str.data.toList ∧ Fr pb gb pw v v' w w' := by
  obtain ⟨sl, hsl⟩ : ∃ sl, sl = str.data.toList := ⟨_, rfl⟩
  have hsz : sl.length = str.size := by rw [hsl]; simp
  go_enter Ybad.func14, Ybad.ntmps14
  go_wp2_with fail
  go_loopg [1, 6, 7, 8] (2 * str.size + (if pend = [] then 0 else 1)) (fun g s1 s6 s7 s8 wx => ∃ (done : Nat) (st : ByteArray) (tr : Bool) (out1 pend1 : List UInt8) (v1 : Value), s1 = .string st ∧ s6 = .nilIface ∧ s7 = .bool tr ∧ s8 = .int .i64 (done : Int) ∧ Inv w wx B pb gb pw out pend sl v done st g out1 pend1 v1)
  case atStart => exact ⟨0, str, true, out, pend, v, rfl, rfl, rfl, rfl, h, by simp, by simp [hsl], Fr.refl _ _ _ _ _, Nat.zero_le _, rfl⟩
  case round =>
    obtain ⟨done, st, tr, out1, pend1, v1, rfl, rfl, rfl, rfl, hI⟩ := hrel
    have hle := hI.le
    have hst : done + st.size = sl.length := by
      have e := congrArg List.length hI.rest
      simp at e
      omega
    have hkl := hI.buf.le
    have c0 := hI.buf.c0
    have c1 := hI.buf.c1
    have c2 := hI.buf.c2
    have c3 := hI.buf.c3
    obtain ⟨cur, hg, hcl⟩ := hI.buf.hg
    have HG : Hid (wr.heap[gb]? = some (.cells (bc pend1 ++ cur).toArray 5 (0, 0)) ∧ pend1.length + cur.length = 4096) := ⟨hg, hcl⟩
    have HI : Hid (Inv w wr B pb gb pw out pend sl v done st gk out1 pend1 v1) := hI
    have hlen : out1.length + pend1.length = out.length + pend.length + done := by
      have e := congrArg List.length hI.sum
      simp at e
      omega
    clear hg hcl hI
    have hpl := h.le
    by_cases hex : pend1.length + st.size ≤ 4096
    · generalize hk' : pend1.length = k at *
      have hd : decide (4096 - (k : Int) < (st.size : Int)) = false := by simp; omega
      have n0 : (k : Int) ≤ 4096 := by omega
      go_wp2_with fail
      refine (available_any HI.out.buf).mono ?_
      rw [hk']
      rintro e w1 ⟨rfl, q, rfl⟩
      go_wp2_with fail
      have a1 : Nat.min st.size (4096 - k) = st.size := Nat.min_eq_left (by omega)
      have a3 : k + st.size ≤ (bc pend1 ++ cur).length := by have := HG.out.2; rw [List.length_append, bc_length, hk']; omega
      have HA : Hid (_ ∧ _) := ⟨a1, a3⟩
      clear a1 a3
      by_cases hk4 : k = 4096
      · subst hk4
        have hst0 : st.size = 0 := by omega
        go_region_held3 (fun w' => w'.cell? ⟨pb, 1, none⟩ = some (.slice (some ⟨gb, 0, none⟩) 4096 4096) ∧ w'.cell? ⟨pb, 2, none⟩ = some (.int .i64 4096)) (go_keep)
          ((refine step_copy_str (by rfl) (.tmp 101) (.tmp 102) (by rfl) _ 0 _ st (by rfl) (by rfl) gb 4096 (bc pend1 ++ cur) (by exact HG.out.1) st.size (by exact HA.out.1) (fun h => absurd h (by omega)) HA.out.2 ?_; intro w1 ht;
            have y1 : w1.cell? ⟨pb, 1, none⟩ = _ := (World.cell?_of_block (ht.other pb HI.out.buf.pbgb)).trans c1; have y2 : w1.cell? ⟨pb, 2, none⟩ = _ := (World.cell?_of_block (ht.other pb HI.out.buf.pbgb)).trans c2; have HT : Hid (Turned gb (splice (bc pend1 ++ cur) 4096 (bc (st.data.toList.take st.size))) _ w1) := ht; clear ht))
        have zf : w1.frozen? ⟨pb, 2, none⟩ = false := (World.frozen?_of_block (HT.out.other pb HI.out.buf.pbgb)).trans (HI.out.buf.fz 2)
        go_wp2
        go_ret2
        have ht : Turned gb (splice (bc pend1 ++ cur) pend1.length (bc (st.data.toList.take st.size))) wr w1 := by rw [hk']; exact ⟨HT.out.row, HT.out.other, HT.out.size, HT.out.io⟩
        have hfin := HI.out.buf.filled (by rw [hk']; exact HG.out.2) (by have := HG.out.2; simp; omega) ht
        have e0 : st.data.toList.take st.size = st.data.toList := List.take_of_length_le (by simp)
        rw [e0] at hfin
        have e : (((pend1 ++ st.data.toList).length : Nat) : Int) = 4096 := by simp [hk', hst0]
        rw [e] at hfin
        refine ⟨?_, _, _, _, hfin.1, ?_, HI.out.fr.trans hfin.2⟩
        · have e2 : (done : Int) + (st.size : Int) = (str.size : Int) := by omega
          have e3 : (done : Int) = (str.size : Int) := by omega
          simp [e3, hst0]
        · rw [← List.append_assoc, HI.out.sum, HI.out.rest, List.append_assoc (out ++ pend), List.take_append_drop, hsl]
      · have n2 : ¬ (4096 = k) := by omega
        have n3 : ¬ (4096 ≤ k) := by omega
        go_region_held3 (fun w' => w'.cell? ⟨pb, 1, none⟩ = some (.slice (some ⟨gb, 0, none⟩) 4096 4096) ∧ w'.cell? ⟨pb, 2, none⟩ = some (.int .i64 (k : Int))) (go_keep)
          ((refine step_copy_str (by rfl) (.tmp 101) (.tmp 102) (by rfl) (some ⟨gb, k, none⟩) (4096 - k) (4096 - k) st (by rfl) (by rfl) gb k (bc pend1 ++ cur) (by exact HG.out.1) st.size HA.out.1 (fun _ => rfl) HA.out.2 ?_; intro w1 ht;
            have y1 : w1.cell? ⟨pb, 1, none⟩ = _ := (World.cell?_of_block (ht.other pb HI.out.buf.pbgb)).trans c1; have y2 : w1.cell? ⟨pb, 2, none⟩ = _ := (World.cell?_of_block (ht.other pb HI.out.buf.pbgb)).trans c2; have HT : Hid (Turned gb (splice (bc pend1 ++ cur) k (bc (st.data.toList.take st.size))) _ w1) := ht; clear ht))
        have zf : w1.frozen? ⟨pb, 2, none⟩ = false := (World.frozen?_of_block (HT.out.other pb HI.out.buf.pbgb)).trans (HI.out.buf.fz 2)
        go_wp2
        go_ret2
        have ht : Turned gb (splice (bc pend1 ++ cur) pend1.length (bc (st.data.toList.take st.size))) wr w1 := by rw [hk']; exact ⟨HT.out.row, HT.out.other, HT.out.size, HT.out.io⟩
        have hfin := HI.out.buf.filled (by rw [hk']; exact HG.out.2) (by have := HG.out.2; simp; omega) ht
        have e0 : st.data.toList.take st.size = st.data.toList := List.take_of_length_le (by simp)
        rw [e0] at hfin
        have e : (((pend1 ++ st.data.toList).length : Nat) : Int) = (k : Int) + (st.size : Int) := by simp [hk']
        rw [e] at hfin
        refine ⟨?_, _, _, _, hfin.1, ?_, HI.out.fr.trans hfin.2⟩
        · have e2 : (done : Int) + (st.size : Int) = (str.size : Int) := by omega
          simp [e2]
        · rw [← List.append_assoc, HI.out.sum, HI.out.rest, List.append_assoc (out ++ pend), List.take_append_drop, hsl]
    · generalize hk' : pend1.length = k at *
      obtain ⟨t, ht0⟩ : ∃ t, t = 4096 - k := ⟨_, rfl⟩
      have ht1 : t + k = 4096 := by omega
      have hts : t ≤ st.size := by omega
      have hgh : 2 * (st.size - t) < gk := by
        rw [HI.out.gh]
        by_cases hp : pend1 = []
        · rw [hp] at hk'; simp at hk'; omega
        · rw [if_neg hp]; omega
      have HT0 : Hid (t = 4096 - k) := ht0
      clear ht0
      have hd : decide (4096 - (k : Int) < (st.size : Int)) = true := by simp; omega
      have n0 : (k : Int) ≤ 4096 := by omega
      have a1 : Nat.min st.size (4096 - k) = t := by rw [← HT0.out]; exact Nat.min_eq_right hts
      have a3 : k + t ≤ (bc pend1 ++ cur).length := by have := HG.out.2; rw [List.length_append, bc_length, hk']; omega
      have HA : Hid (_ ∧ _) := ⟨a1, a3⟩
      clear a1 a3
      have mA := noStringWriter
      by_cases hk0 : k = 0
      · subst hk0
        have a0 : Nat.min st.size 4096 = t := HA.out.1
        have HA0 : Hid (Nat.min st.size 4096 = t) := a0
        clear a0
        go_wp2_with fail
        refine (available_any HI.out.buf).mono ?_
        rw [hk']
        rintro e w1 ⟨rfl, q, rfl⟩
        cases tr
        · go_wp2_with (go_at_call 18; refine (buffered_any (HI.out.buf.drewN q)).mono ?_; rw [hk']; rintro e w1 ⟨rfl, hw⟩; rw [hw]; clear hw)
          go_region_held3 (fun w' => w'.cell? ⟨pb, 1, none⟩ = some (.slice (some ⟨gb, 0, none⟩) 4096 4096) ∧ w'.cell? ⟨pb, 2, none⟩ = some (.int .i64 0)) (go_keep)
            ((refine step_copy_str (by rfl) (.tmp 64) (.tmp 65) (by rfl) (some ⟨gb, 0, none⟩) 4096 4096 st (by rfl) (by rfl) gb 0 (bc pend1 ++ cur) (by exact HG.out.1) t HA0.out (fun _ => rfl) HA.out.2 ?_; intro w1 ht;
              have y1 : w1.cell? ⟨pb, 1, none⟩ = _ := (World.cell?_of_block (ht.other pb HI.out.buf.pbgb)).trans c1; have y2 : w1.cell? ⟨pb, 2, none⟩ = _ := (World.cell?_of_block (ht.other pb HI.out.buf.pbgb)).trans c2; have HT : Hid (Turned gb (splice (bc pend1 ++ cur) 0 (bc (st.data.toList.take t))) _ w1) := ht; clear ht))
          have zf : w1.frozen? ⟨pb, 2, none⟩ = false := (World.frozen?_of_block (HT.out.other pb HI.out.buf.pbgb)).trans (HI.out.buf.fz 2)
          have ht : Turned gb (splice (bc pend1 ++ cur) pend1.length (bc (st.data.toList.take t))) wr w1 := by rw [hk']; exact ⟨HT.out.row, HT.out.other, HT.out.size, HT.out.io⟩
          have hfin := HI.out.buf.filled (by rw [hk']; exact HG.out.2) (by have := HG.out.2; simp; omega) ht
          have e : (((pend1 ++ st.data.toList.take t).length : Nat) : Int) = (t : Int) := by simp [hk']; omega
          rw [e] at hfin
          have HF : Hid (_ ∧ _) := hfin
          clear hfin e ht
          go_wp2_with fail
          refine (flush_any HF.out.1 (by simp [hk']; omega)).mono ?_
          rintro e w3 ⟨rfl, v3, hB3, hF3⟩
          have HX : Hid (Inv w w3 B pb gb pw out pend sl v (done + t) (st.extract t st.size) (2 * (st.size - t)) _ [] v3) := HI.out.step hB3 (HF.out.2.trans hF3) hts
          clear hB3 hF3 zf y1 y2 c0 c1 c2 c3
          have m1 : (t : Int) ≤ (st.size : Int) := by omega
          go_wp2
          go_roundg (2 * (st.size - t))
          case measure => exact hgh
          case rel => exact ⟨done + t, _, false, _, _, _, rfl, rfl, rfl, by go_num, HX.out⟩
        · go_wp2_with (go_at_call 18; refine (buffered_any (HI.out.buf.drewN q)).mono ?_; rw [hk']; rintro e w1 ⟨rfl, hw⟩; rw [hw]; clear hw)
          go_region_held3 (fun w' => w'.cell? ⟨pb, 1, none⟩ = some (.slice (some ⟨gb, 0, none⟩) 4096 4096) ∧ w'.cell? ⟨pb, 2, none⟩ = some (.int .i64 0)) (go_keep)
            ((refine step_copy_str (by rfl) (.tmp 64) (.tmp 65) (by rfl) (some ⟨gb, 0, none⟩) 4096 4096 st (by rfl) (by rfl) gb 0 (bc pend1 ++ cur) (by exact HG.out.1) t HA0.out (fun _ => rfl) HA.out.2 ?_; intro w1 ht;
              have y1 : w1.cell? ⟨pb, 1, none⟩ = _ := (World.cell?_of_block (ht.other pb HI.out.buf.pbgb)).trans c1; have y2 : w1.cell? ⟨pb, 2, none⟩ = _ := (World.cell?_of_block (ht.other pb HI.out.buf.pbgb)).trans c2; have HT : Hid (Turned gb (splice (bc pend1 ++ cur) 0 (bc (st.data.toList.take t))) _ w1) := ht; clear ht))
          have zf : w1.frozen? ⟨pb, 2, none⟩ = false := (World.frozen?_of_block (HT.out.other pb HI.out.buf.pbgb)).trans (HI.out.buf.fz 2)
          have ht : Turned gb (splice (bc pend1 ++ cur) pend1.length (bc (st.data.toList.take t))) wr w1 := by rw [hk']; exact ⟨HT.out.row, HT.out.other, HT.out.size, HT.out.io⟩
          have hfin := HI.out.buf.filled (by rw [hk']; exact HG.out.2) (by have := HG.out.2; simp; omega) ht
          have e : (((pend1 ++ st.data.toList.take t).length : Nat) : Int) = (t : Int) := by simp [hk']; omega
          rw [e] at hfin
          have HF : Hid (_ ∧ _) := hfin
          clear hfin e ht
          go_wp2_with fail
          refine (flush_any HF.out.1 (by simp [hk']; omega)).mono ?_
          rintro e w3 ⟨rfl, v3, hB3, hF3⟩
          have HX : Hid (Inv w w3 B pb gb pw out pend sl v (done + t) (st.extract t st.size) (2 * (st.size - t)) _ [] v3) := HI.out.step hB3 (HF.out.2.trans hF3) hts
          clear hB3 hF3 zf y1 y2 c0 c1 c2 c3
          have m1 : (t : Int) ≤ (st.size : Int) := by omega
          go_wp2
          go_roundg (2 * (st.size - t))
          case measure => exact hgh
          case rel => exact ⟨done + t, _, false, _, _, _, rfl, rfl, rfl, by go_num, HX.out⟩
      · have hk1 : ((k : Int) == 0) = false := by simp; omega
        by_cases hk4 : k = 4096
        · subst hk4
          have t0 : t = 0 := by omega
          have a0 : Nat.min st.size 0 = t := HA.out.1
          have HA0 : Hid (Nat.min st.size 0 = t) := a0
          clear a0
          go_wp2_with fail
          refine (available_any HI.out.buf).mono ?_
          rw [hk']
          rintro e w1 ⟨rfl, q, rfl⟩
          go_wp2_with (go_at_call 18; refine (buffered_any (HI.out.buf.drewN q)).mono ?_; rw [hk']; rintro e w1 ⟨rfl, hw⟩; rw [hw]; clear hw)
          go_region_held3 (fun w' => w'.cell? ⟨pb, 1, none⟩ = some (.slice (some ⟨gb, 0, none⟩) 4096 4096) ∧ w'.cell? ⟨pb, 2, none⟩ = some (.int .i64 4096)) (go_keep)
            ((refine step_copy_str (by rfl) (.tmp 64) (.tmp 65) (by rfl) _ 0 _ st (by rfl) (by rfl) gb 4096 (bc pend1 ++ cur) (by exact HG.out.1) t HA0.out (fun h => absurd h (by omega)) HA.out.2 ?_; intro w1 ht;
              have y1 : w1.cell? ⟨pb, 1, none⟩ = _ := (World.cell?_of_block (ht.other pb HI.out.buf.pbgb)).trans c1; have y2 : w1.cell? ⟨pb, 2, none⟩ = _ := (World.cell?_of_block (ht.other pb HI.out.buf.pbgb)).trans c2; have HT : Hid (Turned gb (splice (bc pend1 ++ cur) 4096 (bc (st.data.toList.take t))) _ w1) := ht; clear ht))
          have zf : w1.frozen? ⟨pb, 2, none⟩ = false := (World.frozen?_of_block (HT.out.other pb HI.out.buf.pbgb)).trans (HI.out.buf.fz 2)
          have ht : Turned gb (splice (bc pend1 ++ cur) pend1.length (bc (st.data.toList.take t))) wr w1 := by rw [hk']; exact ⟨HT.out.row, HT.out.other, HT.out.size, HT.out.io⟩
          have hfin := HI.out.buf.filled (by rw [hk']; exact HG.out.2) (by have := HG.out.2; simp; omega) ht
          have e : (((pend1 ++ st.data.toList.take t).length : Nat) : Int) = 4096 := by simp [hk']; omega
          rw [e] at hfin
          have HF : Hid (_ ∧ _) := hfin
          clear hfin e ht
          go_wp2_with fail
          refine (flush_any HF.out.1 (by simp [hk']; omega)).mono ?_
          rintro e w3 ⟨rfl, v3, hB3, hF3⟩
          have HX : Hid (Inv w w3 B pb gb pw out pend sl v (done + t) (st.extract t st.size) (2 * (st.size - t)) _ [] v3) := HI.out.step hB3 (HF.out.2.trans hF3) hts
          clear hB3 hF3 zf y1 y2 c0 c1 c2 c3
          have m1 : (t : Int) ≤ (st.size : Int) := by omega
          go_wp2
          go_roundg (2 * (st.size - t))
          case measure => exact hgh
          case rel =>
            have e9 : st.extract t st.size = st := by rw [t0]; simp
            rw [e9] at HX
            exact ⟨done + t, _, tr, _, _, _, rfl, rfl, rfl, by go_num, HX.out⟩
        · have n2 : ¬ (4096 = k) := by omega
          have n3 : ¬ (4096 ≤ k) := by omega
          go_wp2_with fail
          refine (available_any HI.out.buf).mono ?_
          rw [hk']
          rintro e w1 ⟨rfl, q, rfl⟩
          go_wp2_with (go_at_call 18; refine (buffered_any (HI.out.buf.drewN q)).mono ?_; rw [hk']; rintro e w1 ⟨rfl, hw⟩; rw [hw]; clear hw)
          go_region_held3 (fun w' => w'.cell? ⟨pb, 1, none⟩ = some (.slice (some ⟨gb, 0, none⟩) 4096 4096) ∧ w'.cell? ⟨pb, 2, none⟩ = some (.int .i64 (k : Int))) (go_keep)
            ((refine step_copy_str (by rfl) (.tmp 64) (.tmp 65) (by rfl) (some ⟨gb, k, none⟩) (4096 - k) (4096 - k) st (by rfl) (by rfl) gb k (bc pend1 ++ cur) (by exact HG.out.1) t HA.out.1 (fun _ => rfl) HA.out.2 ?_; intro w1 ht;
              have y1 : w1.cell? ⟨pb, 1, none⟩ = _ := (World.cell?_of_block (ht.other pb HI.out.buf.pbgb)).trans c1; have y2 : w1.cell? ⟨pb, 2, none⟩ = _ := (World.cell?_of_block (ht.other pb HI.out.buf.pbgb)).trans c2; have HT : Hid (Turned gb (splice (bc pend1 ++ cur) k (bc (st.data.toList.take t))) _ w1) := ht; clear ht))
          have zf : w1.frozen? ⟨pb, 2, none⟩ = false := (World.frozen?_of_block (HT.out.other pb HI.out.buf.pbgb)).trans (HI.out.buf.fz 2)
          have ht : Turned gb (splice (bc pend1 ++ cur) pend1.length (bc (st.data.toList.take t))) wr w1 := by rw [hk']; exact ⟨HT.out.row, HT.out.other, HT.out.size, HT.out.io⟩
          have hfin := HI.out.buf.filled (by rw [hk']; exact HG.out.2) (by have := HG.out.2; simp; omega) ht
          have e : (((pend1 ++ st.data.toList.take t).length : Nat) : Int) = (k : Int) + (t : Int) := by simp [hk']; omega
          rw [e] at hfin
          have HF : Hid (_ ∧ _) := hfin
          clear hfin e ht
          go_wp2_with fail
          refine (flush_any HF.out.1 (by simp [hk']; omega)).mono ?_
          rintro e w3 ⟨rfl, v3, hB3, hF3⟩
          have HX : Hid (Inv w w3 B pb gb pw out pend sl v (done + t) (st.extract t st.size) (2 * (st.size - t)) _ [] v3) := HI.out.step hB3 (HF.out.2.trans hF3) hts
          clear hB3 hF3 zf y1 y2 c0 c1 c2 c3
          have m1 : (t : Int) ≤ (st.size : Int) := by omega
          go_wp2
          go_roundg (2 * (st.size - t))
          case measure => exact hgh
          case rel => exact ⟨done + t, _, tr, _, _, _, rfl, rfl, rfl, by go_num, HX.out⟩
end Go.Proofs.YbulkcxvaDoor
