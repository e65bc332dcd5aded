/-
  The walk over the law LawS4971CCount.
-/
import Derived.Test.YbulkcxxsWalks
namespace Go.Proofs.Ybulkcxxs
open Go.RowKit

theorem below_drewN {B : Nat} {a w : World} (h : Below B a w) (n : Nat) : Below B a (w.drewN n) := h.trans ⟨rfl, rfl, rfl, Nat.le_refl _, fun _ _ => rfl⟩
theorem info4 : (Yba.prog.info? 4).map (fun i => (i.zero, i.size, i.bytes)) = some (some (.bool false), 1, 1) := by kernel_rfl
theorem size4 : (Yba.prog.info? 4).map (·.size) = some 1 := by kernel_rfl
theorem info27 : (Yba.prog.info? 27).map (fun i => (i.zero, i.size, i.bytes)) = some (some (.agg #[.int .i64 0, .int .u64 0]), 2, 16) := by kernel_rfl
theorem make22 (n : Nat) (hn : n ≤ 4096) (w : World) : (Instr.makeSlice 22 (.int .i64 (n : Int)) (.int .i64 (n : Int))).run Yba.prog w = .ok (.slice (some ⟨w.heap.size, 0, none⟩) n n) (w.alloc (.cells (madeCells #[.bool false] n) 4)) := by
  obtain ⟨i, hi, hz, hs, hb⟩ := info_parts info4
  have := run_make (P := Yba.prog) w 22 4 i _ Yba.underlying22 hi hz .i64 .i64 n n (by omega) (Int.le_refl _) (by rw [hb]; omega) (by omega)
  simpa [hs, Value.cells] using this
theorem make24 (n : Nat) (hn : n ≤ 4096) (w : World) : (Instr.makeSlice 24 (.int .i64 (n : Int)) (.int .i64 (n : Int))).run Yba.prog w = .ok (.slice (some ⟨w.heap.size, 0, none⟩) n n) (w.alloc (.cells (madeCells #[.int .i64 0, .int .u64 0] (n * 2)) 27)) := by
  obtain ⟨i, hi, hz, hs, hb⟩ := info_parts info27
  have := run_make (P := Yba.prog) w 24 27 i _ Yba.underlying24 hi hz .i64 .i64 n n (by omega) (Int.le_refl _) (by rw [hb]; omega) (by omega)
  simpa [hs, Value.cells] using this

theorem two_set {C i i' m : Nat} {w2 wr : World} {cur : Array Value} (a b : Value) (h : Below C w2 wr ∧ wr.heap[C]? = some (.cells cur 27 (0, 0)) ∧ cur.size = m) :
    Below C w2 ((wr.setCell ⟨C, i, none⟩ a).setCell ⟨C, i', none⟩ b) ∧ ∃ cur', ((wr.setCell ⟨C, i, none⟩ a).setCell ⟨C, i', none⟩ b).heap[C]? = some (.cells cur' 27 (0, 0)) ∧ cur'.size = m := by
  obtain ⟨h1, h2, h3⟩ := h
  refine ⟨(h1.setCell (Nat.le_refl _) _).setCell (Nat.le_refl _) _, _, heap_setCell_same _ _ _ _ _ _ (heap_setCell_same _ _ _ _ _ _ h2), by simpa using h3⟩

set_option maxHeartbeats 1000000 in
theorem law_small (ao : Option Addr) (n c m : Nat) (bs : List Bool) (k : Int) (w : World) (hn : n ≤ 4096) (hl : bs.length = n) (hk0 : 0 ≤ k) (hk1 : k < 18446744073709551616) (hmn : m ≤ n) (hm : k % ((n : Int) + 1) = (m : Int))
    (hc : 0 < n → ∃ b off, ao = some ⟨b, off, none⟩ ∧ b < w.heap.size ∧ ∀ j, j < n → w.cell? ⟨b, off + j, none⟩ = some (.bool (bs.getD j false))) :
    Calls Yba.prog 3 #[.slice ao n c, .int .u64 k] w fun e w' => e = .returned (.bool true) ∧ Below w.heap.size w w' := by
  have mk1 := make22 n hn
  have mk2 := make24 m (by omega)
  have e0 : madeCells #[.bool false] n = (List.replicate n (Value.bool false)).toArray := by
    rw [← toList_madeCells_one]
  have q1 : (w.alloc (.cells (madeCells #[.bool false] n) 4)).heap[w.heap.size]? = some (.cells (List.replicate n (Value.bool false)).toArray 4 (0, 0)) := by
    rw [← e0]; exact heap_alloc_new w _
  have q2 : (bs.map Value.bool).length = Nat.min n n := by simp [hl]
  have q3 : 0 < (bs.map Value.bool).length → (some (⟨w.heap.size, 0, none⟩ : Addr)) = some ⟨w.heap.size, 0, none⟩ ∧ ∃ ad, ao = some ad ∧ ∀ j v, (bs.map Value.bool)[j]? = some v → (w.alloc (.cells (madeCells #[.bool false] n) 4)).cell? (ad.add j) = some v := by
    intro h
    obtain ⟨b, off, rfl, hb, hcell⟩ := hc (by simpa [hl] using h)
    refine ⟨rfl, _, rfl, fun j v hj => ?_⟩
    have hjn : j < n := by
      have := (List.getElem?_eq_some_iff.1 hj).1
      simpa [hl] using this
    rw [WideShapes.add_plain, (((Below.refl w.heap.size w).alloc (Nat.le_refl _) _).cell (p := ⟨b, off + j, none⟩) hb), hcell j hjn]
    rw [← hj]
    simp [List.getD, hl, hjn]
  have q4 : 0 + (bs.map Value.bool).length ≤ (List.replicate n (Value.bool false)).length := by simp [hl]
  have q5 : ∀ v ∈ bs.map Value.bool, v.oneCell' = true := by
    intro v hv
    obtain ⟨b, _, rfl⟩ := List.mem_map.1 hv
    rfl
  have q6 : Below w.heap.size w (w.alloc (.cells (madeCells #[.bool false] n) 4)) := (Below.refl _ w).alloc (Nat.le_refl _) _
  have e1 : splice (List.replicate n (Value.bool false)) 0 (bs.map Value.bool) = bs.map Value.bool := by simp [splice, hl]
  have Q : Hid (_ ∧ _ ∧ _ ∧ _ ∧ _ ∧ _ ∧ _) := ⟨q1, q2, q3, q4, q5, q6, e1⟩
  clear q1 q2 q3 q4 q5 q6 e1 e0
  go_enter Yba.func3, Yba.ntmps3
  go_wp2_with (refine wpList_copy_splice rfl (.tmp 21) (.tmp 22) 22 22 rfl 4 Yba.underlying22 size4 (some ⟨w.heap.size, 0, none⟩) ao n n n c rfl rfl w.heap.size 0 (List.replicate n (.bool false)) 4 Q.out.1 (bs.map Value.bool) Q.out.2.1 Q.out.2.2.1 Q.out.2.2.2.1 Q.out.2.2.2.2.1 w.heap.size w Q.out.2.2.2.2.2.1 (Nat.le_refl _) ?_; intro w2 hg2 hb2; rw [Q.out.2.2.2.2.2.2] at hg2)
  have hz2 : w.heap.size < w2.heap.size := lt_of_block hg2.out
  obtain ⟨C, hC⟩ : ∃ C, C = w2.heap.size := ⟨_, rfl⟩
  have HC : Hid (C = w2.heap.size) := hC
  rw [← hC]
  have hzC : w.heap.size < C := by omega
  clear hC hz2 mk1 mk2 Q
  go_loopw [8] (fun i wr => ∃ j : Nat, j ≤ m ∧ i = .int .i64 j ∧ Below C w2 wr ∧ ∃ cur, wr.heap[C]? = some (.cells cur 27 (0, 0)) ∧ cur.size = m * 2) (fun i _ => m - (intOf i).toNat)
  case atStart =>
    refine ⟨0, Nat.zero_le _, rfl, (Below.refl _ _).alloc (by rw [HC.out]; exact Nat.le_refl _) _, madeCells #[.int .i64 0, .int .u64 0] (m * 2), ?_, size_madeCells _ _⟩
    rw [HC.out]; exact heap_alloc_new w2 _
  case round =>
    obtain ⟨j, hj, rfl, hbw, cur, hcur, hcs⟩ := hrel
    by_cases hlt : j < m
    · have hji : (j : Int) < (m : Int) := by omega
      have k1 : wr.cell? ⟨C, j * 2, none⟩ = some (cur[j * 2]'(by omega)) := by rw [cell_of_row wr C (j * 2) cur 27 (0, 0) hcur]; exact Array.getElem?_eq_getElem _
      have k2 : wr.cell? ⟨C, j * 2 + 1, none⟩ = some (cur[j * 2 + 1]'(by omega)) := by rw [cell_of_row wr C (j * 2 + 1) cur 27 (0, 0) hcur]; exact Array.getElem?_eq_getElem _
      have f1 : wr.frozen? ⟨C, j * 2, none⟩ = false := frozen_of_row wr C _ cur 27 hcur
      have f2 : wr.frozen? ⟨C, j * 2 + 1, none⟩ = false := frozen_of_row wr C _ cur 27 hcur
      have HR : Hid (Below C w2 wr ∧ wr.heap[C]? = some (.cells cur 27 (0, 0)) ∧ cur.size = m * 2) := ⟨hbw, hcur, hcs⟩
      generalize cur[j * 2] = v1 at *
      generalize cur[j * 2 + 1] = v2 at *
      clear hbw hcur hcs
      go_wp2
      go_roundw
      case rel => exact ⟨j + 1, by omega, by go_num, two_set _ _ HR.out⟩
      case measure => simp [intOf]; omega
    · have hjm : j = m := by omega
      subst hjm
      have hs := hbw.size
      rw [← HC.out] at hs
      have hcell : ∀ i, i < n → wr.cell? ⟨w.heap.size, i, none⟩ = some (.bool (bs.getD i false)) := by
        intro i hi
        rw [hbw.cell (p := ⟨w.heap.size, i, none⟩) hzC, cell_of_row _ _ _ _ _ _ hg2.out]
        simp [List.getD, hl, hi]
      have hsz : C < wr.heap.size := lt_of_block hcur
      have hbB : Below w.heap.size w wr := hb2.trans (hbw.mono (by omega))
      clear hbw hcur hcs hg2 hb2 hs
      go_wp2_with fail
      generalize hW3 : ((wr.alloc (Obj.cells #[Value.pointer none, Value.int IntKind.i64 0, Value.slice none 0 0, Value.slice (some { block := w.heap.size, off := 0 }) n n, Value.bool false, Value.map none, Value.int IntKind.u64 0, Value.slice none 0 0, Value.slice none 0 0] 34)).alloc
        (Obj.cells #[Value.string { data := #[] }, Value.slice (some { block := C, off := 0 }) j j, Value.int IntKind.i64 0, Value.int IntKind.i64 0, Value.int IntKind.i64 0] 37)) = W3
      have c3 : W3.cell? ⟨wr.heap.size, 3, none⟩ = some (.slice (some ⟨w.heap.size, 0, none⟩) n n) := by subst hW3; go_simp
      have c4 : W3.cell? ⟨wr.heap.size + 1, 1, none⟩ = some (.slice (some ⟨C, 0, none⟩) j j) := by subst hW3; go_simp
      have hbx : Below wr.heap.size wr W3 := by rw [← hW3]; exact ((Below.refl _ wr).alloc (Nat.le_refl _) _).alloc (by simp) _
      have hB3 : Below w.heap.size w W3 := hbB.trans (hbx.mono (by omega))
      have hcell3 : ∀ i, i < n → W3.cell? ⟨w.heap.size, i, none⟩ = some (.bool (bs.getD i false)) := fun i hi => by
        rw [hbx.cell (p := ⟨w.heap.size, i, none⟩) (by show w.heap.size < wr.heap.size; omega)]; exact hcell i hi
      clear hW3 hbB hbx hcell
      refine (unsettled_any bs wr.heap.size (wr.heap.size + 1) w.heap.size C n j _ hn hl hmn c3 c4 hcell3).mono ?_
      rintro e W4 ⟨rfl, q, rfl⟩
      clear c4
      have hB4 : Hid (Below w.heap.size w (W3.drewN q)) := below_drewN hB3 q
      have harg : 0 < n → ∃ b off, ao = some ⟨b, off, none⟩ ∧ ∀ i, i < n → W3.cell? ⟨b, off + i, none⟩ = some (.bool (bs.getD i false)) := by
        intro h0
        obtain ⟨b, off, ha, hb, hcc⟩ := hc h0
        exact ⟨b, off, ha, fun i hi => by rw [hB3.cell (p := ⟨b, off + i, none⟩) hb]; exact hcc i hi⟩
      clear hc hm HC
      go_wp2
      go_loop [12, 13] (fun c i => ∃ t : Nat, t ≤ j ∧ i = .int .i64 t ∧ c = .int .i64 (cnt bs t)) (fun _ i => j - (intOf i).toNat)
      case atStart => exact ⟨0, Nat.zero_le _, rfl, rfl⟩
      case round =>
        obtain ⟨t, ht, rfl, rfl⟩ := hrel
        have hct := cnt_le bs t
        by_cases hlt2 : t < j
        · have hcl := hcell3 t (by omega)
          have htn : (t : Int) < (n : Int) := by omega
          have HS : Hid (cnt bs (t + 1) = cnt bs t + (if bs.getD t false = true then 0 else 1)) := cnt_succ bs t (by omega)
          generalize bs.getD t false = b at *
          clear harg
          cases b
          · go_wp2
            go_round
            case rel => exact ⟨t + 1, by omega, by go_num, by rw [HS.out]; go_num⟩
            case measure => simp [intOf]; omega
          · go_wp2
            go_round
            case rel => exact ⟨t + 1, by omega, by go_num, by rw [HS.out]; go_num⟩
            case measure => simp [intOf]; omega
        · have htj : t = j := by omega
          subst htj
          go_wp2
          go_loopw [14] (fun i wx => ∃ u : Nat, u ≤ n ∧ i = .int .i64 u ∧ ∃ q', wx = W3.drewN q') (fun i _ => n - (intOf i).toNat)
          case atStart => exact ⟨0, Nat.zero_le _, rfl, q, rfl⟩
          case round =>
            obtain ⟨u, hu, rfl, q', rfl⟩ := hrel
            by_cases hlt3 : u < n
            · obtain ⟨b, off, rfl, harg'⟩ := harg (by omega)
              have ha1 := harg' u hlt3
              have ha2 := hcell3 u hlt3
              have hun : (u : Int) < (n : Int) := by omega
              generalize bs.getD u false = x at *
              clear harg harg' hcell3
              go_wp2
              go_quiet (fail)
              go_wp2
              go_roundw
              case rel => exact ⟨u + 1, by omega, by go_num, _, rfl⟩
              case measure => simp [intOf]; omega
            · clear harg hcell3
              go_wp2
              go_ret
              exact ⟨rfl, below_drewN hB3 q'⟩
end Go.Proofs.Ybulkcxxs
