/-
  The walk over (*graph).reduce.
-/
import Derived.Test.YbulkcxvoCollect
import Derived.Deep.RegionHeld3
namespace Go.Proofs.Ybulkcxvo
open Go.RowKit

/-- The graph ahead of reduce. -/
structure Gg (w : World) (pg n I m rkb nn : Nat) (nm : Option Addr) (nc : Nat) (so : Option Addr) (sc : Nat) (rk : Nat → Int) (tx : Nat → Nat) (it : Nat → Int) (kd : Nat → Nat) : Prop where
  nam : w.cell? ⟨pg, 0, none⟩ = some (.slice nm nn nc)
  stp : w.cell? ⟨pg, 3, none⟩ = some (.slice so m sc)
  rank : w.cell? ⟨pg, 4, none⟩ = some (.slice (some ⟨rkb, 0, none⟩) n n)
  items : w.cell? ⟨pg, 5, none⟩ = some (.int .i64 (I : Int))
  rkr : ZR w rkb n rk
  sts : Steps w so m tx it kd
section
variable {w W : World} {pg n I m rkb nn : Nat} {nm : Option Addr} {nc : Nat} {so : Option Addr} {sc : Nat} {rk : Nat → Int} {tx : Nat → Nat} {it : Nat → Int} {kd : Nat → Nat}
theorem Gg.lt (h : Gg w pg n I m rkb nn nm nc so sc rk tx it kd) : pg < w.heap.size := World.block_lt_of_cell? w ⟨pg, 0, none⟩ h.nam
theorem Gg.keep (h : Gg w pg n I m rkb nn nm nc so sc rk tx it kd) (hb : Below w.heap.size w W) : Gg W pg n I m rkb nn nm nc so sc rk tx it kd := by
  have e1 : W.heap[pg]? = w.heap[pg]? := hb.block pg h.lt
  refine ⟨?_, ?_, ?_, ?_, h.rkr.keep (hb.block _ h.rkr.lt), h.sts.keep hb⟩
  · rw [← h.nam]; simp only [World.cell?, e1]
  · rw [← h.stp]; simp only [World.cell?, e1]
  · rw [← h.rank]; simp only [World.cell?, e1]
  · rw [← h.items]; simp only [World.cell?, e1]
theorem Gg.gf {gb : Nat} (h : Gg w pg n I m rkb nn nm nc so sc rk tx it kd) (hc : w.cell? ⟨gb, 0, none⟩ = some (.pointer (some ⟨pg, 0, none⟩))) : Gf w gb pg n I m rkb so sc rk tx it kd := ⟨hc, h.stp, h.rank, h.items, h.rkr, h.sts⟩
end
theorem below_drew (w : World) : Below w.heap.size w w.drew := ⟨rfl, rfl, rfl, Nat.le_refl _, fun _ _ => rfl⟩
/-- reduce's doing. -/
structure Rd (w W : World) (nn ab vb : Nat) (L : List (Nat × Nat)) : Prop where
  bel : Below w.heap.size w W
  ga : w.heap.size ≤ ab
  gv : w.heap.size ≤ vb
  at_ : IR W ab (nn + 1) (atF nn (frL L) L.length)
  val : IR W vb L.length (valF nn (frL L) (toL L) L.length L.length)

set_option maxRecDepth 100000 in
theorem reduce_any (w : World) (pg n I m rkb nn : Nat) (nm : Option Addr) (nc : Nat) (so : Option Addr) (sc : Nat) (rk : Nat → Int) (tx : Nat → Nat) (it : Nat → Int) (kd : Nat → Nat) (hb : Hb n I m rk tx it kd) (hn : n ≤ 512) (hI : I ≤ 16) (hm : m ≤ 512) (hnn : nn ≤ 512) (hrk : ∀ u, u < n → rk u < (nn : Int))
    (hG : Gg w pg n I m rkb nn nm nc so sc rk tx it kd) (r1 r2 : Value) (hr1 : w.cell? ⟨pg, 1, none⟩ = some r1) (hr2 : w.cell? ⟨pg, 2, none⟩ = some r2) (hfz : ∀ i, w.frozen? ⟨pg, i, none⟩ = false) (L : List (Nat × Nat)) (hL : L = (runA (accL rk tx it kd m)).ed) :
    Calls Yba.prog 17 #[.pointer (some ⟨pg, 0, none⟩)] w fun e w' => e = .returned (.tuple #[]) ∧ ∃ W ab vb, Rd w W nn ab vb L ∧ w' = (W.setCell ⟨pg, 1, none⟩ (.slice (some ⟨ab, 0, none⟩) (nn + 1) (nn + 1))).setCell ⟨pg, 2, none⟩ (.slice (some ⟨vb, 0, none⟩) L.length L.length) := by
  have hnni : (nn : Int) ≤ 512 := by omega
  obtain ⟨W1, hW1⟩ : ∃ W1, W1 = w.alloc (.cells #[.pointer (some ⟨pg, 0, none⟩)] 40) := ⟨_, rfl⟩
  have hb1 : Below w.heap.size w W1 := by rw [hW1]; exact (Below.refl _ _).alloc (Nat.le_refl _) _
  have hG1 := hG.keep hb1
  have hlt := hG.lt
  have hsz : W1.heap.size = w.heap.size + 1 := by rw [hW1, size_up]
  have c0 : W1.cell? ⟨w.heap.size, 0, none⟩ = some (.pointer (some ⟨pg, 0, none⟩)) := by
    rw [cell_of_row _ _ _ _ _ _ (by rw [hW1]; exact heap_alloc_new w _)]; rfl
  have c1 := hG1.nam
  have HG : Hid (Gg W1 pg n I m rkb nn nm nc so sc rk tx it kd ∧ Below w.heap.size w W1 ∧ pg < w.heap.size ∧ W1.heap.size = w.heap.size + 1) := ⟨hG1, hb1, hlt, hsz⟩
  have HH : Hid (Hb n I m rk tx it kd ∧ n ≤ 512 ∧ I ≤ 16 ∧ m ≤ 512 ∧ nn ≤ 512 ∧ (∀ u, u < n → rk u < (nn : Int)) ∧ L = (runA (accL rk tx it kd m)).ed) := ⟨hb, hn, hI, hm, hnn, hrk, hL⟩
  have d1 : W1.cell? ⟨pg, 1, none⟩ = some r1 := (World.cell?_of_block (hb1.block pg hlt)).trans hr1
  have d2 : W1.cell? ⟨pg, 2, none⟩ = some r2 := (World.cell?_of_block (hb1.block pg hlt)).trans hr2
  have d3 : W1.frozen? ⟨pg, 1, none⟩ = false := (World.frozen?_of_block (hb1.block pg hlt)).trans (hfz 1)
  have d4 : W1.frozen? ⟨pg, 2, none⟩ = false := (World.frozen?_of_block (hb1.block pg hlt)).trans (hfz 2)
  clear hG hG1 hb1 hb hn hI hm hrk hL hlt hsz hr1 hr2 hfz
  go_enter Yba.func17, Yba.ntmps17
  go_wp2
  rw [← hW1]
  clear hW1
  go_region_held3 (fun w' => w'.cell? ⟨w.heap.size, 0, none⟩ = some (.pointer (some ⟨pg, 0, none⟩)) ∧ w'.cell? ⟨pg, 0, none⟩ = some (.slice nm nn nc)) (first | go_keep | exact ⟨z1 _ _, z2 _ _⟩)
    ((go_at_call 20; refine (coll_any _ w.heap.size pg n I m rkb so sc rk tx it kd HH.out.1 HH.out.2.1 HH.out.2.2.1 HH.out.2.2.2.1 nn HH.out.2.2.2.2.1 HH.out.2.2.2.2.2.1 ((HG.out.1.keep (by exact below_drew _)).gf (by exact c0)) L HH.out.2.2.2.2.2.2).mono ?_; rintro e w2 ⟨vb, rfl, hcp⟩; have y1 : w2.cell? ⟨w.heap.size, 0, none⟩ = _ := (World.cell?_of_block (hcp.bel.block w.heap.size (by show w.heap.size < W1.heap.size; have := HG.out.2.2.2; omega))).trans c0; have y2 : w2.cell? ⟨pg, 0, none⟩ = _ := (World.cell?_of_block (hcp.bel.block pg (by show pg < W1.heap.size; have := HG.out.2.2.2; have := HG.out.2.2.1; omega))).trans c1; have hpe := hcp.bel.block pg (by show pg < W1.heap.size; have := HG.out.2.2.2; have := HG.out.2.2.1; omega); have y3 : w2.cell? ⟨pg, 1, none⟩ = some r1 := (World.cell?_of_block hpe).trans d1; have y4 : w2.cell? ⟨pg, 2, none⟩ = some r2 := (World.cell?_of_block hpe).trans d2; have y5 : w2.frozen? ⟨pg, 1, none⟩ = false := (World.frozen?_of_block hpe).trans d3; have y6 : w2.frozen? ⟨pg, 2, none⟩ = false := (World.frozen?_of_block hpe).trans d4; clear hpe; have z1 : ∀ v1 v2, ((w2.setCell ⟨pg, 1, none⟩ v1).setCell ⟨pg, 2, none⟩ v2).cell? ⟨w.heap.size, 0, none⟩ = some (.pointer (some ⟨pg, 0, none⟩)) := fun v1 v2 => (by have := HG.out.2.2.1; rw [World.cell?_setCell_far _ _ _ _ (show pg ≠ w.heap.size by omega), World.cell?_setCell_far _ _ _ _ (show pg ≠ w.heap.size by omega)]; exact y1); have z2 : ∀ v1 v2, ((w2.setCell ⟨pg, 1, none⟩ v1).setCell ⟨pg, 2, none⟩ v2).cell? ⟨pg, 0, none⟩ = some (.slice nm nn nc) := fun v1 v2 => (by rw [World.cell?_setCell_other _ _ _ _ (by simp), World.cell?_setCell_other _ _ _ _ (by simp)]; exact y2); have HC : Hid (_ ∧ True) := ⟨hcp, trivial⟩; clear hcp))
  have hsz := HG.out.2.2.2
  have hcp := HC.out.1
  have hge : W1.heap.size + 4 ≤ vb := hcp.ge
  have hRd : Rd w w2 nn (W1.heap.size + 2) vb L := ⟨HG.out.2.1.trans (((below_drew W1).mono (by omega)).trans (hcp.bel.mono (by show w.heap.size ≤ W1.heap.size; omega))), by omega, by omega, hcp.at_, hcp.val⟩
  clear hcp hge hsz HC y1 y2 y3 y4 y5 y6 z1 z2
  go_end0
  exact ⟨rfl, w2, _, vb, hRd, rfl⟩
end Go.Proofs.Ybulkcxvo
