/-
  The law's own model: zzs4966buv and zzs4966bmodel append to a slice that the call owns.
-/
import Derived.Test.YbulkcxvaDoorVarint
namespace Go.Proofs.YbulkcxvaDoor
open Go.RowKit

/-- What an append to an owned slice may turn: its own row; and new blocks. -/
structure Gr (v v' : Value) (w w' : World) : Prop where
  os : w'.os = w.os
  tape : w'.tape = w.tape
  output : w'.output = w.output
  size : w.heap.size ≤ w'.heap.size
  block : ∀ b, b < w.heap.size → v.ownBlock ≠ some b → w'.heap[b]? = w.heap[b]?
  sink : v'.ownBlock = v.ownBlock ∨ ∃ g, v'.ownBlock = some g ∧ w.heap.size ≤ g

theorem Gr.refl (v : Value) (w : World) : Gr v v w w := ⟨rfl, rfl, rfl, Nat.le_refl _, fun _ _ _ => rfl, .inl rfl⟩
theorem Gr.trans {v v1 v2 : Value} {w w1 w2 : World} (h : Gr v v1 w w1) (k : Gr v1 v2 w1 w2) : Gr v v2 w w2 := by
  refine ⟨k.os.trans h.os, k.tape.trans h.tape, k.output.trans h.output, Nat.le_trans h.size k.size, fun b hb h4 => ?_, ?_⟩
  · have h5 : v1.ownBlock ≠ some b := by
      rcases h.sink with e | ⟨g, e, hg⟩
      · rw [e]; exact h4
      · rw [e]; intro e'; simp at e'; omega
    exact (k.block b (Nat.lt_of_lt_of_le hb h.size) h5).trans (h.block b hb h4)
  · rcases k.sink with e | ⟨g, e, hg⟩
    · rw [e]; exact h.sink
    · exact .inr ⟨g, e, Nat.le_trans h.size hg⟩
theorem Gr.alloc (v : Value) (w : World) (o : Obj) : Gr v v w (w.alloc o) := ⟨rfl, rfl, rfl, by simp, fun b hb _ => Below.heap_alloc w o b hb, .inl rfl⟩
theorem Gr.drewN {v v1 : Value} {w w1 : World} (h : Gr v v1 w w1) (q : Nat) : Gr v v1 w (w1.drewN q) := ⟨h.os, h.tape, h.output, h.size, h.block, h.sink⟩
theorem Gr.of_grown {v : Value} {w w1 : World} {g n cap : Nat} (h : w.grownBy w1 v.ownBlock) (hat : v.ownBlock = some g ∨ g = w.heap.size) : Gr v (.slice (some ⟨g, 0, none⟩) n cap) w w1 := by
  refine ⟨h.os, h.tape, h.output, h.size, fun b hb hv => h.block b hb (fun e => hv e.symm), ?_⟩
  rcases hat with e | e
  · exact .inl (by rw [e]; rfl)
  · exact .inr ⟨g, rfl, by omega⟩
theorem Gr.below {B : Nat} {v v1 : Value} {w w1 : World} (h : Gr v v1 w w1) (hB : B ≤ w.heap.size) (hv : ∀ g, v.ownBlock = some g → B ≤ g) : Below B w w1 :=
  ⟨h.os, h.tape, h.output, h.size, fun b hb => h.block b (by omega) (fun e => by have := hv b e; omega)⟩

theorem own_at {w : World} {B : Nat} {v : Value} {n : Nat} {xs : List Value} (h : w.ownsRow B 5 1 v n xs) : ∀ g, v.ownBlock = some g → B ≤ g := by
  intro g e
  rcases own_form h with ⟨rfl, _⟩ | ⟨g', cap, rfl, hg, _⟩
  · simp [Value.ownBlock] at e
  · simp [Value.ownBlock] at e; omega

/-- One byte appended: what the law on append leaves, in these words. -/
theorem one_more {w w1 : World} {B g cap : Nat} {v : Value} {xs : List UInt8} {b : UInt8} {o : Obj} (hown : w1.ownsRow B 5 1 (.slice (some ⟨g, 0, none⟩) (xs.length + 1) cap) (xs.length + 1) (bc xs ++ bc [b]))
    (hgr : (w.alloc o).grownBy w1 v.ownBlock) (hat : v.ownBlock = some g ∨ g = w.heap.size + 1) :
    w1.ownsRow B 5 1 (.slice (some ⟨g, 0, none⟩) (xs.length + 1) cap) (xs ++ [b]).length (bc (xs ++ [b])) ∧ Gr v (.slice (some ⟨g, 0, none⟩) (xs.length + 1) cap) w w1 := by
  refine ⟨?_, (Gr.alloc v w o).trans (Gr.of_grown hgr (by simpa using hat))⟩
  rw [bc_append, List.length_append, List.length_singleton]
  exact hown

theorem news_one (w : World) (x : Int) (b : UInt8) (hx : x = (b.toNat : Int)) : ∀ j u, (bc [b])[j]? = some u → (w.alloc (.cells #[.int .u8 x] 5)).cell? ((⟨w.heap.size, 0, none⟩ : Addr).add j) = some u := by
  subst hx
  intro j u hj
  have hl := bc_at hj
  obtain rfl : j = 0 := by simpa using hl
  rw [WideShapes.add_plain, cell_of_row _ _ _ _ _ _ (heap_alloc_new w _)]
  simpa [bc] using hj

set_option maxRecDepth 100000 in
set_option maxHeartbeats 1000000 in
theorem uv_any (B x : Nat) (dv : Value) (xs : List UInt8) (w : World) (hx : x < 18446744073709551616) (hown : w.ownsRow B 5 1 dv xs.length (bc xs)) (hB : B ≤ w.heap.size) (hlim : xs.length + 10 ≤ 140737488355328) :
    Calls Ybad.prog 16 #[dv, .int .u64 (x : Int)] w fun e w' => ∃ g n cap, e = .returned (.slice (some ⟨g, 0, none⟩) n cap) ∧ w'.ownsRow B 5 1 (.slice (some ⟨g, 0, none⟩) n cap) (xs ++ Lib.uvarint x).length (bc (xs ++ Lib.uvarint x)) ∧ Gr dv (.slice (some ⟨g, 0, none⟩) n cap) w w' := by
  obtain ⟨i0, hi, hz0, hz1, hz2⟩ := info_parts info5
  have hlen := Lib.uvarint_length64 hx
  go_enter Ybad.func16, Ybad.ntmps16
  go_wp2
  go_loopw [0, 1] (fun vd vx wr => ∃ (y : Nat) (pre : List UInt8), vx = .int .u64 (y : Int) ∧ y ≤ x ∧ Lib.uvarint x = pre ++ Lib.uvarint y ∧ wr.ownsRow B 5 1 vd (xs ++ pre).length (bc (xs ++ pre)) ∧ Gr dv vd w wr) (fun _ vx _ => (intOf vx).toNat)
  case atStart => exact ⟨x, [], rfl, Nat.le_refl _, rfl, by simpa using hown, Gr.refl _ _⟩
  case round =>
    obtain ⟨y, pre, rfl, hy, hsplit, hrow, hgr⟩ := hrel
    have hpl : pre.length + (Lib.uvarint y).length = (Lib.uvarint x).length := by
      have h2 := congrArg List.length hsplit
      rw [List.length_append] at h2
      omega
    have hyp := Lib.uvarint_pos y
    have hBr : B ≤ wr.heap.size := Nat.le_trans hB hgr.size
    by_cases h128 : 128 ≤ y
    · have hb8 : (((y % 128 + 128).toUInt8).toNat : Int) = ((y % 128 + 128 : Nat) : Int) := by
        have : y % 128 + 128 < 256 := by omega
        simp [Nat.toUInt8]; omega
      have hor : bits .or .u8 ((y : Int) % 256) 128 = (((y % 128 + 128).toUInt8).toNat : Int) := by
        rw [hb8, Lib.u8_or128_any _ (by omega) (by omega)]
        omega
      generalize hbb : (y % 128 + 128).toUInt8 = bb at *
      have HN := news_one wr (bb.toNat : Int) bb rfl
      have hra := hrow.alloc (.cells #[.int .u8 (bb.toNat : Int)] 5)
      have HQ : Hid (_ ∧ _) := ⟨HN, hra⟩
      have HP : Hid (_ ∧ _ ∧ _ ∧ _) := ⟨hsplit, hgr, hb8, hbb⟩
      clear HN hra hsplit hgr hb8 hrow hbb hown
      go_wp2_with (at_builtin; refine wpList_append_lies _ (by rfl) _ _ _ (by rfl) B 5 i0 _ 1 1 Ybad.underlying27 hi hz0 hz1 hz2 (by rfl) (by omega) u0 (xs ++ pre).length (bc (xs ++ pre)) (by rfl) HQ.out.2 ⟨wr.heap.size, 0, none⟩ 1 1 (bc [bb]) (by rfl) (by simp [bc]) HQ.out.1 (bc_one _) (by omega) (by unfold maxLen; simp; omega) (by simp; omega) (by simp; omega) (wr.heap.size + 1) (by simp) ?_; intro g cap w1 hown1 hgrow1 hat1 hlt1)
      have hmore := one_more hown1 hgrow1 hat1
      have hll : (xs ++ pre).length = xs.length + pre.length := List.length_append
      rw [hll] at hmore
      have HM : Hid (_ ∧ _) := hmore
      clear hll hmore hown1 hgrow1 hat1 hlt1
      go_wp2
      go_roundw
      case rel =>
        obtain ⟨hsplit, hgr, hb8, hbb⟩ := HP.out
        refine ⟨y / 128, pre ++ [bb], by go_num, by omega, by rw [hsplit, Lib.uvarint_big h128, hbb]; simp, ?_, hgr.trans HM.out.2⟩
        rw [← List.append_assoc]
        exact HM.out.1
      case measure => simp [intOf]; omega
    · have hsm : Lib.uvarint y = [y.toUInt8] := Lib.uvarint_small (by omega)
      have hb8 : ((y.toUInt8).toNat : Int) = (y : Int) := by
        simp [Nat.toUInt8]; omega
      have HN := news_one wr (y : Int) y.toUInt8 hb8.symm
      have hra := hrow.alloc (.cells #[.int .u8 (y : Int)] 5)
      have HQ : Hid (_ ∧ _) := ⟨HN, hra⟩
      have HP : Hid (_ ∧ _ ∧ _ ∧ _) := ⟨hsplit, hgr, hb8, hsm⟩
      clear HN hra hsplit hgr hb8 hrow hown
      go_wp2_with (at_builtin; refine wpList_append_lies _ (by rfl) _ _ _ (by rfl) B 5 i0 _ 1 1 Ybad.underlying27 hi hz0 hz1 hz2 (by rfl) (by omega) u0 (xs ++ pre).length (bc (xs ++ pre)) (by rfl) HQ.out.2 ⟨wr.heap.size, 0, none⟩ 1 1 (bc [y.toUInt8]) (by rfl) (by simp [bc]) HQ.out.1 (bc_one _) (by omega) (by unfold maxLen; simp; omega) (by simp; omega) (by simp; omega) (wr.heap.size + 1) (by simp) ?_; intro g cap w1 hown1 hgrow1 hat1 hlt1)
      have hmore := one_more hown1 hgrow1 hat1
      have hll : (xs ++ pre).length = xs.length + pre.length := List.length_append
      rw [hll] at hmore
      have HM : Hid (_ ∧ _) := hmore
      clear hll hmore hown1 hgrow1 hat1 hlt1
      go_wp2
      go_ret
      obtain ⟨hsplit, hgr, hb8, hsm⟩ := HP.out
      refine ⟨g, _, cap, rfl, ?_, hgr.trans HM.out.2⟩
      rw [hsplit, hsm, ← List.append_assoc]
      exact HM.out.1
end Go.Proofs.YbulkcxvaDoor
