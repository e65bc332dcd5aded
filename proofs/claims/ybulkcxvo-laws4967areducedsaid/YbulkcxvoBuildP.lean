/-
  zzs4967abuild: what its loops need.
-/
import Derived.Test.YbulkcxvoBuildM
namespace Go.Proofs.Ybulkcxvo
open Go.RowKit

section
variable {w W W' : World} {hb n I m : Nat} {ta : Option Addr} {tc eb pb : Nat} {so : Option Addr} {sc : Nat} {nm : Nat → ByteArray} {E P : Nat → Nat}
theorem B0.lts (h : B0 w W hb n I m ta tc eb pb so sc nm E P) : hb < W.heap.size ∧ eb < W.heap.size ∧ pb < W.heap.size := ⟨lt_of_block h.h, h.ends.lt, h.byN.lt⟩
theorem B0.cell (h : B0 w W hb n I m ta tc eb pb so sc nm E P) (i : Nat) : W.cell? ⟨hb, i, none⟩ = (#[.slice ta n tc, .slice (some ⟨eb, 0, none⟩) n n, .slice (some ⟨pb, 0, none⟩) n n, .slice so m sc, .int .i64 (I : Int)] : Array Value)[i]? ∧ W.frozen? ⟨hb, i, none⟩ = false :=
  ⟨cell_of_row _ _ _ _ _ _ h.h, frozen_of_row _ _ _ _ _ h.h⟩
/-- Other blocks turned. -/
theorem B0.other (h : B0 w W hb n I m ta tc eb pb so sc nm E P) (h0 : W'.os = W.os) (h1 : W'.tape = W.tape) (h2 : W'.output = W.output) (hs : W.heap.size ≤ W'.heap.size) (hk : ∀ b, b < W.heap.size → W'.heap[b]? = W.heap[b]?) : B0 w W' hb n I m ta tc eb pb so sc nm E P := by
  obtain ⟨l1, l2, l3⟩ := h.lts
  refine ⟨h.bel.trans ⟨h0, h1, h2, hs, fun b hb => hk b (Nat.lt_of_lt_of_le hb h.bel.size)⟩, (hk _ l1).trans h.h, fun hn => ?_, h.ends.keep (hk _ l2), h.byN.keep (hk _ l3), h.gh, h.ge, h.gp, h.n1, h.n2, h.n3⟩
  obtain ⟨b, off, e, hl, a1, a2, a3, hc⟩ := h.nam hn
  exact ⟨b, off, e, by omega, a1, a2, a3, fun i hi => (World.cell?_of_block (hk b hl)).trans (hc i hi)⟩
theorem B0.keep (h : B0 w W hb n I m ta tc eb pb so sc nm E P) (hb' : Below W.heap.size W W') : B0 w W' hb n I m ta tc eb pb so sc nm E P :=
  h.other hb'.os hb'.tape hb'.output hb'.size hb'.block
theorem B0.setE (h : B0 w W hb n I m ta tc eb pb so sc nm E P) (u a : Nat) : B0 w (W.setCell ⟨eb, u, none⟩ (.int .u8 (a : Int))) hb n I m ta tc eb pb so sc nm (upd E u a) P := by
  have kb : ∀ b, b ≠ eb → (W.setCell ⟨eb, u, none⟩ (.int .u8 (a : Int))).heap[b]? = W.heap[b]? := fun b hb => heap_setCell_other _ _ _ _ hb
  refine ⟨h.bel.setCell h.ge _, (kb _ h.n1).trans h.h, fun hn => ?_, h.ends.set u a, h.byN.keep (kb _ (Ne.symm h.n3)), h.gh, h.ge, h.gp, h.n1, h.n2, h.n3⟩
  obtain ⟨b, off, e, hl, a1, a2, a3, hc⟩ := h.nam hn
  exact ⟨b, off, e, by simpa using hl, a1, a2, a3, fun i hi => (World.cell?_of_block (kb b a2)).trans (hc i hi)⟩
theorem B0.setP (h : B0 w W hb n I m ta tc eb pb so sc nm E P) (u a : Nat) : B0 w (W.setCell ⟨pb, u, none⟩ (.int .i64 (a : Int))) hb n I m ta tc eb pb so sc nm E (upd P u a) := by
  have kb : ∀ b, b ≠ pb → (W.setCell ⟨pb, u, none⟩ (.int .i64 (a : Int))).heap[b]? = W.heap[b]? := fun b hb => heap_setCell_other _ _ _ _ hb
  refine ⟨h.bel.setCell h.gp _, (kb _ h.n2).trans h.h, fun hn => ?_, h.ends.keep (kb _ h.n3), h.byN.set u a, h.gh, h.ge, h.gp, h.n1, h.n2, h.n3⟩
  obtain ⟨b, off, e, hl, a1, a2, a3, hc⟩ := h.nam hn
  exact ⟨b, off, e, by simpa using hl, a1, a2, a3, fun i hi => (World.cell?_of_block (kb b a3)).trans (hc i hi)⟩
theorem B0.setS (h : B0 w W hb n I m ta tc eb pb so sc nm E P) (so' : Option Addr) (m' sc' : Nat) : B0 w (W.setCell ⟨hb, 3, none⟩ (.slice so' m' sc')) hb n I m' ta tc eb pb so' sc' nm E P := by
  have kb : ∀ b, b ≠ hb → (W.setCell ⟨hb, 3, none⟩ (.slice so' m' sc')).heap[b]? = W.heap[b]? := fun b hb => heap_setCell_other _ _ _ _ hb
  refine ⟨h.bel.setCell h.gh _, by rw [heap_setCell_same _ _ _ _ _ _ h.h]; rfl, fun hn => ?_, h.ends.keep (kb _ (Ne.symm h.n1)), h.byN.keep (kb _ (Ne.symm h.n2)), h.gh, h.ge, h.gp, h.n1, h.n2, h.n3⟩
  obtain ⟨b, off, e, hl, a1, a2, a3, hc⟩ := h.nam hn
  exact ⟨b, off, e, by simpa using hl, a1, a2, a3, fun i hi => (World.cell?_of_block (kb b a1)).trans (hc i hi)⟩
theorem B0.congrP {P' : Nat → Nat} (h : B0 w W hb n I m ta tc eb pb so sc nm E P) (e : ∀ i, i < n → P i = P' i) : B0 w W hb n I m ta tc eb pb so sc nm E P' :=
  ⟨h.bel, h.h, h.nam, h.ends, h.byN.congr e, h.gh, h.ge, h.gp, h.n1, h.n2, h.n3⟩
end
/-- A slice of bytes as it came in. -/
def U8s (w : World) (ao : Option Addr) (n : Nat) (f : Nat → Nat) : Prop := 0 < n → ∃ b off, ao = some ⟨b, off, none⟩ ∧ b < w.heap.size ∧ ∀ i, i < n → w.cell? ⟨b, off + i, none⟩ = some (.int .u8 (f i : Int)) ∧ f i < 256
def U16s (w : World) (ao : Option Addr) (n : Nat) (f : Nat → Nat) : Prop := 0 < n → ∃ b off, ao = some ⟨b, off, none⟩ ∧ b < w.heap.size ∧ ∀ i, i < n → w.cell? ⟨b, off + i, none⟩ = some (.int .u16 (f i : Int)) ∧ f i < 65536
def Ops (w : World) (ao : Option Addr) (n : Nat) (f g h : Nat → Nat) : Prop := 0 < n → ∃ b off, ao = some ⟨b, off, none⟩ ∧ b < w.heap.size ∧ ∀ i, i < n → w.cell? ⟨b, off + i * 3, none⟩ = some (.int .u16 (f i : Int)) ∧ w.cell? ⟨b, off + i * 3 + 1, none⟩ = some (.int .u16 (g i : Int)) ∧ w.cell? ⟨b, off + i * 3 + 2, none⟩ = some (.int .u8 (h i : Int)) ∧ f i < 65536 ∧ g i < 65536 ∧ h i < 256
/-- P is a permutation of the first n. -/
structure Perm (n : Nat) (P : Nat → Nat) : Prop where
  plt : ∀ i, i < n → P i < n
  inj : ∀ i j, i < n → j < n → P i = P j → i = j
theorem perm_id (n : Nat) : Perm n (fun x => x) := ⟨fun _ h => h, fun _ _ _ _ h => h⟩
theorem Perm.swap {n i j : Nat} {P : Nat → Nat} (h : Perm n P) (hi : i < n) (hj : j < n) : Perm n (upd (upd P i (P j)) j (P i)) := by
  have key : ∀ x, x < n → ∃ y, y < n ∧ upd (upd P i (P j)) j (P i) x = P y ∧ ((x = j ∧ y = i) ∨ (x = i ∧ x ≠ j ∧ y = j) ∨ (x ≠ i ∧ x ≠ j ∧ y = x)) := by
    intro x hx
    by_cases e1 : x = j
    · exact ⟨i, hi, by rw [e1, upd_same], .inl ⟨e1, rfl⟩⟩
    · by_cases e2 : x = i
      · exact ⟨j, hj, by rw [upd_ne _ _ e1, e2, upd_same], .inr (.inl ⟨e2, e1, rfl⟩)⟩
      · exact ⟨x, hx, by rw [upd_ne _ _ e1, upd_ne _ _ e2], .inr (.inr ⟨e2, e1, rfl⟩)⟩
  refine ⟨fun x hx => ?_, fun x y hx hy e => ?_⟩
  · obtain ⟨z, hz, e, _⟩ := key x hx
    rw [e]; exact h.plt z hz
  · obtain ⟨a, ha, e1, c1⟩ := key x hx
    obtain ⟨b, hb, e2, c2⟩ := key y hy
    rw [e1, e2] at e
    have := h.inj a b ha hb e
    omega
theorem cell3 {w : World} {b : Nat} {a0 a1 a2 : Value} {t : TypeId} (h : w.heap[b]? = some (.cells #[a0, a1, a2] t (0, 0))) : w.cell? ⟨b, 0, none⟩ = some a0 ∧ w.cell? ⟨b, 1, none⟩ = some a1 ∧ w.cell? ⟨b, 2, none⟩ = some a2 :=
  ⟨by rw [cell_of_row _ _ _ _ _ _ h]; rfl, by rw [cell_of_row _ _ _ _ _ _ h]; rfl, by rw [cell_of_row _ _ _ _ _ _ h]; rfl⟩
theorem tab3 {w : World} {b j : Nat} (h : w.heap[b]? = some (.cells #[.int .u8 0, .int .u8 3, .int .u8 4] 82 (0, 0))) (hj : j < 3) : ∃ v : Nat, v < 256 ∧ w.cell? ⟨b, j, none⟩ = some (.int .u8 (v : Int)) := by
  match j, hj with
  | 0, _ => exact ⟨0, by omega, (cell3 h).1⟩
  | 1, _ => exact ⟨3, by omega, (cell3 h).2.1⟩
  | 2, _ => exact ⟨4, by omega, (cell3 h).2.2⟩
theorem tab4 {w : World} {b j : Nat} (h : w.heap[b]? = some (.cells #[.int .u8 1, .int .u8 2, .int .u8 3, .int .u8 4] 83 (0, 0))) (hj : j < 4) : w.cell? ⟨b, j, none⟩ = some (.int .u8 ((j + 1 : Nat) : Int)) := by
  rw [cell_of_row _ _ _ _ _ _ h]
  match j, hj with
  | 0, _ => rfl
  | 1, _ => rfl
  | 2, _ => rfl
  | 3, _ => rfl
end Go.Proofs.Ybulkcxvo
