/-
  zzs4967abuild: its memory.
-/
import Derived.Test.YbulkcxvoClone
namespace Go.Proofs.Ybulkcxvo
open Go.RowKit

/-- The numbered history while it is built. -/
structure B0 (w W : World) (hb n I m : Nat) (ta : Option Addr) (tc eb pb : Nat) (so : Option Addr) (sc : Nat) (nm : Nat → ByteArray) (E P : Nat → Nat) : Prop where
  bel : Below w.heap.size w W
  h : W.heap[hb]? = some (.cells #[.slice ta n tc, .slice (some ⟨eb, 0, none⟩) n n, .slice (some ⟨pb, 0, none⟩) n n, .slice so m sc, .int .i64 (I : Int)] 36 (0, 0))
  nam : 0 < n → ∃ b off, ta = some ⟨b, off, none⟩ ∧ b < W.heap.size ∧ b ≠ hb ∧ b ≠ eb ∧ b ≠ pb ∧ ∀ i, i < n → W.cell? ⟨b, off + i, none⟩ = some (.string (nm i))
  ends : UR W eb n E
  byN : IR W pb n P
  gh : w.heap.size ≤ hb
  ge : w.heap.size ≤ eb
  gp : w.heap.size ≤ pb
  n1 : hb ≠ eb
  n2 : hb ≠ pb
  n3 : eb ≠ pb
theorem names_up {w W : World} {B n : Nat} {ta : Option Addr} {nm : Nat → ByteArray} (h : StrsN w B ta n nm) (hb : Below w.heap.size w W) : 0 < n → ∃ b off, ta = some ⟨b, off, none⟩ ∧ B ≤ b ∧ b < w.heap.size ∧ ∀ i, i < n → W.cell? ⟨b, off + i, none⟩ = some (.string (nm i)) := by
  intro h0
  obtain ⟨b, off, e, h1, h2, h3⟩ := h h0
  exact ⟨b, off, e, h1, h2, fun i hi => (World.cell?_of_block (hb.block b h2)).trans (h3 i hi)⟩
theorem b0_0E (w w1 : World) (n I : Nat) (ta : Option Addr) (tc : Nat) (nm : Nat → ByteArray) (hs : StrsN w1 w.drew.heap.size ta n nm) (hb0 : Below w.drew.heap.size w.drew w1) : B0 w (((w1.alloc (.cells (ur n fun _ => 0) 30)).alloc (.cells (ir n fun _ => 0) 3)).alloc (.cells #[.slice ta n tc, .slice (some ⟨w1.heap.size, 0, none⟩) n n, .slice (some ⟨w1.heap.size + 1, 0, none⟩) n n, .slice none 0 0, .int .i64 (I : Int)] 36)) (w1.heap.size + 1 + 1) n I 0 ta tc (w1.heap.size) (w1.heap.size + 1) none 0 nm (fun _ => 0) (fun _ => 0) := by
  have hal : Below w1.heap.size w1 (((w1.alloc (.cells (ur n fun _ => 0) 30)).alloc (.cells (ir n fun _ => 0) 3)).alloc (.cells #[.slice ta n tc, .slice (some ⟨w1.heap.size, 0, none⟩) n n, .slice (some ⟨w1.heap.size + 1, 0, none⟩) n n, .slice none 0 0, .int .i64 (I : Int)] 36)) := (((Below.refl _ w1).alloc (Nat.le_refl _) _).alloc (by simp) _).alloc (by simp; omega) _
  have hb : Below w.heap.size w w1 := (below_drew w).trans hb0
  have hs : StrsN w1 w.heap.size ta n nm := hs
  have hsz := hb.size
  refine ⟨hb.trans (hal.mono hsz), ?_, fun h0 => ?_, ?_, ?_, by omega, by omega, by omega, by omega, by omega, by omega⟩
  · simp only [alloc_at, size_up]
    rw [if_pos trivial]
  · obtain ⟨b, off, e, h1, h2, h3⟩ := names_up hs hal h0
    exact ⟨b, off, e, by simp only [size_up]; omega, by omega, by omega, by omega, h3⟩
  · unfold UR
    simp only [alloc_at, size_up]
    rw [if_neg (by omega), if_neg (by omega), if_pos trivial]
  · unfold IR
    simp only [alloc_at, size_up]
    rw [if_neg (by omega), if_pos trivial]
theorem b0_1E (w w1 : World) (n I : Nat) (ta : Option Addr) (tc : Nat) (nm : Nat → ByteArray) (hs : StrsN w1 (w.alloc (.cells (ur n fun _ => 0) 30)).drew.heap.size ta n nm) (hb : Below (w.alloc (.cells (ur n fun _ => 0) 30)).drew.heap.size (w.alloc (.cells (ur n fun _ => 0) 30)).drew w1) : B0 w ((w1.alloc (.cells (ir n fun _ => 0) 3)).alloc (.cells #[.slice ta n tc, .slice (some ⟨w.heap.size, 0, none⟩) n n, .slice (some ⟨w1.heap.size, 0, none⟩) n n, .slice none 0 0, .int .i64 (I : Int)] 36)) (w1.heap.size + 1) n I 0 ta tc (w.heap.size) (w1.heap.size) none 0 nm (fun _ => 0) (fun _ => 0) := by
  rw [show (w.alloc (.cells (ur n fun _ => 0) 30)).drew.heap.size = w.heap.size + 1 from size_up _ _] at hs hb
  have hal : Below w1.heap.size w1 ((w1.alloc (.cells (ir n fun _ => 0) 3)).alloc (.cells #[.slice ta n tc, .slice (some ⟨w.heap.size, 0, none⟩) n n, .slice (some ⟨w1.heap.size, 0, none⟩) n n, .slice none 0 0, .int .i64 (I : Int)] 36)) := ((Below.refl _ w1).alloc (Nat.le_refl _) _).alloc (by simp) _
  have hsz : w.heap.size + 1 ≤ w1.heap.size := by have := hb.size; rw [show (w.alloc (.cells (ur n fun _ => 0) 30)).drew.heap.size = w.heap.size + 1 from size_up _ _] at this; exact this
  have hw : Below w.heap.size w w1 := ((Below.refl _ w).alloc (Nat.le_refl _) (.cells (ur n fun _ => 0) 30)).trans (((below_drew _).mono (by simp)).trans (hb.mono (by omega)))
  have hold : UR w1 w.heap.size n (fun _ => 0) := (hb.block w.heap.size (by omega)).trans (heap_alloc_new w _)
  have hold := hold.keep (hal.block _ hold.lt)
  refine ⟨hw.trans (hal.mono (by omega)), ?_, fun h0 => ?_, ?_, ?_, by omega, by omega, by omega, by omega, by omega, by omega⟩
  · simp only [alloc_at, size_up]
    rw [if_pos trivial]
  · obtain ⟨b, off, e, h1, h2, h3⟩ := names_up hs hal h0
    exact ⟨b, off, e, by simp only [size_up]; omega, by omega, by omega, by omega, h3⟩
  · exact hold
  · unfold IR
    simp only [alloc_at, size_up]
    rw [if_neg (by omega), if_pos trivial]
theorem b0_2E (w w1 : World) (n I : Nat) (ta : Option Addr) (tc : Nat) (nm : Nat → ByteArray) (hs : StrsN w1 ((w.alloc (.cells (ur n fun _ => 0) 30)).alloc (.cells (ir n fun _ => 0) 3)).drew.heap.size ta n nm) (hb : Below ((w.alloc (.cells (ur n fun _ => 0) 30)).alloc (.cells (ir n fun _ => 0) 3)).drew.heap.size ((w.alloc (.cells (ur n fun _ => 0) 30)).alloc (.cells (ir n fun _ => 0) 3)).drew w1) : B0 w (w1.alloc (.cells #[.slice ta n tc, .slice (some ⟨w.heap.size, 0, none⟩) n n, .slice (some ⟨w.heap.size + 1, 0, none⟩) n n, .slice none 0 0, .int .i64 (I : Int)] 36)) w1.heap.size n I 0 ta tc (w.heap.size) (w.heap.size + 1) none 0 nm (fun _ => 0) (fun _ => 0) := by
  rw [show ((w.alloc (.cells (ur n fun _ => 0) 30)).alloc (.cells (ir n fun _ => 0) 3)).drew.heap.size = w.heap.size + 2 by show (World.alloc _ _).heap.size = _; simp only [size_up]] at hs hb
  have hal : Below w1.heap.size w1 (w1.alloc (.cells #[.slice ta n tc, .slice (some ⟨w.heap.size, 0, none⟩) n n, .slice (some ⟨w.heap.size + 1, 0, none⟩) n n, .slice none 0 0, .int .i64 (I : Int)] 36)) := (Below.refl _ w1).alloc (Nat.le_refl _) _
  have hsz : w.heap.size + 2 ≤ w1.heap.size := by have := hb.size; rw [show ((w.alloc (.cells (ur n fun _ => 0) 30)).alloc (.cells (ir n fun _ => 0) 3)).drew.heap.size = w.heap.size + 2 by show (World.alloc _ _).heap.size = _; simp only [size_up]] at this; exact this
  have hw : Below w.heap.size w w1 := (((Below.refl _ w).alloc (Nat.le_refl _) (.cells (ur n fun _ => 0) 30)).alloc (by simp) (.cells (ir n fun _ => 0) 3)).trans (((below_drew _).mono (by simp; omega)).trans (hb.mono (by omega)))
  have hA : ((w.alloc (.cells (ur n fun _ => 0) 30)).alloc (.cells (ir n fun _ => 0) 3)).heap[w.heap.size]? = some (.cells (ur n fun _ => 0) 30) := by
    simp only [alloc_at, size_up]
    rw [if_neg (by omega), if_pos trivial]
  have hB : ((w.alloc (.cells (ur n fun _ => 0) 30)).alloc (.cells (ir n fun _ => 0) 3)).heap[w.heap.size + 1]? = some (.cells (ir n fun _ => 0) 3) := by
    simp only [alloc_at, size_up]
    rw [if_pos trivial]
  have o1 : UR w1 w.heap.size n (fun _ => 0) := (hb.block w.heap.size (by omega)).trans hA
  have o2 : IR w1 (w.heap.size + 1) n (fun _ => 0) := (hb.block (w.heap.size + 1) (by omega)).trans hB
  refine ⟨hw.trans (hal.mono (by omega)), ?_, fun h0 => ?_, o1.keep (hal.block _ (by omega)), o2.keep (hal.block _ (by omega)), by omega, by omega, by omega, by omega, by omega, by omega⟩
  · simp only [alloc_at]
    rw [if_pos trivial]
  · obtain ⟨b, off, e, h1, h2, h3⟩ := names_up hs hal h0
    exact ⟨b, off, e, by simp only [size_up]; omega, by omega, by omega, by omega, h3⟩
theorem b0_0P (w w1 : World) (n I : Nat) (ta : Option Addr) (tc : Nat) (nm : Nat → ByteArray) (hs : StrsN w1 w.drew.heap.size ta n nm) (hb0 : Below w.drew.heap.size w.drew w1) : B0 w (((w1.alloc (.cells (ir n fun _ => 0) 3)).alloc (.cells (ur n fun _ => 0) 30)).alloc (.cells #[.slice ta n tc, .slice (some ⟨w1.heap.size + 1, 0, none⟩) n n, .slice (some ⟨w1.heap.size, 0, none⟩) n n, .slice none 0 0, .int .i64 (I : Int)] 36)) (w1.heap.size + 1 + 1) n I 0 ta tc (w1.heap.size + 1) (w1.heap.size) none 0 nm (fun _ => 0) (fun _ => 0) := by
  have hal : Below w1.heap.size w1 (((w1.alloc (.cells (ir n fun _ => 0) 3)).alloc (.cells (ur n fun _ => 0) 30)).alloc (.cells #[.slice ta n tc, .slice (some ⟨w1.heap.size + 1, 0, none⟩) n n, .slice (some ⟨w1.heap.size, 0, none⟩) n n, .slice none 0 0, .int .i64 (I : Int)] 36)) := (((Below.refl _ w1).alloc (Nat.le_refl _) _).alloc (by simp) _).alloc (by simp; omega) _
  have hb : Below w.heap.size w w1 := (below_drew w).trans hb0
  have hs : StrsN w1 w.heap.size ta n nm := hs
  have hsz := hb.size
  refine ⟨hb.trans (hal.mono hsz), ?_, fun h0 => ?_, ?_, ?_, by omega, by omega, by omega, by omega, by omega, by omega⟩
  · simp only [alloc_at, size_up]
    rw [if_pos trivial]
  · obtain ⟨b, off, e, h1, h2, h3⟩ := names_up hs hal h0
    exact ⟨b, off, e, by simp only [size_up]; omega, by omega, by omega, by omega, h3⟩
  · unfold UR
    simp only [alloc_at, size_up]
    rw [if_neg (by omega), if_pos trivial]
  · unfold IR
    simp only [alloc_at, size_up]
    rw [if_neg (by omega), if_neg (by omega), if_pos trivial]
theorem b0_1P (w w1 : World) (n I : Nat) (ta : Option Addr) (tc : Nat) (nm : Nat → ByteArray) (hs : StrsN w1 (w.alloc (.cells (ir n fun _ => 0) 3)).drew.heap.size ta n nm) (hb : Below (w.alloc (.cells (ir n fun _ => 0) 3)).drew.heap.size (w.alloc (.cells (ir n fun _ => 0) 3)).drew w1) : B0 w ((w1.alloc (.cells (ur n fun _ => 0) 30)).alloc (.cells #[.slice ta n tc, .slice (some ⟨w1.heap.size, 0, none⟩) n n, .slice (some ⟨w.heap.size, 0, none⟩) n n, .slice none 0 0, .int .i64 (I : Int)] 36)) (w1.heap.size + 1) n I 0 ta tc (w1.heap.size) (w.heap.size) none 0 nm (fun _ => 0) (fun _ => 0) := by
  rw [show (w.alloc (.cells (ir n fun _ => 0) 3)).drew.heap.size = w.heap.size + 1 from size_up _ _] at hs hb
  have hal : Below w1.heap.size w1 ((w1.alloc (.cells (ur n fun _ => 0) 30)).alloc (.cells #[.slice ta n tc, .slice (some ⟨w1.heap.size, 0, none⟩) n n, .slice (some ⟨w.heap.size, 0, none⟩) n n, .slice none 0 0, .int .i64 (I : Int)] 36)) := ((Below.refl _ w1).alloc (Nat.le_refl _) _).alloc (by simp) _
  have hsz : w.heap.size + 1 ≤ w1.heap.size := by have := hb.size; rw [show (w.alloc (.cells (ir n fun _ => 0) 3)).drew.heap.size = w.heap.size + 1 from size_up _ _] at this; exact this
  have hw : Below w.heap.size w w1 := ((Below.refl _ w).alloc (Nat.le_refl _) (.cells (ir n fun _ => 0) 3)).trans (((below_drew _).mono (by simp)).trans (hb.mono (by omega)))
  have hold : IR w1 w.heap.size n (fun _ => 0) := (hb.block w.heap.size (by omega)).trans (heap_alloc_new w _)
  have hold := hold.keep (hal.block _ hold.lt)
  refine ⟨hw.trans (hal.mono (by omega)), ?_, fun h0 => ?_, ?_, ?_, by omega, by omega, by omega, by omega, by omega, by omega⟩
  · simp only [alloc_at, size_up]
    rw [if_pos trivial]
  · obtain ⟨b, off, e, h1, h2, h3⟩ := names_up hs hal h0
    exact ⟨b, off, e, by simp only [size_up]; omega, by omega, by omega, by omega, h3⟩
  · unfold UR
    simp only [alloc_at, size_up]
    rw [if_neg (by omega), if_pos trivial]
  · exact hold
theorem b0_2P (w w1 : World) (n I : Nat) (ta : Option Addr) (tc : Nat) (nm : Nat → ByteArray) (hs : StrsN w1 ((w.alloc (.cells (ir n fun _ => 0) 3)).alloc (.cells (ur n fun _ => 0) 30)).drew.heap.size ta n nm) (hb : Below ((w.alloc (.cells (ir n fun _ => 0) 3)).alloc (.cells (ur n fun _ => 0) 30)).drew.heap.size ((w.alloc (.cells (ir n fun _ => 0) 3)).alloc (.cells (ur n fun _ => 0) 30)).drew w1) : B0 w (w1.alloc (.cells #[.slice ta n tc, .slice (some ⟨w.heap.size + 1, 0, none⟩) n n, .slice (some ⟨w.heap.size, 0, none⟩) n n, .slice none 0 0, .int .i64 (I : Int)] 36)) w1.heap.size n I 0 ta tc (w.heap.size + 1) (w.heap.size) none 0 nm (fun _ => 0) (fun _ => 0) := by
  rw [show ((w.alloc (.cells (ir n fun _ => 0) 3)).alloc (.cells (ur n fun _ => 0) 30)).drew.heap.size = w.heap.size + 2 by show (World.alloc _ _).heap.size = _; simp only [size_up]] at hs hb
  have hal : Below w1.heap.size w1 (w1.alloc (.cells #[.slice ta n tc, .slice (some ⟨w.heap.size + 1, 0, none⟩) n n, .slice (some ⟨w.heap.size, 0, none⟩) n n, .slice none 0 0, .int .i64 (I : Int)] 36)) := (Below.refl _ w1).alloc (Nat.le_refl _) _
  have hsz : w.heap.size + 2 ≤ w1.heap.size := by have := hb.size; rw [show ((w.alloc (.cells (ir n fun _ => 0) 3)).alloc (.cells (ur n fun _ => 0) 30)).drew.heap.size = w.heap.size + 2 by show (World.alloc _ _).heap.size = _; simp only [size_up]] at this; exact this
  have hw : Below w.heap.size w w1 := (((Below.refl _ w).alloc (Nat.le_refl _) (.cells (ir n fun _ => 0) 3)).alloc (by simp) (.cells (ur n fun _ => 0) 30)).trans (((below_drew _).mono (by simp; omega)).trans (hb.mono (by omega)))
  have hA : ((w.alloc (.cells (ir n fun _ => 0) 3)).alloc (.cells (ur n fun _ => 0) 30)).heap[w.heap.size]? = some (.cells (ir n fun _ => 0) 3) := by
    simp only [alloc_at, size_up]
    rw [if_neg (by omega), if_pos trivial]
  have hB : ((w.alloc (.cells (ir n fun _ => 0) 3)).alloc (.cells (ur n fun _ => 0) 30)).heap[w.heap.size + 1]? = some (.cells (ur n fun _ => 0) 30) := by
    simp only [alloc_at, size_up]
    rw [if_pos trivial]
  have o1 : IR w1 w.heap.size n (fun _ => 0) := (hb.block w.heap.size (by omega)).trans hA
  have o2 : UR w1 (w.heap.size + 1) n (fun _ => 0) := (hb.block (w.heap.size + 1) (by omega)).trans hB
  refine ⟨hw.trans (hal.mono (by omega)), ?_, fun h0 => ?_, o2.keep (hal.block _ (by omega)), o1.keep (hal.block _ (by omega)), by omega, by omega, by omega, by omega, by omega, by omega⟩
  · simp only [alloc_at]
    rw [if_pos trivial]
  · obtain ⟨b, off, e, h1, h2, h3⟩ := names_up hs hal h0
    exact ⟨b, off, e, by simp only [size_up]; omega, by omega, by omega, by omega, h3⟩
end Go.Proofs.Ybulkcxvo
