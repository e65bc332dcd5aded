/-
  The inputs of the two laws over histories, as they lie in memory.
-/
import Derived.Test.YbulkcxvoRows
import Derived.Test.YbulkcxvoBuildP
import Derived.ProofKit
import Derived.OpenShut
import Derived.ChangeOld
import Derived.Deep.Slices
namespace Go.Proofs.Ybulkcxvo
open Go.ChangeShapes Go.WideShapes Go.ChangeAt Go.RowKit

section
variable {H : Type} {enc : TypeId × Value → H} {W : World} {base : Nat} {sp : Nat → Bool} {held : Bool} {fuel : Nat}
theorem add_row {b off n : Nat} {spot : Option Nat} {V : Nat → Value} (hn : 0 < n) (h : ∀ i, i < n → W.cell? ((⟨b, off, spot⟩ : Addr).add i) = some (V i)) : spot = none ∧ b < W.heap.size ∧ ∀ i, i < n → W.cell? ⟨b, off + i, none⟩ = some (V i) := by
  have hs : spot = none := by simpa [Addr.add] using World.cell?_spot (h 0 hn)
  subst hs
  have h0 := h 0 hn
  rw [Addr.add_mid] at h0
  exact ⟨rfl, World.block_lt_of_cell? _ _ h0, fun i hi => by rw [← Addr.add_mid]; exact h i hi⟩
theorem open_strs {a : Option Addr} {n c : Nat} {x : DataW H × List MemPlace} (h : DataW.trod enc Yba.prog W base sp held fuel 22 (Value.slice a n c).cells.toList = some x) : (a = none → n = 0 ∧ c = 0) ∧ ∃ nm : Nat → ByteArray, Strs W a n nm := by
  rcases Deep.open_slice1 Yba.underlying22 (by kernel_rfl) h with ⟨hcs, _⟩ | ⟨y, l, cp, m, k, V, D, Pl, hcs, _, hl, hm, hmm, hx, hat⟩
  · simp [Value.cells] at hcs
    obtain ⟨rfl, rfl, rfl⟩ := hcs
    exact ⟨fun _ => ⟨rfl, rfl⟩, fun _ => ⟨#[]⟩, fun h => absurd h (by omega)⟩
  · simp [Value.cells] at hcs
    obtain ⟨rfl, rfl, rfl⟩ := hcs
    have hml : n ≤ m := by rw [hmm]; split <;> omega
    refine ⟨(fun e => by cases e), ?_⟩
    have each : ∀ i, ∃ s : ByteArray, i < n → V i = .string s := by
      intro i
      by_cases hi : i < n
      · obtain ⟨s, hs, _⟩ := DataW.trod_string Yba.underlying9 (hat i (by omega)).2
        simp at hs
        exact ⟨s, fun _ => hs⟩
      · exact ⟨⟨#[]⟩, fun h => absurd h hi⟩
    obtain ⟨f, hf⟩ := Classical.axiomOfChoice each
    refine ⟨f, fun hpos => ?_⟩
    obtain ⟨b, off, spot⟩ := y
    obtain ⟨rfl, hb, hc⟩ := add_row (V := V) hpos fun i hi => (hat i (by omega)).1
    exact ⟨b, off, rfl, hb, fun i hi => by rw [hc i hi, hf i hi]⟩
theorem open_u8s {a : Option Addr} {n c : Nat} {x : DataW H × List MemPlace} (h : DataW.trod enc Yba.prog W base sp held fuel 23 (Value.slice a n c).cells.toList = some x) : ∃ f : Nat → Nat, U8s W a n f := by
  rcases Deep.open_slice1 Yba.underlying23 (by kernel_rfl) h with ⟨hcs, _⟩ | ⟨y, l, cp, m, k, V, D, Pl, hcs, _, hl, hm, hmm, hx, hat⟩
  · simp [Value.cells] at hcs
    obtain ⟨rfl, rfl, rfl⟩ := hcs
    exact ⟨fun _ => 0, fun h => absurd h (by omega)⟩
  · simp [Value.cells] at hcs
    obtain ⟨rfl, rfl, rfl⟩ := hcs
    have hml : n ≤ m := by rw [hmm]; split <;> omega
    have each : ∀ i, ∃ s : Nat, i < n → V i = .int .u8 (s : Int) ∧ s < 256 := by
      intro i
      by_cases hi : i < n
      · obtain ⟨s, hs, _, wf⟩ := DataW.trod_int Yba.underlying5 (hat i (by omega)).2
        have hb := bounds_u8 wf
        obtain ⟨s, rfl⟩ := Int.eq_ofNat_of_zero_le hb.1
        simp at hs
        exact ⟨s, fun _ => ⟨hs, by have := hb.2; omega⟩⟩
      · exact ⟨0, fun h => absurd h hi⟩
    obtain ⟨f, hf⟩ := Classical.axiomOfChoice each
    refine ⟨f, fun hpos => ?_⟩
    obtain ⟨b, off, spot⟩ := y
    obtain ⟨rfl, hb, hc⟩ := add_row (V := V) hpos fun i hi => (hat i (by omega)).1
    exact ⟨b, off, rfl, hb, fun i hi => ⟨by rw [hc i hi, (hf i hi).1], (hf i hi).2⟩⟩
theorem open_u16s {a : Option Addr} {n c : Nat} {x : DataW H × List MemPlace} (h : DataW.trod enc Yba.prog W base sp held fuel 24 (Value.slice a n c).cells.toList = some x) : ∃ f : Nat → Nat, U16s W a n f := by
  rcases Deep.open_slice1 Yba.underlying24 (by kernel_rfl) h with ⟨hcs, _⟩ | ⟨y, l, cp, m, k, V, D, Pl, hcs, _, hl, hm, hmm, hx, hat⟩
  · simp [Value.cells] at hcs
    obtain ⟨rfl, rfl, rfl⟩ := hcs
    exact ⟨fun _ => 0, fun h => absurd h (by omega)⟩
  · simp [Value.cells] at hcs
    obtain ⟨rfl, rfl, rfl⟩ := hcs
    have hml : n ≤ m := by rw [hmm]; split <;> omega
    have each : ∀ i, ∃ s : Nat, i < n → V i = .int .u16 (s : Int) ∧ s < 65536 := by
      intro i
      by_cases hi : i < n
      · obtain ⟨s, hs, _, wf⟩ := DataW.trod_int Yba.underlying72 (hat i (by omega)).2
        have hb := bounds_u16 wf
        obtain ⟨s, rfl⟩ := Int.eq_ofNat_of_zero_le hb.1
        simp at hs
        exact ⟨s, fun _ => ⟨hs, by have := hb.2; omega⟩⟩
      · exact ⟨0, fun h => absurd h hi⟩
    obtain ⟨f, hf⟩ := Classical.axiomOfChoice each
    refine ⟨f, fun hpos => ?_⟩
    obtain ⟨b, off, spot⟩ := y
    obtain ⟨rfl, hb, hc⟩ := add_row (V := V) hpos fun i hi => (hat i (by omega)).1
    exact ⟨b, off, rfl, hb, fun i hi => ⟨by rw [hc i hi, (hf i hi).1], (hf i hi).2⟩⟩
theorem three_of {cs a b d : List Value} (hl : cs.length = 3) (h0 : (cs.drop 0).take 1 = a) (h1 : (cs.drop 1).take 1 = b) (h2 : (cs.drop 2).take 1 = d) : cs = a ++ (b ++ d) := by
  subst h0 h1 h2
  match cs, hl with
  | [x, y, z], _ => rfl
theorem open_step {cs : List Value} {x : DataW H × List MemPlace} (h : DataW.trod enc Yba.prog W base sp held fuel 85 cs = some x) :
    ∃ f g k : Nat, cs = [.int .u16 (f : Int), .int .u16 (g : Int), .int .u8 (k : Int)] ∧ f < 65536 ∧ g < 65536 ∧ k < 256 := by
  obtain ⟨xs, m, _, _, hl, hx, hat⟩ := DataW.trod_struct Yba.underlying85 h
  have hl : cs.length = 3 := hl.trans (by kernel_rfl)
  have hx : xs.length = 3 := hx
  have c72 : Yba.prog.cellsOf 72 = 1 := by kernel_rfl
  have c5 : Yba.prog.cellsOf 5 = 1 := by kernel_rfl
  have g0 := hat 0 _ rfl
  have g1 := hat 1 _ rfl
  have g2 := hat 2 _ rfl
  rw [List.getElem?_eq_getElem (by omega)] at g0 g1 g2
  obtain ⟨f, k0, _, w0⟩ := DataW.trod_int Yba.underlying72 g0
  obtain ⟨g, k1, _, w1⟩ := DataW.trod_int Yba.underlying72 g1
  obtain ⟨d, k2, _, w2⟩ := DataW.trod_int Yba.underlying5 g2
  have b0 := bounds_u16 w0
  have b1 := bounds_u16 w1
  have b2 := bounds_u8 w2
  obtain ⟨f, rfl⟩ := Int.eq_ofNat_of_zero_le b0.1
  obtain ⟨g, rfl⟩ := Int.eq_ofNat_of_zero_le b1.1
  obtain ⟨d, rfl⟩ := Int.eq_ofNat_of_zero_le b2.1
  refine ⟨f, g, d, ?_, by have := b0.2; omega, by have := b1.2; omega, by have := b2.2; omega⟩
  have k0 : (cs.drop 0).take (Yba.prog.cellsOf 72) = [.int .u16 (f : Int)] := k0
  have k1 : (cs.drop 1).take (Yba.prog.cellsOf 72) = [.int .u16 (g : Int)] := k1
  have k2 : (cs.drop 2).take (Yba.prog.cellsOf 5) = [.int .u8 (d : Int)] := k2
  rw [c72] at k0 k1
  rw [c5] at k2
  exact three_of hl k0 k1 k2
theorem open_ops {a : Option Addr} {n c : Nat} {x : DataW H × List MemPlace} (h : DataW.trod enc Yba.prog W base sp held fuel 25 (Value.slice a n c).cells.toList = some x) : ∃ f g k : Nat → Nat, Ops W a n f g k := by
  rcases Deep.open_slice Yba.underlying25 h with ⟨hcs, _⟩ | ⟨y, l, cp, m, k, D, Pl, hcs, _, hl, hm, hmm, hx, hat⟩
  · simp [Value.cells] at hcs
    obtain ⟨rfl, rfl, rfl⟩ := hcs
    exact ⟨fun _ => 0, fun _ => 0, fun _ => 0, fun h => absurd h (by omega)⟩
  · simp [Value.cells] at hcs
    obtain ⟨rfl, rfl, rfl⟩ := hcs
    have hml : n ≤ m := by rw [hmm]; split <;> omega
    have c85 : Yba.prog.cellsOf 85 = 3 := by kernel_rfl
    rw [c85] at hat
    have each : ∀ i, ∃ t : Nat × Nat × Nat, i < n → t.1 < 65536 ∧ t.2.1 < 65536 ∧ t.2.2 < 256 ∧ W.cells? base (y.add (i * 3)) 3 = some [.int .u16 (t.1 : Int), .int .u16 (t.2.1 : Int), .int .u8 (t.2.2 : Int)] := by
      intro i
      by_cases hi : i < n
      · obtain ⟨cs', h1, h2⟩ := hat i (by omega)
        obtain ⟨f, g, d, rfl, hf1, hf2, hf3⟩ := open_step h2
        exact ⟨(f, g, d), fun _ => ⟨hf1, hf2, hf3, h1⟩⟩
      · exact ⟨(0, 0, 0), fun h => absurd h hi⟩
    obtain ⟨t, ht⟩ := Classical.axiomOfChoice each
    refine ⟨fun i => (t i).1, fun i => (t i).2.1, fun i => (t i).2.2, fun hpos => ?_⟩
    obtain ⟨b, off, spot⟩ := y
    have hc0 := (World.cells?_some (ht 0 hpos).2.2.2).2.2 0 (by omega)
    have hc1 : W.cell? ((({ block := b, off := off, spot := spot } : Addr).add (0 * 3)).add 0) = some (.int .u16 ((t 0).1 : Int)) := hc0
    have hspot : spot = none := by simpa [Addr.add] using World.cell?_spot hc1
    subst hspot
    refine ⟨b, off, rfl, ?_, fun i hi => ?_⟩
    · rw [Addr.add_mid, Addr.add_mid] at hc1
      exact World.block_lt_of_cell? _ _ hc1
    · have hi2 := ht i hi
      have e0 : W.cell? ((({ block := b, off := off, spot := none } : Addr).add (i * 3)).add 0) = some (.int .u16 ((t i).1 : Int)) := (World.cells?_some hi2.2.2.2).2.2 0 (by omega)
      have e1 : W.cell? ((({ block := b, off := off, spot := none } : Addr).add (i * 3)).add 1) = some (.int .u16 ((t i).2.1 : Int)) := (World.cells?_some hi2.2.2.2).2.2 1 (by omega)
      have e2 : W.cell? ((({ block := b, off := off, spot := none } : Addr).add (i * 3)).add 2) = some (.int .u8 ((t i).2.2 : Int)) := (World.cells?_some hi2.2.2.2).2.2 2 (by omega)
      rw [Addr.add_mid, Addr.add_mid] at e0 e1 e2
      exact ⟨e0, e1, e2, hi2.1, hi2.2.1, hi2.2.2.1⟩
end
end Go.Proofs.Ybulkcxvo
