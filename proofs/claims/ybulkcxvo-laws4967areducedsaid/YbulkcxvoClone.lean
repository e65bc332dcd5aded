/-
  slices.Clone of strings.
-/
import Derived.Test.YbulkcxvoNg
namespace Go.Proofs.Ybulkcxvo
open Go.RowKit

/-- The names lie in a block from B on. -/
def StrsN (w : World) (B : Nat) (ta : Option Addr) (n : Nat) (nm : Nat → ByteArray) : Prop := 0 < n → ∃ b off, ta = some ⟨b, off, none⟩ ∧ B ≤ b ∧ b < w.heap.size ∧ ∀ i, i < n → w.cell? ⟨b, off + i, none⟩ = some (.string (nm i))
theorem info9t : (Yba.prog.info? 9).map (fun i => (i.zero, i.size, i.bytes)) = some (some (.string ⟨#[]⟩), 1, 16) := by kernel_rfl
set_option maxRecDepth 100000 in
theorem clone_nil (w : World) (nm : Nat → ByteArray) : Calls Yba.prog 16 #[.slice none 0 0] w fun e w' => ∃ ta tc, e = .returned (.slice ta 0 tc) ∧ StrsN w' w.heap.size ta 0 nm ∧ Below w.heap.size w w' := by
  have he : ∀ w : World, (binOp .eql 22 (.slice none 0 0) (.slice none 0 0)).run Yba.prog w = .ok (.bool true) w := fun _ => by kernel_rfl
  have HB : Hid (StrsN w w.heap.size none 0 nm ∧ Below w.heap.size w w) := ⟨fun h => absurd h (by omega), Below.refl _ _⟩
  go_enter Yba.func16, Yba.ntmps16
  go_wp2
  go_ret
  exact ⟨none, 0, rfl, HB.out⟩
set_option maxRecDepth 100000 in
theorem clone_zero (w : World) (a : Addr) (c : Nat) (nm : Nat → ByteArray) : Calls Yba.prog 16 #[.slice (some a) 0 c] w fun e w' => ∃ ta tc, e = .returned (.slice ta 0 tc) ∧ StrsN w' w.heap.size ta 0 nm ∧ Below w.heap.size w w' := by
  have he : ∀ w : World, (binOp .eql 22 (.slice (some a) 0 c) (.slice none 0 0)).run Yba.prog w = .ok (.bool false) w := fun _ => rfl
  go_enter Yba.func16, Yba.ntmps16
  have HB : Hid (∀ ta, StrsN (w.alloc (.cells #[] 9)) w.heap.size ta 0 nm ∧ Below w.heap.size w (w.alloc (.cells #[] 9))) := fun _ => ⟨fun h => absurd h (by omega), (Below.refl _ _).alloc (Nat.le_refl _) _⟩
  go_wp2
  go_ret
  exact ⟨_, _, rfl, HB.out _⟩
set_option maxRecDepth 100000 in
theorem clone_some (w : World) (b off n c : Nat) (nm : Nat → ByteArray) (hn : 0 < n) (hn2 : n ≤ 512) (hs : ∀ i, i < n → w.cell? ⟨b, off + i, none⟩ = some (.string (nm i))) : Calls Yba.prog 16 #[.slice (some ⟨b, off, none⟩) n c] w fun e w' => ∃ ta tc, e = .returned (.slice ta n tc) ∧ StrsN w' w.heap.size ta n nm ∧ Below w.heap.size w w' := by
  have HS : Hid (∀ i, i < n → w.cell? ⟨b, off + i, none⟩ = some (.string (nm i))) := hs
  clear hs
  have he : ∀ w : World, (binOp .eql 22 (.slice (some ⟨b, off, none⟩) n c) (.slice none 0 0)).run Yba.prog w = .ok (.bool false) w := fun _ => rfl
  obtain ⟨news, hnews⟩ : ∃ news, news = (List.range n).map fun i => Value.string (nm i) := ⟨_, rfl⟩
  obtain ⟨i0, hi, hz0, hz1, hz2⟩ := info_parts info9t
  have HO : Hid ((w.alloc (.cells #[] 9)).ownsRow w.heap.size 9 1 (.slice (some ⟨w.heap.size, 0, none⟩) 0 0) 0 [] ∧ news.length = n * 1 ∧ (∀ j u, news[j]? = some u → (w.alloc (.cells #[] 9)).cell? ((⟨b, off, none⟩ : Addr).add j) = some u) ∧ (∀ u ∈ news, u.oneCell' = true) ∧ w.heap.size ≤ (w.alloc (.cells #[] 9)).heap.size ∧ (w.alloc (.cells #[] 9)).heap.size = w.heap.size + 1) := by
    refine ⟨⟨rfl, .inr ⟨w.heap.size, 0, #[], rfl, Nat.le_refl _, heap_alloc_new w _, Nat.le_refl _, Nat.zero_le _, rfl, rfl⟩⟩, by rw [hnews]; simp, ?_, ?_, by simp, size_up _ _⟩
    · intro j u hj
      have hjn : j < n := by
        have := (List.getElem?_eq_some_iff.1 hj).1
        rw [hnews] at this
        simpa using this
      rw [hnews] at hj
      simp [hjn] at hj
      have hc := HS.out j hjn
      have hbl : b < w.heap.size := World.block_lt_of_cell? w ⟨b, off + j, none⟩ hc
      rw [Addr.add_mid, World.cell?_of_block (Below.heap_alloc w _ _ hbl), hc, hj]
    · intro u hu
      rw [hnews, List.mem_map] at hu
      obtain ⟨j, _, rfl⟩ := hu
      rfl
  have HNW : Hid (news = (List.range n).map fun i => Value.string (nm i)) := hnews
  clear hnews
  go_enter Yba.func16, Yba.ntmps16
  go_wp2_with (at_builtin; refine wpList_append_lies (w.alloc (.cells #[] 9)) rfl (.tmp 5) (.tmp 6) 22 rfl w.heap.size 9 i0 _ 1 16 Yba.underlying22 hi hz0 hz1 hz2 rfl (by omega) (.slice (some ⟨w.heap.size, 0, none⟩) 0 0) 0 [] rfl HO.out.1 ⟨b, off, none⟩ n c news rfl HO.out.2.1 HO.out.2.2.1 HO.out.2.2.2.1 hn (by unfold maxLen; omega) (by omega) HO.out.2.2.2.2.1 (w.heap.size + 1) HO.out.2.2.2.2.2 ?_; intro g cap W h1 h2 h3 h4; have H1 : Hid (_ ∧ _ ∧ _) := ⟨h1, h2, h3⟩; clear h1 h2 h3 h4)
  go_ret
  obtain ⟨h1, h2, h3⟩ := H1.out
  rw [Nat.zero_add, List.nil_append] at h1
  refine ⟨some ⟨g, 0, none⟩, cap, by simp, fun _ => ⟨g, 0, rfl, (own_ge h1 g rfl).1, (own_ge h1 g rfl).2, fun i hi => ?_⟩, ⟨h2.os, h2.tape, h2.output, Nat.le_trans (by simp) h2.size, fun k hk => ?_⟩⟩
  · rw [Nat.zero_add]
    refine (own_cell h1 ?_).1
    rw [HNW.out]
    simp [hi]
  · rw [h2.block k (by simp; omega) (fun e => by simp [Value.ownBlock] at e; omega), Below.heap_alloc _ _ _ hk]
theorem clone_any (w : World) (ao : Option Addr) (n c : Nat) (nm : Nat → ByteArray) (h0 : ao = none → n = 0 ∧ c = 0) (hn : n ≤ 512) (hs : Strs w ao n nm) : Calls Yba.prog 16 #[.slice ao n c] w fun e w' => ∃ ta tc, e = .returned (.slice ta n tc) ∧ StrsN w' w.heap.size ta n nm ∧ Below w.heap.size w w' := by
  cases ao with
  | none =>
    obtain ⟨rfl, rfl⟩ := h0 rfl
    exact clone_nil w nm
  | some a =>
    by_cases h : n = 0
    · subst h
      exact clone_zero w a c nm
    · obtain ⟨b, off, e, hb, hc⟩ := hs (by omega)
      cases e
      exact clone_some w b off n c nm (by omega) hn hc
end Go.Proofs.Ybulkcxvo
