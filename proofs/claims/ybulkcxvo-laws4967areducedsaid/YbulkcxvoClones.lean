/-
  slices.Clone of integers and of steps.
-/
import Derived.Test.YbulkcxvoEqs
namespace Go.Proofs.Ybulkcxvo
open Go.RowKit

set_option maxRecDepth 100000 in
theorem cloneI_nil (w : World) (f : Nat → Int) : Calls Yba.prog 8 #[.slice none 0 0] w fun e w' => ∃ ta tc, e = .returned (.slice ta 0 tc) ∧ Ints w' ta 0 f ∧ Below w.heap.size w w' := by
  have he : ∀ w : World, (binOp .eql 34 (.slice none 0 0) (.slice none 0 0)).run Yba.prog w = .ok (.bool true) w := fun _ => by kernel_rfl
  have HB : Hid (Ints w none 0 f ∧ Below w.heap.size w w) := ⟨fun h => absurd h (by omega), Below.refl _ _⟩
  go_enter Yba.func8, Yba.ntmps8
  go_wp2
  go_ret
  exact ⟨none, 0, rfl, HB.out⟩
set_option maxRecDepth 100000 in
theorem cloneI_zero (w : World) (a : Addr) (c : Nat) (f : Nat → Int) : Calls Yba.prog 8 #[.slice (some a) 0 c] w fun e w' => ∃ ta tc, e = .returned (.slice ta 0 tc) ∧ Ints w' ta 0 f ∧ Below w.heap.size w w' := by
  have he : ∀ w : World, (binOp .eql 34 (.slice (some a) 0 c) (.slice none 0 0)).run Yba.prog w = .ok (.bool false) w := fun _ => rfl
  have HB : Hid (∀ ta, Ints (w.alloc (.cells #[] 3)) ta 0 f ∧ Below w.heap.size w (w.alloc (.cells #[] 3))) := fun _ => ⟨fun h => absurd h (by omega), (Below.refl _ _).alloc (Nat.le_refl _) _⟩
  go_enter Yba.func8, Yba.ntmps8
  go_wp2
  go_ret
  exact ⟨_, _, rfl, HB.out _⟩
set_option maxRecDepth 100000 in
theorem cloneI_some (w : World) (b off n c : Nat) (f : Nat → Int) (hn : 0 < n) (hn2 : n ≤ 512) (hs : ∀ i, i < n → w.cell? ⟨b, off + i, none⟩ = some (.int .i64 (f i))) : Calls Yba.prog 8 #[.slice (some ⟨b, off, none⟩) n c] w fun e w' => ∃ ta tc, e = .returned (.slice ta n tc) ∧ Ints w' ta n f ∧ Below w.heap.size w w' := by
  have HS : Hid (∀ i, i < n → w.cell? ⟨b, off + i, none⟩ = some (.int .i64 (f i))) := hs
  clear hs
  have he : ∀ w : World, (binOp .eql 34 (.slice (some ⟨b, off, none⟩) n c) (.slice none 0 0)).run Yba.prog w = .ok (.bool false) w := fun _ => rfl
  obtain ⟨news, hnews⟩ : ∃ news, news = (List.range n).map fun i => Value.int .i64 (f i) := ⟨_, rfl⟩
  obtain ⟨i0, hi, hz0, hz1, hz2⟩ := info_parts info3
  have HO : Hid ((w.alloc (.cells #[] 3)).ownsRow w.heap.size 3 1 (.slice (some ⟨w.heap.size, 0, none⟩) 0 0) 0 [] ∧ news.length = n * 1 ∧ (∀ j u, news[j]? = some u → (w.alloc (.cells #[] 3)).cell? ((⟨b, off, none⟩ : Addr).add j) = some u) ∧ (∀ u ∈ news, u.oneCell' = true) ∧ w.heap.size ≤ (w.alloc (.cells #[] 3)).heap.size ∧ (w.alloc (.cells #[] 3)).heap.size = w.heap.size + 1) := by
    refine ⟨⟨rfl, .inr ⟨w.heap.size, 0, #[], rfl, Nat.le_refl _, heap_alloc_new w _, Nat.le_refl _, Nat.zero_le _, rfl, rfl⟩⟩, by rw [hnews]; simp, ?_, ?_, by simp, size_up _ _⟩
    · intro j u hj
      rw [hnews] at hj
      have hjn : j < n := by
        have := (List.getElem?_eq_some_iff.1 hj).1
        simpa using this
      simp [hjn] at hj
      have hc := HS.out j hjn
      rw [hj] at hc
      have hbl : b < w.heap.size := World.block_lt_of_cell? w ⟨b, off + j, none⟩ hc
      rw [Addr.add_mid, World.cell?_of_block (Below.heap_alloc w _ _ hbl), hc]
    · intro u hu
      rw [hnews] at hu
      rw [List.mem_map] at hu
      obtain ⟨j, _, rfl⟩ := hu
      rfl
  have HNW : Hid (news = (List.range n).map fun i => Value.int .i64 (f i)) := hnews
  clear hnews
  go_enter Yba.func8, Yba.ntmps8
  go_wp2_with (at_builtin; refine wpList_append_lies (w.alloc (.cells #[] 3)) rfl (.tmp 5) (.tmp 6) 34 rfl w.heap.size 3 i0 _ 1 8 Yba.underlying34 hi hz0 hz1 hz2 rfl (by omega) (.slice (some ⟨w.heap.size, 0, none⟩) 0 0) 0 [] rfl HO.out.1 ⟨b, off, none⟩ n c news rfl HO.out.2.1 HO.out.2.2.1 HO.out.2.2.2.1 hn (by unfold maxLen; omega) (by omega) HO.out.2.2.2.2.1 (w.heap.size + 1) HO.out.2.2.2.2.2 ?_; intro g cap W h1 h2 h3 h4; have H1 : Hid (_ ∧ _ ∧ _) := ⟨h1, h2, h3⟩; clear h1 h2 h3 h4)
  go_ret
  obtain ⟨h1, h2, h3⟩ := H1.out
  rw [Nat.zero_add, List.nil_append, HNW.out] at h1
  refine ⟨some ⟨g, 0, none⟩, cap, by simp, fun _ => ⟨g, 0, rfl, (own_ge h1 g rfl).2, fun i hi => by rw [Nat.zero_add]; exact (own_cell h1 (by simp [hi])).1⟩, ⟨h2.os, h2.tape, h2.output, Nat.le_trans (by simp) h2.size, fun k hk => ?_⟩⟩
  rw [h2.block k (by simp; omega) (fun e => by simp [Value.ownBlock] at e; omega), Below.heap_alloc _ _ _ hk]
theorem cloneI_any (w : World) (ao : Option Addr) (n c : Nat) (f : Nat → Int) (h0 : ao = none → n = 0 ∧ c = 0) (hn : n ≤ 512) (hs : Ints w ao n f) : Calls Yba.prog 8 #[.slice ao n c] w fun e w' => ∃ ta tc, e = .returned (.slice ta n tc) ∧ Ints w' ta n f ∧ Below w.heap.size w w' := by
  cases ao with
  | none =>
    obtain ⟨rfl, rfl⟩ := h0 rfl
    exact cloneI_nil w f
  | some a =>
    by_cases h : n = 0
    · subst h
      exact cloneI_zero w a c f
    · obtain ⟨b, off, e, hb, hc⟩ := hs (by omega)
      cases e
      exact cloneI_some w b off n c f (by omega) hn hc

set_option maxRecDepth 100000 in
theorem cloneS_nil (w : World) (tx : Nat → Nat) (it : Nat → Int) (kd : Nat → Nat) : Calls Yba.prog 7 #[.slice none 0 0] w fun e w' => ∃ ta tc, e = .returned (.slice ta 0 tc) ∧ Steps w' ta 0 tx it kd ∧ Below w.heap.size w w' := by
  have he : ∀ w : World, (binOp .eql 28 (.slice none 0 0) (.slice none 0 0)).run Yba.prog w = .ok (.bool true) w := fun _ => by kernel_rfl
  have HB : Hid (Steps w none 0 tx it kd ∧ Below w.heap.size w w) := ⟨fun h => absurd h (by omega), Below.refl _ _⟩
  go_enter Yba.func7, Yba.ntmps7
  go_wp2
  go_ret
  exact ⟨none, 0, rfl, HB.out⟩
set_option maxRecDepth 100000 in
theorem cloneS_zero (w : World) (a : Addr) (c : Nat) (tx : Nat → Nat) (it : Nat → Int) (kd : Nat → Nat) : Calls Yba.prog 7 #[.slice (some a) 0 c] w fun e w' => ∃ ta tc, e = .returned (.slice ta 0 tc) ∧ Steps w' ta 0 tx it kd ∧ Below w.heap.size w w' := by
  have he : ∀ w : World, (binOp .eql 28 (.slice (some a) 0 c) (.slice none 0 0)).run Yba.prog w = .ok (.bool false) w := fun _ => rfl
  have HB : Hid (∀ ta, Steps (w.alloc (.cells #[] 32)) ta 0 tx it kd ∧ Below w.heap.size w (w.alloc (.cells #[] 32))) := fun _ => ⟨fun h => absurd h (by omega), (Below.refl _ _).alloc (Nat.le_refl _) _⟩
  go_enter Yba.func7, Yba.ntmps7
  go_wp2
  go_ret
  exact ⟨_, _, rfl, HB.out _⟩
set_option maxRecDepth 100000 in
theorem cloneS_some (w : World) (b off n c : Nat) (tx : Nat → Nat) (it : Nat → Int) (kd : Nat → Nat) (hn : 0 < n) (hn2 : n ≤ 512) (hs : ∀ i, i < n → w.cell? ⟨b, off + i * 3, none⟩ = some (.int .i64 (tx i : Int)) ∧ w.cell? ⟨b, off + i * 3 + 1, none⟩ = some (.int .i64 (it i)) ∧ w.cell? ⟨b, off + i * 3 + 2, none⟩ = some (.int .u8 (kd i : Int))) : Calls Yba.prog 7 #[.slice (some ⟨b, off, none⟩) n c] w fun e w' => ∃ ta tc, e = .returned (.slice ta n tc) ∧ Steps w' ta n tx it kd ∧ Below w.heap.size w w' := by
  have HS : Hid (∀ i, i < n → w.cell? ⟨b, off + i * 3, none⟩ = some (.int .i64 (tx i : Int)) ∧ w.cell? ⟨b, off + i * 3 + 1, none⟩ = some (.int .i64 (it i)) ∧ w.cell? ⟨b, off + i * 3 + 2, none⟩ = some (.int .u8 (kd i : Int))) := hs
  clear hs
  have he : ∀ w : World, (binOp .eql 28 (.slice (some ⟨b, off, none⟩) n c) (.slice none 0 0)).run Yba.prog w = .ok (.bool false) w := fun _ => rfl
  obtain ⟨news, hnews⟩ : ∃ news, news = st3 tx it kd n := ⟨_, rfl⟩
  obtain ⟨i0, hi, hz0, hz1, hz2⟩ := info_parts info32
  have HO : Hid ((w.alloc (.cells #[] 32)).ownsRow w.heap.size 32 3 (.slice (some ⟨w.heap.size, 0, none⟩) 0 0) 0 [] ∧ news.length = n * 3 ∧ (∀ j u, news[j]? = some u → (w.alloc (.cells #[] 32)).cell? ((⟨b, off, none⟩ : Addr).add j) = some u) ∧ (∀ u ∈ news, u.oneCell' = true) ∧ w.heap.size ≤ (w.alloc (.cells #[] 32)).heap.size ∧ (w.alloc (.cells #[] 32)).heap.size = w.heap.size + 1) := by
    refine ⟨⟨rfl, .inr ⟨w.heap.size, 0, #[], rfl, Nat.le_refl _, heap_alloc_new w _, Nat.le_refl _, Nat.zero_le _, rfl, rfl⟩⟩, by rw [hnews]; exact st3_len tx it kd n, ?_, ?_, by simp, size_up _ _⟩
    · intro j u hj
      rw [hnews] at hj
      have hjn : j < n * 3 := by
        have := (List.getElem?_eq_some_iff.1 hj).1
        rwa [st3_len] at this
      have hc : w.cell? ⟨b, off + j, none⟩ = some u := by
        obtain ⟨c1, c2, c3⟩ := HS.out (j / 3) (by omega)
        obtain ⟨s1, s2, s3⟩ := st3_at tx it kd n (j / 3) (by omega)
        have h3 : j % 3 = 0 ∨ j % 3 = 1 ∨ j % 3 = 2 := by omega
        rcases h3 with h3 | h3 | h3
        · rw [show j / 3 * 3 = j by omega] at s1
          rw [hj] at s1
          rw [s1, show off + j = off + j / 3 * 3 by omega]; exact c1
        · rw [show j / 3 * 3 + 1 = j by omega] at s2
          rw [hj] at s2
          rw [s2, show off + j = off + j / 3 * 3 + 1 by omega]; exact c2
        · rw [show j / 3 * 3 + 2 = j by omega] at s3
          rw [hj] at s3
          rw [s3, show off + j = off + j / 3 * 3 + 2 by omega]; exact c3
      have hbl : b < w.heap.size := World.block_lt_of_cell? w ⟨b, off + j, none⟩ hc
      rw [Addr.add_mid, World.cell?_of_block (Below.heap_alloc w _ _ hbl), hc]
    · intro u hu
      rw [hnews] at hu
      unfold st3 at hu
      rw [List.mem_flatMap] at hu
      obtain ⟨j, _, hu⟩ := hu
      simp at hu
      rcases hu with rfl | rfl | rfl <;> rfl
  have HNW : Hid (news = st3 tx it kd n) := hnews
  clear hnews
  go_enter Yba.func7, Yba.ntmps7
  go_wp2_with (at_builtin; refine wpList_append_lies (w.alloc (.cells #[] 32)) rfl (.tmp 5) (.tmp 6) 28 rfl w.heap.size 32 i0 _ 3 24 Yba.underlying28 hi hz0 hz1 hz2 rfl (by omega) (.slice (some ⟨w.heap.size, 0, none⟩) 0 0) 0 [] rfl HO.out.1 ⟨b, off, none⟩ n c news rfl HO.out.2.1 HO.out.2.2.1 HO.out.2.2.2.1 hn (by unfold maxLen; omega) (by omega) HO.out.2.2.2.2.1 (w.heap.size + 1) HO.out.2.2.2.2.2 ?_; intro g cap W h1 h2 h3 h4; have H1 : Hid (_ ∧ _ ∧ _) := ⟨h1, h2, h3⟩; clear h1 h2 h3 h4)
  go_ret
  obtain ⟨h1, h2, h3⟩ := H1.out
  rw [Nat.zero_add, List.nil_append, HNW.out] at h1
  refine ⟨some ⟨g, 0, none⟩, cap, by simp, steps_of h1, ⟨h2.os, h2.tape, h2.output, Nat.le_trans (by simp) h2.size, fun k hk => ?_⟩⟩
  rw [h2.block k (by simp; omega) (fun e => by simp [Value.ownBlock] at e; omega), Below.heap_alloc _ _ _ hk]
theorem cloneS_any (w : World) (ao : Option Addr) (n c : Nat) (tx : Nat → Nat) (it : Nat → Int) (kd : Nat → Nat) (h0 : ao = none → n = 0 ∧ c = 0) (hn : n ≤ 512) (hs : Steps w ao n tx it kd) : Calls Yba.prog 7 #[.slice ao n c] w fun e w' => ∃ ta tc, e = .returned (.slice ta n tc) ∧ Steps w' ta n tx it kd ∧ Below w.heap.size w w' := by
  cases ao with
  | none =>
    obtain ⟨rfl, rfl⟩ := h0 rfl
    exact cloneS_nil w tx it kd
  | some a =>
    by_cases h : n = 0
    · subst h
      exact cloneS_zero w a c tx it kd
    · obtain ⟨b, off, e, hb, hc⟩ := hs (by omega)
      cases e
      exact cloneS_some w b off n c tx it kd (by omega) hn hc
end Go.Proofs.Ybulkcxvo
