/-
  zzs4966bmodel: the documented wire form of one sum, appended.
-/
import Derived.Test.YbulkcxvaDoorAppendStr
namespace Go.Proofs.YbulkcxvaDoor
open Go.RowKit

/-- The documented bytes of one sum. -/
def sumBytes (key : List UInt8) (held : Bool) (ver : Nat) (dg : List UInt8) (rem : Bool) : List UInt8 :=
  Lib.uvarint key.length ++ key ++ (if held = true then (if rem = true then 2 :: Lib.uvarint ver else 1 :: (Lib.uvarint ver ++ dg)) else [0])

/-- The 36 cells of a chord.Sum. -/
structure IsSum (S : Array Value) (key : ByteArray) (held : Bool) (ver : Nat) (dg : List UInt8) (rem : Bool) : Prop where
  s0 : S[0]? = some (.string key)
  s1 : S[1]? = some (.bool held)
  s2 : S[2]? = some (.int .u64 (ver : Int))
  s35 : S[35]? = some (.bool rem)
  sd : ∀ j u, (bc dg)[j]? = some u → S[3 + j]? = some u
  dl : dg.length = 32
  vl : ver < 18446744073709551616

theorem own_len {w : World} {B g n cap N : Nat} {xs : List Value} (h : w.ownsRow B 5 1 (.slice (some ⟨g, 0, none⟩) n cap) N xs) : n = N := by
  rcases h.2 with ⟨e, _⟩ | ⟨g', cap', cur, e, _⟩
  · simp at e
  · simp at e; exact e.2.1
theorem own_lt {w : World} {B N : Nat} {v : Value} {xs : List Value} (h : w.ownsRow B 5 1 v N xs) : ∀ g, v.ownBlock = some g → g < w.heap.size := by
  intro g e
  rcases own_form h with ⟨rfl, _⟩ | ⟨g', cap, rfl, _, hg⟩
  · simp [Value.ownBlock] at e
  · simp [Value.ownBlock] at e; omega

section
variable {w : World} {sb : Nat} {S : Array Value} {key : ByteArray} {held rem : Bool} {ver : Nat} {dg : List UInt8}
theorem IsSum.c0 (h : IsSum S key held ver dg rem) (hs : w.heap[sb]? = some (.cells S 25 (0, 0))) : w.cell? ⟨sb, 0, none⟩ = some (.string key) := by rw [cell_of_row _ _ _ _ _ _ hs]; exact h.s0
theorem IsSum.c1 (h : IsSum S key held ver dg rem) (hs : w.heap[sb]? = some (.cells S 25 (0, 0))) : w.cell? ⟨sb, 1, none⟩ = some (.bool held) := by rw [cell_of_row _ _ _ _ _ _ hs]; exact h.s1
theorem IsSum.c2 (h : IsSum S key held ver dg rem) (hs : w.heap[sb]? = some (.cells S 25 (0, 0))) : w.cell? ⟨sb, 2, none⟩ = some (.int .u64 (ver : Int)) := by rw [cell_of_row _ _ _ _ _ _ hs]; exact h.s2
theorem IsSum.c35 (h : IsSum S key held ver dg rem) (hs : w.heap[sb]? = some (.cells S 25 (0, 0))) : w.cell? ⟨sb, 35, none⟩ = some (.bool rem) := by rw [cell_of_row _ _ _ _ _ _ hs]; exact h.s35
theorem IsSum.cd (h : IsSum S key held ver dg rem) (hs : w.heap[sb]? = some (.cells S 25 (0, 0))) : ∀ j u, (bc dg)[j]? = some u → w.cell? ⟨sb, 3 + j, none⟩ = some u := fun j u hj => by rw [cell_of_row _ _ _ _ _ _ hs]; exact h.sd j u hj
end

/-- The box of the sum stays while an owned row grows. -/
theorem box_kept {w w1 : World} {sb : Nat} {S : Array Value} {v v1 : Value} (hs : w.heap[sb]? = some (.cells S 25 (0, 0))) (hv : v.ownBlock ≠ some sb) (h : Gr v v1 w w1) : w1.heap[sb]? = some (.cells S 25 (0, 0)) ∧ v1.ownBlock ≠ some sb := by
  refine ⟨(h.block sb (lt_of_block hs) hv).trans hs, ?_⟩
  rcases h.sink with e | ⟨g, e, hg⟩
  · rw [e]; exact hv
  · rw [e]; intro e'; simp at e'; have := lt_of_block hs; omega

theorem up_alloc {B : Nat} {w : World} (h : B ≤ w.heap.size) (o : Obj) : B ≤ (w.alloc o).heap.size := by simp; omega
theorem size_up (w : World) (o : Obj) : (w.alloc o).heap.size = w.heap.size + 1 := by simp

set_option maxRecDepth 100000 in
set_option maxHeartbeats 2000000 in
theorem model_none (B : Nat) (dv : Value) (xs : List UInt8) (S : Array Value) (key : ByteArray) (ver : Nat) (dg : List UInt8) (rem : Bool) (w : World) (hS : IsSum S key false ver dg rem) (hown : w.ownsRow B 5 1 dv xs.length (bc xs)) (hB : B ≤ w.heap.size)
    (hlim : xs.length + key.size + 100 ≤ 140737488355328) :
    Calls Ybad.prog 9 #[dv, .agg S] w fun e w' => ∃ g n cap, e = .returned (.slice (some ⟨g, 0, none⟩) n cap) ∧
      w'.ownsRow B 5 1 (.slice (some ⟨g, 0, none⟩) n cap) (xs ++ sumBytes key.data.toList false ver dg rem).length (bc (xs ++ sumBytes key.data.toList false ver dg rem)) ∧ Gr dv (.slice (some ⟨g, 0, none⟩) n cap) w w' := by
  obtain ⟨i0, hi, hz0, hz1, hz2⟩ := info_parts info5
  have hbx : (w.alloc (.cells S 25)).heap[w.heap.size]? = some (.cells S 25 (0, 0)) := heap_alloc_new w _
  have hv0 : dv.ownBlock ≠ some w.heap.size := fun e => by have := own_lt hown _ e; omega
  have k0 := hS.c0 hbx
  have hka : key.size < 18446744073709551616 := by omega
  have hl1 := Lib.uvarint_length64 hka
  have hl2 := Lib.uvarint_length64 hS.vl
  have H : Hid (_ ∧ _ ∧ _ ∧ _) := ⟨hS, hbx, hv0, hown⟩
  clear hS hbx hv0 hown
  go_enter Ybad.func9, Ybad.ntmps9
  go_wp2_with fail
  refine (uv_any B key.size dv xs _ hka (H.out.2.2.2.alloc _) (by simp; omega) (by omega)).mono ?_
  rintro e w1 ⟨g1, n1, cap1, rfl, ho1, hgr1⟩
  obtain rfl := own_len ho1
  have hb1 := box_kept H.out.2.1 H.out.2.2.1 hgr1
  have k1 := H.out.1.c0 hb1.1
  have hs1 : B ≤ w1.heap.size := by have := hgr1.size; simp at this; omega
  have hG1 := (Gr.alloc dv w (.cells S 25)).trans hgr1
  obtain ⟨ys1, hys1⟩ : ∃ ys, ys = xs ++ Lib.uvarint key.size := ⟨_, rfl⟩
  rw [← hys1] at ho1 hgr1 hG1 hb1 ⊢
  have hl3 : ys1.length ≤ xs.length + 10 := by rw [hys1]; simp; omega
  have HY1 : Hid (ys1 = xs ++ Lib.uvarint key.size) := hys1
  clear hys1 hgr1 k0
  have hl4 : ys1.length + key.size = (ys1 ++ key.data.toList).length := by simp
  obtain ⟨ys2, hys2⟩ : ∃ ys, ys = ys1 ++ key.data.toList := ⟨_, rfl⟩
  rw [← hys2] at hl4
  have HY2 : Hid (ys2 = ys1 ++ key.data.toList) := hys2
  clear hys2
  have hlimk : ys1.length + key.size ≤ 140737488355328 := by omega
  have hlm1 : ys2.length + 1 ≤ maxLen := by unfold maxLen; omega
  have hlm2 : (ys2.length + 1) * 1 ≤ 140737488355328 := by omega
  have hlm3 : ys2.length + 60 ≤ 140737488355328 := by omega
  go_wp2_with (first | (at_builtin; refine wpList_append_str_lies (by rfl) (.tmp 11) (.tmp 13) (by rfl) B g1 ys1.length cap1 (bc ys1) (by rfl) ho1 key (by rfl) hlimk hs1 ?_; intro g2 cap2 W2 ho2 hgr2; have hb2 := box_kept hb1.1 hb1.2 hgr2; have k2 := H.out.1.c1 hb2.1; have k3 := H.out.1.c2 hb2.1; have k4 := H.out.1.c35 hb2.1; have hs2 : B ≤ W2.heap.size := Nat.le_trans hs1 hgr2.size; have hG2 := hG1.trans hgr2; rw [← bc_append, ← HY2.out, hl4] at ho2; rw [hl4] at hG2 hb2 ⊢; have HK : Hid (_ ∧ _ ∧ _) := ⟨ho2, hG2, hb2⟩; clear hgr2 ho2 hG2 hb2 ho1 hG1 hb1) | (at_builtin; refine wpList_append_lies _ (by rfl) (.tmp 18) (.tmp 19) _ (by rfl) B 5 i0 _ 1 1 Ybad.underlying27 hi hz0 hz1 hz2 (by rfl) (by omega) (.slice (some ⟨g2, 0, none⟩) ys2.length cap2) ys2.length (bc ys2) (by rfl) (HK.out.1.alloc (.cells #[.int .u8 0] 5)) ⟨W2.heap.size, 0, none⟩ 1 1 (bc [(0 : UInt8)]) (by rfl) rfl (news_one W2 0 (0 : UInt8) rfl) (bc_one _) (by omega) hlm1 hlm2 (up_alloc hs2 _) (W2.heap.size + 1) (size_up _ _) ?_; intro g3 cap3 w3 hown3 hgrow3 hat3 hlt3; have hm3 := one_more hown3 hgrow3 hat3; clear hown3 hgrow3 hat3 hlt3; have hb3 := box_kept HK.out.2.2.1 HK.out.2.2.2 hm3.2; have q2 := H.out.1.c2 hb3.1; have hs3 : B ≤ w3.heap.size := Nat.le_trans hs2 hm3.2.size; have HM : Hid (_ ∧ _ ∧ _) := ⟨hm3, hb3, hs3⟩; clear hm3 hb3))
  go_ret
  refine ⟨g3, _, cap3, rfl, ?_, HK.out.2.1.trans HM.out.1.2⟩
  have e : xs ++ sumBytes key.data.toList false ver dg rem = ys2 ++ [0] := by simp [sumBytes, HY2.out, HY1.out]
  rw [e]
  exact HM.out.1.1

set_option maxRecDepth 100000 in
set_option maxHeartbeats 2000000 in
theorem model_gone (B : Nat) (dv : Value) (xs : List UInt8) (S : Array Value) (key : ByteArray) (ver : Nat) (dg : List UInt8) (w : World) (hS : IsSum S key true ver dg true) (hown : w.ownsRow B 5 1 dv xs.length (bc xs)) (hB : B ≤ w.heap.size)
    (hlim : xs.length + key.size + 100 ≤ 140737488355328) :
    Calls Ybad.prog 9 #[dv, .agg S] w fun e w' => ∃ g n cap, e = .returned (.slice (some ⟨g, 0, none⟩) n cap) ∧
      w'.ownsRow B 5 1 (.slice (some ⟨g, 0, none⟩) n cap) (xs ++ sumBytes key.data.toList true ver dg true).length (bc (xs ++ sumBytes key.data.toList true ver dg true)) ∧ Gr dv (.slice (some ⟨g, 0, none⟩) n cap) w w' := by
  obtain ⟨i0, hi, hz0, hz1, hz2⟩ := info_parts info5
  have hbx : (w.alloc (.cells S 25)).heap[w.heap.size]? = some (.cells S 25 (0, 0)) := heap_alloc_new w _
  have hv0 : dv.ownBlock ≠ some w.heap.size := fun e => by have := own_lt hown _ e; omega
  have k0 := hS.c0 hbx
  have hka : key.size < 18446744073709551616 := by omega
  have hl1 := Lib.uvarint_length64 hka
  have hl2 := Lib.uvarint_length64 hS.vl
  have H : Hid (_ ∧ _ ∧ _ ∧ _) := ⟨hS, hbx, hv0, hown⟩
  clear hS hbx hv0 hown
  go_enter Ybad.func9, Ybad.ntmps9
  go_wp2_with fail
  refine (uv_any B key.size dv xs _ hka (H.out.2.2.2.alloc _) (by simp; omega) (by omega)).mono ?_
  rintro e w1 ⟨g1, n1, cap1, rfl, ho1, hgr1⟩
  obtain rfl := own_len ho1
  have hb1 := box_kept H.out.2.1 H.out.2.2.1 hgr1
  have k1 := H.out.1.c0 hb1.1
  have hs1 : B ≤ w1.heap.size := by have := hgr1.size; simp at this; omega
  have hG1 := (Gr.alloc dv w (.cells S 25)).trans hgr1
  obtain ⟨ys1, hys1⟩ : ∃ ys, ys = xs ++ Lib.uvarint key.size := ⟨_, rfl⟩
  rw [← hys1] at ho1 hgr1 hG1 hb1 ⊢
  have hl3 : ys1.length ≤ xs.length + 10 := by rw [hys1]; simp; omega
  have HY1 : Hid (ys1 = xs ++ Lib.uvarint key.size) := hys1
  clear hys1 hgr1 k0
  have hl4 : ys1.length + key.size = (ys1 ++ key.data.toList).length := by simp
  obtain ⟨ys2, hys2⟩ : ∃ ys, ys = ys1 ++ key.data.toList := ⟨_, rfl⟩
  rw [← hys2] at hl4
  have HY2 : Hid (ys2 = ys1 ++ key.data.toList) := hys2
  clear hys2
  have hlimk : ys1.length + key.size ≤ 140737488355328 := by omega
  have hlm1 : ys2.length + 1 ≤ maxLen := by unfold maxLen; omega
  have hlm2 : (ys2.length + 1) * 1 ≤ 140737488355328 := by omega
  have hlm3 : ys2.length + 60 ≤ 140737488355328 := by omega
  go_wp2_with (first | (at_builtin; refine wpList_append_str_lies (by rfl) (.tmp 11) (.tmp 13) (by rfl) B g1 ys1.length cap1 (bc ys1) (by rfl) ho1 key (by rfl) hlimk hs1 ?_; intro g2 cap2 W2 ho2 hgr2; have hb2 := box_kept hb1.1 hb1.2 hgr2; have k2 := H.out.1.c1 hb2.1; have k3 := H.out.1.c2 hb2.1; have k4 := H.out.1.c35 hb2.1; have hs2 : B ≤ W2.heap.size := Nat.le_trans hs1 hgr2.size; have hG2 := hG1.trans hgr2; rw [← bc_append, ← HY2.out, hl4] at ho2; rw [hl4] at hG2 hb2 ⊢; have HK : Hid (_ ∧ _ ∧ _) := ⟨ho2, hG2, hb2⟩; clear hgr2 ho2 hG2 hb2 ho1 hG1 hb1) | (at_builtin; refine wpList_append_lies _ (by rfl) (.tmp 23) (.tmp 24) _ (by rfl) B 5 i0 _ 1 1 Ybad.underlying27 hi hz0 hz1 hz2 (by rfl) (by omega) (.slice (some ⟨g2, 0, none⟩) ys2.length cap2) ys2.length (bc ys2) (by rfl) (HK.out.1.alloc (.cells #[.int .u8 2] 5)) ⟨W2.heap.size, 0, none⟩ 1 1 (bc [(2 : UInt8)]) (by rfl) rfl (news_one W2 2 (2 : UInt8) rfl) (bc_one _) (by omega) hlm1 hlm2 (up_alloc hs2 _) (W2.heap.size + 1) (size_up _ _) ?_; intro g3 cap3 w3 hown3 hgrow3 hat3 hlt3; have hm3 := one_more hown3 hgrow3 hat3; clear hown3 hgrow3 hat3 hlt3; have hb3 := box_kept HK.out.2.2.1 HK.out.2.2.2 hm3.2; have q2 := H.out.1.c2 hb3.1; have hs3 : B ≤ w3.heap.size := Nat.le_trans hs2 hm3.2.size; have HM : Hid (_ ∧ _ ∧ _) := ⟨hm3, hb3, hs3⟩; clear hm3 hb3))
  refine (uv_any B ver _ (ys2 ++ [2]) _ H.out.1.vl HM.out.1.1 hs3 (by simp; omega)).mono ?_
  rintro e w4 ⟨g4, n4, cap4, rfl, ho4, hgr4⟩
  have HM4 : Hid (_ ∧ _) := ⟨ho4, hgr4⟩
  clear ho4 hgr4
  go_wp2
  go_ret
  refine ⟨g4, n4, cap4, rfl, ?_, (HK.out.2.1.trans HM.out.1.2).trans HM4.out.2⟩
  have e : xs ++ sumBytes key.data.toList true ver dg true = ys2 ++ [2] ++ Lib.uvarint ver := by simp [sumBytes, HY2.out, HY1.out]
  rw [e]
  exact HM4.out.1

set_option maxRecDepth 100000 in
set_option maxHeartbeats 2000000 in
theorem model_value (B : Nat) (dv : Value) (xs : List UInt8) (S : Array Value) (key : ByteArray) (ver : Nat) (dg : List UInt8) (w : World) (hS : IsSum S key true ver dg false) (hown : w.ownsRow B 5 1 dv xs.length (bc xs)) (hB : B ≤ w.heap.size)
    (hlim : xs.length + key.size + 100 ≤ 140737488355328) :
    Calls Ybad.prog 9 #[dv, .agg S] w fun e w' => ∃ g n cap, e = .returned (.slice (some ⟨g, 0, none⟩) n cap) ∧
      w'.ownsRow B 5 1 (.slice (some ⟨g, 0, none⟩) n cap) (xs ++ sumBytes key.data.toList true ver dg false).length (bc (xs ++ sumBytes key.data.toList true ver dg false)) ∧ Gr dv (.slice (some ⟨g, 0, none⟩) n cap) w w' := by
  obtain ⟨i0, hi, hz0, hz1, hz2⟩ := info_parts info5
  have hbx : (w.alloc (.cells S 25)).heap[w.heap.size]? = some (.cells S 25 (0, 0)) := heap_alloc_new w _
  have hv0 : dv.ownBlock ≠ some w.heap.size := fun e => by have := own_lt hown _ e; omega
  have k0 := hS.c0 hbx
  have hka : key.size < 18446744073709551616 := by omega
  have hl1 := Lib.uvarint_length64 hka
  have hl2 := Lib.uvarint_length64 hS.vl
  have H : Hid (_ ∧ _ ∧ _ ∧ _) := ⟨hS, hbx, hv0, hown⟩
  clear hS hbx hv0 hown
  go_enter Ybad.func9, Ybad.ntmps9
  go_wp2_with fail
  refine (uv_any B key.size dv xs _ hka (H.out.2.2.2.alloc _) (by simp; omega) (by omega)).mono ?_
  rintro e w1 ⟨g1, n1, cap1, rfl, ho1, hgr1⟩
  obtain rfl := own_len ho1
  have hb1 := box_kept H.out.2.1 H.out.2.2.1 hgr1
  have k1 := H.out.1.c0 hb1.1
  have hs1 : B ≤ w1.heap.size := by have := hgr1.size; simp at this; omega
  have hG1 := (Gr.alloc dv w (.cells S 25)).trans hgr1
  obtain ⟨ys1, hys1⟩ : ∃ ys, ys = xs ++ Lib.uvarint key.size := ⟨_, rfl⟩
  rw [← hys1] at ho1 hgr1 hG1 hb1 ⊢
  have hl3 : ys1.length ≤ xs.length + 10 := by rw [hys1]; simp; omega
  have HY1 : Hid (ys1 = xs ++ Lib.uvarint key.size) := hys1
  clear hys1 hgr1 k0
  have hl4 : ys1.length + key.size = (ys1 ++ key.data.toList).length := by simp
  obtain ⟨ys2, hys2⟩ : ∃ ys, ys = ys1 ++ key.data.toList := ⟨_, rfl⟩
  rw [← hys2] at hl4
  have HY2 : Hid (ys2 = ys1 ++ key.data.toList) := hys2
  clear hys2
  have hlimk : ys1.length + key.size ≤ 140737488355328 := by omega
  have hlm1 : ys2.length + 1 ≤ maxLen := by unfold maxLen; omega
  have hlm2 : (ys2.length + 1) * 1 ≤ 140737488355328 := by omega
  have hlm3 : ys2.length + 60 ≤ 140737488355328 := by omega
  go_wp2_with (first | (at_builtin; refine wpList_append_str_lies (by rfl) (.tmp 11) (.tmp 13) (by rfl) B g1 ys1.length cap1 (bc ys1) (by rfl) ho1 key (by rfl) hlimk hs1 ?_; intro g2 cap2 W2 ho2 hgr2; have hb2 := box_kept hb1.1 hb1.2 hgr2; have k2 := H.out.1.c1 hb2.1; have k3 := H.out.1.c2 hb2.1; have k4 := H.out.1.c35 hb2.1; have hs2 : B ≤ W2.heap.size := Nat.le_trans hs1 hgr2.size; have hG2 := hG1.trans hgr2; rw [← bc_append, ← HY2.out, hl4] at ho2; rw [hl4] at hG2 hb2 ⊢; have HK : Hid (_ ∧ _ ∧ _) := ⟨ho2, hG2, hb2⟩; clear hgr2 ho2 hG2 hb2 ho1 hG1 hb1) | (at_builtin; refine wpList_append_lies _ (by rfl) (.tmp 30) (.tmp 31) _ (by rfl) B 5 i0 _ 1 1 Ybad.underlying27 hi hz0 hz1 hz2 (by rfl) (by omega) (.slice (some ⟨g2, 0, none⟩) ys2.length cap2) ys2.length (bc ys2) (by rfl) (HK.out.1.alloc (.cells #[.int .u8 1] 5)) ⟨W2.heap.size, 0, none⟩ 1 1 (bc [(1 : UInt8)]) (by rfl) rfl (news_one W2 1 (1 : UInt8) rfl) (bc_one _) (by omega) hlm1 hlm2 (up_alloc hs2 _) (W2.heap.size + 1) (size_up _ _) ?_; intro g3 cap3 w3 hown3 hgrow3 hat3 hlt3; have hm3 := one_more hown3 hgrow3 hat3; clear hown3 hgrow3 hat3 hlt3; have hb3 := box_kept HK.out.2.2.1 HK.out.2.2.2 hm3.2; have q2 := H.out.1.c2 hb3.1; have hs3 : B ≤ w3.heap.size := Nat.le_trans hs2 hm3.2.size; have HM : Hid (_ ∧ _ ∧ _) := ⟨hm3, hb3, hs3⟩; clear hm3 hb3))
  refine (uv_any B ver _ (ys2 ++ [1]) _ H.out.1.vl HM.out.1.1 hs3 (by simp; omega)).mono ?_
  rintro e w4 ⟨g4, n4, cap4, rfl, ho4, hgr4⟩
  obtain rfl := own_len ho4
  have hb4 := box_kept HM.out.2.1.1 HM.out.2.1.2 hgr4
  have hs4 : B ≤ w4.heap.size := Nat.le_trans hs3 hgr4.size
  have hG4 := (HK.out.2.1.trans HM.out.1.2).trans hgr4
  obtain ⟨ys4, hys4⟩ : ∃ ys, ys = ys2 ++ [1] ++ Lib.uvarint ver := ⟨_, rfl⟩
  rw [← hys4] at ho4 hgr4 hG4 hb4 ⊢
  have hl5 : ys4.length ≤ ys2.length + 11 := by rw [hys4]; simp; omega
  have HD := fun j u hj => (by rw [WideShapes.add_plain]; exact H.out.1.cd hb4.1 j u hj : w4.cell? ((⟨w.heap.size, 3, none⟩ : Addr).add j) = some u)
  have hdl : (bc dg).length = 32 * 1 := by rw [bc_length, H.out.1.dl]
  have HQ4 : Hid (_ ∧ _ ∧ _ ∧ _ ∧ _) := ⟨ho4, HD, hdl, hG4, hys4⟩
  have hlm4 : ys4.length + 32 ≤ maxLen := by unfold maxLen; omega
  have hlm5 : (ys4.length + 32) * 1 ≤ 140737488355328 := by omega
  clear ho4 HD hdl hG4 hys4 hgr4 hb4
  go_wp2_with (at_builtin; refine wpList_append_lies _ (by rfl) (.tmp 37) (.tmp 39) _ (by rfl) B 5 i0 _ 1 1 Ybad.underlying27 hi hz0 hz1 hz2 (by rfl) (by omega) (.slice (some ⟨g4, 0, none⟩) ys4.length cap4) ys4.length (bc ys4) (by rfl) HQ4.out.1 ⟨w.heap.size, 3, none⟩ 32 32 (bc dg) (by rfl) HQ4.out.2.2.1 HQ4.out.2.1 (bc_one _) (by omega) hlm4 hlm5 hs4 w4.heap.size rfl ?_; intro g5 cap5 w5 hown5 hgrow5 hat5 hlt5; have HM5 : Hid (_ ∧ _) := ⟨hown5, Gr.of_grown (n := ys4.length + 32) (cap := cap5) hgrow5 hat5⟩; clear hown5 hgrow5 hat5 hlt5)
  go_ret
  obtain ⟨_, _, _, hG4, hys4⟩ := HQ4.out
  refine ⟨g5, _, cap5, rfl, ?_, hG4.trans HM5.out.2⟩
  have e : xs ++ sumBytes key.data.toList true ver dg false = ys4 ++ dg := by simp [sumBytes, hys4, HY2.out, HY1.out]
  rw [e, bc_append, List.length_append, H.out.1.dl]
  exact HM5.out.1

theorem model_any (B : Nat) (dv : Value) (xs : List UInt8) (S : Array Value) (key : ByteArray) (held : Bool) (ver : Nat) (dg : List UInt8) (rem : Bool) (w : World) (hS : IsSum S key held ver dg rem) (hown : w.ownsRow B 5 1 dv xs.length (bc xs)) (hB : B ≤ w.heap.size)
    (hlim : xs.length + key.size + 100 ≤ 140737488355328) :
    Calls Ybad.prog 9 #[dv, .agg S] w fun e w' => ∃ g n cap, e = .returned (.slice (some ⟨g, 0, none⟩) n cap) ∧
      w'.ownsRow B 5 1 (.slice (some ⟨g, 0, none⟩) n cap) (xs ++ sumBytes key.data.toList held ver dg rem).length (bc (xs ++ sumBytes key.data.toList held ver dg rem)) ∧ Gr dv (.slice (some ⟨g, 0, none⟩) n cap) w w' := by
  cases held
  · exact model_none B dv xs S key ver dg rem w hS hown hB hlim
  · cases rem
    · exact model_value B dv xs S key ver dg w hS hown hB hlim
    · exact model_gone B dv xs S key ver dg w hS hown hB hlim
end Go.Proofs.YbulkcxvaDoor
