/-
  writeSums over a row of sums.
-/
import Derived.Test.YbulkcxvaDoorExact
namespace Go.Proofs.YbulkcxvaDoor
open Go.RowKit
attribute [local go_sem ↓] Go.wp_at_zero Go.wp_at_succ

/-- One sum, plainly. -/
structure Sx where
  key : ByteArray
  held : Bool
  ver : Nat
  dg : Nat → Int
  rem : Bool
/-- Its cells. -/
def Sx.cells (x : Sx) : List Value := (sumCells x.key x.held x.ver x.dg x.rem).toList
/-- Its documented bytes. -/
def Sx.bytes (x : Sx) : List UInt8 := sumBytes x.key.data.toList x.held x.ver (digBytes x.dg) x.rem
/-- What the row's types bear. -/
def Sx.ok (x : Sx) : Prop := x.ver < 18446744073709551616 ∧ ∀ i, 0 ≤ x.dg i ∧ x.dg i ≤ 255
theorem Sx.len (x : Sx) : x.cells.length = 36 := rfl
theorem Sx.size (x : Sx) : (Ybad.prog.info? 25).map (·.size) = some x.cells.length := size_sum x.key x.held x.ver x.dg x.rem
theorem Sx.size' (x : Sx) : (Ybad.prog.info? 25).map (·.size) = some x.cells.toArray.size := size_sum x.key x.held x.ver x.dg x.rem
theorem Sx.one (x : Sx) : x.cells.toArray.all (·.oneCell') = true := one_sum x.key x.held x.ver x.dg x.rem
theorem Sx.isSum (x : Sx) (h : x.ok) : IsSum x.cells.toArray x.key x.held x.ver (digBytes x.dg) x.rem := isSum_cells x.key x.held x.ver x.dg x.rem h.1 h.2
theorem Sx.blen (x : Sx) (h : x.ok) (hk : x.key.size < 18446744073709551616) : x.bytes.length ≤ x.key.size + 100 := sum_len (x.isSum h) hk

/-- The cells of a row of sums. -/
def flat (L : List Sx) : List Value := L.flatMap Sx.cells
def flatB (L : List Sx) : List UInt8 := L.flatMap Sx.bytes
def keys (L : List Sx) : Nat := (L.map fun x => x.key.size).sum
theorem flat_len (L : List Sx) : (flat L).length = L.length * 36 := by
  induction L with
  | nil => rfl
  | cons x r ih =>
    have e : flat (x :: r) = x.cells ++ flat r := rfl
    rw [e, List.length_append, ih, x.len, List.length_cons]; omega
theorem flat_at (L : List Sx) : ∀ (k : Nat) (hk : k < L.length) (j : Nat) (u : Value), L[k].cells[j]? = some u → (flat L)[k * 36 + j]? = some u := by
  induction L with
  | nil => intro k hk; simp at hk
  | cons x r ih =>
    intro k hk j u hu
    have e : flat (x :: r) = x.cells ++ flat r := rfl
    rw [e]
    cases k with
    | zero =>
      have hu : x.cells[j]? = some u := hu
      have hl := (List.getElem?_eq_some_iff.1 hu).1
      rw [Nat.zero_mul, Nat.zero_add, List.getElem?_append_left hl]
      exact hu
    | succ k =>
      rw [List.getElem?_append_right (by rw [x.len]; omega), x.len]
      have e2 : (k + 1) * 36 + j - 36 = k * 36 + j := by omega
      rw [e2]
      exact ih k (by simpa using hk) j u (by simpa using hu)
theorem range_flat {w : World} {b o : Nat} {L : List Sx} (h : w.rangeAt b o (flat L)) (k : Nat) (hk : k < L.length) : w.rangeAt b (o + k * 36) L[k].cells := by
  intro j v hv
  have := h (k * 36 + j) v (flat_at L k hk j v hv)
  rw [← Nat.add_assoc] at this
  exact this
theorem range_kept {w w' : World} {b o : Nat} {cs : List Value} (h : w.rangeAt b o cs) (hb : w'.heap[b]? = w.heap[b]?) : w'.rangeAt b o cs := by
  intro j v hv
  have := h j v hv
  rw [← this]
  simp only [World.cell?, hb]
theorem flatB_take (L : List Sx) (k : Nat) (hk : k < L.length) : flatB (L.take (k + 1)) = flatB (L.take k) ++ L[k].bytes := by
  unfold flatB
  rw [List.take_succ_eq_append_getElem hk, List.flatMap_append]; simp
theorem flatB_le (L : List Sx) (k : Nat) : (flatB (L.take k)).length ≤ (flatB L).length := by
  have e : flatB L = flatB (L.take k) ++ flatB (L.drop k) := by
    unfold flatB
    rw [← List.flatMap_append, List.take_append_drop]
  rw [e, List.length_append]; omega

theorem Buf.keep {w w' : World} {B pb gb pw : Nat} {out pend : List UInt8} {v : Value} (h : Buf w B pb gb pw out pend v) (hk : Below w.heap.size w w') : Buf w' B pb gb pw out pend v := by
  obtain ⟨h1, ⟨cur, h2, h2'⟩, h3, h4, h5, h6, h7, h8⟩ := h
  exact ⟨(hk.block _ (lt_of_block h1)).trans h1, ⟨cur, (hk.block _ (lt_of_block h2)).trans h2, h2'⟩, (hk.block _ (lt_of_block h3)).trans h3, own_kept h4 (fun b hb => hk.block b hb), h5, h6, h7, Nat.le_trans h8 hk.size⟩
theorem Fr.of_below {w w' : World} (pb gb pw : Nat) (v : Value) (hk : Below w.heap.size w w') : Fr pb gb pw v v w w' :=
  ⟨hk.os, hk.tape, hk.output, hk.size, fun b hb _ _ _ _ => hk.block b hb, .inl rfl⟩

set_option maxRecDepth 100000 in
set_option maxHeartbeats 4000000 in
theorem sums_any (L : List Sx) (sb pw c : Nat) (w : World) (hw : w.heap[pw]? = some (.cells #[.slice none 0 0] 29 (0, 0))) (hr : w.rangeAt sb 0 (flat L)) (hsb : sb < w.heap.size) (hne : sb ≠ pw) (hn : L.length ≤ 1024)
    (hok : ∀ x ∈ L, x.ok) (hks : ∀ x ∈ L, x.key.size ≤ 1048576) (hall : (flatB L).length ≤ 2000000) :
    Calls Ybad.prog 10 #[.iface 26 (.pointer (some ⟨pw, 0, none⟩)), .slice (some ⟨sb, 0, none⟩) L.length c] w fun e w' => e = .returned .nilIface ∧
      ∃ (B : Nat) (v : Value), w.heap.size ≤ B ∧ w'.heap[pw]? = some (.cells #[v] 29 (0, 0)) ∧ w'.ownsRow B 5 1 v (flatB L).length (bc (flatB L)) ∧ Fr w.heap.size w.heap.size pw (.slice none 0 0) (.slice none 0 0) w w' := by
  have HH : Hid (_ ∧ _ ∧ _ ∧ _ ∧ _ ∧ _ ∧ _) := ⟨hw, hr, hsb, hne, hok, hks, hall⟩
  have hni : (L.length : Int) ≤ 1024 := by omega
  obtain ⟨n, hnn⟩ : ∃ n, n = L.length := ⟨_, rfl⟩
  rw [← hnn] at hn hni ⊢
  clear hw hr hsb hne hok hks hall
  go_enter Ybad.func10, Ybad.ntmps10
  go_wp2_with fail
  refine (new_any pw w HH.out.1).mono ?_
  rintro e w2 ⟨rfl, hb2, hbl2, hsz2⟩
  obtain ⟨pb, hpb⟩ : ∃ pb, pb = w.heap.size + 1 := ⟨_, rfl⟩
  obtain ⟨gb, hgb⟩ : ∃ gb, gb = w.heap.size := ⟨_, rfl⟩
  obtain ⟨B, hB⟩ : ∃ B, B = w2.heap.size := ⟨_, rfl⟩
  rw [← hpb, ← hgb, ← hB] at hb2
  rw [← hpb]
  have HN : Hid (pb = w.heap.size + 1 ∧ gb = w.heap.size ∧ B = w2.heap.size ∧ w2.heap.size = w.heap.size + 2 ∧ Buf w2 B pb gb pw [] [] (.slice none 0 0) ∧ Below w.heap.size w w2 ∧ n = L.length) := ⟨hpb, hgb, hB, hsz2, hb2, hbl2, hnn⟩
  clear hpb hgb hB hsz2 hb2 hbl2 hnn
  go_wp2_with fail
  go_loopw [12] (fun i wr => ∃ k : Nat, k ≤ n ∧ i = .int .i64 (k : Int) ∧ ∃ out pend v, Buf wr B pb gb pw out pend v ∧ out ++ pend = flatB (L.take k) ∧ Fr pb gb pw (.slice none 0 0) v w2 wr) (fun i _ => n - (intOf i).toNat)
  case atStart => exact ⟨0, Nat.zero_le _, rfl, [], [], _, HN.out.2.2.2.2.1, rfl, Fr.refl _ _ _ _ _⟩
  case round =>
    obtain ⟨k, hk, rfl, out, pend, v, hbuf, hs, hf⟩ := hrel
    have HR : Hid (_ ∧ _ ∧ _) := ⟨hbuf, hs, hf⟩
    clear hbuf hs hf
    by_cases hlt : k < n
    · have hki : (k : Int) < (n : Int) := by omega
      have hkL : k < L.length := by have := HN.out.2.2.2.2.2.2; omega
      have hin : L[k] ∈ L := List.getElem_mem hkL
      have hrw : wr.rangeAt sb (k * 36) L[k].cells := by
        have N := HN.out
        have h1 := range_flat HH.out.2.1 k hkL
        rw [Nat.zero_add] at h1
        have h2 : w2.heap[sb]? = w.heap[sb]? := N.2.2.2.2.2.1.block _ HH.out.2.2.1
        have h3 : wr.heap[sb]? = w2.heap[sb]? := HR.out.2.2.block sb (by have := HH.out.2.2.1; omega) (by have := HH.out.2.2.1; omega) (by have := HH.out.2.2.1; omega) HH.out.2.2.2.1 (by simp [Value.ownBlock])
        exact range_kept h1 (h3.trans h2)
      have HX : Hid (_ ∧ _ ∧ _) := ⟨hrw, HH.out.2.2.2.2.1 _ hin, HH.out.2.2.2.2.2.1 _ hin⟩
      have HT : Hid (_ = _) := flatB_take L k hkL
      clear hrw hin
      generalize L[k] = x at *
      go_wp2_with (first | (refine wpList_load_mid (by rfl) 25 (.tmp 14) (by rfl) sb (k * 36) (by rfl) x.cells _ HX.out.1 Ybad.underlying25 rfl x.size ?_) | (refine wpList_store_abs (w0 := wr) (by rfl) 25 (.tmp 7) (.tmp 15) (by rfl) wr.heap.size x.cells.toArray (by rfl) (by rfl) 25 _ (heap_alloc_new wr _) x.size' (by exact x.len.symm) x.one ((Below.refl _ _).alloc (Nat.le_refl _) _) ?_; intro W g1 g2 g3; have HG : Hid (_ ∧ _) := ⟨g1, g2⟩; clear g1 g2 g3) | (refine wpList_load_row (by rfl) 25 (.tmp 7) (by rfl) wr.heap.size (by rfl) 25 x.cells.toArray (0, 0) _ HG.out.1 Ybad.underlying25 (by rfl) x.size' ?_))
      have hbW : Buf W B pb gb pw out pend v := HR.out.1.keep HG.out.2
      have hol : out.length ≤ 2000000 := by
        have a1 := len_of HR.out.2.1
        have a2 := flatB_le L k
        have a3 := HH.out.2.2.2.2.2.2
        omega
      have hkey := HX.out.2.2
      refine (ws_any x.cells.toArray x.key x.held x.ver (digBytes x.dg) x.rem hbW (x.isSum HX.out.2.1) (by omega)).mono ?_
      rintro e w3 ⟨rfl, out3, pend3, v3, hb3, hs3, hf3⟩
      have hs4 : out3 ++ pend3 = flatB (L.take (k + 1)) := by
        rw [hs3, HR.out.2.1, HT.out]; rfl
      have hf4 : Fr pb gb pw (.slice none 0 0) v3 w2 w3 := (HR.out.2.2.trans (Fr.of_below pb gb pw v HG.out.2)).trans hf3
      have H3 : Hid (_ ∧ _ ∧ _) := ⟨hb3, hs4, hf4⟩
      clear hb3 hs3 hf3 hs4 hf4 hbW hol hkey
      go_wp2
      go_round
      case rel => exact ⟨k + 1, by omega, by go_num, out3, pend3, v3, H3.out.1, H3.out.2.1, H3.out.2.2⟩
      case measure => simp [intOf]; omega
    · obtain rfl : k = n := by omega
      have hfin : out ++ pend = flatB L := by
        rw [HR.out.2.1, HN.out.2.2.2.2.2.2, List.take_length]
      have hlim : out.length + pend.length ≤ 140737488355328 := by
        have a1 := congrArg List.length hfin
        have a2 := HH.out.2.2.2.2.2.2
        simp at a1
        omega
      go_wp2_with fail
      refine (flush_any HR.out.1 hlim).mono ?_
      rintro e w4 ⟨rfl, v4, hb4, hf4⟩
      rw [hfin] at hb4
      have H4 : Hid (_ ∧ _) := ⟨hb4, HR.out.2.2.trans hf4⟩
      clear hb4 hf4
      go_wp2
      go_ret
      have N := HN.out
      refine ⟨rfl, B, v4, by omega, H4.out.1.hw, H4.out.1.own, ?_⟩
      have f := H4.out.2
      have bl := N.2.2.2.2.2.1
      exact ⟨f.os.trans bl.os, f.tape.trans bl.tape, f.output.trans bl.output, Nat.le_trans bl.size f.size, fun b hb h1 h2 h3 h4 => (f.block b (by omega) (by omega) (by omega) h3 (by simp [Value.ownBlock])).trans (bl.block b hb), .inl rfl⟩
end Go.Proofs.YbulkcxvaDoor
