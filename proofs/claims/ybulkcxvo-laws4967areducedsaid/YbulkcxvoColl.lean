/-
  collect: its memory, and the closure that counts.
-/
import Derived.Test.YbulkcxvoFill
namespace Go.Proofs.Ybulkcxvo
open Go.RowKit

set_option maxRecDepth 100000 in
theorem count_any (w : World) (fb gb pg n I m rkb : Nat) (so : Option Addr) (sc : Nat) (rk : Nat → Int) (tx : Nat → Nat) (it : Nat → Int) (kd : Nat → Nat) (hb : Hb n I m rk tx it kd) (hn : n ≤ 512) (hI : I ≤ 16) (hm : m ≤ 512) (ap : Nat)
    (S : Nat → World → Prop) (hG : ∀ k w', S k w' → Gf w' gb pg n I m rkb so sc rk tx it kd) (hst : ∀ k w1 w2, S k w1 → Below (w.heap.size + 1) w1 w2 → S k w2)
    (hput : ∀ k e w', (runA (accL rk tx it kd m)).ed[k]? = some e → S k w' → w.heap.size + 1 ≤ w'.heap.size → Calls Yba.prog 24 #[.int .i64 (e.1 : Int), .int .i64 (e.2 : Int), .pointer (some ⟨w.heap.size, 0, none⟩)] w' fun r w'' => r = .returned (.tuple #[]) ∧ S (k + 1) w'' ∧ Ab (w.heap.size + 1) w' w'')
    (hf : ∀ o, (w.alloc o).cell? ⟨fb, 0, none⟩ = some (.func (.func 21) #[] #[.pointer (some ⟨gb, 0, none⟩)])) (h0 : S 0 (w.alloc (.cells #[.func (.func 25) #[] #[.pointer (some ⟨ap, 0, none⟩)]] 91))) :
    Calls Yba.prog 23 #[.func (.func 25) #[] #[.pointer (some ⟨ap, 0, none⟩)], .pointer (some ⟨fb, 0, none⟩)] w fun e w' => e = .returned (.tuple #[]) ∧ S (runA (accL rk tx it kd m)).ed.length w' ∧ w.heap.size + 1 ≤ w'.heap.size := by
  have hsz : (w.alloc (.cells #[.func (.func 25) #[] #[.pointer (some ⟨ap, 0, none⟩)]] 91)).heap.size = w.heap.size + 1 := size_up _ _
  have HF : Hid (Calls Yba.prog 21 #[.func (.func 24) #[] #[.pointer (some ⟨w.heap.size, 0, none⟩)], .pointer (some ⟨gb, 0, none⟩)] (w.alloc (.cells #[.func (.func 25) #[] #[.pointer (some ⟨ap, 0, none⟩)]] 91)) fun e w' => e = .returned (.tuple #[]) ∧ S (runA (accL rk tx it kd m)).ed.length w' ∧ w.heap.size + 1 ≤ w'.heap.size) := by
    have := fill_any (f := 24) (cv := .pointer (some ⟨w.heap.size, 0, none⟩)) (.inl rfl) (w.alloc (.cells #[.func (.func 25) #[] #[.pointer (some ⟨ap, 0, none⟩)]] 91)) gb pg n I m rkb so sc rk tx it kd hb hn hI hm S hG (by rw [hsz]; exact hst) (by rw [hsz]; exact hput) h0
    rw [hsz] at this
    exact this
  clear hb hn hI hm hG hst hput h0 hsz
  go_enter Yba.func23, Yba.ntmps23
  go_wp2_with fail
  refine HF.out.mono ?_
  rintro e w' ⟨rfl, h1, h2⟩
  go_wp2
  go_end0
  exact ⟨rfl, h1, h2⟩

/-- collect's blocks. -/
structure Cb (w W : World) (n : Nat) (fillv vals : Value) : Prop where
  bel : Below w.heap.size w W
  bx : W.heap[w.heap.size]? = some (.cells #[fillv] 96 (0, 0))
  res : W.heap[w.heap.size + 1]? = some (.cells #[.slice none 0 0, .slice none 0 0] 43 (0, 0))
  rbx : W.heap[w.heap.size + 3]? = some (.cells #[.slice (some ⟨w.heap.size + 2, 0, none⟩) (n + 1) (n + 1), vals] 43 (0, 0))
section
variable {w W W' : World} {n : Nat} {fillv vals : Value}
theorem Cb.sz (h : Cb w W n fillv vals) : w.heap.size + 4 ≤ W.heap.size := by have := lt_of_block h.rbx; omega
theorem Cb.keep (h : Cb w W n fillv vals) (h0 : W'.os = W.os) (h1 : W'.tape = W.tape) (h2 : W'.output = W.output) (hs : W.heap.size ≤ W'.heap.size) (hk : ∀ b, b < w.heap.size + 4 → b ≠ w.heap.size + 2 → W'.heap[b]? = W.heap[b]?) : Cb w W' n fillv vals :=
  ⟨h.bel.trans ⟨h0, h1, h2, hs, fun b hb => hk b (by omega) (by omega)⟩, (hk _ (by omega) (by omega)).trans h.bx, (hk _ (by omega) (by omega)).trans h.res, (hk _ (by omega) (by omega)).trans h.rbx⟩
theorem Cb.below (h : Cb w W n fillv vals) {B : Nat} (hb : Below B W W') (hB : w.heap.size + 4 ≤ B) : Cb w W' n fillv vals :=
  h.keep hb.os hb.tape hb.output hb.size fun b hl _ => hb.block b (by omega)
theorem Cb.c0 (h : Cb w W n fillv vals) : W.cell? ⟨w.heap.size + 3, 0, none⟩ = some (.slice (some ⟨w.heap.size + 2, 0, none⟩) (n + 1) (n + 1)) := by
  rw [cell_of_row _ _ _ _ _ _ h.rbx]; rfl
theorem Cb.c1 (h : Cb w W n fillv vals) : W.cell? ⟨w.heap.size + 3, 1, none⟩ = some vals := by
  rw [cell_of_row _ _ _ _ _ _ h.rbx]; rfl
theorem Cb.set (h : Cb w W n fillv vals) {b i : Nat} (hb : b = w.heap.size + 2 ∨ w.heap.size + 4 ≤ b) (v : Value) : Cb w (W.setCell ⟨b, i, none⟩ v) n fillv vals :=
  h.keep rfl rfl rfl (by simp) fun c hc hne => heap_setCell_other _ _ _ _ (by show c ≠ b; omega)
theorem Cb.draw (h : Cb w W n fillv vals) : Cb w W.drew n fillv vals := h.keep rfl rfl rfl (Nat.le_refl _) fun _ _ _ => rfl
end
theorem Gf.keep {w w' : World} {gb pg n I m rkb : Nat} {so : Option Addr} {sc : Nat} {rk : Nat → Int} {tx : Nat → Nat} {it : Nat → Int} {kd : Nat → Nat} (h : Gf w gb pg n I m rkb so sc rk tx it kd) (hb : Below w.heap.size w w') : Gf w' gb pg n I m rkb so sc rk tx it kd := by
  obtain ⟨h0, h1, h2, h3, h4, h5⟩ := h
  have e0 : w'.heap[gb]? = w.heap[gb]? := hb.block gb (World.block_lt_of_cell? w ⟨gb, 0, none⟩ h0)
  have e1 : w'.heap[pg]? = w.heap[pg]? := hb.block pg (World.block_lt_of_cell? w ⟨pg, 3, none⟩ h1)
  refine ⟨?_, ?_, ?_, ?_, h4.keep (hb.block _ h4.lt), h5.keep hb⟩
  · rw [← h0]; simp only [World.cell?, e0]
  · rw [← h1]; simp only [World.cell?, e1]
  · rw [← h2]; simp only [World.cell?, e1]
  · rw [← h3]; simp only [World.cell?, e1]

/-- An edge's ends off the list. -/
def frL (L : List (Nat × Nat)) (k : Nat) : Nat := (L.getD k (0, 0)).1
def toL (L : List (Nat × Nat)) (k : Nat) : Nat := (L.getD k (0, 0)).2
theorem frL_at {L : List (Nat × Nat)} {k : Nat} {e : Nat × Nat} (h : L[k]? = some e) : frL L k = e.1 ∧ toL L k = e.2 := by
  unfold frL toL
  rw [List.getD_eq_getElem?_getD, h]
  exact ⟨rfl, rfl⟩
/-- Counting: the world behind k puts. -/
structure S1 (w : World) (n : Nat) (fillv addv : Value) (fr : Nat → Nat) (k : Nat) (W : World) : Prop where
  cb : Cb w W n fillv (.slice none 0 0)
  add : W.heap[w.heap.size + 4]? = some (.cells #[addv] 91 (0, 0))
  row : IR W (w.heap.size + 2) (n + 1) (cnt n fr k)
/-- Filling: the world behind k puts. -/
structure S2 (w : World) (n M t vb : Nat) (fillv : Value) (fr to : Nat → Nat) (k : Nat) (W : World) : Prop where
  cb : Cb w W n fillv (.slice (some ⟨vb, 0, none⟩) t t)
  row : IR W (w.heap.size + 2) (n + 1) (fun j => if j < n then nextF n fr M k j else atF n fr M n)
  val : IR W vb t (valF n fr to M k)
theorem cnt_le (n : Nat) (fr : Nat → Nat) (k j : Nat) : cnt n fr k j ≤ k := by
  unfold cnt
  split
  · exact Nat.zero_le _
  · exact cF_le n fr _ k
section
variable {w : World} {n M t vb : Nat} {fillv addv : Value} {L : List (Nat × Nat)}
theorem S1.below {k B : Nat} {W W' : World} (h : S1 w n fillv addv (frL L) k W) (hb : Below B W W') (hB : w.heap.size + 5 ≤ B) : S1 w n fillv addv (frL L) k W' :=
  ⟨h.cb.below hb (by omega), (hb.block _ (by omega)).trans h.add, h.row.keep (hb.block _ (by omega))⟩
theorem S1.put {k : Nat} {e : Nat × Nat} {W : World} (h : S1 w n fillv (.func (.func 25) #[] #[.pointer (some ⟨w.heap.size + 3, 0, none⟩)]) (frL L) k W) (he : L[k]? = some e) (hlt : e.1 < n) (hn : n ≤ 512) (hk : k ≤ 300000) :
    Calls Yba.prog 24 #[.int .i64 (e.1 : Int), .int .i64 (e.2 : Int), .pointer (some ⟨w.heap.size + 4, 0, none⟩)] W fun r w'' => r = .returned (.tuple #[]) ∧ S1 w n fillv (.func (.func 25) #[] #[.pointer (some ⟨w.heap.size + 3, 0, none⟩)]) (frL L) (k + 1) w'' ∧ Ab (w.heap.size + 5) W w'' := by
  have hc := cnt_le n (frL L) k (e.1 + 1)
  refine (put_count2 (w.heap.size + 3) (w.heap.size + 2) (w.heap.size + 4) n e.1 e.2 (cnt n (frL L) k) W hlt (by omega) (by omega) ?_ h.cb.c0 h.row).mono ?_
  · rw [cell_of_row _ _ _ _ _ _ h.add]; rfl
  · rintro r w'' ⟨rfl, rfl⟩
    refine ⟨rfl, ⟨h.cb.set (.inl rfl) _, ?_, ?_⟩, by simp, fun b hb _ => heap_setCell_other _ _ _ _ (by show b ≠ w.heap.size + 2; omega)⟩
    · rw [heap_setCell_other _ _ _ _ (by show w.heap.size + 4 ≠ w.heap.size + 2; omega)]; exact h.add
    · have := h.row.set (e.1 + 1) (cnt n (frL L) k (e.1 + 1) + 1)
      have hs := cnt_step n (frL L) k
      rw [(frL_at he).1, Nat.mod_eq_of_lt hlt] at hs
      rw [hs] at this
      exact this
theorem S2.below {k B : Nat} {W W' : World} (h : S2 w n M t vb fillv (frL L) (toL L) k W) (hb : Below B W W') (hB : w.heap.size + 4 ≤ B) (hv : vb < B) : S2 w n M t vb fillv (frL L) (toL L) k W' :=
  ⟨h.cb.below hb hB, h.row.keep (hb.block _ (by omega)), h.val.keep (hb.block _ hv)⟩
theorem S2.put {k B : Nat} {e : Nat × Nat} {W : World} (h : S2 w n L.length (atF n (frL L) L.length n) vb fillv (frL L) (toL L) k W) (he : L[k]? = some e) (hlt : e.1 < n ∧ e.2 < n) (hn : n ≤ 512) (ht : atF n (frL L) L.length n ≤ 1000000) (hv : w.heap.size + 4 ≤ vb) (hvB : vb < B) :
    Calls Yba.prog 26 #[.int .i64 (e.1 : Int), .int .i64 (e.2 : Int), .pointer (some ⟨w.heap.size + 3, 0, none⟩)] W fun r w'' => r = .returned (.tuple #[]) ∧ S2 w n L.length (atF n (frL L) L.length n) vb fillv (frL L) (toL L) (k + 1) w'' ∧ Ab B W w'' := by
  have hkl : k < L.length := (List.getElem?_eq_some_iff.1 he).1
  have hfe : frL L k % n = e.1 := by rw [(frL_at he).1, Nat.mod_eq_of_lt hlt.1]
  have hte : toL L k % n = e.2 := by rw [(frL_at he).2, Nat.mod_eq_of_lt hlt.2]
  have hnl := next_lt n L.length (frL L) hkl (by omega)
  rw [hfe] at hnl
  refine (put_value (w.heap.size + 3) (w.heap.size + 2) vb n (atF n (frL L) L.length n) e.1 e.2 (fun j => if j < n then nextF n (frL L) L.length k j else atF n (frL L) L.length n) (valF n (frL L) (toL L) L.length k) W hlt.1 (by omega) ht ?_ (by omega) (by omega) h.cb.c0 h.row h.cb.c1 h.val).mono ?_
  · simp only [if_pos hlt.1]; exact hnl
  · rintro r w'' ⟨rfl, rfl⟩
    simp only [if_pos hlt.1]
    refine ⟨trivial, ⟨((h.cb.set (.inr hv) _).set (.inl rfl) _).draw, ?_, ?_⟩, by simp, fun b hb _ => ?_⟩
    · have h1 := (h.row.keep (w' := W.setCell ⟨vb, nextF n (frL L) L.length k e.1, none⟩ (.int .i64 (e.2 : Int))) (heap_setCell_other _ _ _ _ (by show w.heap.size + 2 ≠ vb; omega))).set e.1 (nextF n (frL L) L.length k e.1 + 1)
      have hs := next_step n L.length (frL L) k
      rw [hfe] at hs
      refine IR.congr (f := upd (fun j => if j < n then nextF n (frL L) L.length k j else atF n (frL L) L.length n) e.1 (nextF n (frL L) L.length k e.1 + 1)) h1 fun i _ => ?_
      by_cases e1 : i = e.1
      · rw [e1, upd_same, if_pos hlt.1, ← hs, upd_same]
      · rw [upd_ne _ _ e1]
        by_cases hi : i < n
        · rw [if_pos hi, if_pos hi, ← hs, upd_ne _ _ e1]
        · rw [if_neg hi, if_neg hi]
    · have h1 := (h.val.set (nextF n (frL L) L.length k e.1) e.2).keep (w' := (W.setCell ⟨vb, nextF n (frL L) L.length k e.1, none⟩ (.int .i64 (e.2 : Int))).setCell ⟨w.heap.size + 2, e.1, none⟩ (.int .i64 ((nextF n (frL L) L.length k e.1 : Int) + 1))) (heap_setCell_other _ _ _ _ (by show vb ≠ w.heap.size + 2; omega))
      have hs : valF n (frL L) (toL L) L.length (k + 1) = upd (valF n (frL L) (toL L) L.length k) (nextF n (frL L) L.length k (frL L k % n)) (toL L k % n) := rfl
      rw [hs, hfe, hte]
      exact h1
    · show ((W.setCell _ _).setCell _ _).heap[b]? = _
      rw [heap_setCell_other _ _ _ _ (by show b ≠ w.heap.size + 2; omega), heap_setCell_other _ _ _ _ (by show b ≠ vb; omega)]
end
end Go.Proofs.Ybulkcxvo
