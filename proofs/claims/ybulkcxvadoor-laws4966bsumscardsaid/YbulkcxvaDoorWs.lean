/-
  writeSum: its memory, step by step.
-/
import Derived.Test.YbulkcxvaDoorNew
namespace Go.Proofs.YbulkcxvaDoor
open Go.RowKit
attribute [local go_sem ↓] Go.wp_at_zero Go.wp_at_succ

theorem setCells_io (b : Nat) : ∀ (vs : List Value) (o : Nat) (w : World), (w.setCells b o vs).os = w.os ∧ (w.setCells b o vs).tape = w.tape ∧ (w.setCells b o vs).output = w.output ∧ (w.setCells b o vs).heap.size = w.heap.size ∧
    (∀ x, x ≠ b → (w.setCells b o vs).heap[x]? = w.heap[x]?)
  | [], _, _ => ⟨rfl, rfl, rfl, rfl, fun _ _ => rfl⟩
  | v :: r, o, w => by
    obtain ⟨h1, h2, h3, h4, h5⟩ := setCells_io b r (o + 1) (w.setCell ⟨b, o, none⟩ v)
    exact ⟨h1, h2, h3, by rw [World.setCells, h4]; simp, fun x hx => by rw [World.setCells, h5 x hx, heap_setCell_other _ _ _ _ (by exact hx)]⟩
theorem setCells_row (b : Nat) (t : TypeId) : ∀ (vs : List Value) (o : Nat) (w : World) (cs : Array Value), w.heap[b]? = some (.cells cs t (0, 0)) → ∃ cs', (w.setCells b o vs).heap[b]? = some (.cells cs' t (0, 0)) ∧ cs'.size = cs.size
  | [], _, _, cs, h => ⟨cs, h, rfl⟩
  | v :: r, o, w, cs, h => by
    obtain ⟨cs', h1, h2⟩ := setCells_row b t r (o + 1) (w.setCell ⟨b, o, none⟩ v) _ (heap_setCell_same w b o cs t v h)
    exact ⟨cs', h1, by rw [h2]; simp⟩

/-- writeSum under way: the box of the sum lies in block sb, the array n in block nb, both new. -/
structure Ws (w W : World) (B pb gb pw sb nb : Nat) (S : Array Value) (v v1 : Value) (out1 pend1 : List UInt8) : Prop where
  buf : Buf W B pb gb pw out1 pend1 v1
  fr : Fr pb gb pw v v1 w W
  box : W.heap[sb]? = some (.cells S 25 (0, 0))
  arr : ∃ cs t, W.heap[nb]? = some (.cells cs t (0, 0)) ∧ cs.size = 10
  sbo : v1.ownBlock ≠ some sb
  nbo : v1.ownBlock ≠ some nb
  sbw : w.heap.size ≤ sb
  nbw : w.heap.size ≤ nb
  ne : sb ≠ nb
  Bsz : B ≤ w.heap.size

section
variable {w W W' : World} {B pb gb pw sb nb : Nat} {S : Array Value} {v v1 v2 : Value} {out1 pend1 out2 pend2 : List UInt8}

theorem Ws.lt (h : Ws w W B pb gb pw sb nb S v v1 out1 pend1) : sb < W.heap.size ∧ nb < W.heap.size := by
  obtain ⟨cs, t, h1, _⟩ := h.arr
  exact ⟨lt_of_block h.box, lt_of_block h1⟩
theorem Ws.apart (h : Ws w W B pb gb pw sb nb S v v1 out1 pend1) {x : Nat} (hx : w.heap.size ≤ x) : x ≠ gb ∧ x ≠ pb ∧ x ≠ pw := by
  have h1 := h.buf.pbB
  have h2 := h.buf.gbB
  have h3 := h.buf.pwB
  have h4 := h.Bsz
  exact ⟨by omega, by omega, by omega⟩

/-- Behind a method of the writer. -/
theorem Ws.next (h : Ws w W B pb gb pw sb nb S v v1 out1 pend1) (hb : Buf W' B pb gb pw out2 pend2 v2) (hf : Fr pb gb pw v1 v2 W W') : Ws w W' B pb gb pw sb nb S v v2 out2 pend2 := by
  have hl := h.lt
  have a1 := h.apart h.sbw
  have a2 := h.apart h.nbw
  obtain ⟨cs, t, h1, h2⟩ := h.arr
  refine ⟨hb, h.fr.trans hf, (hf.block sb hl.1 a1.1 a1.2.1 a1.2.2 h.sbo).trans h.box, ⟨cs, t, (hf.block nb hl.2 a2.1 a2.2.1 a2.2.2 h.nbo).trans h1, h2⟩, ?_, ?_, h.sbw, h.nbw, h.ne, h.Bsz⟩
  · rcases hf.sink with e | ⟨g, e, hg⟩
    · rw [e]; exact h.sbo
    · rw [e]; intro e'; simp at e'; omega
  · rcases hf.sink with e | ⟨g, e, hg⟩
    · rw [e]; exact h.nbo
    · rw [e]; intro e'; simp at e'; omega

theorem Ws.drewN (h : Ws w W B pb gb pw sb nb S v v1 out1 pend1) (q : Nat) : Ws w (W.drewN q) B pb gb pw sb nb S v v1 out1 pend1 :=
  ⟨h.buf.drewN q, h.fr.drewN q, h.box, h.arr, h.sbo, h.nbo, h.sbw, h.nbw, h.ne, h.Bsz⟩
theorem Ws.drew (h : Ws w W B pb gb pw sb nb S v v1 out1 pend1) : Ws w W.drew B pb gb pw sb nb S v v1 out1 pend1 := h.drewN 1

/-- Behind a writing into the array n. -/
theorem Ws.put (h : Ws w W B pb gb pw sb nb S v v1 out1 pend1) (vs : List Value) : Ws w (W.setCells nb 0 vs) B pb gb pw sb nb S v v1 out1 pend1 := by
  obtain ⟨i1, i2, i3, i4, i5⟩ := setCells_io nb vs 0 W
  have a2 := h.apart h.nbw
  obtain ⟨cs, t, h1, h2⟩ := h.arr
  obtain ⟨cs', r1, r2⟩ := setCells_row nb t vs 0 W cs h1
  obtain ⟨cur, g1, g2⟩ := h.buf.hg
  refine ⟨⟨(i5 pb (Ne.symm a2.2.1)).trans h.buf.hb, ⟨cur, (i5 gb (Ne.symm a2.1)).trans g1, g2⟩, (i5 pw (Ne.symm a2.2.2)).trans h.buf.hw, ?_, h.buf.pbB, h.buf.gbB, h.buf.pwB, by rw [i4]; exact h.buf.Bw⟩,
    ⟨i1.trans h.fr.os, i2.trans h.fr.tape, i3.trans h.fr.output, by rw [i4]; exact h.fr.size, fun b hb k1 k2 k3 k4 => (i5 b (by have := h.nbw; omega)).trans (h.fr.block b hb k1 k2 k3 k4), h.fr.sink⟩,
    (i5 sb h.ne).trans h.box, ⟨cs', t, r1, by rw [r2]; exact h2⟩, h.sbo, h.nbo, h.sbw, h.nbw, h.ne, h.Bsz⟩
  obtain ⟨o1, o2⟩ := h.buf.own
  refine ⟨o1, ?_⟩
  rcases o2 with o2 | ⟨g, cap, cu, e, hB, hh, r⟩
  · exact .inl o2
  · have hgn : g ≠ nb := by
      intro e2
      have := h.nbo
      rw [e] at this
      simp [Value.ownBlock, e2] at this
    exact .inr ⟨g, cap, cu, e, hB, (i5 g hgn).trans hh, r⟩

theorem Ws.room (h : Ws w W B pb gb pw sb nb S v v1 out1 pend1) (n : Nat) (hn : n ≤ 10) : ∀ j, j < n → (W.cell? ⟨nb, 0 + j, none⟩).isSome = true ∧ W.frozen? ⟨nb, 0 + j, none⟩ = false := by
  intro j hj
  obtain ⟨cs, t, h1, h2⟩ := h.arr
  rw [cell_of_row _ _ _ _ _ _ h1, frozen_of_row _ _ _ _ _ h1]
  exact ⟨by rw [Array.getElem?_eq_getElem (by omega)]; rfl, rfl⟩
/-- What was written into n is there. -/
theorem Ws.src (h : Ws w W B pb gb pw sb nb S v v1 out1 pend1) (l : List UInt8) (hn : l.length ≤ 10) : ∀ j u, (bc l)[j]? = some u → (W.setCells nb 0 (bc l)).cell? ⟨nb, 0 + j, none⟩ = some u := by
  intro j u hj
  have hl := bc_at hj
  have := World.cell?_setCells_in nb (bc l) 0 W (fun j hj => (h.room l.length hn j (by simpa [bc_length] using hj)).1) j (by rw [bc_length]; exact hl)
  rw [this]
  rw [List.getElem?_eq_getElem (by rw [bc_length]; exact hl)] at hj
  exact hj
end

theorem ws_start {w : World} {B pb gb pw : Nat} {out pend : List UInt8} {v : Value} (S : Array Value) (cs : Array Value) (hcs : cs.size = 10) (h : Buf w B pb gb pw out pend v) :
    Ws w ((w.alloc (.cells S 25)).alloc (.cells cs 47)) B pb gb pw w.heap.size (w.heap.size + 1) S v v out pend := by
  have hB := h.Bw
  have k : ∀ x, x < w.heap.size → ((w.alloc (.cells S 25)).alloc (.cells cs 47)).heap[x]? = w.heap[x]? := fun x hx => by
    rw [Below.heap_alloc _ _ _ (by simp; omega), Below.heap_alloc _ _ _ hx]
  have hpb := h.pbB
  have hgb := h.gbB
  have hpw := h.pwB
  obtain ⟨cur, g1, g2⟩ := h.hg
  have hv := own_lt h.own
  refine ⟨⟨(k pb (by omega)).trans h.hb, ⟨cur, (k gb (by omega)).trans g1, g2⟩, (k pw (by omega)).trans h.hw, (h.own.alloc _).alloc _, hpb, hgb, hpw, by simp; omega⟩,
    ⟨rfl, rfl, rfl, by simp; omega, fun b hb _ _ _ _ => k b hb, .inl rfl⟩, ?_, ⟨cs, 47, ?_, hcs⟩, fun e => by have := hv _ e; omega, fun e => by have := hv _ e; omega, Nat.le_refl _, by omega, by omega, hB⟩
  · rw [Below.heap_alloc _ _ _ (by simp)]
    exact heap_alloc_new w _
  · have := heap_alloc_new (w.alloc (.cells S 25)) (.cells cs 47)
    rw [size_up] at this
    exact this

/-- A number's varint written through the array n. -/
theorem uv_facts {x : Nat} (hx : x < 18446744073709551616) : (Lib.uvarint x).length ≤ 10 ∧ 0 < (Lib.uvarint x).length ∧ ((Lib.uvarint x).length : Int) ≤ 10 := by
  have := Lib.uvarint_length64 hx
  have := Lib.uvarint_pos x
  omega

theorem len_of {a b c : List UInt8} (h : a ++ b = c) : a.length ≤ c.length := by rw [← h]; simp

set_option maxRecDepth 100000 in
set_option maxHeartbeats 4000000 in
theorem ws_none {w : World} {B pb gb pw : Nat} {out pend : List UInt8} {v : Value} (S : Array Value) (key : ByteArray) (ver : Nat) (dg : List UInt8) (rem : Bool) (h : Buf w B pb gb pw out pend v) (hS : IsSum S key false ver dg rem) (hlim : out.length + key.size + 100000 ≤ 140737488355328) :
    Calls Ybad.prog 6 #[.pointer (some ⟨pb, 0, none⟩), .agg S] w fun e w' => e = .returned (.tuple #[]) ∧ ∃ out' pend' v', Buf w' B pb gb pw out' pend' v' ∧ out' ++ pend' = out ++ pend ++ sumBytes key.data.toList false ver dg rem ∧ Fr pb gb pw v v' w w' := by
  have hka : key.size < 18446744073709551616 := by omega
  have hU := uv_facts hka
  have hUi := hU.2.2
  have hV := uv_facts hS.vl
  have hVi := hV.2.2
  have hpe := h.le
  have hwr : IntKind.u64.wrap (key.size : Int) = (key.size : Int) := by rw [IntKind.wrap_u64]; omega
  have HS : Hid (IsSum S key false ver dg rem) := hS
  have hst := ws_start S #[.int .u8 0, .int .u8 0, .int .u8 0, .int .u8 0, .int .u8 0, .int .u8 0, .int .u8 0, .int .u8 0, .int .u8 0, .int .u8 0] rfl h
  have HB : Hid (_ ∧ _) := ⟨h, hst⟩
  clear hS h hst
  go_enter Ybad.func6, Ybad.ntmps6
  go_wp2_with fail
  obtain ⟨W0, hW0⟩ : ∃ W0, W0 = (w.alloc (.cells S 25)).alloc (.cells #[.int .u8 0, .int .u8 0, .int .u8 0, .int .u8 0, .int .u8 0, .int .u8 0, .int .u8 0, .int .u8 0, .int .u8 0, .int .u8 0] 47) := ⟨_, rfl⟩
  rw [← hW0]
  obtain ⟨sb, hsb⟩ : ∃ sb, sb = w.heap.size := ⟨_, rfl⟩
  obtain ⟨nb, hnb⟩ : ∃ nb, nb = w.heap.size + 1 := ⟨_, rfl⟩
  have HW0 : Hid (Ws w W0 B pb gb pw sb nb S v v out pend ∧ True ∧ out.length + key.size + 100000 ≤ 140737488355328) := ⟨by rw [hW0, hsb, hnb]; exact HB.out.2, trivial, hlim⟩
  rw [← hnb, ← hsb]
  have x0 := HS.out.c0 HW0.out.1.box
  clear hW0 hsb hnb HB
  go_region_held3 (fun w' => w'.cell? ⟨sb, 0, none⟩ = some (.string key)) (go_keep)
    ((first | (go_at_call 13; refine (put_uvarint nb 0 10 10 key.size hka _ hU.1 (by exact HW0.out.1.room _ hU.1)).mono ?_; rintro e wa ⟨rfl, hwa⟩; have hWa : Ws w wa B pb gb pw sb nb S v _ _ _ := (by rw [hwa]; exact HW0.out.1.drew.put _); have hsr : ∀ j u, (bc (Lib.uvarint key.size))[j]? = some u → wa.cell? ⟨nb, 0 + j, none⟩ = some u := (by rw [hwa]; exact HW0.out.1.drew.src _ hU.1); have y0 := HS.out.c0 hWa.box; have y2 := HS.out.c2 hWa.box; have HA : Hid (_ ∧ _) := ⟨hWa, hsr⟩; clear hwa hWa hsr) | (go_at_call 12; refine (write_any (c := 10) HA.out.1.buf rfl hU.2.1 (by have := hU.1; omega) hU.1 HA.out.2 (HA.out.1.apart HA.out.1.nbw).1 (HA.out.1.apart HA.out.1.nbw).2.1 (HA.out.1.apart HA.out.1.nbw).2.2 HA.out.1.nbo HA.out.1.lt.2 (by have := HW0.out.2.2; omega)).mono ?_; rintro e wb1 ⟨rfl, out1, pend1, v1, hb, hs, hf⟩; have hWb := HA.out.1.next hb hf; have z0 := HS.out.c0 hWb.box; have z2 := HS.out.c2 hWb.box; have HW1 : Hid (_ ∧ _ ∧ _) := ⟨hWb, hs, trivial⟩; clear hb hs hf hWb)))
  have hl1 : out1.length + key.size + 90000 ≤ 140737488355328 := by have a1 := len_of HW1.out.2.1; have a2 := hU.1; simp at a1; omega
  clear x0 y0 y2
  go_wp2_with fail
  refine (string_any key HW1.out.1.buf (by omega)).mono ?_
  rintro e w3 ⟨rfl, out3, pend3, v3, hb, hs, hf⟩
  have hW3 := HW1.out.1.next hb hf
  have hl3 : out3.length + 80000 ≤ 140737488355328 := by
    have a1 := len_of hs
    have a2 := congrArg List.length HW1.out.2.1
    have := hU.1
    simp at a1 a2
    omega
  have p1 := HS.out.c1 hW3.box
  have p2 := HS.out.c2 hW3.box
  have p3 := HS.out.c35 hW3.box
  have HW3 : Hid (_ ∧ _ ∧ _) := ⟨hW3, hs, hl3⟩
  clear hb hs hf hW3 z0 z2
  go_wp2_with fail
  refine (byte_any 0 0 rfl HW3.out.1.buf (by omega)).mono ?_
  rintro e w4 ⟨rfl, out4, pend4, v4, hb, hs, hf⟩
  have hW4 := HW3.out.1.next hb hf
  have hl4 : out4.length + 70000 ≤ 140737488355328 := by
    have a1 := len_of hs
    have a2 := HW3.out.1.buf.le
    simp at a1
    omega
  have x2 := HS.out.c2 hW4.box
  have HW4 : Hid (_ ∧ _ ∧ _) := ⟨hW4, hs, hl4⟩
  clear hb hs hf hW4 p1 p2 p3
  go_wp2
  go_end0
  refine ⟨rfl, out4, pend4, v4, HW4.out.1.buf, ?_, HW4.out.1.fr⟩
  rw [HW4.out.2.1, HW3.out.2.1, HW1.out.2.1]
  simp [sumBytes]

set_option maxRecDepth 100000 in
set_option maxHeartbeats 4000000 in
theorem ws_gone {w : World} {B pb gb pw : Nat} {out pend : List UInt8} {v : Value} (S : Array Value) (key : ByteArray) (ver : Nat) (dg : List UInt8) (h : Buf w B pb gb pw out pend v) (hS : IsSum S key true ver dg true) (hlim : out.length + key.size + 100000 ≤ 140737488355328) :
    Calls Ybad.prog 6 #[.pointer (some ⟨pb, 0, none⟩), .agg S] w fun e w' => e = .returned (.tuple #[]) ∧ ∃ out' pend' v', Buf w' B pb gb pw out' pend' v' ∧ out' ++ pend' = out ++ pend ++ sumBytes key.data.toList true ver dg true ∧ Fr pb gb pw v v' w w' := by
  have hka : key.size < 18446744073709551616 := by omega
  have hU := uv_facts hka
  have hUi := hU.2.2
  have hV := uv_facts hS.vl
  have hVi := hV.2.2
  have hpe := h.le
  have hwr : IntKind.u64.wrap (key.size : Int) = (key.size : Int) := by rw [IntKind.wrap_u64]; omega
  have HS : Hid (IsSum S key true ver dg true) := hS
  have hst := ws_start S #[.int .u8 0, .int .u8 0, .int .u8 0, .int .u8 0, .int .u8 0, .int .u8 0, .int .u8 0, .int .u8 0, .int .u8 0, .int .u8 0] rfl h
  have HB : Hid (_ ∧ _) := ⟨h, hst⟩
  clear hS h hst
  go_enter Ybad.func6, Ybad.ntmps6
  go_wp2_with fail
  obtain ⟨W0, hW0⟩ : ∃ W0, W0 = (w.alloc (.cells S 25)).alloc (.cells #[.int .u8 0, .int .u8 0, .int .u8 0, .int .u8 0, .int .u8 0, .int .u8 0, .int .u8 0, .int .u8 0, .int .u8 0, .int .u8 0] 47) := ⟨_, rfl⟩
  rw [← hW0]
  obtain ⟨sb, hsb⟩ : ∃ sb, sb = w.heap.size := ⟨_, rfl⟩
  obtain ⟨nb, hnb⟩ : ∃ nb, nb = w.heap.size + 1 := ⟨_, rfl⟩
  have HW0 : Hid (Ws w W0 B pb gb pw sb nb S v v out pend ∧ True ∧ out.length + key.size + 100000 ≤ 140737488355328) := ⟨by rw [hW0, hsb, hnb]; exact HB.out.2, trivial, hlim⟩
  rw [← hnb, ← hsb]
  have x0 := HS.out.c0 HW0.out.1.box
  clear hW0 hsb hnb HB
  go_region_held3 (fun w' => w'.cell? ⟨sb, 0, none⟩ = some (.string key)) (go_keep)
    ((first | (go_at_call 13; refine (put_uvarint nb 0 10 10 key.size hka _ hU.1 (by exact HW0.out.1.room _ hU.1)).mono ?_; rintro e wa ⟨rfl, hwa⟩; have hWa : Ws w wa B pb gb pw sb nb S v _ _ _ := (by rw [hwa]; exact HW0.out.1.drew.put _); have hsr : ∀ j u, (bc (Lib.uvarint key.size))[j]? = some u → wa.cell? ⟨nb, 0 + j, none⟩ = some u := (by rw [hwa]; exact HW0.out.1.drew.src _ hU.1); have y0 := HS.out.c0 hWa.box; have y2 := HS.out.c2 hWa.box; have HA : Hid (_ ∧ _) := ⟨hWa, hsr⟩; clear hwa hWa hsr) | (go_at_call 12; refine (write_any (c := 10) HA.out.1.buf rfl hU.2.1 (by have := hU.1; omega) hU.1 HA.out.2 (HA.out.1.apart HA.out.1.nbw).1 (HA.out.1.apart HA.out.1.nbw).2.1 (HA.out.1.apart HA.out.1.nbw).2.2 HA.out.1.nbo HA.out.1.lt.2 (by have := HW0.out.2.2; omega)).mono ?_; rintro e wb1 ⟨rfl, out1, pend1, v1, hb, hs, hf⟩; have hWb := HA.out.1.next hb hf; have z0 := HS.out.c0 hWb.box; have z2 := HS.out.c2 hWb.box; have HW1 : Hid (_ ∧ _ ∧ _) := ⟨hWb, hs, trivial⟩; clear hb hs hf hWb)))
  have hl1 : out1.length + key.size + 90000 ≤ 140737488355328 := by have a1 := len_of HW1.out.2.1; have a2 := hU.1; simp at a1; omega
  clear x0 y0 y2
  go_wp2_with fail
  refine (string_any key HW1.out.1.buf (by omega)).mono ?_
  rintro e w3 ⟨rfl, out3, pend3, v3, hb, hs, hf⟩
  have hW3 := HW1.out.1.next hb hf
  have hl3 : out3.length + 80000 ≤ 140737488355328 := by
    have a1 := len_of hs
    have a2 := congrArg List.length HW1.out.2.1
    have := hU.1
    simp at a1 a2
    omega
  have p1 := HS.out.c1 hW3.box
  have p2 := HS.out.c2 hW3.box
  have p3 := HS.out.c35 hW3.box
  have HW3 : Hid (_ ∧ _ ∧ _) := ⟨hW3, hs, hl3⟩
  clear hb hs hf hW3 z0 z2
  go_wp2_with fail
  refine (byte_any 2 2 rfl HW3.out.1.buf (by omega)).mono ?_
  rintro e w4 ⟨rfl, out4, pend4, v4, hb, hs, hf⟩
  have hW4 := HW3.out.1.next hb hf
  have hl4 : out4.length + 70000 ≤ 140737488355328 := by
    have a1 := len_of hs
    have a2 := HW3.out.1.buf.le
    simp at a1
    omega
  have x2 := HS.out.c2 hW4.box
  have HW4 : Hid (_ ∧ _ ∧ _) := ⟨hW4, hs, hl4⟩
  clear hb hs hf hW4 p1 p2 p3
  go_wp2_with fail
  go_region_held3 (fun w' => w'.cell? ⟨sb, 2, none⟩ = some (.int .u64 (ver : Int))) (go_keep)
    ((first | (go_at_call 13; refine (put_uvarint nb 0 10 10 ver HS.out.vl _ hV.1 (by exact HW4.out.1.room _ hV.1)).mono ?_; rintro e wa ⟨rfl, hwa⟩; have hWa : Ws w wa B pb gb pw sb nb S v _ _ _ := (by rw [hwa]; exact HW4.out.1.drew.put _); have hsr : ∀ j u, (bc (Lib.uvarint ver))[j]? = some u → wa.cell? ⟨nb, 0 + j, none⟩ = some u := (by rw [hwa]; exact HW4.out.1.drew.src _ hV.1); have y0 := HS.out.c0 hWa.box; have y2 := HS.out.c2 hWa.box; have HA : Hid (_ ∧ _) := ⟨hWa, hsr⟩; clear hwa hWa hsr) | (go_at_call 12; refine (write_any (c := 10) HA.out.1.buf rfl hV.2.1 (by have := hV.1; omega) hV.1 HA.out.2 (HA.out.1.apart HA.out.1.nbw).1 (HA.out.1.apart HA.out.1.nbw).2.1 (HA.out.1.apart HA.out.1.nbw).2.2 HA.out.1.nbo HA.out.1.lt.2 (by have := HW4.out.2.2; omega)).mono ?_; rintro e wb5 ⟨rfl, out5, pend5, v5, hb, hs, hf⟩; have hWb := HA.out.1.next hb hf; have z0 := HS.out.c0 hWb.box; have z2 := HS.out.c2 hWb.box; have HW5 : Hid (_ ∧ _ ∧ _) := ⟨hWb, hs, trivial⟩; clear hb hs hf hWb)))
  go_wp2
  go_end0
  refine ⟨rfl, out5, pend5, v5, HW5.out.1.buf, ?_, HW5.out.1.fr⟩
  rw [HW5.out.2.1, HW4.out.2.1, HW3.out.2.1, HW1.out.2.1]
  simp [sumBytes]

set_option maxRecDepth 100000 in
set_option maxHeartbeats 4000000 in
theorem ws_value {w : World} {B pb gb pw : Nat} {out pend : List UInt8} {v : Value} (S : Array Value) (key : ByteArray) (ver : Nat) (dg : List UInt8) (h : Buf w B pb gb pw out pend v) (hS : IsSum S key true ver dg false) (hlim : out.length + key.size + 100000 ≤ 140737488355328) :
    Calls Ybad.prog 6 #[.pointer (some ⟨pb, 0, none⟩), .agg S] w fun e w' => e = .returned (.tuple #[]) ∧ ∃ out' pend' v', Buf w' B pb gb pw out' pend' v' ∧ out' ++ pend' = out ++ pend ++ sumBytes key.data.toList true ver dg false ∧ Fr pb gb pw v v' w w' := by
  have hka : key.size < 18446744073709551616 := by omega
  have hU := uv_facts hka
  have hUi := hU.2.2
  have hV := uv_facts hS.vl
  have hVi := hV.2.2
  have hpe := h.le
  have hwr : IntKind.u64.wrap (key.size : Int) = (key.size : Int) := by rw [IntKind.wrap_u64]; omega
  have HS : Hid (IsSum S key true ver dg false) := hS
  have hst := ws_start S #[.int .u8 0, .int .u8 0, .int .u8 0, .int .u8 0, .int .u8 0, .int .u8 0, .int .u8 0, .int .u8 0, .int .u8 0, .int .u8 0] rfl h
  have HB : Hid (_ ∧ _) := ⟨h, hst⟩
  clear hS h hst
  go_enter Ybad.func6, Ybad.ntmps6
  go_wp2_with fail
  obtain ⟨W0, hW0⟩ : ∃ W0, W0 = (w.alloc (.cells S 25)).alloc (.cells #[.int .u8 0, .int .u8 0, .int .u8 0, .int .u8 0, .int .u8 0, .int .u8 0, .int .u8 0, .int .u8 0, .int .u8 0, .int .u8 0] 47) := ⟨_, rfl⟩
  rw [← hW0]
  obtain ⟨sb, hsb⟩ : ∃ sb, sb = w.heap.size := ⟨_, rfl⟩
  obtain ⟨nb, hnb⟩ : ∃ nb, nb = w.heap.size + 1 := ⟨_, rfl⟩
  have HW0 : Hid (Ws w W0 B pb gb pw sb nb S v v out pend ∧ True ∧ out.length + key.size + 100000 ≤ 140737488355328) := ⟨by rw [hW0, hsb, hnb]; exact HB.out.2, trivial, hlim⟩
  rw [← hnb, ← hsb]
  have x0 := HS.out.c0 HW0.out.1.box
  clear hW0 hsb hnb HB
  go_region_held3 (fun w' => w'.cell? ⟨sb, 0, none⟩ = some (.string key)) (go_keep)
    ((first | (go_at_call 13; refine (put_uvarint nb 0 10 10 key.size hka _ hU.1 (by exact HW0.out.1.room _ hU.1)).mono ?_; rintro e wa ⟨rfl, hwa⟩; have hWa : Ws w wa B pb gb pw sb nb S v _ _ _ := (by rw [hwa]; exact HW0.out.1.drew.put _); have hsr : ∀ j u, (bc (Lib.uvarint key.size))[j]? = some u → wa.cell? ⟨nb, 0 + j, none⟩ = some u := (by rw [hwa]; exact HW0.out.1.drew.src _ hU.1); have y0 := HS.out.c0 hWa.box; have y2 := HS.out.c2 hWa.box; have HA : Hid (_ ∧ _) := ⟨hWa, hsr⟩; clear hwa hWa hsr) | (go_at_call 12; refine (write_any (c := 10) HA.out.1.buf rfl hU.2.1 (by have := hU.1; omega) hU.1 HA.out.2 (HA.out.1.apart HA.out.1.nbw).1 (HA.out.1.apart HA.out.1.nbw).2.1 (HA.out.1.apart HA.out.1.nbw).2.2 HA.out.1.nbo HA.out.1.lt.2 (by have := HW0.out.2.2; omega)).mono ?_; rintro e wb1 ⟨rfl, out1, pend1, v1, hb, hs, hf⟩; have hWb := HA.out.1.next hb hf; have z0 := HS.out.c0 hWb.box; have z2 := HS.out.c2 hWb.box; have HW1 : Hid (_ ∧ _ ∧ _) := ⟨hWb, hs, trivial⟩; clear hb hs hf hWb)))
  have hl1 : out1.length + key.size + 90000 ≤ 140737488355328 := by have a1 := len_of HW1.out.2.1; have a2 := hU.1; simp at a1; omega
  clear x0 y0 y2
  go_wp2_with fail
  refine (string_any key HW1.out.1.buf (by omega)).mono ?_
  rintro e w3 ⟨rfl, out3, pend3, v3, hb, hs, hf⟩
  have hW3 := HW1.out.1.next hb hf
  have hl3 : out3.length + 80000 ≤ 140737488355328 := by
    have a1 := len_of hs
    have a2 := congrArg List.length HW1.out.2.1
    have := hU.1
    simp at a1 a2
    omega
  have p1 := HS.out.c1 hW3.box
  have p2 := HS.out.c2 hW3.box
  have p3 := HS.out.c35 hW3.box
  have HW3 : Hid (_ ∧ _ ∧ _) := ⟨hW3, hs, hl3⟩
  clear hb hs hf hW3 z0 z2
  go_wp2_with fail
  refine (byte_any 1 1 rfl HW3.out.1.buf (by omega)).mono ?_
  rintro e w4 ⟨rfl, out4, pend4, v4, hb, hs, hf⟩
  have hW4 := HW3.out.1.next hb hf
  have hl4 : out4.length + 70000 ≤ 140737488355328 := by
    have a1 := len_of hs
    have a2 := HW3.out.1.buf.le
    simp at a1
    omega
  have x2 := HS.out.c2 hW4.box
  have HW4 : Hid (_ ∧ _ ∧ _) := ⟨hW4, hs, hl4⟩
  clear hb hs hf hW4 p1 p2 p3
  go_wp2_with fail
  go_region_held3 (fun w' => w'.cell? ⟨sb, 2, none⟩ = some (.int .u64 (ver : Int))) (go_keep)
    ((first | (go_at_call 13; refine (put_uvarint nb 0 10 10 ver HS.out.vl _ hV.1 (by exact HW4.out.1.room _ hV.1)).mono ?_; rintro e wa ⟨rfl, hwa⟩; have hWa : Ws w wa B pb gb pw sb nb S v _ _ _ := (by rw [hwa]; exact HW4.out.1.drew.put _); have hsr : ∀ j u, (bc (Lib.uvarint ver))[j]? = some u → wa.cell? ⟨nb, 0 + j, none⟩ = some u := (by rw [hwa]; exact HW4.out.1.drew.src _ hV.1); have y0 := HS.out.c0 hWa.box; have y2 := HS.out.c2 hWa.box; have HA : Hid (_ ∧ _) := ⟨hWa, hsr⟩; clear hwa hWa hsr) | (go_at_call 12; refine (write_any (c := 10) HA.out.1.buf rfl hV.2.1 (by have := hV.1; omega) hV.1 HA.out.2 (HA.out.1.apart HA.out.1.nbw).1 (HA.out.1.apart HA.out.1.nbw).2.1 (HA.out.1.apart HA.out.1.nbw).2.2 HA.out.1.nbo HA.out.1.lt.2 (by have := HW4.out.2.2; omega)).mono ?_; rintro e wb5 ⟨rfl, out5, pend5, v5, hb, hs, hf⟩; have hWb := HA.out.1.next hb hf; have z0 := HS.out.c0 hWb.box; have z2 := HS.out.c2 hWb.box; have HW5 : Hid (_ ∧ _ ∧ _) := ⟨hWb, hs, trivial⟩; clear hb hs hf hWb)))
  have hl5 : out5.length + 60000 ≤ 140737488355328 := by
    have a1 := len_of HW5.out.2.1
    have a2 := HW4.out.1.buf.le
    have := hV.1
    simp at a1
    omega
  go_wp2_with fail
  refine (write_any (c := 32) HW5.out.1.buf HS.out.dl (by omega) (by omega) (by omega) (HS.out.cd HW5.out.1.box) (HW5.out.1.apart HW5.out.1.sbw).1 (HW5.out.1.apart HW5.out.1.sbw).2.1 (HW5.out.1.apart HW5.out.1.sbw).2.2 HW5.out.1.sbo HW5.out.1.lt.1 (by omega)).mono ?_
  rintro e w6 ⟨rfl, out6, pend6, v6, hb, hs, hf⟩
  have HW6 : Hid (_ ∧ _) := ⟨HW5.out.1.next hb hf, hs⟩
  clear hb hs hf
  go_wp2
  go_end0
  refine ⟨rfl, out6, pend6, v6, HW6.out.1.buf, ?_, HW6.out.1.fr⟩
  rw [HW6.out.2, HW5.out.2.1, HW4.out.2.1, HW3.out.2.1, HW1.out.2.1]
  simp [sumBytes]

/-- writeSum. -/
theorem ws_any {w : World} {B pb gb pw : Nat} {out pend : List UInt8} {v : Value} (S : Array Value) (key : ByteArray) (held : Bool) (ver : Nat) (dg : List UInt8) (rem : Bool) (h : Buf w B pb gb pw out pend v) (hS : IsSum S key held ver dg rem) (hlim : out.length + key.size + 100000 ≤ 140737488355328) :
    Calls Ybad.prog 6 #[.pointer (some ⟨pb, 0, none⟩), .agg S] w fun e w' => e = .returned (.tuple #[]) ∧ ∃ out' pend' v', Buf w' B pb gb pw out' pend' v' ∧ out' ++ pend' = out ++ pend ++ sumBytes key.data.toList held ver dg rem ∧ Fr pb gb pw v v' w w' := by
  cases held
  · exact ws_none S key ver dg rem h hS hlim
  · cases rem
    · exact ws_value S key ver dg h hS hlim
    · exact ws_gone S key ver dg h hS hlim
end Go.Proofs.YbulkcxvaDoor
