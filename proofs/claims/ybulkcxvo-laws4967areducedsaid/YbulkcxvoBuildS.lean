/-
  zzs4967abuild: the steps' row.
-/
import Derived.Test.YbulkcxvoBuildP
namespace Go.Proofs.Ybulkcxvo
open Go.RowKit

def st3 (tx : Nat → Nat) (it : Nat → Int) (kd : Nat → Nat) (k : Nat) : List Value := (List.range k).flatMap fun i => [Value.int .i64 (tx i : Int), Value.int .i64 (it i), Value.int .u8 (kd i : Int)]
theorem st3_succ (tx : Nat → Nat) (it : Nat → Int) (kd : Nat → Nat) (k : Nat) : st3 tx it kd (k + 1) = st3 tx it kd k ++ [Value.int .i64 (tx k : Int), Value.int .i64 (it k), Value.int .u8 (kd k : Int)] := by
  unfold st3
  rw [List.range_succ, List.flatMap_append]
  simp
theorem st3_len (tx : Nat → Nat) (it : Nat → Int) (kd : Nat → Nat) : ∀ k, (st3 tx it kd k).length = k * 3
  | 0 => rfl
  | k + 1 => by rw [st3_succ, List.length_append, st3_len tx it kd k]; simp; omega
theorem st3_congr {tx tx' : Nat → Nat} {it it' : Nat → Int} {kd kd' : Nat → Nat} : ∀ {k : Nat}, (∀ i, i < k → tx i = tx' i ∧ it i = it' i ∧ kd i = kd' i) → st3 tx it kd k = st3 tx' it' kd' k
  | 0, _ => rfl
  | k + 1, h => by
    obtain ⟨h1, h2, h3⟩ := h k (by omega)
    rw [st3_succ, st3_succ, st3_congr (fun i hi => h i (by omega)), h1, h2, h3]
theorem st3_at (tx : Nat → Nat) (it : Nat → Int) (kd : Nat → Nat) : ∀ k i, i < k → (st3 tx it kd k)[i * 3]? = some (Value.int .i64 (tx i : Int)) ∧ (st3 tx it kd k)[i * 3 + 1]? = some (Value.int .i64 (it i)) ∧ (st3 tx it kd k)[i * 3 + 2]? = some (Value.int .u8 (kd i : Int))
  | 0, i, h => by omega
  | k + 1, i, h => by
    have hl := st3_len tx it kd k
    rw [st3_succ]
    by_cases e : i = k
    · subst e
      refine ⟨?_, ?_, ?_⟩
      · rw [List.getElem?_append_right (by omega), hl, Nat.sub_self]; rfl
      · rw [List.getElem?_append_right (by omega), hl, show i * 3 + 1 - i * 3 = 1 by omega]; rfl
      · rw [List.getElem?_append_right (by omega), hl, show i * 3 + 2 - i * 3 = 2 by omega]; rfl
    · obtain ⟨h1, h2, h3⟩ := st3_at tx it kd k i (by omega)
      refine ⟨?_, ?_, ?_⟩
      · rw [List.getElem?_append_left (by omega)]; exact h1
      · rw [List.getElem?_append_left (by omega)]; exact h2
      · rw [List.getElem?_append_left (by omega)]; exact h3
theorem info32 : (Yba.prog.info? 32).map (fun i => (i.zero, i.size, i.bytes)) = some (some (.agg #[.int .i64 0, .int .i64 0, .int .u8 0]), 3, 24) := by kernel_rfl
theorem make28c (n : Nat) (hn : n ≤ 1000000) : ∃ A : Array Value, A.size = n * 3 ∧ ∀ w : World, (Instr.makeSlice 28 (.int .i64 0) (.int .i64 (n : Int))).run Yba.prog w = .ok (.slice (some ⟨w.heap.size, 0, none⟩) 0 n) (w.alloc (.cells A 32)) := by
  obtain ⟨i, hi, hz, hs, hb⟩ := info_parts info32
  refine ⟨madeCells (Value.agg #[.int .i64 0, .int .i64 0, .int .u8 0]).cells ((n : Int).toNat * i.size), by rw [hs]; simp [madeCells], fun w => ?_⟩
  exact run_make (P := Yba.prog) w 28 32 i _ Yba.underlying28 hi hz .i64 .i64 0 n (by omega) (by omega) (by rw [hb]; omega) (by omega)
theorem wpList_push3 {ops : Array Oper} {rest : List Oper} {o : Oper} {a : Act} {Q : Exit → Act → World → Prop} {w1 : World} (hgd : o.guard = none) (sx xx : Operand) (ho : o.op = .call { callee := .builtin .append, args := #[sx, xx], argTypes := #[28, 28] })
    (B : Nat) (v : Value) (k : Nat) (tx : Nat → Nat) (it : Nat → Int) (kd : Nat → Nat) (t : Nat) (x : Int) (d : Nat) (hs : a.eval sx = v) (H : Nat) (hH : w1.heap.size = H) (hx : a.eval xx = .slice (some ⟨H, 0, none⟩) 1 1) (hown : w1.ownsRow B 32 3 v k (st3 tx it kd k)) (hB : B ≤ w1.heap.size) (hlim : k ≤ 300000)
    (h : ∀ g cap W, W.ownsRow B 32 3 (.slice (some ⟨g, 0, none⟩) (k + 1) cap) (k + 1) (st3 (upd tx k t) (upd it k x) (upd kd k d) (k + 1)) → Gx v (.slice (some ⟨g, 0, none⟩) (k + 1) cap) w1 W → wpList Yba.prog ops Q rest (a.put o.dst (.slice (some ⟨g, 0, none⟩) (k + 1) cap)) W) :
    wpList Yba.prog ops Q (o :: rest) a (w1.alloc (.cells #[.int .i64 (t : Int), .int .i64 x, .int .u8 (d : Int)] 32)) := by
  obtain ⟨i0, hi, hz0, hz1, hz2⟩ := info_parts info32
  subst hH
  refine wpList_append_lies (w1.alloc (.cells #[.int .i64 (t : Int), .int .i64 x, .int .u8 (d : Int)] 32)) hgd sx xx 28 ho B 32 i0 _ 3 24 Yba.underlying28 hi hz0 hz1 hz2 rfl (by omega) v k (st3 tx it kd k) hs (hown.alloc _) ⟨w1.heap.size, 0, none⟩ 1 1 [.int .i64 (t : Int), .int .i64 x, .int .u8 (d : Int)] hx rfl ?_ ?_ (by omega) (by unfold maxLen; omega) (by omega) (by simp; omega) (w1.heap.size + 1) (by simp) ?_
  · intro j y hj
    rw [Addr.add_mid, cell_of_row _ _ _ _ _ _ (heap_alloc_new w1 _)]
    simpa using hj
  · intro y hy
    simp at hy
    rcases hy with rfl | rfl | rfl <;> rfl
  · intro g cap W h1 h2 h3 _
    refine h g cap W ?_ ⟨h2.os, h2.tape, h2.output, Nat.le_trans (by simp) h2.size, fun b hb hne => ?_, ?_⟩
    · rw [st3_succ, upd_same, upd_same, upd_same, st3_congr (tx' := tx) (it' := it) (kd' := kd) fun i hi => ⟨upd_ne _ _ (by omega), upd_ne _ _ (by omega), upd_ne _ _ (by omega)⟩]
      exact h1
    · rw [h2.block b (by simp; omega) (fun e => hne e.symm), Below.heap_alloc _ _ _ hb]
    · rcases h3 with h3 | h3
      · exact .inl h3.symm
      · refine .inr fun g' e => ?_
        have : g = g' := by simpa [Value.ownBlock] using e
        omega
theorem steps_of {w : World} {B k : Nat} {ao : Option Addr} {cap : Nat} {tx : Nat → Nat} {it : Nat → Int} {kd : Nat → Nat} (h : w.ownsRow B 32 3 (.slice ao k cap) k (st3 tx it kd k)) : Steps w ao k tx it kd := by
  intro h0
  obtain ⟨g, c, cu, e, _, hh, _⟩ := own_is h h0
  cases e
  refine ⟨g, 0, rfl, lt_of_block hh, fun i hi => ?_⟩
  obtain ⟨h1, h2, h3⟩ := st3_at tx it kd k i hi
  rw [Nat.zero_add]
  exact ⟨(own_cell h h1).1, (own_cell h h2).1, (own_cell h h3).1⟩
theorem B0.upTo {w W W' : World} {hb n I m : Nat} {ta : Option Addr} {tc eb pb : Nat} {so : Option Addr} {sc : Nat} {nm : Nat → ByteArray} {E P : Nat → Nat} {B : Nat} (h : B0 w W hb n I m ta tc eb pb so sc nm E P) (l1 : hb < B) (l2 : eb < B) (l3 : pb < B) (l4 : ∀ b off, 0 < n → ta = some ⟨b, off, none⟩ → b < B) (hw : w.heap.size ≤ B) (hk : Below B W W') : B0 w W' hb n I m ta tc eb pb so sc nm E P := by
  refine ⟨h.bel.trans (hk.mono hw), (hk.block _ l1).trans h.h, fun hn => ?_, h.ends.keep (hk.block _ l2), h.byN.keep (hk.block _ l3), h.gh, h.ge, h.gp, h.n1, h.n2, h.n3⟩
  obtain ⟨b, off, e, hl, a1, a2, a3, hc⟩ := h.nam hn
  exact ⟨b, off, e, Nat.lt_of_lt_of_le hl hk.size, a1, a2, a3, fun i hi => (World.cell?_of_block (hk.block b (l4 b off hn e))).trans (hc i hi)⟩
theorem B0.nb {w W : World} {hb n I m : Nat} {ta : Option Addr} {tc eb pb : Nat} {so : Option Addr} {sc : Nat} {nm : Nat → ByteArray} {E P tx : Nat → Nat} {it : Nat → Int} {kd : Nat → Nat} (h : B0 w W hb n I m ta tc eb pb so sc nm E P) (hs : Steps W so m tx it kd) : Nb W hb n I m ta tc eb pb so sc nm E P tx it kd :=
  ⟨(h.cell 0).1, (h.cell 1).1, (h.cell 2).1, (h.cell 3).1, (h.cell 4).1, fun hn => by obtain ⟨b, off, e, hl, _, _, _, hc⟩ := h.nam hn; exact ⟨b, off, e, hl, hc⟩, h.ends, h.byN, hs⟩
end Go.Proofs.Ybulkcxvo
