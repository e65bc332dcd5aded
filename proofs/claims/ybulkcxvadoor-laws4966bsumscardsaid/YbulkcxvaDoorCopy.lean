/-
  copy into the writer's buffer, as one step of a region that draws its order: the world behind it known block by block.
-/
import Derived.Test.YbulkcxvaDoorState
import Derived.Lib.BufferWrite
namespace Go.Proofs.YbulkcxvaDoor
open Go.RowKit

/-- Block g holds the cells cs; every other block is as it was. -/
structure Turned (g : Nat) (cs : List Value) (w w' : World) : Prop where
  row : w'.heap[g]? = some (.cells cs.toArray 5 (0, 0))
  other : ∀ b, b ≠ g → w'.heap[b]? = w.heap[b]?
  size : w'.heap.size = w.heap.size
  io : w'.os = w.os ∧ w'.tape = w.tape ∧ w'.output = w.output

theorem turned_setRow {w : World} {g : Nat} {old : Array Value} (hg : w.heap[g]? = some (.cells old 5 (0, 0))) (cs : List Value) : Turned g cs w (w.setRow g cs.toArray) :=
  ⟨setRow_heap w g _ _ 5 _ hg, fun b hb => setRow_other w g b _ hb, by simp [World.setRow], rfl, rfl, rfl⟩

theorem step_copy_kept {ops : Array Oper} {o : Oper} {a : Act} {w : World} {K : Act → World → Prop} {Q : Exit → Act → World → Prop} {E : Prop} (hgd : o.guard = none) (d s : Operand)
    (ho : o.op = .call { callee := .builtin .copy, args := #[d, s], argTypes := #[27, 27] })
    (dp sp : Option Addr) (dLen dCap sLen sCap : Nat) (hd : a.eval d = .slice dp dLen dCap) (hs : a.eval s = .slice sp sLen sCap)
    (g off : Nat) (cur : List Value) (hg : w.heap[g]? = some (.cells cur.toArray 5 (0, 0))) (cs : List Value) (hn : cs.length = Nat.min sLen dLen)
    (hpos : 0 < cs.length → dp = some ⟨g, off, none⟩ ∧ ∃ ad, sp = some ad ∧ ∀ j v, cs[j]? = some v → w.cell? (ad.add j) = some v)
    (hfit : off + cs.length ≤ cur.length) (h1 : ∀ v ∈ cs, v.oneCell' = true)
    (h : ∀ w', Turned g (splice cur off cs) w w' → K (a.put o.dst (goInt cs.length)) w') :
    if Region.wanted o (yielded ops a.tmps) = true then Oper.wp Ybad.prog o a w K Q else E := by
  have hw : Region.wanted o (yielded ops a.tmps) = true := by simp [Region.wanted, hgd]
  rw [if_pos hw]
  by_cases h0 : cs.length = 0
  · obtain rfl : cs = [] := List.eq_nil_of_length_eq_zero h0
    have hrun := run_copy_none (P := Ybad.prog) w 27 27 o.type 5 dp sp dLen dCap sLen sCap Ybad.underlying27 size5 (by simpa using hn.symm)
    unfold Oper.wp
    simp [execOp, ho, resolve, invoke, builtin, hd, hs, hrun, Result.andThen]
    exact h w ⟨by simpa [splice] using hg, fun _ _ => rfl, rfl, rfl, rfl, rfl⟩
  · obtain ⟨rfl, ad, rfl, hsrc⟩ := hpos (by omega)
    have hrun := run_copy_row (P := Ybad.prog) w 27 27 o.type 5 g off dLen dCap ad sLen sCap cur.toArray 5 cs Ybad.underlying27 size5 hg hn hsrc (by simpa using hfit) h1
    unfold Oper.wp
    simp [execOp, ho, resolve, invoke, builtin, hd, hs, hrun, Result.andThen]
    have := turned_setRow hg (splice cur off cs)
    exact h _ (by simpa [splice] using this)

/-- copy out of a string, as much as there is room for. -/
theorem run_copy_str (w : World) (ty : TypeId) (dp : Option Addr) (g off dLen dCap : Nat) (s : ByteArray) (cur : List Value) (hg : w.heap[g]? = some (.cells cur.toArray 5 (0, 0)))
    (n : Nat) (hn : Nat.min s.size dLen = n) (hpos : 0 < n → dp = some ⟨g, off, none⟩) (hfit : off + n ≤ cur.length) :
    ∃ w', (Builtin.copy_ #[27, 9] ty #[.slice dp dLen dCap, .string s]).run Ybad.prog w = .ok (goInt n) w' ∧ Turned g (splice cur off (bc (s.data.toList.take n))) w w' := by
  have hsz : s.data.toList.length = s.size := by simp
  have hlen : (bc (s.data.toList.take n)).length = n := by
    rw [bc_length, List.length_take, hsz]
    have : n ≤ s.size := by rw [← hn]; exact Nat.min_le_left _ _
    omega
  have htk : List.take n (List.map (fun b : UInt8 => Value.int IntKind.u8 (b.toNat : Int)) s.data.toList) = bc (s.data.toList.take n) := by
    rw [bc, List.map_take]
  by_cases h0 : n = 0
  · subst h0
    refine ⟨w, ?_, ?_⟩
    · cases hq : Ybad.prog.info? 5 with
      | none => have := size5; simp [hq] at this
      | some i => cases dp <;> simp [Builtin.copy_, run_underlying Ybad.underlying27, Builtin.lenOf, Builtin.firstCells, sizeOf, typeInfo, hq, hn, storeCells]
    · exact ⟨by simpa [splice, bc] using hg, fun _ _ => rfl, rfl, rfl, rfl, rfl⟩
  · obtain rfl := hpos (by omega)
    have hst := run_storeCells_at Ybad.prog g off 5 (bc (s.data.toList.take n)) 0 cur.toArray w hg (by rw [hlen]; simpa using hfit) (bc_one _)
    refine ⟨w.setRow g (splice cur off (bc (s.data.toList.take n))).toArray, ?_, turned_setRow hg _⟩
    rw [hlen] at hst
    simp only [Nat.add_zero] at hst
    cases hq : Ybad.prog.info? 5 with
    | none => have := size5; simp [hq] at this
    | some i =>
      simp [Builtin.copy_, run_underlying Ybad.underlying27, Builtin.lenOf, Builtin.firstCells, sizeOf, typeInfo, hq, hn]
      rw [htk, hst]
      simp [splice, hlen]

theorem step_copy_str {ops : Array Oper} {o : Oper} {a : Act} {w : World} {K : Act → World → Prop} {Q : Exit → Act → World → Prop} {E : Prop} (hgd : o.guard = none) (d s : Operand)
    (ho : o.op = .call { callee := .builtin .copy, args := #[d, s], argTypes := #[27, 9] })
    (dp : Option Addr) (dLen dCap : Nat) (str : ByteArray) (hd : a.eval d = .slice dp dLen dCap) (hs : a.eval s = .string str)
    (g off : Nat) (cur : List Value) (hg : w.heap[g]? = some (.cells cur.toArray 5 (0, 0))) (n : Nat) (hn : Nat.min str.size dLen = n)
    (hpos : 0 < n → dp = some ⟨g, off, none⟩) (hfit : off + n ≤ cur.length)
    (h : ∀ w', Turned g (splice cur off (bc (str.data.toList.take n))) w w' → K (a.put o.dst (goInt n)) w') :
    if Region.wanted o (yielded ops a.tmps) = true then Oper.wp Ybad.prog o a w K Q else E := by
  have hw : Region.wanted o (yielded ops a.tmps) = true := by simp [Region.wanted, hgd]
  rw [if_pos hw]
  obtain ⟨w', hrun, ht⟩ := run_copy_str w o.type dp g off dLen dCap str cur hg n hn hpos hfit
  unfold Oper.wp
  simp [execOp, ho, resolve, invoke, builtin, hd, hs, hrun, Result.andThen]
  exact h w' ht
end Go.Proofs.YbulkcxvaDoor
