/-
  The state of a bufio.Writer over the law's own sink, as memory holds it, and what its methods leave as it was.
-/
import Derived.Test.YbulkcxvaDoorProg
import Derived.WalkKit
import Derived.WalkSpells
import Derived.Deep.QuietTactic
import Derived.BigQuiet
import Derived.Laws.CopyOwn
import Derived.Deep.AppendLies
import Derived.Deep.RegionHeld3
import Derived.Deep.RegionWith
import Derived.Deep.RegionLaw
import Derived.Deep.DrawnRows
import Derived.Stop.Asserts
namespace Go.Proofs.YbulkcxvaDoor
open Go.RowKit

/-- Bytes as memory's cells. -/
def bc (l : List UInt8) : List Value := l.map fun b => .int .u8 (b.toNat : Int)
theorem bc_length (l : List UInt8) : (bc l).length = l.length := by simp [bc]
theorem bc_append (l m : List UInt8) : bc (l ++ m) = bc l ++ bc m := by simp [bc]
theorem bc_one (l : List UInt8) : ∀ u ∈ bc l, u.oneCell' = true := by
  intro u hu
  obtain ⟨b, _, rfl⟩ := List.mem_map.1 hu
  rfl
theorem bc_at {l : List UInt8} {j : Nat} {u : Value} (h : (bc l)[j]? = some u) : j < l.length := by
  have := (List.getElem?_eq_some_iff.1 h).1
  simpa [bc] using this

theorem info5 : (Ybad.prog.info? 5).map (fun i => (i.zero, i.size, i.bytes)) = some (some (.int .u8 0), 1, 1) := by kernel_rfl
theorem size5 : (Ybad.prog.info? 5).map (·.size) = some 1 := by kernel_rfl

/-- What a method of the writer may turn: the struct, its buffer, the sink's field, the sink's row; and new blocks. -/
structure Fr (pb gb pw : Nat) (v v' : Value) (w w' : World) : Prop where
  os : w'.os = w.os
  tape : w'.tape = w.tape
  output : w'.output = w.output
  size : w.heap.size ≤ w'.heap.size
  block : ∀ b, b < w.heap.size → b ≠ gb → b ≠ pb → b ≠ pw → v.ownBlock ≠ some b → w'.heap[b]? = w.heap[b]?
  sink : v'.ownBlock = v.ownBlock ∨ ∃ g, v'.ownBlock = some g ∧ w.heap.size ≤ g

theorem Fr.refl (pb gb pw : Nat) (v : Value) (w : World) : Fr pb gb pw v v w w := ⟨rfl, rfl, rfl, Nat.le_refl _, fun _ _ _ _ _ _ => rfl, .inl rfl⟩
theorem Fr.trans {pb gb pw : Nat} {v v1 v2 : Value} {w w1 w2 : World} (h : Fr pb gb pw v v1 w w1) (k : Fr pb gb pw v1 v2 w1 w2) : Fr pb gb pw v v2 w w2 := by
  refine ⟨k.os.trans h.os, k.tape.trans h.tape, k.output.trans h.output, Nat.le_trans h.size k.size, fun b hb h1 h2 h3 h4 => ?_, ?_⟩
  · have h5 : v1.ownBlock ≠ some b := by
      rcases h.sink with e | ⟨g, e, hg⟩
      · rw [e]; exact h4
      · rw [e]; intro e'; simp at e'; omega
    exact (k.block b (Nat.lt_of_lt_of_le hb h.size) h1 h2 h3 h5).trans (h.block b hb h1 h2 h3 h4)
  · rcases k.sink with e | ⟨g, e, hg⟩
    · rw [e]; exact h.sink
    · exact .inr ⟨g, e, Nat.le_trans h.size hg⟩
theorem Fr.drewN {pb gb pw : Nat} {v v1 : Value} {w w1 : World} (h : Fr pb gb pw v v1 w w1) (q : Nat) : Fr pb gb pw v v1 w (w1.drewN q) := ⟨h.os, h.tape, h.output, h.size, h.block, h.sink⟩

/-- The writer's state: 'out' has reached the sink, 'pend' waits in the buffer; the sink's slice value is v. -/
structure Buf (w : World) (B pb gb pw : Nat) (out pend : List UInt8) (v : Value) : Prop where
  hb : w.heap[pb]? = some (.cells #[.nilIface, .slice (some ⟨gb, 0, none⟩) 4096 4096, .int .i64 (pend.length : Int), .iface 26 (.pointer (some ⟨pw, 0, none⟩))] 54 (0, 0))
  hg : ∃ cur : List Value, w.heap[gb]? = some (.cells (bc pend ++ cur).toArray 5 (0, 0)) ∧ pend.length + cur.length = 4096
  hw : w.heap[pw]? = some (.cells #[v] 29 (0, 0))
  own : w.ownsRow B 5 1 v out.length (bc out)
  pbB : pb < B
  gbB : gb < B
  pwB : pw < B
  Bw : B ≤ w.heap.size

theorem Buf.drewN {w : World} {B pb gb pw : Nat} {out pend : List UInt8} {v : Value} (h : Buf w B pb gb pw out pend v) (q : Nat) : Buf (w.drewN q) B pb gb pw out pend v :=
  ⟨h.hb, h.hg, h.hw, h.own, h.pbB, h.gbB, h.pwB, h.Bw⟩

theorem own_form {w : World} {B : Nat} {v : Value} {n : Nat} {xs : List Value} (h : w.ownsRow B 5 1 v n xs) : (v = .slice none 0 0 ∧ n = 0) ∨ ∃ g cap, v = .slice (some ⟨g, 0, none⟩) n cap ∧ B ≤ g ∧ g < w.heap.size := by
  rcases h.2 with h | ⟨g, cap, cur, rfl, hB, hg, _⟩
  · exact .inl h
  · exact .inr ⟨g, cap, rfl, hB, lt_of_block hg⟩

set_option maxHeartbeats 400000 in
/-- The sink's own Write. -/
theorem sink_write (B pw sb so m c : Nat) (v : Value) (out news : List UInt8) (w : World) (hw : w.heap[pw]? = some (.cells #[v] 29 (0, 0))) (hown : w.ownsRow B 5 1 v out.length (bc out))
    (hpw : pw < B) (hB : B ≤ w.heap.size) (hm : news.length = m) (hm0 : 0 < m) (hsrc : ∀ j u, (bc news)[j]? = some u → w.cell? ⟨sb, so + j, none⟩ = some u) (hlim : out.length + m ≤ 140737488355328) :
    Calls Ybad.prog 34 #[.pointer (some ⟨pw, 0, none⟩), .slice (some ⟨sb, so, none⟩) m c] w fun e w' => e = .returned (.tuple #[.int .i64 (m : Int), .nilIface]) ∧
      ∃ v', w'.heap[pw]? = some (.cells #[v'] 29 (0, 0)) ∧ w'.ownsRow B 5 1 v' (out ++ news).length (bc (out ++ news)) ∧ (v'.ownBlock = v.ownBlock ∨ v'.ownBlock = some w.heap.size) ∧
        w'.os = w.os ∧ w'.tape = w.tape ∧ w'.output = w.output ∧ w.heap.size ≤ w'.heap.size ∧ ∀ b, b < w.heap.size → b ≠ pw → v.ownBlock ≠ some b → w'.heap[b]? = w.heap[b]? := by
  obtain ⟨i0, hi, hz0, hz1, hz2⟩ := info_parts info5
  have hcell := cell_of_one hw
  have hfr := free_of_one hw
  have hnb : v.ownBlock ≠ some pw := by
    rcases own_form hown with ⟨rfl, _⟩ | ⟨g, cap, rfl, hg, _⟩
    · simp [Value.ownBlock]
    · simp [Value.ownBlock]; omega
  go_enter Ybad.func34, Ybad.ntmps34
  go_wp2_with (at_builtin; refine wpList_append_lies _ (by rfl) _ _ _ (by rfl) B 5 i0 _ 1 1 Ybad.underlying27 hi hz0 hz1 hz2 (by rfl) (by omega) v out.length (bc out) (by rfl) hown ⟨sb, so, none⟩ m c (bc news) (by rfl) ?e1 ?e2 (bc_one _) hm0 ?e3 ?e4 hB w.heap.size rfl ?_)
  case e1 => simp [bc_length, hm]
  case e2 => intro j u hj; rw [WideShapes.add_plain]; exact hsrc j u hj
  case e3 => unfold maxLen; omega
  case e4 => omega
  · intro g cap w1 hown1 hgrow hat hlt
    have hw1 : w1.heap[pw]? = some (.cells #[v] 29 (0, 0)) := by rw [hgrow.block pw (by omega) (fun e => hnb e.symm)]; exact hw
    have hc1 := cell_of_one hw1
    have hf1 := free_of_one hw1
    have hgB : B ≤ g := by
      rcases own_form hown1 with ⟨h, _⟩ | ⟨g', cap', h, hg, _⟩
      · simp at h
      · simp at h; omega
    have HF : Hid (_ ∧ _ ∧ _ ∧ _ ∧ _) := ⟨hw1, hown1, hgrow, hat, hlt⟩
    clear hw1 hown1 hgrow hat hlt hw hown hsrc hcell hfr
    go_wp2
    go_ret2
    obtain ⟨hw1, hown1, hgrow, hat, hlt⟩ := HF.out
    refine ⟨by simp, .slice (some ⟨g, 0, none⟩) (out.length + m) cap, one_setCell hw1, ?_, ?_, hgrow.os, hgrow.tape, hgrow.output, ?_, fun b hb hp hv => ?_⟩
    · have e : (out ++ news).length = out.length + m := by simp [hm]
      rw [e, bc_append]
      exact ownsRow_setCell_other hown1 (by simp [Value.ownBlock]; omega) _
    · rcases hat with h | h
      · exact .inl (by rw [h]; rfl)
      · exact .inr (by rw [h]; rfl)
    · simpa using hgrow.size
    · rw [Below.heap_setCell _ _ _ _ (by simpa using hp)]
      exact hgrow.block b hb (fun e => hv e.symm)
end Go.Proofs.YbulkcxvaDoor
