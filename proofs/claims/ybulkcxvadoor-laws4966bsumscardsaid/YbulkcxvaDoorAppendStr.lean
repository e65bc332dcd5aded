/-
  append(dst, s...) of a string's bytes onto a row that the call owns: where the new slice lies.
-/
import Derived.Test.YbulkcxvaDoorModel
import Derived.Lib.AppendStr
namespace Go.Proofs.YbulkcxvaDoor
open Go.RowKit

theorem run_append_str_lies (w : World) (B ty : Nat) (g n cap : Nat) (xs : List Value) (hown : w.ownsRow B 5 1 (.slice (some ⟨g, 0, none⟩) n cap) n xs) (s : ByteArray) (hlim : n + s.size ≤ 140737488355328) (hB : B ≤ w.heap.size) :
    ∃ g' cap' w', (Builtin.append_ #[27, 9] ty #[.slice (some ⟨g, 0, none⟩) n cap, .string s]).run Ybad.prog w = .ok (.slice (some ⟨g', 0, none⟩) (n + s.size) cap') w' ∧
      w'.ownsRow B 5 1 (.slice (some ⟨g', 0, none⟩) (n + s.size) cap') (n + s.size) (xs ++ bc s.data.toList) ∧ Gr (.slice (some ⟨g, 0, none⟩) n cap) (.slice (some ⟨g', 0, none⟩) (n + s.size) cap') w w' := by
  obtain ⟨i, hi, hz, hsz, hby⟩ := info_parts info5
  have hxl : xs.length = n := by simpa using hown.1
  have hsl : (Lib.strCells s).length = s.size := Lib.strCells_length s
  have hlen : (xs ++ bc s.data.toList).length = (n + s.size) * 1 := by rw [List.length_append, hxl, bc_length, Nat.mul_one]; simp
  have hm : n + s.size ≤ maxLen := by unfold maxLen; omega
  rcases hown.2 with ⟨h, _⟩ | ⟨g0, cap0, cur, h, hbg, hg, hnc, hcm, hcs, htake⟩
  · simp at h
  · simp only [Value.slice.injEq, Option.some.injEq, Addr.mk.injEq, and_true, true_and] at h
    obtain ⟨rfl, rfl⟩ := h
    have hcs' : cur.size = cap := by simpa using hcs
    by_cases hroom : n + s.size ≤ cap
    · have hr := Lib.run_append_room_string (P := Ybad.prog) w 27 9 ty 5 i Ybad.underlying27 Ybad.underlying9 hi hsz g n cap cur hg s hroom (by omega)
      refine ⟨g, cap, _, hr, ⟨hlen, .inr ⟨g, cap, _, rfl, hbg, setRow_heap w g cur _ 5 _ hg, hroom, hcm, ?_, ?_⟩⟩, ⟨rfl, rfl, rfl, by simp, fun k _ hk => setRow_other w g k _ (fun e => hk (by simp [Value.ownBlock, e])), .inl rfl⟩⟩
      · simp only [List.size_toArray, List.length_append, List.length_take, List.length_drop, Array.length_toList, hsl]
        omega
      · have ht' : cur.toList.take n = xs := by simpa using htake
        rw [ht', ← hlen]
        exact List.take_left
    · have holds : ∀ j u, xs[j]? = some u → w.cell? ((⟨g, 0, none⟩ : Addr).add j) = some u := hown.cells (g := g) rfl
      have hr := Lib.run_append_grow_string (P := Ybad.prog) w 27 9 ty 5 i (.int .u8 0) Ybad.underlying27 Ybad.underlying9 hi hz ⟨g, 0, none⟩ n cap xs (by rw [hsz]; simpa using hxl) holds s (by omega) (by omega) (by rw [hby]; exact growslice_fits (by omega) (by omega))
      have hge := grownCap_ge w (n + s.size) cap 5
      refine ⟨_, _, _, hr, ⟨hlen, .inr ⟨w.heap.size, _, _, rfl, hB, heap_alloc_new w.drew _, hge, grownCap_le_maxLen w (n + s.size) cap 5 hm, ?_, ?_⟩⟩, ⟨rfl, rfl, rfl, by simp, fun k hk _ => Below.heap_alloc w.drew _ k hk, .inr ⟨_, rfl, Nat.le_refl _⟩⟩⟩
      · have hz1 : (Value.int IntKind.u8 0).cells.size = 1 := rfl
        simp only [Array.size_append, List.size_toArray, size_zeroCells, hz1, hxl, hsl]
        omega
      · simp only [Array.toList_append, List.append_assoc]
        rw [← List.append_assoc, ← hlen]
        exact List.take_left

theorem wpList_append_str_lies {ops : Array Oper} {rest : List Oper} {o : Oper} {a : Act} {w : World} {Q : Exit → Act → World → Prop} (hgd : o.guard = none) (sl x : Operand)
    (ho : o.op = .call { callee := .builtin .append, args := #[sl, x], argTypes := #[27, 9] })
    (B g n cap : Nat) (xs : List Value) (hs : a.eval sl = .slice (some ⟨g, 0, none⟩) n cap) (hown : w.ownsRow B 5 1 (.slice (some ⟨g, 0, none⟩) n cap) n xs) (s : ByteArray) (hx : a.eval x = .string s) (hlim : n + s.size ≤ 140737488355328) (hB : B ≤ w.heap.size)
    (h : ∀ g' cap' w', w'.ownsRow B 5 1 (.slice (some ⟨g', 0, none⟩) (n + s.size) cap') (n + s.size) (xs ++ bc s.data.toList) → Gr (.slice (some ⟨g, 0, none⟩) n cap) (.slice (some ⟨g', 0, none⟩) (n + s.size) cap') w w' →
      wpList Ybad.prog ops Q rest (a.put o.dst (.slice (some ⟨g', 0, none⟩) (n + s.size) cap')) w') : wpList Ybad.prog ops Q (o :: rest) a w := by
  refine wpList_plain hgd fun K hK => ?_
  obtain ⟨g', cap', w', hr, h2, h3⟩ := run_append_str_lies w B o.type g n cap xs hown s hlim hB
  unfold Oper.wp execOp
  simp only [ho, resolve, invoke, builtin, Sem.run_bind, Sem.run_pure, Result.andThen_ok, List.map_toArray, List.map_cons, List.map_nil, hs, hx, hr]
  exact hK _ _ (h g' cap' w' h2 h3)
end Go.Proofs.YbulkcxvaDoor
