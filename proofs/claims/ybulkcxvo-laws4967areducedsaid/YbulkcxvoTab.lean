/-
  A table of rows, each row in a block of its own.
-/
import Derived.Test.YbulkcxvoPuts
import Derived.Test.YbulkcxvoBfs
namespace Go.Proofs.Ybulkcxvo
open Go.RowKit

theorem sr_set (n : Nat) (F : Nat → Value) (x : Nat) (v : Value) : (sr n F).setIfInBounds x v = sr n (upd F x v) := by
  apply Array.ext_getElem?
  intro j
  rw [Array.getElem?_setIfInBounds]
  by_cases e : x = j
  · subst e
    by_cases hi : x < n
    · simp [sr, hi, upd_same]
    · simp [sr, hi]
  · simp only [e, if_false]
    by_cases hj : j < n
    · simp [sr, hj, upd_ne F v (fun x => e x.symm)]
    · simp [sr, hj]
structure Tb (w : World) (b B m : Nat) (V : Nat → Value) (L : Nat → List Nat) : Prop where
  tab : w.heap[b]? = some (.cells (sr m V) 34 (0, 0))
  own : ∀ x, x < m → w.ownsRow B 3 1 (V x) (L x).length (ic (L x))
  dis : ∀ x y, x < m → y < m → x ≠ y → ∀ g, (V x).ownBlock = some g → (V y).ownBlock ≠ some g
  lb : b < B
section
variable {w W : World} {b B m : Nat} {V : Nat → Value} {L : Nat → List Nat}
theorem Tb.keep (h : Tb w b B m V L) (hk : ∀ c, (c = b ∨ B ≤ c) → c < w.heap.size → W.heap[c]? = w.heap[c]?) : Tb W b B m V L :=
  ⟨(hk b (.inl rfl) (lt_of_block h.tab)).trans h.tab, fun x hx => own_keep (h.own x hx) (fun g e => have := own_ge (h.own x hx) g e; hk g (.inr this.1) this.2), h.dis, h.lb⟩
theorem Tb.cell (h : Tb w b B m V L) {x : Nat} (hx : x < m) : w.cell? ⟨b, x, none⟩ = some (V x) ∧ w.frozen? ⟨b, x, none⟩ = false := by
  refine ⟨?_, frozen_of_row _ _ _ _ _ h.tab⟩
  rw [cell_of_row _ _ _ _ _ _ h.tab]
  simp [sr, hx]
/-- One row turned, its slot too. -/
theorem Tb.turn (h : Tb w b B m V L) {x : Nat} {v' : Value} {l : List Nat} (hx : x < m) (hk : ∀ c, c < w.heap.size → (V x).ownBlock ≠ some c → W.heap[c]? = w.heap[c]?) (ho : W.ownsRow B 3 1 v' l.length (ic l))
    (hat : v'.ownBlock = (V x).ownBlock ∨ ∀ g, v'.ownBlock = some g → w.heap.size ≤ g) : Tb (W.setCell ⟨b, x, none⟩ v') b B m (upd V x v') (upd L x l) := by
  have hlb := h.lb
  have hbs := lt_of_block h.tab
  have hvx := own_ge (h.own x hx)
  have k1 : ∀ c, c ≠ b → (W.setCell ⟨b, x, none⟩ v').heap[c]? = W.heap[c]? := fun c hc => heap_setCell_other _ _ _ _ hc
  have hbW : W.heap[b]? = some (.cells (sr m V) 34 (0, 0)) := (hk b hbs (fun e => by have := (hvx b e).1; omega)).trans h.tab
  refine ⟨by rw [heap_setCell_same _ _ _ _ _ _ hbW, sr_set], fun y hy => ?_, fun y z hy hz hne g hg => ?_, hlb⟩
  · by_cases e : y = x
    · subst e
      rw [upd_same, upd_same]
      exact own_keep ho (fun g e => k1 g (by have := (own_ge ho g e).1; omega))
    · rw [upd_ne _ _ e, upd_ne _ _ e]
      refine own_keep (h.own y hy) (fun g e' => ?_)
      have hg := own_ge (h.own y hy) g e'
      rw [k1 g (by omega)]
      exact hk g hg.2 (fun e'' => h.dis y x hy hx e g e' e'')
  · by_cases e1 : y = x
    · subst e1
      rw [upd_same] at hg
      have hzx : z ≠ y := fun e => hne e.symm
      rw [upd_ne _ _ hzx]
      intro e2
      rcases hat with ha | ha
      · exact h.dis z y hz hy hzx g e2 (by rw [← ha]; exact hg)
      · have := ha g hg; have := (own_ge (h.own z hz) g e2).2; omega
    · rw [upd_ne _ _ e1] at hg
      by_cases e2 : z = x
      · subst e2
        rw [upd_same]
        intro e3
        rcases hat with ha | ha
        · exact h.dis y z hy hz hne g hg (by rw [← ha]; exact e3)
        · have := ha g e3; have := (own_ge (h.own y hy) g hg).2; omega
      · rw [upd_ne _ _ e2]
        exact h.dis y z hy hz hne g hg
theorem Tb.push {x u : Nat} {v' : Value} (h : Tb w b B m V L) (hx : x < m) (hg : Gx (V x) v' w W) (ho : W.ownsRow B 3 1 v' (L x ++ [u]).length (ic (L x ++ [u]))) : Tb (W.setCell ⟨b, x, none⟩ v') b B m (upd V x v') (upd L x (L x ++ [u])) :=
  h.turn hx hg.block ho hg.at_
theorem Tb.cut {x cap : Nat} {ao : Option Addr} (h : Tb w b B m V L) (hx : x < m) (hv : V x = .slice ao (L x).length cap) : Tb (w.setCell ⟨b, x, none⟩ (.slice ao 0 cap)) b B m (upd V x (.slice ao 0 cap)) (upd L x []) := by
  have ho := h.own x hx
  refine h.turn (l := []) hx (fun _ _ _ => rfl) ?_ (.inl ?_)
  · rw [hv] at ho
    obtain ⟨o1, o2⟩ := ho
    refine ⟨rfl, ?_⟩
    rcases o2 with ⟨o2, _⟩ | ⟨g, cap', cu, ev, hB, hh, h1, h2, h3, h4⟩
    · simp only [Value.slice.injEq] at o2
      obtain ⟨rfl, _, rfl⟩ := o2
      exact .inl ⟨rfl, rfl⟩
    · cases ev
      exact .inr ⟨g, cap, cu, rfl, hB, hh, Nat.zero_le _, h2, h3, by simp; rfl⟩
  · rw [hv]
    cases ao with
    | none => rfl
    | some a => rfl
end
theorem info34 : (Yba.prog.info? 34).map (fun i => (i.zero, i.size, i.bytes)) = some (some (.slice none 0 0), 1, 24) := by kernel_rfl
theorem make71 (n : Nat) (hn : n ≤ 1000000) (w : World) : (Instr.makeSlice 71 (.int .i64 (n : Int)) (.int .i64 (n : Int))).run Yba.prog w = .ok (.slice (some ⟨w.heap.size, 0, none⟩) n n) (w.alloc (.cells (sr n fun _ => .slice none 0 0) 34)) := by
  obtain ⟨i, hi, hz, hs, hb⟩ := info_parts info34
  have := run_make (P := Yba.prog) w 71 34 i _ Yba.underlying71 hi hz .i64 .i64 n n (by omega) (Int.le_refl _) (by rw [hb]; omega) (by omega)
  rw [hs, Nat.mul_one] at this
  rw [← made_sr]
  exact this
theorem Tb.new (w : World) (m B : Nat) (hB : w.heap.size < B) : Tb (w.alloc (.cells (sr m fun _ => .slice none 0 0) 34)) w.heap.size B m (fun _ => .slice none 0 0) (fun _ => []) :=
  ⟨heap_alloc_new w _, fun _ _ => World.ownsRow_nil _ _ _ _, (fun _ _ _ _ _ g e => by simp [Value.ownBlock] at e), hB⟩
end Go.Proofs.Ybulkcxvo
