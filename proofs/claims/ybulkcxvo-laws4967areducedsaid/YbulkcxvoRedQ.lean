/-
  LawS4967AReduced, behind the model's loop: newGraph's rows against the model's table.
-/
import Derived.Test.YbulkcxvoStepPush
import Derived.Test.YbulkcxvoNew
import Derived.Test.YbulkcxvoEqs
namespace Go.Proofs.Ybulkcxvo
open Go.RowKit

structure Tl (w5 : World) (T nn ab vb t : Nat) (at_ val : Nat → Nat) : Prop where
  ra : IR w5 ab (nn + 1) at_
  rv : IR w5 vb t val
  a0 : at_ 0 = 0
  an : at_ nn = t
  mono : ∀ a, a < nn → at_ a ≤ at_ (a + 1) ∧ at_ (a + 1) ≤ t
  tle : t ≤ 262656
  row : ∀ a, a < nn → ∃ vo vc, w5.cell? ⟨T, a, none⟩ = some (.slice vo (at_ (a + 1) - at_ a) vc) ∧ Ints w5 vo (at_ (a + 1) - at_ a) (fun i => (val (at_ a + i) : Int))
theorem tl_of {w3 w4 w5 : World} {T nn pg nb rkb ab vb n I m : Nat} {so : Option Addr} {sc : Nat} {nm : Nat → ByteArray} {E P : Nat → Nat} {L : List (Nat × Nat)} {V : Nat → Value} (hms : Ms w3 w4 T nn V L) (hg : Gn w4 w5 pg nb rkb ab vb n I m so sc nm E P L) (hnn : nn = (kept E P n).length) (hlen : L.length ≤ 262656) (hlt : ∀ e ∈ L, e.1 < nn ∧ e.2 < nn) (hall : atF nn (frL L) L.length nn = L.length) :
    Tl w5 T nn ab vb L.length (atF nn (frL L) L.length) (valF nn (frL L) (toL L) L.length L.length) := by
  subst hnn
  refine ⟨hg.at_, hg.val, rfl, hall, fun a ha => ⟨at_mono _ _ _ (by omega), ?_⟩, hlen, fun a ha => ?_⟩
  · have := at_mono (kept E P n).length L.length (frL L) (i := a + 1) (j := (kept E P n).length) (by omega)
    omega
  · have h5 := hms.keep hg.bel
    have ho := h5.tb.own a ha
    obtain ⟨vo, vc, hV⟩ := own_val ho
    have hc := (h5.tb.cell ha).1
    obtain ⟨r1, r2⟩ := row_is hlt ha
    rw [hV] at ho hc
    rw [← r1]
    refine ⟨vo, vc, hc, fun h0 => ?_⟩
    obtain ⟨g, c, cu, e, _, hh, _⟩ := own_is ho h0
    cases e
    refine ⟨g, 0, rfl, lt_of_block hh, fun i hi => ?_⟩
    rw [Nat.zero_add]
    exact (own_cell ho (by simp [ic, r2 i hi])).1
/-- A part of the values' row. -/
theorem Tl.part {w5 : World} {T nn ab vb t : Nat} {at_ val : Nat → Nat} (h : Tl w5 T nn ab vb t at_ val) {a : Nat} (ha : a < nn) : Ints w5 (some ⟨vb, at_ a, none⟩) (at_ (a + 1) - at_ a) (fun i => (val (at_ a + i) : Int)) := by
  intro _
  have hm := h.mono a ha
  exact ⟨vb, at_ a, rfl, h.rv.lt, fun i hi => h.rv.cell (by omega)⟩
/-- slices.Equal of the two: the values' part may lie at the row's start where it is empty. -/
theorem Tl.eq {w5 : World} {T nn ab vb t : Nat} {at_ val : Nat → Nat} (h : Tl w5 T nn ab vb t at_ val) {a : Nat} (ha : a < nn) {vo : Option Addr} (hi : Ints w5 vo (at_ (a + 1) - at_ a) (fun i => (val (at_ a + i) : Int))) (o ca cb j : Nat) (ho : at_ a < at_ (a + 1) → o = at_ a) : Calls Yba.prog 12 #[.slice (some ⟨vb, o, none⟩) (at_ (a + 1) - at_ a) ca, .slice vo (at_ (a + 1) - at_ a) cb] (w5.drewN j) fun e w' => e = .returned (.bool true) ∧ ∃ m, w' = (w5.drewN j).drewN m := by
  have hm := h.mono a ha
  have hb : Below w5.heap.size w5 (w5.drewN j) := ⟨rfl, rfl, rfl, Nat.le_refl _, fun _ _ => rfl⟩
  refine eq_cells _ _ _ ca cb (fun i => (val (at_ a + i) : Int)) _ (by have := h.tle; omega) (fun h0 => ?_) (hi.keep hb)
  have e := ho (by omega)
  subst e
  exact (h.part ha).keep hb h0
theorem Tl.eqIf {w5 : World} {T nn ab vb t : Nat} {at_ val : Nat → Nat} (h : Tl w5 T nn ab vb t at_ val) {a : Nat} (ha : a < nn) {vo : Option Addr} (hi : Ints w5 vo (at_ (a + 1) - at_ a) (fun i => (val (at_ a + i) : Int))) (cb q j : Nat) : Calls Yba.prog 12 #[.slice (if t = at_ a then some ⟨vb, 0, none⟩ else some ⟨vb, at_ a, none⟩) (at_ (a + 1) - at_ a) (t - at_ a), .slice vo (at_ (a + 1) - at_ a) cb] (w5.drewN (q + j)) fun e w' => e = .returned (.bool true) ∧ ∃ k, w' = w5.drewN (q + k) := by
  have hm := h.mono a ha
  have key : ∀ o, (at_ a < at_ (a + 1) → o = at_ a) → Calls Yba.prog 12 #[.slice (some ⟨vb, o, none⟩) (at_ (a + 1) - at_ a) (t - at_ a), .slice vo (at_ (a + 1) - at_ a) cb] (w5.drewN (q + j)) fun e w' => e = .returned (.bool true) ∧ ∃ k, w' = w5.drewN (q + k) := by
    intro o ho
    refine (h.eq ha hi o (t - at_ a) cb (q + j) ho).mono ?_
    rintro e w' ⟨he, k, hk⟩
    exact ⟨he, j + k, by rw [hk, World.drewN_drewN, Nat.add_assoc]⟩
  split
  · exact key 0 (fun h1 => by omega)
  · exact key (at_ a) (fun _ => rfl)
/-- The bound of a row, in the midst of the reads' loop. -/
theorem row_bound {A : Nat → Ac} {N j s : Nat} {D X : List (Nat × Nat)} {rs : List Nat} {t : Nat} (hu : ∀ i, i < j + 1 → (A i).u < N) (hj : j + 1 ≤ 512) (hR : (RS A (j + 1)).ed = X ++ emitR rs t) (hD : D = X ++ emitR (rs.take s) t) (a : Nat) : (toRow D a).length ≤ 300000 := by
  have h1 := rs_len hu hj
  have h2 := toRow_le D a
  rw [hR, List.length_append] at h1
  have h3 : (emitR (rs.take s) t).length ≤ (emitR rs t).length := by
    unfold emitR
    rw [List.length_map, List.length_map]
    exact ((List.take_sublist s rs).filter _).length_le
  rw [hD] at h2 ⊢
  rw [List.length_append] at h2
  omega
end Go.Proofs.Ybulkcxvo
