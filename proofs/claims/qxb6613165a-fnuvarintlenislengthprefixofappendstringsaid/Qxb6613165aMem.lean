/-
  WORDS ON MEMORY FOR THE LAW: a slice of bytes that can be read ('Rd'), a slice in memory of the call's own ('Own'). No walk.
-/
import Derived.WalkKit
import Derived.ProofKit
import Derived.Deep.Draws
namespace Go.Proofs.Qxb6613165a
open Go.RowKit

/-- the numbers as cells -/
def cellsU (zs : List Int) : List Value := zs.map (Value.int .u8)

/-- the slice value v reads as the numbers zs -/
def Rd (w : World) (v : Value) (zs : List Int) : Prop :=
  ∃ a c, v = .slice a zs.length c ∧ (a = none → zs = [] ∧ c = 0) ∧ zs.length ≤ c ∧ c ≤ maxLen ∧
    (zs ≠ [] → ∃ b off, a = some ⟨b, off, none⟩ ∧ ∀ i, i < zs.length → w.cell? ⟨b, off + i, none⟩ = some (.int .u8 (zs.getD i 0)))

/-- the slice value v lies in a row of the call's own (from block B on) and reads as zs -/
def Own (B : Nat) (w : World) (v : Value) (zs : List Int) : Prop := w.ownsRow B 5 1 v zs.length (cellsU zs)

theorem cellsU_get (zs : List Int) (j : Nat) (u : Value) (h : (cellsU zs)[j]? = some u) : j < zs.length ∧ u = .int .u8 (zs.getD j 0) := by
  unfold cellsU at h
  rw [List.getElem?_map] at h
  cases hz : zs[j]? with
  | none => rw [hz] at h; simp at h
  | some z =>
    rw [hz] at h
    simp at h
    obtain ⟨hj, e⟩ := List.getElem?_eq_some_iff.1 hz
    exact ⟨hj, by rw [← h, List.getD_eq_getElem?_getD, hz]; rfl⟩

theorem cellsU_at (zs : List Int) (j : Nat) (h : j < zs.length) : (cellsU zs)[j]? = some (.int .u8 (zs.getD j 0)) := by
  unfold cellsU
  rw [List.getElem?_map, List.getD_eq_getElem?_getD, List.getElem?_eq_getElem h]; rfl

theorem Rd.below {w w' : World} {v : Value} {zs : List Int} (h : Rd w v zs) (hb : Below w.heap.size w w') : Rd w' v zs := by
  obtain ⟨a, c, rfl, h1, h2, h3, h4⟩ := h
  refine ⟨a, c, rfl, h1, h2, h3, fun hz => ?_⟩
  obtain ⟨b, off, rfl, hc⟩ := h4 hz
  exact ⟨b, off, rfl, fun i hi => (hb.cell (World.block_lt_of_cell? w _ (hc i hi))).trans (hc i hi)⟩

theorem below_grown {w w' : World} (h : Below w.heap.size w w') (row : Option Nat) : w.grownBy w' row := ⟨h.os, h.tape, h.output, h.size, fun k hk _ => h.block k hk⟩

theorem Own.below {B : Nat} {w w' : World} {v : Value} {zs : List Int} (h : Own B w v zs) (hb : Below w.heap.size w w') : Own B w' v zs :=
  World.ownsRow.kept h (below_grown hb none) (by cases hv : v.ownBlock <;> simp)

theorem own_of {B : Nat} {w : World} {v : Value} {n : Nat} {zs : List Int} (h : w.ownsRow B 5 1 v n (cellsU zs)) : Own B w v zs := by
  have hn : zs.length = n := by have := h.1; simpa [cellsU] using this
  subst hn
  exact h

theorem below_drewN {B : Nat} {a w : World} (h : Below B a w) (n : Nat) : Below B a (w.drewN n) := h.trans ⟨rfl, rfl, rfl, Nat.le_refl _, fun _ _ => rfl⟩

theorem length_cellsU (zs : List Int) : (cellsU zs).length = zs.length := by simp [cellsU]

theorem cellsU_append (a b : List Int) : cellsU (a ++ b) = cellsU a ++ cellsU b := by simp [cellsU]

/-- a row of the call's own that holds something: the value written out, and its cells -/
theorem Own.form {B : Nat} {w : World} {v : Value} {zs : List Int} (h : Own B w v zs) (hne : 0 < zs.length) : ∃ g cap, v = .slice (some ⟨g, 0, none⟩) zs.length cap ∧ zs.length ≤ cap ∧ cap ≤ maxLen ∧
    ∀ i, i < zs.length → w.cell? ⟨g, i, none⟩ = some (.int .u8 (zs.getD i 0)) := by
  have h0 := h
  rcases h.2 with ⟨rfl, hn⟩ | ⟨g, cap, cur, rfl, _, hg, hnc, hcm, hcs, ht⟩
  · omega
  · refine ⟨g, cap, rfl, hnc, hcm, fun i hi => ?_⟩
    have hc := World.ownsRow.cellAt (w := w) (base := B) (e := 5) (size := 1) h0 i (by omega)
    rw [hc, cellsU_at zs i hi]

/-- a slice that came in can be read -/
theorem rd_of_row {w : World} {a : Option Addr} {len cap : Nat} {zs : List Int}
    (h : (a = none ∧ len = 0 ∧ cap = 0 ∧ zs = []) ∨ ∃ x, a = some x ∧ len ≤ cap ∧ cap ≤ maxLen ∧ zs.length = cap ∧ (∀ i, i < zs.length → w.cell? (x.add i) = some (.int .u8 (zs.getD i 0))) ∧ ∀ n ∈ zs, (Lit.int .u8 n).wf = true) :
    Rd w (.slice a len cap) (zs.take len) ∧ (zs.take len).length = len ∧ len ≤ maxLen := by
  rcases h with ⟨rfl, rfl, rfl, rfl⟩ | ⟨x, rfl, hlc, hcm, hz, hc, _⟩
  · exact ⟨⟨none, 0, rfl, fun _ => ⟨rfl, rfl⟩, Nat.le_refl _, Nat.zero_le _, fun h => absurd rfl h⟩, rfl, Nat.zero_le _⟩
  · have hl : (zs.take len).length = len := by rw [List.length_take]; omega
    refine ⟨⟨some x, cap, by rw [hl], fun h => by simp at h, by omega, hcm, fun hne => ?_⟩, hl, by omega⟩
    have hpos : 0 < len := by
      rcases Nat.eq_zero_or_pos len with e | e
      · subst e; simp at hne
      · exact e
    obtain ⟨b, off, spot⟩ := x
    have hspot : spot = none := by simpa [Addr.add] using World.cell?_spot (hc 0 (by omega))
    subst hspot
    refine ⟨b, off, rfl, fun i hi => ?_⟩
    have := hc i (by omega)
    rw [Addr.add_lit] at this
    rw [this, List.getD_eq_getElem?_getD, List.getD_eq_getElem?_getD, List.getElem?_take, if_pos (by omega)]

end Go.Proofs.Qxb6613165a
