/-
  WORDS ON MEMORY FOR THE TWO LAWS: a slice of bytes that can be read ('Rd'), a slice in memory of the call's own ('Own'). No walk.
-/
import Derived.WalkKit
import Derived.ProofKit
import Derived.Deep.Draws
namespace Go.Proofs.Qxb6613140a
open Go.RowKit

/-- the numbers as cells -/
def cellsU (zs : List Int) : List Value := zs.map (Value.int .u8)

/-- the slice value v reads as the numbers zs -/
def Rd (w : World) (v : Value) (zs : List Int) : Prop :=
  ∃ a c, v = .slice a zs.length c ∧ (a = none → zs = [] ∧ c = 0) ∧ zs.length ≤ c ∧ c ≤ maxLen ∧
    (zs ≠ [] → ∃ b off, a = some ⟨b, off, none⟩ ∧ ∀ i, i < zs.length → w.cell? ⟨b, off + i, none⟩ = some (.int .u8 (zs.getD i 0)))

/-- the slice value v lies in a row of the call's own and reads as zs -/
def Own (w : World) (v : Value) (zs : List Int) : Prop := w.ownsRow 0 5 1 v zs.length (cellsU zs)

theorem cellsU_get (zs : List Int) (j : Nat) (u : Value) (h : (cellsU zs)[j]? = some u) : j < zs.length ∧ u = .int .u8 (zs.getD j 0) := by
  unfold cellsU at h
  rw [List.getElem?_map] at h
  cases hz : zs[j]? with
  | none => rw [hz] at h; simp at h
  | some z =>
    rw [hz] at h
    simp at h
    obtain ⟨hj, e⟩ := List.getElem?_eq_some_iff.1 hz
    exact ⟨hj, by rw [← h, List.getD_eq_getElem?_getD, hz]; rfl⟩

theorem cellsU_at (zs : List Int) (j : Nat) (h : j < zs.length) : (cellsU zs)[j]? = some (.int .u8 (zs.getD j 0)) := by
  unfold cellsU
  rw [List.getElem?_map, List.getD_eq_getElem?_getD, List.getElem?_eq_getElem h]; rfl

theorem Own.rd {w : World} {v : Value} {zs : List Int} (h : Own w v zs) : Rd w v zs := by
  have h0 := h
  rcases h.2 with ⟨rfl, hn⟩ | ⟨g, cap, cur, rfl, _, hg, hnc, hcm, hcs, ht⟩
  · have : zs = [] := List.eq_nil_of_length_eq_zero hn
    subst this
    exact ⟨none, 0, rfl, fun _ => ⟨rfl, rfl⟩, Nat.le_refl _, Nat.zero_le _, fun h => absurd rfl h⟩
  · refine ⟨_, cap, rfl, fun h => by simp at h, hnc, hcm, fun _ => ⟨g, 0, rfl, fun i hi => ?_⟩⟩
    have hc := World.ownsRow.cellAt (w := w) (base := 0) (e := 5) (size := 1) h0 i (by omega)
    rw [Nat.zero_add, hc, cellsU_at zs i hi]

/-- what is read stays, where its cells stay -/
theorem Rd.kept {w w' : World} {v : Value} {zs : List Int} {row : Option Nat} (h : Rd w v zs) (hg : w.grownBy w' row) (hne : v.ownBlock = none ∨ v.ownBlock ≠ row) : Rd w' v zs := by
  obtain ⟨a, c, rfl, h1, h2, h3, h4⟩ := h
  refine ⟨a, c, rfl, h1, h2, h3, fun hz => ?_⟩
  obtain ⟨b, off, rfl, hc⟩ := h4 hz
  refine ⟨b, off, rfl, fun i hi => hg.cell (hc i hi) ?_⟩
  simpa [Value.ownBlock] using hne

theorem Rd.below {w w' : World} {v : Value} {zs : List Int} (h : Rd w v zs) (hb : Below w.heap.size w w') : Rd w' v zs := by
  obtain ⟨a, c, rfl, h1, h2, h3, h4⟩ := h
  refine ⟨a, c, rfl, h1, h2, h3, fun hz => ?_⟩
  obtain ⟨b, off, rfl, hc⟩ := h4 hz
  exact ⟨b, off, rfl, fun i hi => (hb.cell (World.block_lt_of_cell? w _ (hc i hi))).trans (hc i hi)⟩

theorem below_grown {w w' : World} (h : Below w.heap.size w w') (row : Option Nat) : w.grownBy w' row := ⟨h.os, h.tape, h.output, h.size, fun k hk _ => h.block k hk⟩

theorem Own.kept {w w' : World} {v : Value} {zs : List Int} {row : Option Nat} (h : Own w v zs) (hg : w.grownBy w' row) (hne : v.ownBlock = none ∨ v.ownBlock ≠ row) : Own w' v zs :=
  World.ownsRow.kept h hg hne

theorem Own.below {w w' : World} {v : Value} {zs : List Int} (h : Own w v zs) (hb : Below w.heap.size w w') : Own w' v zs :=
  Own.kept h (below_grown hb none) (by cases hv : v.ownBlock <;> simp)

theorem Own.lt {w : World} {v : Value} {zs : List Int} (h : Own w v zs) : ∀ k, v.ownBlock = some k → k < w.heap.size := fun k hk => (World.ownsRow.lt h k hk).2

theorem below_drewN {B : Nat} {a w : World} (h : Below B a w) (n : Nat) : Below B a (w.drewN n) := h.trans ⟨rfl, rfl, rfl, Nat.le_refl _, fun _ _ => rfl⟩

/-- from an owned row at whatever base to 'Own', and where it lies -/
theorem own_of {w : World} {base : Nat} {v : Value} {n : Nat} {zs : List Int} (h : w.ownsRow base 5 1 v n (cellsU zs)) : Own w v zs ∧ ∀ k, v.ownBlock = some k → base ≤ k := by
  have hn : zs.length = n := by have := h.1; simpa [cellsU] using this
  subst hn
  refine ⟨⟨h.1, ?_⟩, fun k hk => (World.ownsRow.lt h k hk).1⟩
  rcases h.2 with h' | ⟨g, cap, cur, r1, _, r2⟩
  · exact .inl h'
  · exact .inr ⟨g, cap, cur, r1, Nat.zero_le _, r2⟩

theorem length_cellsU (zs : List Int) : (cellsU zs).length = zs.length := by simp [cellsU]

theorem cellsU_append (a b : List Int) : cellsU (a ++ b) = cellsU a ++ cellsU b := by simp [cellsU]

/-- the block of a row that is full -/
theorem heap_of_full {w : World} {base g n : Nat} {xs : List Value} (h : w.ownsRow base 5 1 (.slice (some ⟨g, 0, none⟩) n n) n xs) : w.heap[g]? = some (.cells xs.toArray 5 (0, 0)) := by
  rcases h.2 with ⟨h', _⟩ | ⟨g', cap, cur, h', _, hg, _, _, hcs, ht⟩
  · simp at h'
  · simp only [Value.slice.injEq, Option.some.injEq, Addr.mk.injEq, and_true, true_and] at h'
    obtain ⟨rfl, rfl⟩ := h'
    rw [List.take_of_length_le (by simp; omega)] at ht
    rw [hg, ← ht]

/-- .. and back -/
theorem own_of_heap {w : World} {g n : Nat} {xs : List Value} {zs : List Int} (h : w.heap[g]? = some (.cells xs.toArray 5 (0, 0))) (hx : xs = cellsU zs) (hn : zs.length = n) (hm : n ≤ maxLen) :
    Own w (.slice (some ⟨g, 0, none⟩) n n) zs := by
  subst hx
  subst hn
  refine ⟨by simp [cellsU], .inr ⟨g, _, _, rfl, Nat.zero_le _, h, Nat.le_refl _, hm, by simp [cellsU], ?_⟩⟩
  exact List.take_of_length_le (by simp [cellsU])

end Go.Proofs.Qxb6613140a
