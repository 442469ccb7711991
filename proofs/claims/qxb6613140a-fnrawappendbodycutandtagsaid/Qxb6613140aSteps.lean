import Derived.Test.Qxb6613140aAppend
import Derived.Test.Qxb6613140aEqual
namespace Go.Proofs.Qxb6613140a
open Go.RowKit

/-- the value's row, if it has one, lies at block B or behind -/
def From (v : Value) (B : Nat) : Prop := ∀ k, v.ownBlock = some k → B ≤ k

/-- the two values' rows are two -/
def Sep (v u : Value) : Prop := ∀ k, v.ownBlock = some k → u.ownBlock ≠ some k

theorem Sep.ne {v u : Value} (h : Sep v u) : v.ownBlock = none ∨ v.ownBlock ≠ u.ownBlock := by
  cases hv : v.ownBlock with
  | none => exact .inl rfl
  | some k => exact .inr fun e => h k hv e.symm

theorem Sep.symm {v u : Value} (h : Sep v u) : Sep u v := fun k hk hv => h k hv hk

/-- what a row that is made leaves: the new value, its row behind all that was there -/
theorem made_sep {w : World} {v u : Value} {zs : List Int} (hv : From v w.heap.size) (hu : Own w u zs) : Sep v u := fun k hk hu' => by
  have := hv k hk
  have := hu.lt k hu'
  omega

theorem made_from {B : Nat} {w0 w : World} {v : Value} (hb : Below B w0 w) (hB : B ≤ w0.heap.size) (hv : From v w.heap.size) : From v B := fun k hk => by
  have := hv k hk
  have := hb.size
  omega

theorem made_below {B : Nat} {w0 w w' : World} (hb : Below B w0 w) (hB : B ≤ w0.heap.size) (h : Below w.heap.size w w') : Below B w0 w' :=
  hb.trans (h.mono (by have := hb.size; omega))

theorem apd_below {B : Nat} {w0 w w' : World} {v : Value} (hb : Below B w0 w) (hB : B ≤ w0.heap.size) (hv : From v B) (hg : w.grownBy w' v.ownBlock) : Below B w0 w' :=
  hb.grown hg (by have := hb.size; omega) hv

theorem apd_from {B : Nat} {w0 w : World} {v v' : Value} (hb : Below B w0 w) (hB : B ≤ w0.heap.size) (hv : From v B) (h : v'.ownBlock = v.ownBlock ∨ ∀ k, v'.ownBlock = some k → w.heap.size ≤ k) : From v' B := fun k hk => by
  rcases h with h | h
  · exact hv k (by rw [← h]; exact hk)
  · have := h k hk
    have := hb.size
    omega

theorem apd_sep {w : World} {v v' u : Value} {zs : List Int} (hs : Sep v u) (hu : Own w u zs) (h : v'.ownBlock = v.ownBlock ∨ ∀ k, v'.ownBlock = some k → w.heap.size ≤ k) : Sep v' u := fun k hk hu' => by
  rcases h with h | h
  · exact hs k (by rw [← h]; exact hk) hu'
  · have := h k hk
    have := hu.lt k hu'
    omega

theorem Own.alloc {w : World} {v : Value} {zs : List Int} (h : Own w v zs) (o : Obj) : Own (w.alloc o) v zs := World.ownsRow.alloc h o

theorem Own.drewN {w : World} {v : Value} {zs : List Int} (h : Own w v zs) (n : Nat) : Own (w.drewN n) v zs := h

theorem Rd.alloc {w : World} {v : Value} {zs : List Int} (h : Rd w v zs) (o : Obj) : Rd (w.alloc o) v zs :=
  h.below ((Below.refl _ _).alloc (Nat.le_refl _) o)

theorem Rd.drewN {w : World} {v : Value} {zs : List Int} (h : Rd w v zs) (n : Nat) : Rd (w.drewN n) v zs := h

/-- an argument, read in a later world -/
theorem Rd.later {w w' : World} {v : Value} {zs : List Int} (h : Rd w v zs) (hb : Below w.heap.size w w') : Rd w' v zs := h.below hb

theorem cell_box (w : World) (u v : Value) (t : TypeId) : (w.alloc (.cells #[u, v] t)).cell? ⟨w.heap.size, 1, none⟩ = some v := by
  simp

/-- 'Made' with the slice written out -/
def MadeS (w : World) (zs : List Int) (e : Ending) (w' : World) : Prop :=
  ∃ a n c, e = .returned (.slice a n c) ∧ Own w' (.slice a n c) zs ∧ From (.slice a n c) w.heap.size ∧ Below w.heap.size w w'

theorem made_slice {w w' : World} {zs : List Int} {e : Ending} (h : Made w zs e w') : MadeS w zs e w' := by
  obtain ⟨v, rfl, ho, hf, hb⟩ := h
  have ho' := ho
  rcases ho'.2 with ⟨rfl, _⟩ | ⟨g, cap, cur, rfl, _⟩
  · exact ⟨_, _, _, rfl, ho, hf, hb⟩
  · exact ⟨_, _, _, rfl, ho, hf, hb⟩

/-- a slice that came in can be read -/
theorem rd_of_row {w : World} {a : Option Addr} {len cap : Nat} {zs : List Int}
    (h : (a = none ∧ len = 0 ∧ cap = 0 ∧ zs = []) ∨ ∃ x, a = some x ∧ len ≤ cap ∧ cap ≤ maxLen ∧ zs.length = cap ∧ (∀ i, i < zs.length → w.cell? (x.add i) = some (.int .u8 (zs.getD i 0))) ∧ ∀ n ∈ zs, (Lit.int .u8 n).wf = true) :
    Rd w (.slice a len cap) (zs.take len) ∧ (zs.take len).length = len ∧ len ≤ maxLen := by
  rcases h with ⟨rfl, rfl, rfl, rfl⟩ | ⟨x, rfl, hlc, hcm, hz, hc, _⟩
  · exact ⟨⟨none, 0, rfl, fun _ => ⟨rfl, rfl⟩, Nat.le_refl _, Nat.zero_le _, fun h => absurd rfl h⟩, rfl, Nat.zero_le _⟩
  · have hl : (zs.take len).length = len := by rw [List.length_take]; omega
    refine ⟨⟨some x, cap, by rw [hl], fun h => by simp at h, by omega, hcm, fun hne => ?_⟩, hl, by omega⟩
    have hpos : 0 < len := by
      rcases Nat.eq_zero_or_pos len with e | e
      · subst e; simp at hne
      · exact e
    obtain ⟨b, off, spot⟩ := x
    have hspot : spot = none := by simpa [Addr.add] using World.cell?_spot (hc 0 (by omega))
    subst hspot
    refine ⟨b, off, rfl, fun i hi => ?_⟩
    have := hc i (by omega)
    rw [Addr.add_lit] at this
    rw [this, List.getD_eq_getElem?_getD, List.getD_eq_getElem?_getD, List.getElem?_take, if_pos (by omega)]

/-- what the guard on the sizes answers: some bool; the world stands -/
def Some1 (w : World) (e : Ending) (w' : World) : Prop := (∃ b : Bool, e = .returned (.bool b)) ∧ w' = w

end Go.Proofs.Qxb6613140a
