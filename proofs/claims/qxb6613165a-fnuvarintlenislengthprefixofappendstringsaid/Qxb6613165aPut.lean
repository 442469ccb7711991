import Derived.Test.Qxb6613165aRows
import Derived.WalkKit
import Derived.ProofKit
import Derived.Lib.Varint
namespace Go.Proofs.Qxb6613165a
open Go.RowKit

/-- how many bytes the varint of x takes -/
def ulen (x : Nat) : Nat := (Lib.uvarint x).length

theorem ulen_small {x : Nat} (h : x < 128) : ulen x = 1 := by unfold ulen; rw [Lib.uvarint_small h]; rfl
theorem ulen_big {x : Nat} (h : 128 ≤ x) : ulen x = ulen (x / 128) + 1 := by unfold ulen; rw [Lib.uvarint_big h]; rfl
theorem ulen_pos (x : Nat) : 1 ≤ ulen x := Lib.uvarint_pos x
theorem ulen_le {x : Nat} (h : x < 18446744073709551616) : ulen x ≤ 10 := Lib.uvarint_length64 h

/-- a word of 64 bits (the numeral behind a name) -/
def W64 (x : Nat) : Prop := x < 18446744073709551616

theorem w64_div {x : Nat} (h : W64 x) : W64 (x / 128) := by unfold W64 at *; omega

/-- ten cells that may be written -/
def Buf (g : Nat) (w : World) : Prop := ∀ j, j < 10 → (∃ u, w.cell? ⟨g, j, none⟩ = some u) ∧ w.frozen? ⟨g, j, none⟩ = false

theorem ret_int {k : IntKind} {a b : Int} (h : a = b) : Ending.returned (.int k a) = .returned (.int k b) := by rw [h]

theorem buf_setCell {g : Nat} {w : World} (h : Buf g w) (k : Nat) (v : Value) : Buf g (w.setCell ⟨g, k, none⟩ v) := by
  intro j hj
  obtain ⟨⟨u, hu⟩, hf⟩ := h j hj
  refine ⟨?_, by rw [World.frozen?_setCell]; exact hf⟩
  by_cases e : k = j
  · subst e; exact ⟨v, World.cell?_setCell_same _ _ _ hu⟩
  · exact ⟨u, (World.cell?_setCell_other _ _ _ _ (fun h => e (by injection h))).trans hu⟩

theorem grown_setCell {w0 w : World} {g : Nat} (h : w0.grownBy w (some g)) (j : Nat) (v : Value) : w0.grownBy (w.setCell ⟨g, j, none⟩ v) (some g) :=
  ⟨h.os, h.tape, h.output, by have := h.size; simpa [World.setCell] using this, fun k hk hne => by
    rw [Below.heap_setCell _ _ _ _ (by intro e; exact hne (by rw [e]))]
    exact h.block k hk hne⟩

set_option maxHeartbeats 400000 in
set_option maxRecDepth 100000 in
theorem put_any (g x : Nat) (w : World) (hx : W64 x) (hbuf : Buf g w) :
    Calls Try.prog 11 #[.slice (some ⟨g, 0, none⟩) 10 10, .int .u64 x] w fun e w' => e = .returned (.int .i64 (ulen x)) ∧ w.grownBy w' (some g) := by
  have hL := ulen_le hx
  go_enter Try.func11, Try.ntmps11
  go_wp2
  go_loopw [1, 5] (fun v i wr => ∃ k y : Nat, i = .int .i64 k ∧ v = .int .u64 y ∧ W64 y ∧ k + ulen y ≤ ulen x ∧ ulen x ≤ k + ulen y ∧ Buf g wr ∧ w.grownBy wr (some g)) (fun v _ _ => (intOf v).toNat)
  case atStart => exact ⟨0, x, rfl, rfl, hx, by omega, by omega, hbuf, World.grownBy.refl _ _⟩
  case round =>
    obtain ⟨k, y, rfl, rfl, hy, h1, h2, hb, hg⟩ := hrel
    have hp := ulen_pos y
    obtain ⟨⟨u, hu⟩, hf⟩ := hb k (by omega)
    by_cases hlt : y < 128
    · have HS : Hid (ulen y = 1) := ulen_small hlt
      go_wp2
      go_ret
      exact ⟨ret_int (by have := HS.out; omega), grown_setCell hg _ _⟩
    · have HK : Hid (ulen y = ulen (y / 128) + 1) := ulen_big (x := y) (by omega)
      go_wp2
      go_roundw
      case rel => exact ⟨k + 1, y / 128, by go_num, by go_num, w64_div hy, by have := HK.out; omega, by have := HK.out; omega, buf_setCell hb _ _, grown_setCell hg _ _⟩
      case measure => simp [intOf]; omega

theorem buf_new (w : World) (c : Array Value) (t : TypeId) (h : c.size = 10) : Buf w.heap.size (w.alloc (.cells c t)) := by
  intro j hj
  refine ⟨⟨c[j], ?_⟩, World.frozen?_alloc_at c t _ j rfl⟩
  rw [World.cell?_alloc_at c t _ j rfl]
  exact Array.getElem?_eq_getElem (by omega)

/-- ZZuvarintLen: the number of bytes; of what was there nothing has turned -/
theorem len_any (x : Nat) (w : World) (hx : W64 x) :
    Calls Try.prog 5 #[.int .u64 x] w fun e w' => e = .returned (.int .i64 (ulen x)) ∧ Below w.heap.size w w' := by
  go_enter Try.func5, Try.ntmps5
  go_wp2_with ((first | go_at_call 9); go_in)
  refine (put_any _ x _ hx (buf_new w _ 31 rfl)).mono ?_
  rintro e w1 ⟨rfl, hg⟩
  go_wp2
  go_ret
  exact ⟨rfl, ((Below.refl _ w).alloc (Nat.le_refl _) _).grown hg (by simp) (fun k hk => by simp at hk; omega)⟩

end Go.Proofs.Qxb6613165a
