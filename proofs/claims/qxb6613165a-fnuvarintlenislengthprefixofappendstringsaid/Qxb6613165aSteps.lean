import Derived.Test.Qxb6613165aPut
namespace Go.Proofs.Qxb6613165a
open Go.RowKit

theorem ret_bool {a b : Bool} (h : a = b) : Ending.returned (.bool a) = .returned (.bool b) := by rw [h]

theorem below_two {w w1 w2 : World} (h : Below w.heap.size w w1) (h' : Below w1.heap.size w1 w2) : Below w.heap.size w w2 := h.trans (h'.mono h.size)

set_option maxRecDepth 100000 in
theorem steps_small (x : Nat) (w : World) (hx : W64 x) (h : x < 128) :
    Calls Try.prog 3 #[.int .u64 x] w fun e w' => e = .returned (.bool true) ∧ Below w.heap.size w w' := by
  have H1 : Hid (ulen x = 1) := ulen_small h
  go_enter Try.func3, Try.ntmps3
  go_wp2_with fail
  refine (len_any x _ hx).mono ?_
  rintro e w1 ⟨rfl, m1⟩
  rw [H1.out]
  go_wp2
  go_ret
  exact ⟨rfl, m1⟩

set_option maxRecDepth 100000 in
theorem steps_big (x : Nat) (w : World) (hx : W64 x) (h : ¬ x < 128) :
    Calls Try.prog 3 #[.int .u64 x] w fun e w' => e = .returned (.bool true) ∧ Below w.heap.size w w' := by
  have H1 : Hid (ulen x = ulen (x / 128) + 1) := ulen_big (by omega)
  have hl : ulen (x / 128) ≤ 10 := ulen_le (w64_div hx)
  have hd : ((x : Int) / 128) = ((x / 128 : Nat) : Int) := by omega
  have HD : Hid (((x : Int) / 128) = ((x / 128 : Nat) : Int)) := hd
  clear hd
  go_enter Try.func3, Try.ntmps3
  go_wp2_with fail
  refine (len_any x _ hx).mono ?_
  rintro e w1 ⟨rfl, m1⟩
  go_wp2_with fail
  rw [HD.out]
  refine (len_any (x / 128) _ (w64_div hx)).mono ?_
  rintro e w2 ⟨rfl, m2⟩
  go_wp2
  go_ret
  exact ⟨ret_bool (by have := H1.out; simp; omega), below_two m1 m2⟩

/-- the law, at every word -/
theorem steps_any (x : Nat) (w : World) (hx : W64 x) :
    Calls Try.prog 3 #[.int .u64 x] w fun e w' => e = .returned (.bool true) ∧ Below w.heap.size w w' := by
  by_cases h : x < 128
  · exact steps_small x w hx h
  · exact steps_big x w hx h

end Go.Proofs.Qxb6613165a
