import Derived.Test.Qxb6613148aZero
namespace Go.Proofs.Qxb6613148a
open Go.RowKit

theorem law_big (r a b : Int) (w : World) (h : 65536 < r) :
    Calls Try.prog 3 #[.int .i64 r, .int .u64 a, .int .u64 b] w fun e w' => e = .returned (.bool true) ∧ Below w.heap.size w w' := by
  go_enter Try.func3, Try.ntmps3
  go_wp2
  go_ret
  exact ⟨rfl, Below.refl _ _⟩

theorem law_odd (r a b : Int) (w : World) (h : r ≤ 65536) (h0 : 0 < r) (hr : (r % 2 != 0) = true) :
    Calls Try.prog 3 #[.int .i64 r, .int .u64 a, .int .u64 b] w fun e w' => e = .returned (.bool true) ∧ Below w.heap.size w w' := by
  go_enter Try.func3, Try.ntmps3
  go_wp2
  go_ret
  exact ⟨rfl, Below.refl _ _⟩

theorem below_two {w w1 w2 : World} (h : Below w.heap.size w w1) (h' : Below w1.heap.size w1 w2) : Below w.heap.size w w2 := h.trans (h'.mono h.size)

theorem law_neg (r a b v : Int) (w : World) (h : r ≤ 0)
    (H4 : Hid (Calls Try.prog 4 #[.int .i64 r, .int .u64 a, .int .u64 b] w fun e w' => e = .returned (.tuple #[.bool true, .int .i64 0, .int .i64 0, .int .i64 0, .bool false, .bool false, .bool false, .int .u64 v]) ∧ Below w.heap.size w w'))
    (H5 : Hid (∀ w : World, Calls Try.prog 5 #[.int .u64 a, .int .u64 b] w fun e w' => e = .returned (.int .u64 v) ∧ Below w.heap.size w w')) :
    Calls Try.prog 3 #[.int .i64 r, .int .u64 a, .int .u64 b] w fun e w' => e = .returned (.bool true) ∧ Below w.heap.size w w' := by
  have hd : decide (0 < r) = false := by simp; omega
  go_enter Try.func3, Try.ntmps3
  go_wp2_with fail
  refine H4.out.mono ?_
  rintro e w1 ⟨rfl, m1⟩
  go_wp2_with fail
  refine (H5.out _).mono ?_
  rintro e w2 ⟨rfl, m2⟩
  go_wp2
  go_ret
  exact ⟨rfl, below_two m1 m2⟩

theorem law_even (r a b v : Int) (w : World) (h : r ≤ 65536) (h0 : 0 < r) (hr : (r % 2 != 0) = false)
    (H4 : Hid (Calls Try.prog 4 #[.int .i64 r, .int .u64 a, .int .u64 b] w fun e w' => e = .returned (.tuple #[.bool true, .int .i64 0, .int .i64 0, .int .i64 0, .bool false, .bool false, .bool false, .int .u64 v]) ∧ Below w.heap.size w w'))
    (H5 : Hid (∀ w : World, Calls Try.prog 5 #[.int .u64 a, .int .u64 b] w fun e w' => e = .returned (.int .u64 v) ∧ Below w.heap.size w w')) :
    Calls Try.prog 3 #[.int .i64 r, .int .u64 a, .int .u64 b] w fun e w' => e = .returned (.bool true) ∧ Below w.heap.size w w' := by
  go_enter Try.func3, Try.ntmps3
  go_wp2_with fail
  refine H4.out.mono ?_
  rintro e w1 ⟨rfl, m1⟩
  go_wp2_with fail
  refine (H5.out _).mono ?_
  rintro e w2 ⟨rfl, m2⟩
  go_wp2
  go_ret
  exact ⟨rfl, below_two m1 m2⟩

/-- the law, at every input -/
theorem law_any (r a b : Int) (w : World) (hb : -9223372036854775808 ≤ r) :
    Calls Try.prog 3 #[.int .i64 r, .int .u64 a, .int .u64 b] w fun e w' => e = .returned (.bool true) ∧ Below w.heap.size w w' := by
  by_cases h : r ≤ 65536
  · obtain ⟨v, hv⟩ := rand_ex a b
    by_cases h0 : 0 < r
    · by_cases h2 : r % 2 = 0
      · exact law_even r a b v w h h0 (by simpa using h2) (zero_core r a b v w h hb (.inr h2) hv) (fun w => first_core a b v w hv)
      · exact law_odd r a b w h h0 (by simpa using h2)
    · exact law_neg r a b v w (by omega) (zero_core r a b v w h hb (.inl (by omega)) hv) (fun w => first_core a b v w hv)
  · exact law_big r a b w (by omega)

end Go.Proofs.Qxb6613148a
