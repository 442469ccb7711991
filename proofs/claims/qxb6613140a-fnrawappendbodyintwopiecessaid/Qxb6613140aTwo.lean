import Derived.Test.Qxb6613140aSteps
namespace Go.Proofs.Qxb6613140a
open Go.RowKit

set_option maxHeartbeats 400000 in
theorem bytes2_any (a0 : Int) (a1 a2 a3 : Option Addr) (n1 c1 n2 c2 n3 c3 : Nat) (w : World) (h1 : n1 ≤ maxLen) (h2 : n2 ≤ maxLen) (h3 : n3 ≤ maxLen) :
    Calls Try.prog 13 #[.int .u8 a0, .slice a1 n1 c1, .slice a2 n2 c2, .slice a3 n3 c3] w fun e w' => Some1 w e w' := by
  unfold maxLen at h1 h2 h3
  go_enter Try.func13, Try.ntmps13
  go_wp2
  all_goals
    go_ret
    exact ⟨⟨_, rfl⟩, rfl⟩

set_option maxHeartbeats 1000000 in
theorem two_main (a0 : Int) (a1 a2 a3 : Option Addr) (n1 c1 n2 c2 n3 c3 : Nat) (xs ys zs : List Int) (w : World) (e1 : xs.length = n1) (e2 : ys.length = n2) (e3 : zs.length = n3)
    (h1 : n1 ≤ 262144) (h2 : n2 ≤ 262144) (h3 : n3 ≤ 262144) (r1 : Rd w (.slice a1 n1 c1) xs) (r2 : Rd w (.slice a2 n2 c2) ys) (r3 : Rd w (.slice a3 n3 c3) zs) :
    Calls Try.prog 5 #[.int .u8 a0, .slice a1 n1 c1, .slice a2 n2 c2, .slice a3 n3 c3] w fun e w' => e = .returned (.bool true) ∧ Below w.heap.size w w' := by
  have E1 : Hid (xs.length = n1) := e1
  have E2 : Hid (ys.length = n2) := e2
  have E3 : Hid (zs.length = n3) := e3
  have l1 : xs.length ≤ 262144 := by omega
  have l2 : ys.length ≤ 262144 := by omega
  have l3 : zs.length ≤ 262144 := by omega
  clear e1 e2 e3
  go_enter Try.func5, Try.ntmps5
  go_wp2_with fail
  refine (bytes2_any _ _ _ _ _ _ _ _ _ _ _ (by unfold maxLen; omega) (by unfold maxLen; omega) (by unfold maxLen; omega)).mono ?_
  rintro e w0 ⟨⟨b, rfl⟩, rfl⟩
  cases b with
  | false =>
    go_wp2
    go_ret
    exact ⟨rfl, Below.refl _ _⟩
  | true =>
    go_wp2_with fail
    refine (clone_any _ _ zs (by omega) r3).mono ?_
    rintro e w1 ⟨b1, rfl, o1, f1, m1⟩
    have F1 : From b1 w0.heap.size := f1
    clear f1
    go_wp2_with fail
    refine (clone_any _ _ zs (by omega) (r3.later m1)).mono ?_
    rintro e w2 ⟨b2, rfl, o2, f2, m2⟩
    have S21 : Sep b2 b1 := made_sep f2 o1
    have F2 : From b2 w0.heap.size := made_from m1 (Nat.le_refl _) f2
    have o1 := o1.below m2
    have m2 := made_below m1 (Nat.le_refl _) m2
    clear f2 m1
    go_wp2_with fail
    refine (concat_any _ _ _ xs ys (by omega) (by omega) (r1.later m2) (r2.later m2)).mono fun e w3 h => ?_
    obtain ⟨ax, nx, cx, rfl, oxy, f3, m3⟩ := made_slice h
    clear h
    have Sx1 : Sep (.slice ax nx cx) b1 := made_sep f3 o1
    have o1 := o1.below m3
    have o2 := o2.below m3
    have m3 := made_below m2 (Nat.le_refl _) m3
    clear f3 m2
    go_wp2_with fail
    have m3 := m3.alloc m3.size (.cells #[.int .u8 a0, .slice a1 n1 c1] 33)
    have o1 := o1.alloc (.cells #[.int .u8 a0, .slice a1 n1 c1] 33)
    have o2 := o2.alloc (.cells #[.int .u8 a0, .slice a1 n1 c1] 33)
    have oxy := oxy.alloc (.cells #[.int .u8 a0, .slice a1 n1 c1] 33)
    refine (apd_any _ w3.heap.size b1 (.slice a1 n1 c1) zs xs (by omega) (by omega) (cell_box w3 _ _ 33) o1 (r1.later m3)).mono ?_
    rintro e w4 ⟨q1, rfl, p1, g1, k1⟩
    have T2 : Sep q1 b2 := apd_sep S21.symm o2 k1
    have Tx : Sep q1 (.slice ax nx cx) := apd_sep Sx1.symm oxy k1
    have Fq1 : From q1 w0.heap.size := apd_from m3 (Nat.le_refl _) F1 k1
    have o2 := o2.kept g1 S21.ne
    have oxy := oxy.kept g1 Sx1.ne
    have m4 := apd_below m3 (Nat.le_refl _) F1 g1
    clear k1 g1 m3 o1
    go_wp2_with fail
    have m4 := m4.alloc m4.size (.cells #[.int .u8 a0, .slice a2 n2 c2] 33)
    have p1 := p1.alloc (.cells #[.int .u8 a0, .slice a2 n2 c2] 33)
    have o2 := o2.alloc (.cells #[.int .u8 a0, .slice a2 n2 c2] 33)
    have oxy := oxy.alloc (.cells #[.int .u8 a0, .slice a2 n2 c2] 33)
    refine (apd_any _ w4.heap.size q1 (.slice a2 n2 c2) (zs ++ xs) ys (by simp; omega) (by omega) (cell_box w4 _ _ 33) p1 (r2.later m4)).mono ?_
    rintro e w5 ⟨q2, rfl, p2, g2, k2⟩
    have U2 : Sep q2 b2 := apd_sep T2 o2 k2
    have Fq2 : From q2 w0.heap.size := apd_from m4 (Nat.le_refl _) Fq1 k2
    have o2 := o2.kept g2 T2.symm.ne
    have oxy := oxy.kept g2 Tx.symm.ne
    have m5 := apd_below m4 (Nat.le_refl _) Fq1 g2
    clear k2 g2 m4 p1
    go_wp2_with fail
    have m5 := m5.alloc m5.size (.cells #[.int .u8 a0, .slice ax nx cx] 33)
    have p2 := p2.alloc (.cells #[.int .u8 a0, .slice ax nx cx] 33)
    have o2 := o2.alloc (.cells #[.int .u8 a0, .slice ax nx cx] 33)
    have oxy := oxy.alloc (.cells #[.int .u8 a0, .slice ax nx cx] 33)
    refine (apd_any _ w5.heap.size b2 (.slice ax nx cx) zs (xs ++ ys) (by omega) (by simp; omega) (cell_box w5 _ _ 33) o2 oxy.rd).mono ?_
    rintro e w6 ⟨q3, rfl, p3, g3, k3⟩
    have p2 := p2.kept g3 U2.ne
    have m6 := apd_below m5 (Nat.le_refl _) F2 g3
    clear k3 g3 m5 o2 oxy
    go_wp2_with fail
    refine (concat_any _ _ _ zs xs (by omega) (by omega) (r3.later m6) (r1.later m6)).mono ?_
    rintro e w7 ⟨t1, rfl, s1, f7, m7⟩
    have p2 := p2.below m7
    have p3 := p3.below m7
    have m7 := made_below m6 (Nat.le_refl _) m7
    clear f7 m6
    go_wp2_with fail
    refine (concat_any _ _ _ (zs ++ xs) ys (by simp; omega) (by omega) s1.rd (r2.later m7)).mono ?_
    rintro e w8 ⟨t2, rfl, s2, f8, m8⟩
    have p2 := p2.below m8
    have p3 := p3.below m8
    have m8 := made_below m7 (Nat.le_refl _) m8
    clear f8 m7
    go_wp2_with fail
    refine (equal_any _ _ _ (zs ++ xs ++ ys) (by simp; omega) p2.rd s2.rd).mono ?_
    rintro e w9 ⟨rfl, n9, rfl⟩
    have p3 : Own w8 q3 (zs ++ xs ++ ys) := by rw [List.append_assoc]; exact p3
    go_wp2_with fail
    refine (equal_any _ _ _ (zs ++ xs ++ ys) (by simp; omega) (p3.drewN _).rd (s2.drewN _).rd).mono ?_
    rintro e w9 ⟨rfl, n10, rfl⟩
    go_wp2
    go_ret
    exact ⟨rfl, below_drewN m8 _⟩

set_option maxHeartbeats 400000 in
theorem two_over (a0 : Int) (a1 a2 a3 : Option Addr) (n1 c1 n2 c2 n3 c3 : Nat) (w : World) (l1 : n1 ≤ maxLen) (l2 : n2 ≤ maxLen) (l3 : n3 ≤ maxLen)
    (h : 262144 < n1 ∨ (n1 ≤ 262144 ∧ 262144 < n2) ∨ (n1 ≤ 262144 ∧ n2 ≤ 262144 ∧ 262144 < n3)) :
    Calls Try.prog 5 #[.int .u8 a0, .slice a1 n1 c1, .slice a2 n2 c2, .slice a3 n3 c3] w fun e w' => e = .returned (.bool true) ∧ Below w.heap.size w w' := by
  rcases h with h | ⟨h1, h⟩ | ⟨h1, h2, h⟩
  all_goals
    go_enter Try.func5, Try.ntmps5
    go_wp2_with fail
    refine (bytes2_any _ _ _ _ _ _ _ _ _ _ _ l1 l2 l3).mono ?_
    rintro e w0 ⟨⟨b, rfl⟩, rfl⟩
    cases b with
    | false =>
      go_wp2
      go_ret
      exact ⟨rfl, Below.refl _ _⟩
    | true =>
      go_wp2
      go_ret
      exact ⟨rfl, Below.refl _ _⟩

end Go.Proofs.Qxb6613140a
