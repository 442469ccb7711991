import Derived.Test.Qxb6613140aCut
namespace Go.Proofs.Qxb6613140a
open Go.RowKit

set_option maxHeartbeats 2000000 in
theorem cut_nil (a0 a1 : Int) (a2 a3 : Option Addr) (n2 c2 : Nat) (ys : List Int) (w : World) (e2 : ys.length = n2)
    (h2 : n2 ≤ 524288) (r2 : Rd w (.slice a2 n2 c2) ys) (r3 : Rd w (.slice a3 0 0) []) :
    Calls Try.prog 6 #[.int .u8 a0, .int .u8 a1, .slice a2 n2 c2, .slice a3 0 0, .int .i64 0] w fun e w' => e = .returned (.bool true) ∧ Below w.heap.size w w' := by
  have E2 : Hid (ys.length = n2) := e2
  have l2 : ys.length ≤ 524288 := by omega
  clear e2
  go_enter Try.func6, Try.ntmps6
  go_wp2_with fail
  refine (bytes5_any _ _ _ _ _ _ _ _ _ _ (by unfold maxLen; omega) (by unfold maxLen; omega)).mono ?_
  rintro e w0 ⟨⟨b, rfl⟩, rfl⟩
  cases b with
  | false =>
    go_wp2
    go_ret
    exact ⟨rfl, Below.refl _ _⟩
  | true =>
    go_wp2_with fail
    refine (clone_any _ _ [] (by simp) r3).mono ?_
    rintro e w1 ⟨b1, rfl, o1, f1, m1⟩
    have F1 : From b1 w0.heap.size := f1
    clear f1
    go_wp2_with fail
    refine (clone_any _ _ [] (by simp) (r3.later m1)).mono ?_
    rintro e w2 ⟨tl, rfl, o2, f2, m2⟩
    have S21 : Sep tl b1 := made_sep f2 o1
    have F2 : From tl w0.heap.size := made_from m1 (Nat.le_refl _) f2
    have o1 := o1.below m2
    have m2 := made_below m1 (Nat.le_refl _) m2
    clear f2 m1
    go_wp2_with fail
    have m2 := m2.alloc m2.size (.cells #[.int .u8 a0, .slice a2 n2 c2] 33)
    have o1 := o1.alloc (.cells #[.int .u8 a0, .slice a2 n2 c2] 33)
    have o2 := o2.alloc (.cells #[.int .u8 a0, .slice a2 n2 c2] 33)
    refine (apd_any _ w2.heap.size b1 (.slice a2 n2 c2) [] ys (by simp) (by omega) (cell_box w2 _ _ 33) o1 (r2.later m2)).mono fun e w3 h => ?_
    obtain ⟨aq, cq, rfl, sq, hq, hq', p1, g1, k1⟩ := apd_slice (N := n2) E2.out h
    have T2 : Sep (.slice aq n2 cq) tl := apd_sep S21.symm o2 k1
    have Fq : From (.slice aq n2 cq) w0.heap.size := apd_from m2 (Nat.le_refl _) F1 k1
    have o2 := o2.kept g1 S21.ne
    have m3 := apd_below m2 (Nat.le_refl _) F1 g1
    clear k1 g1 m2 o1 h
    go_wp2_with fail
    have m3 := m3.alloc m3.size (.cells #[.int .u8 a1, .slice a2 n2 c2] 33)
    have p1 := p1.alloc (.cells #[.int .u8 a1, .slice a2 n2 c2] 33)
    have o2 := o2.alloc (.cells #[.int .u8 a1, .slice a2 n2 c2] 33)
    refine (apd_any _ w3.heap.size tl (.slice a2 n2 c2) [] ys (by simp) (by omega) (cell_box w3 _ _ 33) o2 (r2.later m3)).mono ?_
    rintro e w4 ⟨q2, rfl, p2, g2, k2⟩
    have p1 := p1.kept g2 T2.ne
    have m4 := apd_below m3 (Nat.le_refl _) F2 g2
    clear k2 g2 m3 o2
    have rq := p1.rd
    have rq1 := rd_take rq (Nat.zero_le n2)
    rcases sq with ⟨rfl, rfl, h0⟩ | ⟨gq, rfl⟩
    · obtain rfl : n2 = 0 := by omega
      have rq2 : Rd w4 (.slice none 0 0) ys := by
        have hy : ys = [] := List.eq_nil_of_length_eq_zero E2.out
        rw [hy]
        exact rd_empty _ _ _ (Nat.zero_le _) (fun _ => rfl)
      go_wp2_with fail
      refine (equal_any _ _ _ [] (by simp) rq1 (r3.later m4)).mono ?_
      rintro e w5 ⟨rfl, n5, rfl⟩
      go_wp2_with fail
      refine (equal_any _ _ _ ys (by omega) (rq2.drewN _) ((r2.later m4).drewN _)).mono ?_
      rintro e w6 ⟨rfl, n6, rfl⟩
      go_wp2_with fail
      refine (concat_any _ _ _ [] ys (by simp) (by omega) ((r3.later m4).drewN _) (p2.rd.drewN _)).mono ?_
      rintro e w7 ⟨t7, rfl, s7, f7, m7⟩
      have rq := (rq.drewN _).below m7
      have m7 := made_below (below_drewN m4 _) (Nat.le_refl _) m7
      clear f7 m4
      go_wp2_with fail
      refine (equal_any _ _ _ ys (by omega) rq s7.rd).mono ?_
      rintro e w8 ⟨rfl, n8, rfl⟩
      go_wp2
      go_ret
      exact ⟨rfl, below_drewN m7 _⟩
    · by_cases hcn : cq = 0
      · have hcn' : 0 = cq := hcn.symm
        have h20 : 0 = n2 := by omega
        clear hcn
        subst hcn'
        subst h20
        have rq2 : Rd w4 (.slice (some ⟨gq, 0, none⟩) 0 0) ys := by
          have hy : ys = [] := List.eq_nil_of_length_eq_zero E2.out
          rw [hy]
          exact rd_empty _ _ _ (Nat.zero_le _) (fun h => by simp at h)
        go_wp2_with fail
        refine (equal_any _ _ _ [] (by simp) rq1 (r3.later m4)).mono ?_
        rintro e w5 ⟨rfl, n5, rfl⟩
        go_wp2_with fail
        refine (equal_any _ _ _ ys (by omega) (rq2.drewN _) ((r2.later m4).drewN _)).mono ?_
        rintro e w6 ⟨rfl, n6, rfl⟩
        go_wp2_with fail
        refine (concat_any _ _ _ [] ys (by simp) (by omega) ((r3.later m4).drewN _) (p2.rd.drewN _)).mono ?_
        rintro e w7 ⟨t7, rfl, s7, f7, m7⟩
        have rq := (rq.drewN _).below m7
        have m7 := made_below (below_drewN m4 _) (Nat.le_refl _) m7
        clear f7 m4
        go_wp2_with fail
        refine (equal_any _ _ _ ys (by omega) rq s7.rd).mono ?_
        rintro e w8 ⟨rfl, n8, rfl⟩
        go_wp2
        go_ret
        exact ⟨rfl, below_drewN m7 _⟩
      · have rq2 : Rd w4 (.slice (some ⟨gq, 0, none⟩) n2 cq) ys := rq
        go_wp2_with fail
        refine (equal_any _ _ _ [] (by simp) rq1 (r3.later m4)).mono ?_
        rintro e w5 ⟨rfl, n5, rfl⟩
        go_wp2_with fail
        refine (equal_any _ _ _ ys (by omega) (rq2.drewN _) ((r2.later m4).drewN _)).mono ?_
        rintro e w6 ⟨rfl, n6, rfl⟩
        go_wp2_with fail
        refine (concat_any _ _ _ [] ys (by simp) (by omega) ((r3.later m4).drewN _) (p2.rd.drewN _)).mono ?_
        rintro e w7 ⟨t7, rfl, s7, f7, m7⟩
        have rq := (rq.drewN _).below m7
        have m7 := made_below (below_drewN m4 _) (Nat.le_refl _) m7
        clear f7 m4
        go_wp2_with fail
        refine (equal_any _ _ _ ys (by omega) rq s7.rd).mono ?_
        rintro e w8 ⟨rfl, n8, rfl⟩
        go_wp2
        go_ret
        exact ⟨rfl, below_drewN m7 _⟩

end Go.Proofs.Qxb6613140a
