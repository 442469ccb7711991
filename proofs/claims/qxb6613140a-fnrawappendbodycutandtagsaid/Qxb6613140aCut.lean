import Derived.Test.Qxb6613140aSteps
namespace Go.Proofs.Qxb6613140a
open Go.RowKit

theorem rd_take {w : World} {a : Option Addr} {n c k : Nat} {zs : List Int} (h : Rd w (.slice a n c) zs) (hk : k ≤ n) : Rd w (.slice a k c) (zs.take k) := by
  obtain ⟨a', c', e, h1, h2, h3, h4⟩ := h
  simp only [Value.slice.injEq] at e
  obtain ⟨rfl, rfl, rfl⟩ := e
  have hl : (zs.take k).length = k := by rw [List.length_take]; omega
  refine ⟨a, c, by rw [hl], fun h => ?_, by omega, h3, fun hne => ?_⟩
  · obtain ⟨rfl, rfl⟩ := h1 h
    simp
  · obtain ⟨b, off, rfl, hc⟩ := h4 (by intro e; subst e; simp at hne)
    refine ⟨b, off, rfl, fun i hi => ?_⟩
    rw [hc i (by omega), List.getD_eq_getElem?_getD, List.getD_eq_getElem?_getD, List.getElem?_take, if_pos (by omega)]

theorem rd_drop {w : World} {b off n c k : Nat} {zs : List Int} (h : Rd w (.slice (some ⟨b, off, none⟩) n c) zs) (hk : k ≤ n) : Rd w (.slice (some ⟨b, off + k, none⟩) (n - k) (c - k)) (zs.drop k) := by
  obtain ⟨a', c', e, h1, h2, h3, h4⟩ := h
  simp only [Value.slice.injEq] at e
  obtain ⟨rfl, rfl, rfl⟩ := e
  have hl : (zs.drop k).length = zs.length - k := List.length_drop
  refine ⟨_, c - k, by rw [hl], fun h => by simp at h, by omega, by omega, fun hne => ⟨b, off + k, rfl, fun i hi => ?_⟩⟩
  obtain ⟨b', off', e', hc⟩ := h4 (by intro e; subst e; simp at hne)
  simp only [Option.some.injEq, Addr.mk.injEq, and_true] at e'
  obtain ⟨rfl, rfl⟩ := e'
  rw [Nat.add_assoc, hc (k + i) (by omega), List.getD_eq_getElem?_getD, List.getD_eq_getElem?_getD, List.getElem?_drop]

/-- a slice without elements reads as the empty list, whatever its address -/
theorem rd_empty (w : World) (a : Option Addr) (c : Nat) (hc : c ≤ maxLen) (h : a = none → c = 0) : Rd w (.slice a 0 c) [] :=
  ⟨a, c, rfl, fun e => ⟨rfl, h e⟩, Nat.zero_le _, hc, fun h => absurd rfl h⟩

/-- 'Apd' with the slice written out -/
def ApdS (w : World) (v : Value) (zs : List Int) (N : Nat) (e : Ending) (w' : World) : Prop :=
  ∃ a cap, e = .returned (.slice a N cap) ∧ ((a = none ∧ cap = 0 ∧ N = 0) ∨ ∃ g, a = some ⟨g, 0, none⟩) ∧ N ≤ cap ∧ cap ≤ maxLen ∧ Own w' (.slice a N cap) zs ∧ w.grownBy w' v.ownBlock ∧
    ((Value.slice a N cap).ownBlock = v.ownBlock ∨ ∀ k, (Value.slice a N cap).ownBlock = some k → w.heap.size ≤ k)

theorem apd_slice {w w' : World} {v : Value} {zs : List Int} {N : Nat} {e : Ending} (hN : zs.length = N) (h : Apd w v zs e w') : ApdS w v zs N e w' := by
  obtain ⟨v', rfl, ho, hg, hl⟩ := h
  subst hN
  have ho' := ho
  rcases ho'.2 with ⟨rfl, h0⟩ | ⟨g, cap, cur, rfl, _, _, hnc, hcm, _⟩
  · rw [h0]
    rw [show (0 : Nat) = zs.length from h0.symm]
    refine ⟨none, 0, by rw [h0], .inl ⟨rfl, rfl, h0⟩, by omega, Nat.zero_le _, by rw [h0]; exact ho, hg, by rw [h0]; exact hl⟩
  · exact ⟨_, _, rfl, .inr ⟨g, rfl⟩, hnc, hcm, ho, hg, hl⟩

set_option maxHeartbeats 400000 in
theorem bytes5_any (a0 a1 a4 : Int) (a2 a3 : Option Addr) (n2 c2 n3 c3 : Nat) (w : World) (h2 : n2 ≤ maxLen) (h3 : n3 ≤ maxLen) :
    Calls Try.prog 17 #[.int .u8 a0, .int .u8 a1, .slice a2 n2 c2, .slice a3 n3 c3, .int .i64 a4] w fun e w' => Some1 w e w' := by
  unfold maxLen at h2 h3
  go_enter Try.func17, Try.ntmps17
  go_wp2
  all_goals
    go_ret
    exact ⟨⟨_, rfl⟩, rfl⟩

theorem own_cut {w : World} {v : Value} {zs ys : List Int} {k : Nat} (h : Own w v (zs.take k ++ (zs.drop k ++ ys))) : Own w v (zs ++ ys) := by
  rw [← List.append_assoc, List.take_append_drop] at h
  exact h

set_option maxHeartbeats 2000000 in
theorem cut_lt (a0 a1 : Int) (a2 : Option Addr) (n2 c2 b3 o3 n3 c3 k : Nat) (ys zs : List Int) (w : World) (e2 : ys.length = n2) (e3 : zs.length = n3)
    (h2 : n2 ≤ 524288) (h3 : n3 ≤ 524288) (hk : k ≤ n3) (hkc : k < c3) (hnc : n3 ≤ c3) (r2 : Rd w (.slice a2 n2 c2) ys) (r3 : Rd w (.slice (some ⟨b3, o3, none⟩) n3 c3) zs) :
    Calls Try.prog 6 #[.int .u8 a0, .int .u8 a1, .slice a2 n2 c2, .slice (some ⟨b3, o3, none⟩) n3 c3, .int .i64 k] w fun e w' => e = .returned (.bool true) ∧ Below w.heap.size w w' := by
  have E2 : Hid (ys.length = n2) := e2
  have E3 : Hid (zs.length = n3) := e3
  have l2 : ys.length ≤ 524288 := by omega
  have l3 : zs.length ≤ 524288 := by omega
  have hkc' : ¬ c3 = k := by omega
  have hc0 : ¬ c3 = 0 := by omega
  have rt := rd_drop r3 hk
  have rh := rd_take r3 hk
  clear e2 e3
  go_enter Try.func6, Try.ntmps6
  go_wp2_with fail
  refine (bytes5_any _ _ _ _ _ _ _ _ _ _ (by unfold maxLen; omega) (by unfold maxLen; omega)).mono ?_
  rintro e w0 ⟨⟨b, rfl⟩, rfl⟩
  cases b with
  | false =>
    go_wp2
    go_ret
    exact ⟨rfl, Below.refl _ _⟩
  | true =>
    go_wp2_with fail
    refine (clone_any _ _ zs (by omega) r3).mono ?_
    rintro e w1 ⟨b1, rfl, o1, f1, m1⟩
    have F1 : From b1 w0.heap.size := f1
    clear f1
    go_wp2_with fail
    refine (clone_any _ _ (zs.drop k) (by rw [List.length_drop]; omega) (rt.later m1)).mono ?_
    rintro e w2 ⟨tl, rfl, o2, f2, m2⟩
    have S21 : Sep tl b1 := made_sep f2 o1
    have F2 : From tl w0.heap.size := made_from m1 (Nat.le_refl _) f2
    have o1 := o1.below m2
    have m2 := made_below m1 (Nat.le_refl _) m2
    clear f2 m1
    go_wp2_with fail
    have m2 := m2.alloc m2.size (.cells #[.int .u8 a0, .slice a2 n2 c2] 33)
    have o1 := o1.alloc (.cells #[.int .u8 a0, .slice a2 n2 c2] 33)
    have o2 := o2.alloc (.cells #[.int .u8 a0, .slice a2 n2 c2] 33)
    refine (apd_any _ w2.heap.size b1 (.slice a2 n2 c2) zs ys (by omega) (by omega) (cell_box w2 _ _ 33) o1 (r2.later m2)).mono fun e w3 h => ?_
    obtain ⟨aq, cq, rfl, sq, hq, hq', p1, g1, k1⟩ := apd_slice (N := n3 + n2) (by rw [List.length_append, E2.out, E3.out]) h
    have T2 : Sep (.slice aq (n3 + n2) cq) tl := apd_sep S21.symm o2 k1
    have Fq : From (.slice aq (n3 + n2) cq) w0.heap.size := apd_from m2 (Nat.le_refl _) F1 k1
    have o2 := o2.kept g1 S21.ne
    have m3 := apd_below m2 (Nat.le_refl _) F1 g1
    clear k1 g1 m2 o1 h
    go_wp2_with fail
    have m3 := m3.alloc m3.size (.cells #[.int .u8 a1, .slice a2 n2 c2] 33)
    have p1 := p1.alloc (.cells #[.int .u8 a1, .slice a2 n2 c2] 33)
    have o2 := o2.alloc (.cells #[.int .u8 a1, .slice a2 n2 c2] 33)
    refine (apd_any _ w3.heap.size tl (.slice a2 n2 c2) (zs.drop k) ys (by rw [List.length_drop]; omega) (by omega) (cell_box w3 _ _ 33) o2 (r2.later m3)).mono ?_
    rintro e w4 ⟨q2, rfl, p2, g2, k2⟩
    have p1 := p1.kept g2 T2.ne
    have m4 := apd_below m3 (Nat.le_refl _) F2 g2
    clear k2 g2 m3 o2
    have eT : (zs ++ ys).take n3 = zs := List.take_left' E3.out
    have rq := p1.rd
    have rq1 := rd_take rq (show n3 ≤ n3 + n2 by omega)
    rw [eT] at rq1
    clear eT
    rcases sq with ⟨rfl, rfl, h0⟩ | ⟨gq, rfl⟩
    · obtain ⟨rfl, rfl⟩ : n3 = 0 ∧ n2 = 0 := by omega
      obtain rfl : k = 0 := by omega
      have rq2 : Rd w4 (.slice none 0 0) ys := by
        have hy : ys = [] := List.eq_nil_of_length_eq_zero E2.out
        rw [hy]
        exact rd_empty _ _ _ (Nat.zero_le _) (fun _ => rfl)
      go_wp2_with fail
      refine (equal_any _ _ _ zs (by omega) rq1 (r3.later m4)).mono ?_
      rintro e w5 ⟨rfl, n5, rfl⟩
      go_wp2_with fail
      refine (equal_any _ _ _ ys (by omega) (rq2.drewN _) ((r2.later m4).drewN _)).mono ?_
      rintro e w6 ⟨rfl, n6, rfl⟩
      go_wp2_with fail
      refine (concat_any _ _ _ (zs.take 0) (zs.drop 0 ++ ys) (by rw [List.length_take]; omega) (by rw [List.length_append, List.length_drop]; omega) ((rh.later m4).drewN _) (p2.rd.drewN _)).mono ?_
      rintro e w7 ⟨t7, rfl, s7, f7, m7⟩
      have s7 := own_cut s7
      have rq := (rq.drewN _).below m7
      have m7 := made_below (below_drewN m4 _) (Nat.le_refl _) m7
      clear f7 m4
      go_wp2_with fail
      refine (equal_any _ _ _ (zs ++ ys) (by rw [List.length_append]; omega) rq s7.rd).mono ?_
      rintro e w8 ⟨rfl, n8, rfl⟩
      go_wp2
      go_ret
      exact ⟨rfl, below_drewN m7 _⟩
    · by_cases hcn : cq = n3
      · have hcn' : n3 = cq := hcn.symm
        have h20 : 0 = n2 := by omega
        clear hcn
        subst hcn'
        subst h20
        have rq2 : Rd w4 (.slice (some ⟨gq, 0, none⟩) 0 0) ys := by
          have hy : ys = [] := List.eq_nil_of_length_eq_zero E2.out
          rw [hy]
          exact rd_empty _ _ _ (Nat.zero_le _) (fun h => by simp at h)
        go_wp2_with fail
        refine (equal_any _ _ _ zs (by omega) rq1 (r3.later m4)).mono ?_
        rintro e w5 ⟨rfl, n5, rfl⟩
        go_wp2_with fail
        refine (equal_any _ _ _ ys (by omega) (rq2.drewN _) ((r2.later m4).drewN _)).mono ?_
        rintro e w6 ⟨rfl, n6, rfl⟩
        go_wp2_with fail
        refine (concat_any _ _ _ (zs.take k) (zs.drop k ++ ys) (by rw [List.length_take]; omega) (by rw [List.length_append, List.length_drop]; omega) ((rh.later m4).drewN _) (p2.rd.drewN _)).mono ?_
        rintro e w7 ⟨t7, rfl, s7, f7, m7⟩
        have s7 := own_cut s7
        have rq := (rq.drewN _).below m7
        have m7 := made_below (below_drewN m4 _) (Nat.le_refl _) m7
        clear f7 m4
        go_wp2_with fail
        refine (equal_any _ _ _ (zs ++ ys) (by rw [List.length_append]; omega) rq s7.rd).mono ?_
        rintro e w8 ⟨rfl, n8, rfl⟩
        go_wp2
        go_ret
        exact ⟨rfl, below_drewN m7 _⟩
      · have rq2 : Rd w4 (.slice (some ⟨gq, n3, none⟩) n2 (cq - n3)) ys := by
          have := rd_drop rq (show n3 ≤ n3 + n2 by omega)
          rw [List.drop_left' E3.out, Nat.zero_add, Nat.add_sub_cancel_left] at this
          exact this
        go_wp2_with fail
        refine (equal_any _ _ _ zs (by omega) rq1 (r3.later m4)).mono ?_
        rintro e w5 ⟨rfl, n5, rfl⟩
        go_wp2_with fail
        refine (equal_any _ _ _ ys (by omega) (rq2.drewN _) ((r2.later m4).drewN _)).mono ?_
        rintro e w6 ⟨rfl, n6, rfl⟩
        go_wp2_with fail
        refine (concat_any _ _ _ (zs.take k) (zs.drop k ++ ys) (by rw [List.length_take]; omega) (by rw [List.length_append, List.length_drop]; omega) ((rh.later m4).drewN _) (p2.rd.drewN _)).mono ?_
        rintro e w7 ⟨t7, rfl, s7, f7, m7⟩
        have s7 := own_cut s7
        have rq := (rq.drewN _).below m7
        have m7 := made_below (below_drewN m4 _) (Nat.le_refl _) m7
        clear f7 m4
        go_wp2_with fail
        refine (equal_any _ _ _ (zs ++ ys) (by rw [List.length_append]; omega) rq s7.rd).mono ?_
        rintro e w8 ⟨rfl, n8, rfl⟩
        go_wp2
        go_ret
        exact ⟨rfl, below_drewN m7 _⟩

end Go.Proofs.Qxb6613140a
