import Derived.Test.Qxb6613165aOut
import Derived.Deep.QuietTactic
import Derived.BigQuiet
namespace Go.Proofs.Qxb6613165a
open Go.RowKit

set_option maxHeartbeats 2000000 in
set_option maxRecDepth 100000 in
theorem pref_main (a0 : Option Addr) (n1 c1 : Nat) (zs : List Int) (s : ByteArray) (w : World) (e1 : zs.length = n1) (h1 : n1 ≤ 1048576) (h2 : (s.size : Int) ≤ 1048576 - n1) (r1 : Rd w (.slice a0 n1 c1) zs)
    (hcb : 0 < n1 → ∃ b off, a0 = some ⟨b, off, none⟩ ∧ ∀ i, i < n1 → w.cell? ⟨b, off + i, none⟩ = some (.int .u8 (zs.getD i 0))) :
    Calls Try.prog 4 #[.slice a0 n1 c1, .string s] w fun e w' => e = .returned (.bool true) ∧ Below w.heap.size w w' := by
  obtain ⟨K, hK⟩ : ∃ K, ulen s.size = K := ⟨_, rfl⟩
  have k1 : 1 ≤ K := by rw [← hK]; exact ulen_pos _
  have k2 : K ≤ 10 := by rw [← hK]; exact ulen_le (by omega)
  have HK : Hid (ulen s.size = K) := hK
  have E1 : Hid (zs.length = n1) := e1
  have HB : Hid (0 < n1 → ∃ b off, a0 = some ⟨b, off, none⟩ ∧ ∀ i, i < n1 → w.cell? ⟨b, off + i, none⟩ = some (.int .u8 (zs.getD i 0))) := hcb
  have l1 : zs.length ≤ 1048576 := by omega
  clear hK e1 hcb
  go_enter Try.func4, Try.ntmps4
  go_wp2_with fail
  refine (guard_any _ _ _ _ _ (by unfold maxLen; omega) (by unfold maxLen; omega)).mono ?_
  rintro e w0 ⟨⟨bb, rfl⟩, rfl⟩
  cases bb with
  | false =>
    go_wp2
    go_ret
    exact ⟨rfl, Below.refl _ _⟩
  | true =>
    go_wp2_with fail
    refine (copy_any _ _ zs (by omega) r1).mono ?_
    rintro e w1 ⟨v1, rfl, o1, m1⟩
    go_wp2_with fail
    refine (string_any w0.heap.size v1 zs s _ l1 (by omega) o1 m1.size).mono fun e w2 h => ?_
    obtain ⟨g, cap, rfl, ho, m2⟩ := out_said E1.out HK.out h
    have m2 := m1.trans m2
    clear h o1 m1
    go_wp2_with fail
    refine (len_any s.size _ (by unfold W64; omega)).mono ?_
    rintro e w3 ⟨rfl, m3⟩
    rw [HK.out]
    have ho := ho.below m3
    have m3 := m2.trans (m3.mono m2.size)
    clear m2
    have HO : Hid (Out w3 g n1 K zs s) := ho
    clear ho
    go_wp2
    go_loopw [8] (fun i wr => ∃ k m : Nat, k ≤ n1 ∧ i = .int .i64 k ∧ wr = w3.drewN m) (fun i _ => n1 - (intOf i).toNat)
    case atStart => exact ⟨0, 0, by omega, rfl, rfl⟩
    case round =>
      obtain ⟨k, m, hk, rfl, rfl⟩ := hrel
      by_cases hlt : k < n1
      · have hca := HO.out.1 k hlt
        obtain ⟨b, off, rfl, hB⟩ := HB.out (by omega)
        have hcb : w3.cell? ⟨b, off + k, none⟩ = some (.int .u8 (zs.getD k 0)) := (m3.cell (World.block_lt_of_cell? w0 _ (hB k hlt))).trans (hB k hlt)
        clear hB
        go_wp2
        go_quiet (fail)
        go_wp2
        go_roundw
        case rel => exact ⟨k + 1, _, by omega, by go_num, rfl⟩
        case measure => simp [intOf]; omega
      · go_wp2
        go_loopw [9] (fun i wr => ∃ j : Nat, j + 1 ≤ K ∧ i = .int .i64 j ∧ wr = w3.drewN m) (fun i _ => K - (intOf i).toNat)
        case atStart => exact ⟨0, by omega, rfl, rfl⟩
        case round =>
          obtain ⟨j, hj, rfl, rfl⟩ := hrel
          by_cases hjK : j + 1 < K
          · obtain ⟨u, hu, hcu⟩ := HO.out.2.1 j hjK
            go_wp2
            go_roundw
            case rel => exact ⟨j + 1, by omega, by go_num, by first | rfl | trivial⟩
            case measure => simp [intOf]; omega
          · obtain ⟨u, hu, hcu⟩ := HO.out.2.2.1
            go_wp2
            clear hcu
            go_loopw [10] (fun i wr => ∃ k m' : Nat, k ≤ s.size ∧ i = .int .i64 k ∧ wr = w3.drewN m') (fun i _ => s.size - (intOf i).toNat)
            case atStart => exact ⟨0, m, by omega, rfl, rfl⟩
            case round =>
              obtain ⟨i, m', hi, rfl, rfl⟩ := hrel
              by_cases his : i < s.size
              · have hci := HO.out.2.2.2 i his
                go_wp2
                go_quiet (fail)
                go_wp2
                go_roundw
                case rel => exact ⟨i + 1, _, by omega, by go_num, rfl⟩
                case measure => simp [intOf]; omega
              · go_wp2
                go_ret
                exact ⟨rfl, below_drewN m3 _⟩

set_option maxHeartbeats 400000 in
set_option maxRecDepth 100000 in
theorem pref_over (a0 : Option Addr) (n1 c1 : Nat) (s : ByteArray) (w : World) (l1 : n1 ≤ maxLen) (l2 : s.size ≤ maxLen) (h : 1048576 < n1 ∨ (n1 ≤ 1048576 ∧ (1048576 - n1 : Int) < s.size)) :
    Calls Try.prog 4 #[.slice a0 n1 c1, .string s] w fun e w' => e = .returned (.bool true) ∧ Below w.heap.size w w' := by
  have l1' := l1
  have l2' := l2
  unfold maxLen at l1' l2'
  rcases h with h | ⟨h1, h⟩
  all_goals
    go_enter Try.func4, Try.ntmps4
    go_wp2_with fail
    refine (guard_any _ _ _ _ _ l1 l2).mono ?_
    rintro e w0 ⟨⟨b, rfl⟩, rfl⟩
    cases b with
    | false =>
      go_wp2
      go_ret
      exact ⟨rfl, Below.refl _ _⟩
    | true =>
      go_wp2
      go_ret
      exact ⟨rfl, Below.refl _ _⟩

/-- the law, at every slice and string that can be read -/
theorem pref_any (a0 : Option Addr) (n1 c1 : Nat) (zs : List Int) (s : ByteArray) (w : World) (e1 : zs.length = n1) (l1 : n1 ≤ maxLen) (l2 : s.size ≤ maxLen) (r1 : Rd w (.slice a0 n1 c1) zs) :
    Calls Try.prog 4 #[.slice a0 n1 c1, .string s] w fun e w' => e = .returned (.bool true) ∧ Below w.heap.size w w' := by
  by_cases h1 : n1 ≤ 1048576
  · by_cases h2 : (s.size : Int) ≤ 1048576 - n1
    · refine pref_main a0 n1 c1 zs s w e1 h1 h2 r1 ?_
      intro hp
      obtain ⟨a, c, e, _, _, _, hs⟩ := r1
      simp only [Value.slice.injEq] at e
      obtain ⟨rfl, _, rfl⟩ := e
      obtain ⟨b, off, ha, hc⟩ := hs (by intro h; subst h; simp at e1; omega)
      exact ⟨b, off, ha, fun i hi => hc i (by omega)⟩
    · exact pref_over a0 n1 c1 s w l1 l2 (.inr ⟨h1, by omega⟩)
  · exact pref_over a0 n1 c1 s w l1 l2 (.inl (by omega))

end Go.Proofs.Qxb6613165a
