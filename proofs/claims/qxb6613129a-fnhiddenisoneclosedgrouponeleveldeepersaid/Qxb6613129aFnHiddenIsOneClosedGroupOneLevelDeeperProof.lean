/-
  A PROOF OF 'Rows.FnHiddenIsOneClosedGroupOneLevelDeeperSaid'. The frame ('lifted', 'over') is the given shell's; the walk is typed for this program.
-/
import Derived.Test.Qxb6613129aRows
import Derived.WalkKit
import Derived.ProofKit
import Derived.OpenShut
import Derived.ShutString
import Derived.Test.Qxb6613129aCallees
namespace Go.Proofs.Qxb6613129a.fnHiddenIsOneClosedGroupOneLevelDeeper
open Go.ChangeShapes Go.WideShapes Go.ChangeAt Go.RowKit
open Go.ChangeMaps (open_string shut_string)
open Go.Proofs.Qxb6613129a.Plain
set_option linter.unusedVariables false      -- a walk need not use every 'w<i>' (that an integer argument fits its kind)

theorem own : ownKnob Try.prog.godebug = none := by kernel_rfl

/-! ### THE WALK: the Go text returns true, and writes nothing that was there -/
theorem same_step (m : Int) : (m + 2 + 2 - (m + 2) == m + 2 - m) = true := by
  rw [show m + 2 + 2 - (m + 2) = m + 2 - m by omega]; simp

theorem walk_small (a0 : ByteArray) (h16 : a0.size ≤ 65536) (w : World) :
    Calls Try.prog 3 #[.string a0] w fun e w' => e = .returned (.bool true) ∧ Grown w w' := by
  have hs0 : a0.size ≤ 1048576 := by omega
  have z1 := hidS_size a0
  have z2 := hidS_size (hidS a0)
  have hs1 : (hidS a0).size ≤ 1048576 := by omega
  have hs2 : (hidS (hidS a0)).size ≤ 1048576 := by omega
  clear z1 z2
  have m1 : mx (hidS a0).data.toList = mx a0.data.toList + 2 := by rw [hidS_list, mx_hid]
  have m2 : mx (hidS (hidS a0)).data.toList = mx (hidS a0).data.toList + 2 := by rw [hidS_list, mx_hid]
  have M1 : Hid (mx (hidS a0).data.toList = mx a0.data.toList + 2) := m1
  have M2 : Hid (mx (hidS (hidS a0)).data.toList = mx (hidS a0).data.toList + 2) := m2
  have b0 := mx_bd a0.data.toList
  have b0' : 0 ≤ mx a0.data.toList ∧ mx a0.data.toList ≤ 65536 := by simp at b0; omega
  clear m1 m2 b0
  go_enter Try.func3, Try.ntmps3
  go_wp2_with fail
  refine (bytes_any _ _ hs0).mono ?_
  rintro e w' ⟨rfl, rfl⟩
  go_wp2_with fail
  refine (balanced_any _ _ hs0).mono ?_
  rintro e w' ⟨⟨b, rfl, hb⟩, rfl⟩
  cases b with
  | false =>
    go_wp2
    go_ret
    exact ⟨rfl, Grown.refl _⟩
  | true =>
    have o1 : One (hidS a0).data.toList := by rw [hidS_list]; exact one_hid _ (hb rfl)
    have o2 : One (hidS (hidS a0)).data.toList := by rw [hidS_list]; exact one_hid _ (bal_one _ o1)
    have O1 : Hid (One (hidS a0).data.toList) := o1
    have O2 : Hid (One (hidS (hidS a0)).data.toList) := o2
    clear o1 o2 hb
    go_wp2_with fail
    refine (hidden_any _ _ hs0).mono ?_
    rintro e w' ⟨rfl, rfl⟩
    go_wp2_with fail
    refine (hidden_any _ _ hs1).mono ?_
    rintro e w' ⟨rfl, rfl⟩
    go_wp2_with fail
    refine (isOneGroup_any _ _ hs1 O1.out).mono ?_
    rintro e w' ⟨rfl, rfl⟩
    go_wp2_with fail
    refine (isOneGroup_any _ _ hs2 O2.out).mono ?_
    rintro e w' ⟨rfl, rfl⟩
    go_wp2_with fail
    refine (maxDepth_any _ _ hs1).mono ?_
    rintro e w' ⟨rfl, rfl⟩
    go_wp2_with fail
    refine (maxDepth_any _ _ hs0).mono ?_
    rintro e w' ⟨rfl, rfl⟩
    rw [M1.out]
    go_wp2_with fail
    refine (maxDepth_any _ _ hs2).mono ?_
    rintro e w' ⟨rfl, rfl⟩
    go_wp2_with fail
    refine (maxDepth_any _ _ hs1).mono ?_
    rintro e w' ⟨rfl, rfl⟩
    rw [M2.out, M1.out]
    go_wp2
    go_ret
    exact ⟨ret_bool (same_step _), Grown.refl _⟩

theorem walk_mid (a0 : ByteArray) (h16 : 65536 < a0.size) (h20 : a0.size ≤ 1048576) (w : World) :
    Calls Try.prog 3 #[.string a0] w fun e w' => e = .returned (.bool true) ∧ Grown w w' := by
  go_enter Try.func3, Try.ntmps3
  go_wp2_with fail
  refine (bytes_any _ _ h20).mono ?_
  rintro e w' ⟨rfl, rfl⟩
  go_wp2
  go_ret
  exact ⟨rfl, Grown.refl _⟩

theorem walk_big (a0 : ByteArray) (h20 : 1048576 < a0.size) (w : World) :
    Calls Try.prog 3 #[.string a0] w fun e w' => e = .returned (.bool true) ∧ Grown w w' := by
  go_enter Try.func3, Try.ntmps3
  go_wp2_with fail
  refine (bytes_not _ _ h20).mono ?_
  rintro e w' ⟨rfl, rfl⟩
  go_wp2
  go_ret
  exact ⟨rfl, Grown.refl _⟩

theorem walk (a0 : ByteArray) (w0 : a0.size ≤ maxLen) (w : World) :
    Calls Try.prog 3 #[.string a0] w fun e w' => e = .returned (.bool true) ∧ Grown w w' := by
  by_cases h20 : a0.size ≤ 1048576
  · by_cases h16 : a0.size ≤ 65536
    · exact walk_small a0 h16 w
    · exact walk_mid a0 (by omega) h20 w
  · exact walk_big a0 (by omega) w

/-! ### THE ROW's STEP: WRITTEN OUT: LEAVE IT -/
set_option maxRecDepth 100000 in
theorem lifted (os : Os) (started : os.Started) (H : Type) (enc : TypeId × Value → H) :
    ReturnsInHanded {} Try.checked os 3 .any (Rows.fnHiddenIsOneClosedGroupOneLevelDeeperSpec.pre6 enc Try.prog Try.f3 Rows.fnHiddenIsOneClosedGroupOneLevelDeeperRow.domain false) (Rows.fnHiddenIsOneClosedGroupOneLevelDeeperSpec.post enc Try.prog Try.f3 false true false false) := by
  refine returnsInHanded_of_change (C := Try.checked) own started (by kernel_rfl) Try.func3
    (ChangeSpec.witness6 (enc := enc) (C := Try.checked) false ⟨#[], #[.string ByteArray.empty], []⟩ 8 (by kernel_rfl) (by kernel_rfl) (by kernel_rfl) (by kernel_rfl)) ?_
  intro W base args ds gs before hval0 hW hcnd _
  have hval : ∀ (j : Nat) t v, Try.f3.params[j]? = some t → args[j]? = some v → Value.okWide Try.prog W .any base t v := hval0
  have hW' := hW
  obtain ⟨p, q, hA0, hV, rfl, hfz, hnd⟩ := hW
  have hA : DataW.TrodAll enc Try.prog W 0 (fun _ => true) true Try.f3.params.toList args.toList ds p := hA0
  rw [Try.params3] at hA hval
  obtain ⟨v0, vs0, d0, ds0, p0, q0, hargs, rfl, rfl, h0, r0⟩ := trodAll_cons hA
  obtain ⟨rfl, rfl, rfl⟩ := trodAll_nil r0
  obtain rfl : args = #[v0] := by cases args; simp_all
  obtain ⟨rfl, rfl⟩ := trodVars_none hV
  obtain ⟨a0, rfl, rfl, rfl, w0⟩ := open_string Try.underlying9 (hval 0 9 v0 rfl rfl) h0
  clear hA0 hval0
  simp only [List.append_nil] at hW'
  refine (walk a0 w0 W).mono fun e W' ⟨he, hg⟩ => ?_
  subst he
  exact ⟨_, rfl, post_of_same (pa := []) (pv := []) hW' (fun _ _ _ => (trodAll_cons_mk (shut_bool Try.underlying4 _) trodAll_mk0)) (fun sp _ => (trodAll_cons_mk (shut_string Try.underlying9 w0) trodAll_mk0)) (fun _ _ => rfl) rfl
    (hg.frame _) hg.2.1 (ok_one (by kernel_rfl) rfl (okWide_bool_mk Try.underlying4 _))⟩

theorem over : Rows.fnHiddenIsOneClosedGroupOneLevelDeeperRow.holds Try.pinned (OpenSpec.ofChange Rows.fnHiddenIsOneClosedGroupOneLevelDeeperSpec) :=
  OpenClaim.holds_of_wide 3 Try.f3 rfl rfl rfl rfl rfl rfl rfl ⟨rfl, rfl, rfl, rfl, rfl⟩ rfl rfl rfl rfl rfl (by kernel_rfl) Try.func3 (by kernel_rfl)
    (of_decide_eq_true (by kernel_rfl)) (by unfold Func.isWrapper; first | (rw [if_pos (by decide +kernel)]; kernel_rfl) | (rw [if_neg (by decide +kernel)]; exact ⟨rfl, rfl⟩))
    (fun os started H enc _ => lifted os started H enc)

/-- ████ THE STATEMENT ████ -/
theorem proved : Rows.FnHiddenIsOneClosedGroupOneLevelDeeperSaid :=
  over
end Go.Proofs.Qxb6613129a.fnHiddenIsOneClosedGroupOneLevelDeeper
