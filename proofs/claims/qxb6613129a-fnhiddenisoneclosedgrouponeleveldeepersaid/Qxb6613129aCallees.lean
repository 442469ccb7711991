import Derived.Test.Qxb6613129aRows
import Derived.Test.Qxb6613129aPlain
import Derived.WalkKit
import Derived.ProofKit
namespace Go.Proofs.Qxb6613129a
open Go.RowKit Go.Proofs.Qxb6613129a.Plain

theorem ret_int {k : IntKind} {a b : Int} (h : a = b) : Ending.returned (.int k a) = .returned (.int k b) := by rw [h]

theorem take_snoc (s : ByteArray) (k : Nat) (h : k < s.size) : s.data.toList.take (k + 1) = s.data.toList.take k ++ [s[k]] := by
  rw [List.take_succ_eq_append_getElem (by simpa using h)]; rfl

theorem stp_open {c : UInt8} (h : (c.toNat : Int) = 40) : stp c = 1 := by unfold stp; rw [if_pos h]
theorem stp_close {c : UInt8} (h : (c.toNat : Int) = 41) : stp c = -1 := by unfold stp; rw [if_neg (by omega), if_pos h]
theorem stp_else {c : UInt8} (h : (c.toNat : Int) ≠ 40) (h' : (c.toNat : Int) ≠ 41) : stp c = 0 := by unfold stp; rw [if_neg h, if_neg h']

theorem dep_next (s : ByteArray) (k : Nat) (h : k < s.size) : dep (s.data.toList.take (k + 1)) = dep (s.data.toList.take k) + stp s[k] := by
  rw [take_snoc s k h, dep_snoc]
theorem mx_next (s : ByteArray) (k : Nat) (h : k < s.size) : mx (s.data.toList.take (k + 1)) = max (mx (s.data.toList.take k)) (dep (s.data.toList.take k) + stp s[k]) := by
  rw [take_snoc s k h, mx_snoc]

theorem dep_take_bd (s : ByteArray) (k : Nat) : -(k : Int) ≤ dep (s.data.toList.take k) ∧ dep (s.data.toList.take k) ≤ k := by
  have h := dep_bd (s.data.toList.take k)
  have hl : (s.data.toList.take k).length ≤ k := List.length_take_le _ _
  omega

theorem all_zero (s : ByteArray) : ∀ j, j ≤ 0 → 0 ≤ dep (s.data.toList.take j) := by
  intro j hj
  have : j = 0 := by omega
  subst this
  simp [dep]

/-- what 'balanced' answers: where it says yes, the parentheses are balanced -/
def BalSaid (l : List UInt8) (e : Ending) : Prop := ∃ b : Bool, e = .returned (.bool b) ∧ (b = true → Bal l)

theorem bal_no (l : List UInt8) : BalSaid l (.returned (.bool false)) := ⟨false, rfl, fun h => by cases h⟩

theorem bal_end (s : ByteArray) (k : Nat) (hk : k ≤ s.size) (h : ¬ k < s.size) (HA : ∀ j, j ≤ k → 0 ≤ dep (s.data.toList.take j)) :
    BalSaid s.data.toList (.returned (.bool (dep (s.data.toList.take k) == 0))) := by
  have e : s.data.toList.take k = s.data.toList := List.take_of_length_le (by simp; omega)
  refine ⟨_, rfl, fun hb => ⟨fun j => ?_, ?_⟩⟩
  · by_cases hj : j ≤ k
    · exact HA j hj
    · rw [List.take_of_length_le (by simp; omega)]
      have := HA k (Nat.le_refl _)
      rw [e] at this
      exact this
  · rw [e] at hb
    simpa using hb

theorem bal_next (s : ByteArray) (k : Nat) (hk : k < s.size) (HA : ∀ j, j ≤ k → 0 ≤ dep (s.data.toList.take j)) {d : Int}
    (hd : d = dep (s.data.toList.take k) + stp s[k]) (h0 : 0 ≤ d) :
    ∃ k1 : Nat, k1 ≤ s.size ∧ Value.int .i64 ((k : Int) + 1) = .int .i64 k1 ∧ Value.int .i64 d = .int .i64 (dep (s.data.toList.take k1)) ∧ ∀ j, j ≤ k1 → 0 ≤ dep (s.data.toList.take j) := by
  have hn := dep_next s k hk
  refine ⟨k + 1, by omega, by go_num, by rw [hn, hd], fun j hj => ?_⟩
  by_cases h : j ≤ k
  · exact HA j h
  · have : j = k + 1 := by omega
    subst this
    rw [hn, ← hd]; exact h0

set_option maxHeartbeats 400000 in
theorem balanced_any (s : ByteArray) (w : World) (hs : s.size ≤ 1048576) :
    Calls Try.prog 5 #[.string s] w fun e w' => BalSaid s.data.toList e ∧ w' = w := by
  go_enter Try.func5, Try.ntmps5
  go_wp2
  go_loop [3, 4] (fun d i => ∃ k : Nat, k ≤ s.size ∧ i = .int .i64 k ∧ d = .int .i64 (dep (s.data.toList.take k)) ∧ ∀ j, j ≤ k → 0 ≤ dep (s.data.toList.take j)) (fun _ i => s.size - (intOf i).toNat)
  case atStart => exact ⟨0, Nat.zero_le _, rfl, rfl, all_zero s⟩
  case round =>
    obtain ⟨k, hk, rfl, rfl, hall⟩ := hrel
    have hd := dep_take_bd s k
    have h0 : 0 ≤ dep (s.data.toList.take k) := hall k (Nat.le_refl _)
    have HA : Hid (∀ j, j ≤ k → 0 ≤ dep (s.data.toList.take j)) := hall
    clear hall
    by_cases hlt : k < s.size
    · go_wp2
      · go_round
        case rel => exact bal_next s k hlt HA.out (by rw [stp_open (by simpa using ‹(_ == (40 : Int)) = true›)]) (by omega)
        case measure => simp [intOf]; omega
      · go_ret
        exact ⟨bal_no _, rfl⟩
      · go_round
        case rel => exact bal_next s k hlt HA.out (by rw [stp_close (by simpa using ‹(_ == (41 : Int)) = true›)]; omega) (by omega)
        case measure => simp [intOf]; omega
      · go_round
        case rel => exact bal_next s k hlt HA.out (by rw [stp_else (by simpa using ‹(_ == (40 : Int)) = false›) (by simpa using ‹(_ == (41 : Int)) = false›)]; omega) (by omega)
        case measure => simp [intOf]; omega
    · go_wp2
      go_ret
      exact ⟨bal_end s k hk hlt HA.out, rfl⟩

theorem mx_take_bd (s : ByteArray) (k : Nat) : 0 ≤ mx (s.data.toList.take k) ∧ mx (s.data.toList.take k) ≤ k ∧ dep (s.data.toList.take k) ≤ mx (s.data.toList.take k) := by
  have h := mx_bd (s.data.toList.take k)
  have hl : (s.data.toList.take k).length ≤ k := List.length_take_le _ _
  omega

theorem mx_rel (s : ByteArray) (k : Nat) (hk : k < s.size) {d m : Int}
    (hd : d = dep (s.data.toList.take k) + stp s[k]) (hm : m = max (mx (s.data.toList.take k)) (dep (s.data.toList.take k) + stp s[k])) :
    ∃ k1 : Nat, k1 ≤ s.size ∧ Value.int .i64 ((k : Int) + 1) = .int .i64 k1 ∧ Value.int .i64 d = .int .i64 (dep (s.data.toList.take k1)) ∧ Value.int .i64 m = .int .i64 (mx (s.data.toList.take k1)) := by
  have hn := dep_next s k hk
  have hx := mx_next s k hk
  exact ⟨k + 1, by omega, by go_num, by rw [hn, hd], by rw [hx, hm]⟩

set_option maxHeartbeats 400000 in
theorem maxDepth_any (s : ByteArray) (w : World) (hs : s.size ≤ 1048576) :
    Calls Try.prog 8 #[.string s] w fun e w' => e = .returned (.int .i64 (mx s.data.toList)) ∧ w' = w := by
  go_enter Try.func8, Try.ntmps8
  go_wp2
  go_loop [3, 4, 5] (fun d m i => ∃ k : Nat, k ≤ s.size ∧ i = .int .i64 k ∧ d = .int .i64 (dep (s.data.toList.take k)) ∧ m = .int .i64 (mx (s.data.toList.take k))) (fun _ _ i => s.size - (intOf i).toNat)
  case atStart => exact ⟨0, Nat.zero_le _, rfl, rfl, rfl⟩
  case round =>
    obtain ⟨k, hk, rfl, rfl, rfl⟩ := hrel
    have hd := dep_take_bd s k
    have hm := mx_take_bd s k
    by_cases hlt : k < s.size
    · go_wp2
      · go_round
        case rel =>
          have e := stp_open (c := s[k]) (by simpa using ‹(_ == (40 : Int)) = true›)
          exact mx_rel s k hlt (by rw [e]) (by rw [e]; omega)
        case measure => simp [intOf]; omega
      · go_round
        case rel =>
          have e := stp_open (c := s[k]) (by simpa using ‹(_ == (40 : Int)) = true›)
          exact mx_rel s k hlt (by rw [e]) (by rw [e]; omega)
        case measure => simp [intOf]; omega
      · go_round
        case rel =>
          have e := stp_close (c := s[k]) (by simpa using ‹(_ == (41 : Int)) = true›)
          exact mx_rel s k hlt (by rw [e]; omega) (by rw [e]; omega)
        case measure => simp [intOf]; omega
      · go_round
        case rel =>
          have e := stp_else (c := s[k]) (by simpa using ‹(_ == (40 : Int)) = false›) (by simpa using ‹(_ == (41 : Int)) = false›)
          exact mx_rel s k hlt (by rw [e]; omega) (by rw [e]; omega)
        case measure => simp [intOf]; omega
    · go_wp2
      go_ret
      exact ⟨ret_int (by rw [List.take_of_length_le (by simp; omega)]), rfl⟩

theorem one_rel (s : ByteArray) (k : Nat) (hk : k < s.size) {d : Int} (hd : d = dep (s.data.toList.take k) + stp s[k]) :
    ∃ k1 : Nat, k1 ≤ s.size ∧ Value.int .i64 ((k : Int) + 1) = .int .i64 k1 ∧ Value.int .i64 d = .int .i64 (dep (s.data.toList.take k1)) := by
  have hn := dep_next s k hk
  exact ⟨k + 1, by omega, by go_num, by rw [hn, hd]⟩

/-- inside a closed group every depth is above nought, and the last is nought -/
theorem one_at (s : ByteArray) (h : One s.data.toList) (k : Nat) (hk : k < s.size) :
    (k + 1 < s.size ∧ 0 < dep (s.data.toList.take k) + stp s[k]) ∨ (k + 1 = s.size ∧ dep (s.data.toList.take k) + stp s[k] = 0) := by
  have hn := dep_next s k hk
  have hl : s.data.toList.length = s.size := by simp
  by_cases hlt : k + 1 < s.size
  · left
    have := h.2.2.1 (k + 1) (by omega) (by omega)
    exact ⟨hlt, by omega⟩
  · right
    have e : s.data.toList.take (k + 1) = s.data.toList := List.take_of_length_le (by omega)
    have := h.2.2.2
    rw [e] at hn
    exact ⟨by omega, by omega⟩

theorem one_head (s : ByteArray) (h : One s.data.toList) (h0 : 0 < s.size) : (s[0].toNat : Int) = 40 := by
  have hh := h.2.1
  have hl : 0 < s.data.toList.length := by simp; exact h0
  have e : s.data.toList.head? = some s[0] := by
    rw [List.head?_eq_getElem?, List.getElem?_eq_getElem hl]; rfl
  rw [e] at hh
  simp only [Option.some.injEq] at hh
  rw [hh]; rfl

theorem byte_cases (c : UInt8) : (((c.toNat : Int) == 40) = true ∧ stp c = 1) ∨ ((((c.toNat : Int) == 40) = false ∧ ((c.toNat : Int) == 41) = true) ∧ stp c = -1) ∨ ((((c.toNat : Int) == 40) = false ∧ ((c.toNat : Int) == 41) = false) ∧ stp c = 0) := by
  by_cases h : (c.toNat : Int) = 40
  · left; exact ⟨by simpa using h, stp_open h⟩
  · right
    by_cases h' : (c.toNat : Int) = 41
    · left; exact ⟨⟨by simpa using h, by simpa using h'⟩, stp_close h'⟩
    · right; exact ⟨⟨by simpa using h, by simpa using h'⟩, stp_else h h'⟩

/-- equations as inequalities: an equation would be a rule to the walk -/
theorem le_cases {k n : Nat} {d : Int} (h : (k + 1 < n ∧ 0 < d) ∨ (k + 1 = n ∧ d = 0)) : (k + 1 < n ∧ 0 < d) ∨ (n ≤ k + 1 ∧ 0 ≤ d ∧ d ≤ 0) := by omega

theorem ret_bool {a b : Bool} (h : a = b) : Ending.returned (.bool a) = .returned (.bool b) := by rw [h]

theorem one_end (s : ByteArray) (k : Nat) (hk : ¬ k < s.size) (h : One s.data.toList) : (dep (s.data.toList.take k) == 0) = true := by
  rw [List.take_of_length_le (by simp; omega), h.2.2.2]; rfl

set_option maxHeartbeats 400000 in
theorem isOneGroup_any (s : ByteArray) (w : World) (hs : s.size ≤ 1048576) (h : One s.data.toList) :
    Calls Try.prog 7 #[.string s] w fun e w' => e = .returned (.bool true) ∧ w' = w := by
  have h2 : 2 ≤ s.size := by have := h.1; simpa using this
  have hh : ((s[0].toNat : Int) != 40) = false := by rw [one_head s h (by omega)]; rfl
  have H1 : Hid (One s.data.toList) := h
  clear h
  go_enter Try.func7, Try.ntmps7
  go_wp2
  go_loop [3, 4] (fun d i => ∃ k : Nat, k ≤ s.size ∧ i = .int .i64 k ∧ d = .int .i64 (dep (s.data.toList.take k))) (fun _ i => s.size - (intOf i).toNat)
  case atStart => exact ⟨0, Nat.zero_le _, rfl, rfl⟩
  case round =>
    obtain ⟨k, hk, rfl, rfl⟩ := hrel
    have hd := dep_take_bd s k
    by_cases hlt : k < s.size
    · have hcs : (((s[k].toNat : Int) == 40) = true ∧ stp s[k] = 1) ∨ ((((s[k].toNat : Int) == 40) = false ∧ ((s[k].toNat : Int) == 41) = true) ∧ stp s[k] = -1) ∨ ((((s[k].toNat : Int) == 40) = false ∧ ((s[k].toNat : Int) == 41) = false) ∧ stp s[k] = 0) := byte_cases s[k]
      have hat := one_at s H1.out k hlt
      rcases hcs with ⟨hc, e⟩ | ⟨⟨hc, hc'⟩, e⟩ | ⟨⟨hc, hc'⟩, e⟩
      all_goals
        rw [e] at hat
        have HE : Hid (stp s[k] = _) := e
        clear e
        have hat' := le_cases hat
        clear hat
        rcases hat' with ⟨ha, hb⟩ | ⟨ha, hb, hb'⟩
        all_goals
          go_wp2
          go_round
          case rel => exact one_rel s k hlt (by have := HE.out; omega)
          case measure => simp [intOf]; omega
    · go_wp2
      go_ret
      exact ⟨ret_bool (one_end s k hlt H1.out), rfl⟩

theorem bytes_any (s : ByteArray) (w : World) (hs : s.size ≤ 1048576) :
    Calls Try.prog 4 #[.string s] w fun e w' => e = .returned (.bool true) ∧ w' = w := by
  go_enter Try.func4, Try.ntmps4
  go_wp2
  go_ret
  exact ⟨rfl, rfl⟩

theorem bytes_not (s : ByteArray) (w : World) (hs : 1048576 < s.size) :
    Calls Try.prog 4 #[.string s] w fun e w' => e = .returned (.bool false) ∧ w' = w := by
  go_enter Try.func4, Try.ntmps4
  go_wp2
  go_ret
  exact ⟨rfl, rfl⟩

/-- what 'hidden' hands back, as a string -/
def hidS (s : ByteArray) : ByteArray := ⟨(hid s.data.toList).toArray⟩

theorem hidS_list (s : ByteArray) : (hidS s).data.toList = hid s.data.toList := by simp [hidS]

theorem hidS_size (s : ByteArray) : (hidS s).size = s.size + 19 := by
  have h : (hidS s).data.toList.length = s.data.toList.length + 19 := by rw [hidS_list, hid_length]
  simpa using h

theorem hidS_eq (s : ByteArray) : (⟨#[40, 83, 69, 76, 69, 67, 84, 32, 40]⟩ ++ s ++ ⟨#[41, 58, 58, 98, 105, 103, 105, 110, 116, 41]⟩ : ByteArray) = hidS s := by
  apply ByteArray.ext
  apply Array.toList_inj.1
  rw [hidS_list]
  simp [hid, pre, post]

theorem ret_string {a b : ByteArray} (h : a = b) : Ending.returned (.string a) = .returned (.string b) := by rw [h]

theorem hidden_any (s : ByteArray) (w : World) (hs : s.size ≤ 1048576) :
    Calls Try.prog 6 #[.string s] w fun e w' => e = .returned (.string (hidS s)) ∧ w' = w := by
  go_enter Try.func6, Try.ntmps6
  go_wp2
  go_ret
  exact ⟨ret_string (hidS_eq s), rfl⟩

end Go.Proofs.Qxb6613129a
