/-
  THE PLAIN LAW: depths of parentheses in a list of bytes. No Go in sight.
-/
namespace Go.Proofs.Qxb6613129a.Plain

/-- what one byte does to the depth: 40 opens, 41 closes -/
def stp (c : UInt8) : Int := if (c.toNat : Int) = 40 then 1 else if (c.toNat : Int) = 41 then -1 else 0

/-- the depth behind a list -/
def dep : List UInt8 → Int
  | [] => 0
  | c :: l => stp c + dep l

/-- the greatest depth behind a head part of the list, the empty one among them -/
def mx : List UInt8 → Int
  | [] => 0
  | c :: l => max 0 (stp c + mx l)

theorem stp_bd (c : UInt8) : -1 ≤ stp c ∧ stp c ≤ 1 := by
  unfold stp; split
  · omega
  · split <;> omega

theorem dep_append (a b : List UInt8) : dep (a ++ b) = dep a + dep b := by
  induction a with
  | nil => simp [dep]
  | cons c l ih => simp only [List.cons_append, dep, ih]; omega

theorem dep_bd (l : List UInt8) : -(l.length : Int) ≤ dep l ∧ dep l ≤ l.length := by
  induction l with
  | nil => simp [dep]
  | cons c l ih => have := stp_bd c; simp only [dep, List.length_cons]; omega

theorem mx_bd (l : List UInt8) : 0 ≤ mx l ∧ mx l ≤ l.length ∧ dep l ≤ mx l := by
  induction l with
  | nil => simp [dep, mx]
  | cons c l ih => have := stp_bd c; simp only [dep, mx, List.length_cons]; omega

theorem mx_append (a b : List UInt8) : mx (a ++ b) = max (mx a) (dep a + mx b) := by
  induction a with
  | nil => have := mx_bd b; simp only [List.nil_append, dep, mx]; omega
  | cons c l ih => simp only [List.cons_append, dep, mx, ih]; omega

theorem dep_snoc (l : List UInt8) (c : UInt8) : dep (l ++ [c]) = dep l + stp c := by
  rw [dep_append]; simp [dep]

theorem mx_snoc (l : List UInt8) (c : UInt8) : mx (l ++ [c]) = max (mx l) (dep l + stp c) := by
  rw [mx_append]
  have := mx_bd l
  simp only [mx]; omega

/-- the parentheses of the list are balanced -/
def Bal (l : List UInt8) : Prop := (∀ k, 0 ≤ dep (l.take k)) ∧ dep l = 0

/-- the list is one closed group -/
def One (l : List UInt8) : Prop := 2 ≤ l.length ∧ l.head? = some 40 ∧ (∀ k, 0 < k → k < l.length → 0 < dep (l.take k)) ∧ dep l = 0

def pre : List UInt8 := [40, 83, 69, 76, 69, 67, 84, 32, 40]
def post : List UInt8 := [41, 58, 58, 98, 105, 103, 105, 110, 116, 41]

/-- what 'hidden' makes of a text -/
def hid (l : List UInt8) : List UInt8 := pre ++ l ++ post

theorem hid_length (l : List UInt8) : (hid l).length = l.length + 19 := by
  simp [hid, pre, post]

theorem pre_pos : ∀ k, k < 10 → 0 < k → 0 < dep (pre.take k) := by decide

theorem post_low : ∀ k, k < 10 → -1 ≤ dep (post.take k) := by decide

theorem dep_pre : dep pre = 2 := by decide

theorem dep_post : dep post = -2 := by decide

theorem mx_pre : mx pre = 2 := by decide

theorem mx_post : mx post = 0 := by decide

theorem dep_hid (l : List UInt8) : dep (hid l) = dep l := by
  unfold hid; rw [dep_append, dep_append, dep_pre, dep_post]; omega

theorem mx_hid (l : List UInt8) : mx (hid l) = mx l + 2 := by
  have := mx_bd l
  unfold hid; rw [mx_append, mx_append, dep_append, dep_pre, mx_pre, mx_post]; omega

theorem one_hid (l : List UInt8) (h : Bal l) : One (hid l) := by
  refine ⟨by rw [hid_length]; omega, by simp [hid, pre], ?_, by rw [dep_hid]; exact h.2⟩
  intro k h0 hk
  rw [hid_length] at hk
  have hp : pre.length = 9 := rfl
  by_cases h1 : k < 10
  · have e : (hid l).take k = pre.take k ∨ (hid l).take k = pre := by
      by_cases h9 : k ≤ 9
      · left; unfold hid; rw [List.append_assoc, List.take_append_of_le_length (by rw [hp]; exact h9)]
      · omega
    rcases e with e | e
    · rw [e]; exact pre_pos k h1 h0
    · rw [e, dep_pre]; omega
  · by_cases h2 : k ≤ 9 + l.length
    · have e : (hid l).take k = pre ++ l.take (k - 9) := by
        unfold hid
        rw [List.take_append_of_le_length (by simp [hp]; omega), List.take_append, hp, List.take_of_length_le (by rw [hp]; omega)]
      rw [e, dep_append, dep_pre]
      have := h.1 (k - 9)
      omega
    · have e : (hid l).take k = (pre ++ l) ++ post.take (k - (9 + l.length)) := by
        unfold hid
        have hl : (pre ++ l).length = 9 + l.length := by simp [hp]
        rw [List.take_append, hl, List.take_of_length_le (by rw [hl]; omega)]
      rw [e, dep_append, dep_append, dep_pre, h.2]
      have := post_low (k - (9 + l.length)) (by omega)
      omega

theorem bal_one (l : List UInt8) (h : One l) : Bal l := by
  refine ⟨fun k => ?_, h.2.2.2⟩
  by_cases h0 : 0 < k
  · by_cases hk : k < l.length
    · have := h.2.2.1 k h0 hk; omega
    · rw [List.take_of_length_le (by omega)]; have := h.2.2.2; omega
  · have : k = 0 := by omega
    subst this; simp [dep]

end Go.Proofs.Qxb6613129a.Plain
