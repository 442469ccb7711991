import Derived.Test.Qxb6613165aApp
import Derived.Test.Qxb6613165aSteps
namespace Go.Proofs.Qxb6613165a
open Go.RowKit

/-- what lies in the row that AppendString hands back: the bytes of b, the varint's, the string's -/
def Out (w : World) (g n1 K : Nat) (zs : List Int) (s : ByteArray) : Prop :=
  (∀ i, i < n1 → w.cell? ⟨g, i, none⟩ = some (.int .u8 (zs.getD i 0))) ∧
  (∀ i, i + 1 < K → ∃ u : Int, 128 ≤ u ∧ w.cell? ⟨g, n1 + i, none⟩ = some (.int .u8 u)) ∧
  (∃ u : Int, u < 128 ∧ w.cell? ⟨g, n1 + K - 1, none⟩ = some (.int .u8 u)) ∧
  (∀ i (h : i < s.size), w.cell? ⟨g, n1 + K + i, none⟩ = some (.int .u8 (s[i].toNat : Int)))

theorem getD_mid (a b c : List Int) (i : Nat) (h : i < b.length) : (a ++ b ++ c).getD (a.length + i) 0 = b.getD i 0 := by
  rw [List.getD_eq_getElem?_getD, List.getD_eq_getElem?_getD, List.append_assoc, List.getElem?_append_right (by omega), Nat.add_sub_cancel_left, List.getElem?_append_left h]

theorem getD_left (a b c : List Int) (i : Nat) (h : i < a.length) : (a ++ b ++ c).getD i 0 = a.getD i 0 := by
  rw [List.getD_eq_getElem?_getD, List.getD_eq_getElem?_getD, List.append_assoc, List.getElem?_append_left h]

theorem getD_right (a b c : List Int) (i : Nat) : (a ++ b ++ c).getD (a.length + b.length + i) 0 = c.getD i 0 := by
  rw [List.getD_eq_getElem?_getD, List.getD_eq_getElem?_getD, List.getElem?_append_right (by simp), List.length_append, Nat.add_sub_cancel_left]

theorem S_getD (s : ByteArray) (i : Nat) (h : i < s.size) : (S s).getD i 0 = (s[i].toNat : Int) := by
  unfold S
  rw [List.getD_eq_getElem?_getD, List.getElem?_map, List.getElem?_eq_getElem (by simpa using h)]
  rfl

theorem out_of {w : World} {g n1 K : Nat} {zs : List Int} {s : ByteArray} (h1 : zs.length = n1) (hK : ulen s.size = K)
    (hc : ∀ i, i < (zs ++ U s.size ++ S s).length → w.cell? ⟨g, i, none⟩ = some (.int .u8 ((zs ++ U s.size ++ S s).getD i 0))) : Out w g n1 K zs s := by
  have hU : (U s.size).length = K := by rw [U_length, hK]
  have hS : (S s).length = s.size := S_length s
  have hp : 1 ≤ K := by rw [← hK]; exact ulen_pos _
  have hN : (zs ++ U s.size ++ S s).length = n1 + K + s.size := by rw [List.length_append, List.length_append, h1, hU, hS]
  rw [hN] at hc
  refine ⟨fun i hi => ?_, fun i hi => ?_, ?_, fun i hi => ?_⟩
  · rw [hc i (by omega), getD_left _ _ _ _ (by omega)]
  · refine ⟨(U s.size).getD i 0, U_mid _ _ (Nat.le_refl _) i (by omega), ?_⟩
    rw [hc (n1 + i) (by omega), ← h1, getD_mid _ _ _ _ (by omega)]
  · refine ⟨(U s.size).getD ((U s.size).length - 1) 0, U_last _ _ (Nat.le_refl _), ?_⟩
    rw [hc (n1 + K - 1) (by omega), show n1 + K - 1 = zs.length + ((U s.size).length - 1) by omega, getD_mid _ _ _ _ (by omega)]
  · rw [hc (n1 + K + i) (by omega), show n1 + K + i = zs.length + (U s.size).length + i by omega, getD_right, S_getD s i hi]

theorem Out.below {w w' : World} {g n1 K : Nat} {zs : List Int} {s : ByteArray} (h : Out w g n1 K zs s) (hb : Below w.heap.size w w') : Out w' g n1 K zs s := by
  obtain ⟨h1, h2, h3, h4⟩ := h
  have keep : ∀ (a : Addr) (v : Value), w.cell? a = some v → w'.cell? a = some v := fun a v hv => (hb.cell (World.block_lt_of_cell? w a hv)).trans hv
  refine ⟨fun i hi => keep _ _ (h1 i hi), fun i hi => ?_, ?_, fun i hi => keep _ _ (h4 i hi)⟩
  · obtain ⟨u, hu, hc⟩ := h2 i hi
    exact ⟨u, hu, keep _ _ hc⟩
  · obtain ⟨u, hu, hc⟩ := h3
    exact ⟨u, hu, keep _ _ hc⟩

/-- AppendString's answer, written out -/
def OutSaid (B : Nat) (w : World) (n1 K : Nat) (zs : List Int) (s : ByteArray) (e : Ending) (w' : World) : Prop :=
  ∃ g cap, e = .returned (.slice (some ⟨g, 0, none⟩) (n1 + K + s.size) cap) ∧ Out w' g n1 K zs s ∧ Below B w w'

theorem out_said {B : Nat} {w w' : World} {n1 K : Nat} {zs : List Int} {s : ByteArray} {e : Ending} (h1 : zs.length = n1) (hK : ulen s.size = K) (h : Apd B w (zs ++ U s.size ++ S s) e w') : OutSaid B w n1 K zs s e w' := by
  obtain ⟨v, rfl, ho, hb⟩ := h
  have hU : (U s.size).length = K := by rw [U_length, hK]
  have hp : 1 ≤ K := by rw [← hK]; exact ulen_pos _
  have hN : (zs ++ U s.size ++ S s).length = n1 + K + s.size := by rw [List.length_append, List.length_append, h1, hU, S_length]
  obtain ⟨g, cap, rfl, _, _, hc⟩ := ho.form (by omega)
  have ho := out_of h1 hK hc
  rw [hN]
  exact ⟨g, cap, rfl, ho, hb⟩

/-- what the guard on the sizes answers: some bool; the world stands -/
def Some1 (w : World) (e : Ending) (w' : World) : Prop := (∃ b : Bool, e = .returned (.bool b)) ∧ w' = w

set_option maxHeartbeats 400000 in
theorem guard_any (a : Option Addr) (n c : Nat) (s : ByteArray) (w : World) (h1 : n ≤ maxLen) (h2 : s.size ≤ maxLen) :
    Calls Try.prog 6 #[.slice a n c, .string s] w fun e w' => Some1 w e w' := by
  unfold maxLen at h1 h2
  go_enter Try.func6, Try.ntmps6
  go_wp2
  all_goals
    go_ret
    exact ⟨⟨_, rfl⟩, rfl⟩

end Go.Proofs.Qxb6613165a
