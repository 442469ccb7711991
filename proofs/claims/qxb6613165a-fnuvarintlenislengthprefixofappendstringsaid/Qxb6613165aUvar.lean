/-
  THE VARINT'S BYTES AS NUMBERS. No walk.
-/
import Derived.Test.Qxb6613165aPut
import Derived.Lib.VarintMem
namespace Go.Proofs.Qxb6613165a

/-- the bytes of x's varint, as numbers -/
def U (x : Nat) : List Int := (Lib.uvarint x).map fun b => (b.toNat : Int)

theorem U_small {x : Nat} (h : x < 128) : U x = [(x : Int)] := by
  unfold U; rw [Lib.uvarint_small h]; simp [Lib.toUInt8_toNat (show x < 256 by omega)]

theorem U_big {x : Nat} (h : 128 ≤ x) : U x = ((x % 128 + 128 : Nat) : Int) :: U (x / 128) := by
  unfold U; rw [Lib.uvarint_big h]; simp only [List.map_cons]; rw [Lib.toUInt8_toNat (show x % 128 + 128 < 256 by omega)]

theorem U_length (x : Nat) : (U x).length = ulen x := by unfold U ulen; simp

/-- every byte but the last bears the bit 128 -/
theorem U_mid : ∀ (f x : Nat), x ≤ f → ∀ i, i + 1 < (U x).length → 128 ≤ (U x).getD i 0
  | 0, x, hx, i, hi => by
    rw [U_small (by omega)] at hi; simp at hi
  | f + 1, x, hx, i, hi => by
    by_cases h : x < 128
    · rw [U_small h] at hi; simp at hi
    · rw [U_big (by omega)] at hi ⊢
      cases i with
      | zero => simp; omega
      | succ j => simpa using U_mid f (x / 128) (by omega) j (by simp at hi; omega)

/-- the last does not -/
theorem U_last : ∀ (f x : Nat), x ≤ f → (U x).getD ((U x).length - 1) 0 < 128
  | 0, x, hx => by rw [U_small (by omega)]; simp; omega
  | f + 1, x, hx => by
    by_cases h : x < 128
    · rw [U_small h]; simp; omega
    · have ih := U_last f (x / 128) (by omega)
      have hp : 1 ≤ (U (x / 128)).length := by rw [U_length]; exact ulen_pos _
      rw [U_big (by omega)]
      obtain ⟨m, hm⟩ : ∃ m, (U (x / 128)).length = m + 1 := ⟨(U (x / 128)).length - 1, by omega⟩
      rw [hm] at ih
      simpa [hm] using ih

end Go.Proofs.Qxb6613165a
