import Derived.Test.Qxb6613148aRows
import Derived.WalkKit
import Derived.ProofKit
import Derived.Laws.Externs
import Derived.Laws.Bits64
import Derived.Deep.QuietTactic
import Derived.BigQuiet
namespace Go.Proofs.Qxb6613148a
open Go.RowKit

/-- a word of 64 bits -/
def Word (x : Int) : Prop := 0 ≤ x ∧ x < 18446744073709551616

theorem word_wrap (n : Int) : Word (IntKind.u64.wrap n) := by
  rw [IntKind.wrap_u64]; unfold Word; omega

def lo32 (x : Int) : Int := bits BinOp.and IntKind.u64 x 4294967295
def mulT (x y : Int) : Int := IntKind.u64.wrap (IntKind.u64.wrap (x / 4294967296 * lo32 y) + IntKind.u64.wrap (lo32 x * lo32 y) / 4294967296)
/-- the high word of a product, as the Go text reckons it -/
def mulH (x y : Int) : Int :=
  IntKind.u64.wrap (IntKind.u64.wrap (IntKind.u64.wrap (x / 4294967296 * (y / 4294967296)) + mulT x y / 4294967296) +
    IntKind.u64.wrap (lo32 (mulT x y) + IntKind.u64.wrap (lo32 x * (y / 4294967296))) / 4294967296)
/-- the low word -/
def mulL (x y : Int) : Int := IntKind.u64.wrap (x * y)

theorem ret2 {a b a' b' : Value} (h : a = a') (h' : b = b') : Ending.returned (.tuple #[a, b]) = .returned (.tuple #[a', b']) := by rw [h, h']

theorem mul64_any (x y : Int) (w : World) : Calls Try.prog 19 #[.int .u64 x, .int .u64 y] w fun e w' => e = .returned (.tuple #[.int .u64 (mulH x y), .int .u64 (mulL x y)]) ∧ w' = w := by
  go_enter Try.func19, Try.ntmps19
  go_wp2
  go_ret2
  exact ⟨ret2 rfl rfl, rfl⟩

/-- math/bits.Add64 is an entry of the model's own -/
theorem add64_run (x y c : Int) (hx : 0 ≤ x) (hy : 0 ≤ y) (hc0 : 0 ≤ c) (hc : c ≤ 1) (w : World) : (callFunc 40 #[.int .u64 x, .int .u64 y, .int .u64 c]).run Try.prog w =
    .ok (.value (.tuple #[.int .u64 ((x + y + c) % 18446744073709551616), .int .u64 ((x + y + c) / 18446744073709551616)])) w := by
  rw [run_callFunc_extern Try.func40 (by kernel_rfl) (by kernel_rfl) (by kernel_rfl) (e := add64Entry) (by kernel_rfl), run_add64 x y c hx hy hc0 hc]
  rfl

/-- .. and its answers are two words, the second a carry -/
theorem add64_ex (x y c : Int) (hx : Word x) (hy : Word y) (hc0 : 0 ≤ c) (hc : c ≤ 1) :
    ∃ s k : Int, Word s ∧ 0 ≤ k ∧ k ≤ 1 ∧ ∀ w : World, (callFunc 40 #[.int .u64 x, .int .u64 y, .int .u64 c]).run Try.prog w = .ok (.value (.tuple #[.int .u64 s, .int .u64 k])) w := by
  unfold Word at *
  exact ⟨_, _, by omega, by omega, by omega, fun w => add64_run x y c hx.1 hy.1 hc0 hc w⟩

theorem grown_setCell {w0 w : World} {g : Nat} (h : w0.grownBy w (some g)) (j : Nat) (v : Value) : w0.grownBy (w.setCell ⟨g, j, none⟩ v) (some g) :=
  ⟨h.os, h.tape, h.output, by have := h.size; simpa [World.setCell] using this, fun k hk hne => by
    rw [Below.heap_setCell _ _ _ _ (by intro e; exact hne (by rw [e]))]
    exact h.block k hk hne⟩

theorem grown_drewN (w : World) (n : Nat) (row : Option Nat) : w.grownBy (w.drewN n) row := ⟨rfl, rfl, rfl, Nat.le_refl _, fun _ _ _ => rfl⟩

set_option maxHeartbeats 400000 in
theorem next_ex (a b : Int) : ∃ hi lo : Int, ∀ (g : Nat) (w : World), w.cell? ⟨g, 0, none⟩ = some (.int .u64 a) → w.cell? ⟨g, 1, none⟩ = some (.int .u64 b) →
    w.frozen? ⟨g, 0, none⟩ = false → w.frozen? ⟨g, 1, none⟩ = false →
    Calls Try.prog 39 #[.pointer (some ⟨g, 0, none⟩)] w fun e w' => e = .returned (.tuple #[.int .u64 hi, .int .u64 lo]) ∧ w.grownBy w' (some g) := by
  obtain ⟨lo, k, _, k0, k1, hA⟩ := add64_ex (mulL b 4865540595714422341) 1442695040888963407 0 (word_wrap _) (by unfold Word; omega) (by omega) (by omega)
  obtain ⟨hi, k', _, _, _, hB⟩ := add64_ex (IntKind.u64.wrap (mulH b 4865540595714422341 + IntKind.u64.wrap (IntKind.u64.wrap (a * 4865540595714422341) + IntKind.u64.wrap (b * 2549297995355413924)))) 6364136223846793005 k (word_wrap _) (by unfold Word; omega) k0 k1
  refine ⟨hi, lo, fun g w c0 c1 f0 f1 => ?_⟩
  go_enter Try.func39, Try.ntmps39
  go_wp2_with fail
  refine (mul64_any _ _ _).mono ?_
  rintro e w' ⟨rfl, rfl⟩
  go_wp2
  go_quiet (fail)
  go_wp2
  go_ret2
  exact ⟨ret2 rfl rfl, grown_setCell (grown_setCell (grown_drewN _ nq _) _ _) _ _⟩

def mixA (hi : Int) : Int := IntKind.u64.wrap (bits BinOp.xor IntKind.u64 hi (hi / 4294967296) * 15750249268501108917)
/-- what (*PCG).Uint64 makes of the next state -/
def mix (hi lo : Int) : Int := IntKind.u64.wrap (bits BinOp.xor IntKind.u64 (mixA hi) (mixA hi / 281474976710656) * bits BinOp.or IntKind.u64 lo 1)

theorem ret_int {k : IntKind} {a b : Int} (h : a = b) : Ending.returned (.int k a) = .returned (.int k b) := by rw [h]

set_option maxHeartbeats 400000 in
theorem pcg_core (hi lo : Int) (g : Nat) (w : World) (HN : Hid (Calls Try.prog 39 #[.pointer (some ⟨g, 0, none⟩)] w fun e w' => e = .returned (.tuple #[.int .u64 hi, .int .u64 lo]) ∧ w.grownBy w' (some g))) :
    Calls Try.prog 38 #[.pointer (some ⟨g, 0, none⟩)] w fun e w' => e = .returned (.int .u64 (mix hi lo)) ∧ w.grownBy w' (some g) := by
  go_enter Try.func38, Try.ntmps38
  go_wp2_with fail
  refine HN.out.mono ?_
  rintro e w1 ⟨rfl, hg⟩
  clear HN
  go_wp2
  go_ret
  exact ⟨ret_int rfl, hg⟩

/-- (*PCG).Uint64: what it answers hangs on the two words of the state alone; it writes the state's own block alone -/
theorem pcg_ex (a b : Int) : ∃ v : Int, ∀ (g : Nat) (w : World), w.cell? ⟨g, 0, none⟩ = some (.int .u64 a) → w.cell? ⟨g, 1, none⟩ = some (.int .u64 b) →
    w.frozen? ⟨g, 0, none⟩ = false → w.frozen? ⟨g, 1, none⟩ = false →
    Calls Try.prog 38 #[.pointer (some ⟨g, 0, none⟩)] w fun e w' => e = .returned (.int .u64 v) ∧ w.grownBy w' (some g) := by
  obtain ⟨hi, lo, hN⟩ := next_ex a b
  exact ⟨mix hi lo, fun g w c0 c1 f0 f1 => pcg_core hi lo g w (hN g w c0 c1 f0 f1)⟩

/-- the method that the interface value holds -/
theorem method_uint64 (a : Addr) (w : World) : (method 191 29 (.pointer (some a)) "Uint64").run Try.prog w = .ok (38, .pointer (some a)) w := by kernel_rfl

set_option maxHeartbeats 400000 in
theorem rand_core (v : Int) (r g : Nat) (w : World) (cr : w.cell? ⟨r, 0, none⟩ = some (.iface 29 (.pointer (some ⟨g, 0, none⟩))))
    (HP : Hid (Calls Try.prog 38 #[.pointer (some ⟨g, 0, none⟩)] w fun e w' => e = .returned (.int .u64 v) ∧ w.grownBy w' (some g))) :
    Calls Try.prog 9 #[.pointer (some ⟨r, 0, none⟩)] w fun e w' => e = .returned (.int .u64 v) ∧ w.grownBy w' (some g) := by
  have hm := method_uint64
  go_enter Try.func9, Try.ntmps9
  go_wp2_with (go_at_call 38; refine HP.out.mono ?_; rintro e w1 ⟨rfl, hg⟩)
  go_ret
  exact ⟨rfl, by assumption⟩

/-- (*Rand).Uint64 over a PCG: the answer hangs on the seeds alone -/
theorem rand_ex (a b : Int) : ∃ v : Int, ∀ (r g : Nat) (w : World), w.cell? ⟨r, 0, none⟩ = some (.iface 29 (.pointer (some ⟨g, 0, none⟩))) →
    w.cell? ⟨g, 0, none⟩ = some (.int .u64 a) → w.cell? ⟨g, 1, none⟩ = some (.int .u64 b) → w.frozen? ⟨g, 0, none⟩ = false → w.frozen? ⟨g, 1, none⟩ = false →
    Calls Try.prog 9 #[.pointer (some ⟨r, 0, none⟩)] w fun e w' => e = .returned (.int .u64 v) ∧ w.grownBy w' (some g) := by
  obtain ⟨v, hP⟩ := pcg_ex a b
  exact ⟨v, fun r g w cr c0 c1 f0 f1 => rand_core v r g w cr (hP g w c0 c1 f0 f1)⟩

end Go.Proofs.Qxb6613148a
