import Derived.Test.Qxb6613140aCutEq
import Derived.Test.Qxb6613140aCutNil
namespace Go.Proofs.Qxb6613140a
open Go.RowKit

set_option maxHeartbeats 400000 in
theorem cut_over (a0 a1 a4 : Int) (a2 a3 : Option Addr) (n2 c2 n3 c3 : Nat) (w : World) (l2 : n2 ≤ maxLen) (l3 : n3 ≤ maxLen)
    (h : 524288 < n2 ∨ (n2 ≤ 524288 ∧ 524288 < n3) ∨ (n2 ≤ 524288 ∧ n3 ≤ 524288 ∧ a4 < 0) ∨ (n2 ≤ 524288 ∧ n3 ≤ 524288 ∧ 0 ≤ a4 ∧ (n3 : Int) < a4)) :
    Calls Try.prog 6 #[.int .u8 a0, .int .u8 a1, .slice a2 n2 c2, .slice a3 n3 c3, .int .i64 a4] w fun e w' => e = .returned (.bool true) ∧ Below w.heap.size w w' := by
  rcases h with h | ⟨h1, h⟩ | ⟨h1, h2, h⟩ | ⟨h1, h2, h3, h⟩
  all_goals
    go_enter Try.func6, Try.ntmps6
    go_wp2_with fail
    refine (bytes5_any _ _ _ _ _ _ _ _ _ _ l2 l3).mono ?_
    rintro e w0 ⟨⟨b, rfl⟩, rfl⟩
    cases b with
    | false =>
      go_wp2
      go_ret
      exact ⟨rfl, Below.refl _ _⟩
    | true =>
      go_wp2
      go_ret
      exact ⟨rfl, Below.refl _ _⟩

/-- the address of a slice with room, written out -/
theorem shape_of_row {w : World} {a : Option Addr} {len cap : Nat} {zs : List Int}
    (h : (a = none ∧ len = 0 ∧ cap = 0 ∧ zs = []) ∨ ∃ x, a = some x ∧ len ≤ cap ∧ cap ≤ maxLen ∧ zs.length = cap ∧ (∀ i, i < zs.length → w.cell? (x.add i) = some (.int .u8 (zs.getD i 0))) ∧ ∀ n ∈ zs, (Lit.int .u8 n).wf = true) :
    len ≤ cap ∧ (0 < cap → ∃ b off, a = some ⟨b, off, none⟩) := by
  rcases h with ⟨rfl, rfl, rfl, rfl⟩ | ⟨x, rfl, hlc, hcm, hz, hc, _⟩
  · exact ⟨Nat.le_refl _, fun h => by omega⟩
  · refine ⟨hlc, fun hpos => ?_⟩
    obtain ⟨b, off, spot⟩ := x
    have hspot : spot = none := by simpa [Addr.add] using World.cell?_spot (hc 0 (by omega))
    subst hspot
    exact ⟨b, off, rfl⟩

end Go.Proofs.Qxb6613140a
