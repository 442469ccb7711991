import Derived.Test.Qxb6613140aRows
import Derived.Test.Qxb6613140aMem
import Derived.Deep.QuietTactic
import Derived.BigQuiet
namespace Go.Proofs.Qxb6613140a
open Go.RowKit

set_option maxHeartbeats 400000 in
theorem equal_some (w : World) (b1 o1 c1 b2 o2 c2 n : Nat) (zs : List Int) (hz : zs.length = n) (hn : n ≤ 4194304)
    (h1 : ∀ i, i < n → w.cell? ⟨b1, o1 + i, none⟩ = some (.int .u8 (zs.getD i 0)))
    (h2 : ∀ i, i < n → w.cell? ⟨b2, o2 + i, none⟩ = some (.int .u8 (zs.getD i 0))) :
    Calls Try.prog 16 #[.slice (some ⟨b1, o1, none⟩) n c1, .slice (some ⟨b2, o2, none⟩) n c2] w fun e w' => e = .returned (.bool true) ∧ ∃ m, w' = w.drewN m := by
  go_enter Try.func16, Try.ntmps16
  go_wp2
  go_loopw [5] (fun i wr => ∃ k : Nat, k ≤ n ∧ i = .int .i64 k ∧ ∃ m, wr = w.drewN m) (fun i _ => n - (intOf i).toNat)
  case atStart => exact ⟨0, Nat.zero_le _, rfl, 0, rfl⟩
  case round =>
    obtain ⟨k, hk, rfl, m, rfl⟩ := hrel
    by_cases hlt : k < n
    · have e1 := h1 k hlt
      have e2 := h2 k hlt
      clear h1 h2
      go_wp2
      go_quiet (fail)
      go_wp2
      go_roundw
      case rel => exact ⟨k + 1, by omega, by go_num, _, rfl⟩
      case measure => simp [intOf]; omega
    · go_wp2
      go_ret
      exact ⟨rfl, m, rfl⟩

theorem equal_none (w : World) (a1 a2 : Option Addr) (c1 c2 : Nat) :
    Calls Try.prog 16 #[.slice a1 0 c1, .slice a2 0 c2] w fun e w' => e = .returned (.bool true) ∧ ∃ m, w' = w.drewN m := by
  go_enter Try.func16, Try.ntmps16
  go_wp2
  refine wp_loop_rounds 1 ?_
  rw [rounds_succ]
  go_wp2
  go_ret
  exact ⟨rfl, 0, rfl⟩

/-- zzEqual says yes of two slices that read alike -/
theorem equal_any (w : World) (v1 v2 : Value) (zs : List Int) (hn : zs.length ≤ 4194304) (h1 : Rd w v1 zs) (h2 : Rd w v2 zs) :
    Calls Try.prog 16 #[v1, v2] w fun e w' => e = .returned (.bool true) ∧ ∃ m, w' = w.drewN m := by
  obtain ⟨a1, c1, rfl, _, _, _, r1⟩ := h1
  obtain ⟨a2, c2, rfl, _, _, _, r2⟩ := h2
  by_cases hz : zs = []
  · subst hz
    exact equal_none w a1 a2 c1 c2
  · obtain ⟨b1, o1, rfl, e1⟩ := r1 hz
    obtain ⟨b2, o2, rfl, e2⟩ := r2 hz
    exact equal_some w b1 o1 c1 b2 o2 c2 zs.length zs rfl hn e1 e2

end Go.Proofs.Qxb6613140a
