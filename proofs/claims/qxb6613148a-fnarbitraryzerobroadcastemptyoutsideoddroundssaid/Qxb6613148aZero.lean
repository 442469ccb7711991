import Derived.Test.Qxb6613148aArb
import Derived.Deep.RegionWith
import Derived.Deep.RegionHeld3
import Derived.WalkSpells
namespace Go.Proofs.Qxb6613148a
open Go.RowKit

/-- an interface value that holds three empty slices that are not nil -/
def Iface3 (w : World) (e : Ending) (w' : World) : Prop := (∃ x y z, e = .returned (.iface 43 (.agg #[.slice (some x) 0 0, .slice (some y) 0 0, .slice (some z) 0 0]))) ∧ Below w.heap.size w w'

set_option maxHeartbeats 400000 in
theorem arbitrary_any (r : Int) (g : Nat) (p : Value) (w : World) (h1 : r ≤ 65536) (hb : -9223372036854775808 ≤ r) (hr : r ≤ 0 ∨ r % 2 = 0)
    (c0 : w.cell? ⟨g, 0, none⟩ = some (.int .i64 0)) (c1 : w.cell? ⟨g, 1, none⟩ = some (.int .i64 0)) (c2 : w.cell? ⟨g, 2, none⟩ = some (.slice none 0 0)) (c3 : w.cell? ⟨g, 3, none⟩ = some (.map none)) (c4 : w.cell? ⟨g, 4, none⟩ = some (.int .i64 0)) :
    Calls Try.prog 8 #[.pointer (some ⟨g, 0, none⟩), .int .i64 r, p] w fun e w' => Iface3 w e w' := by
  have H : Hid (r ≤ 0 ∨ r % 2 = 0) := hr
  clear hr
  go_enter Try.func8, Try.ntmps8
  go_wp2
  go_region_with (go_at_call 10; refine (ftuples_any _ _ _ _ h1 hb H.out).mono ?_; rintro e w1 ⟨⟨x, y, z, rfl⟩, hbl⟩)
  all_goals go_wp2
  all_goals go_ret
  all_goals exact ⟨⟨_, _, _, rfl⟩, (Below.refl _ w).drew.trans (by assumption)⟩

/-- ZZfirstDraw: the draw hangs on the seeds alone -/
theorem first_core (a b v : Int) (w : World)
    (HR : Hid (∀ (r g : Nat) (w : World), w.cell? ⟨r, 0, none⟩ = some (.iface 29 (.pointer (some ⟨g, 0, none⟩))) → w.cell? ⟨g, 0, none⟩ = some (.int .u64 a) → w.cell? ⟨g, 1, none⟩ = some (.int .u64 b) → w.frozen? ⟨g, 0, none⟩ = false → w.frozen? ⟨g, 1, none⟩ = false →
      Calls Try.prog 9 #[.pointer (some ⟨r, 0, none⟩)] w fun e w' => e = .returned (.int .u64 v) ∧ w.grownBy w' (some g))) :
    Calls Try.prog 5 #[.int .u64 a, .int .u64 b] w fun e w' => e = .returned (.int .u64 v) ∧ Below w.heap.size w w' := by
  go_enter Try.func5, Try.ntmps5
  go_wp2_with (first | (go_at_call 9; refine (HR.out (w.heap.size + 1) w.heap.size _ (by simp) (by simp) (by simp) (by simp) (by simp)).mono ?_; rintro e w1 ⟨rfl, hg⟩) | go_in)
  go_ret
  exact ⟨rfl, (((Below.refl _ w).alloc (Nat.le_refl _) _).alloc (by simp) _).grown hg (by simp; omega) (fun k hk => by simp at hk; omega)⟩

theorem new_cell {w : World} {c : Array Value} {t : TypeId} {n i : Nat} {v : Value} (hn : n = w.heap.size) (hv : c[i]? = some v) : (w.alloc (.cells c t)).cell? ⟨n, i, none⟩ = some v :=
  (World.cell?_alloc_at c t n i hn).trans hv

/-- the assertion to the very type that the interface value holds -/
theorem assert_run (x y z : Addr) (w : World) : (Instr.typeAssert (.iface 43 (.agg #[.slice (some x) 0 0, .slice (some y) 0 0, .slice (some z) 0 0])) 39 43 true).run Try.prog w =
    .ok (.tuple #[.agg #[.slice (some x) 0 0, .slice (some y) 0 0, .slice (some z) 0 0], .bool true]) w := by kernel_rfl

set_option maxHeartbeats 400000 in
theorem zero_core (r a b v : Int) (w : World) (h1 : r ≤ 65536) (hb : -9223372036854775808 ≤ r) (hr : r ≤ 0 ∨ r % 2 = 0)
    (HR : Hid (∀ (r g : Nat) (w : World), w.cell? ⟨r, 0, none⟩ = some (.iface 29 (.pointer (some ⟨g, 0, none⟩))) → w.cell? ⟨g, 0, none⟩ = some (.int .u64 a) → w.cell? ⟨g, 1, none⟩ = some (.int .u64 b) → w.frozen? ⟨g, 0, none⟩ = false → w.frozen? ⟨g, 1, none⟩ = false →
      Calls Try.prog 9 #[.pointer (some ⟨r, 0, none⟩)] w fun e w' => e = .returned (.int .u64 v) ∧ w.grownBy w' (some g))) :
    Calls Try.prog 4 #[.int .i64 r, .int .u64 a, .int .u64 b] w fun e w' =>
      e = .returned (.tuple #[.bool true, .int .i64 0, .int .i64 0, .int .i64 0, .bool false, .bool false, .bool false, .int .u64 v]) ∧ Below w.heap.size w w' := by
  have H : Hid (r ≤ 0 ∨ r % 2 = 0) := hr
  clear hr
  go_enter Try.func4, Try.ntmps4
  go_wp2_with ((first | go_at_call 7 | go_at_call 6); go_in)
  refine (arbitrary_any r (w.heap.size + 1 + 1) _ _ h1 hb H.out (new_cell (by simp) rfl) (new_cell (by simp) rfl) (new_cell (by simp) rfl) (new_cell (by simp) rfl) (new_cell (by simp) rfl)).mono ?_
  rintro e w1 ⟨⟨x, y, z, rfl⟩, hbl⟩
  have hta := assert_run x y z
  have hz : w.heap.size + 3 ≤ w1.heap.size := by have := hbl.size; simp at this; omega
  have p0 : w1.cell? ⟨w.heap.size, 0, none⟩ = some (.int .u64 a) := (hbl.cell (by simp; omega)).trans (by simp [go_sem])
  have p1 : w1.cell? ⟨w.heap.size, 1, none⟩ = some (.int .u64 b) := (hbl.cell (by simp; omega)).trans (by simp [go_sem])
  have q0 : w1.frozen? ⟨w.heap.size, 0, none⟩ = false := (hbl.frozen (by simp; omega)).trans (by simp [go_sem])
  have q1 : w1.frozen? ⟨w.heap.size, 1, none⟩ = false := (hbl.frozen (by simp; omega)).trans (by simp [go_sem])
  have pr : w1.cell? ⟨w.heap.size + 1, 0, none⟩ = some (.iface 29 (.pointer (some ⟨w.heap.size, 0, none⟩))) := (hbl.cell (by simp)).trans (by simp [go_sem])
  have m1 : Below w.heap.size w w1 := (((((Below.refl _ w).alloc (Nat.le_refl _) _).alloc (by simp) _).alloc (by simp <;> omega) _)).trans (hbl.mono (by simp <;> omega))
  clear hbl
  have n31 := fun (w : World) (a : Addr) => Lib.run_eql_slice_nil (P := Try.prog) w 31 3 (some a) 0 0 0 0 Try.underlying31
  have n41 := fun (w : World) (a : Addr) => Lib.run_eql_slice_nil (P := Try.prog) w 41 61 (some a) 0 0 0 0 Try.underlying41
  have HC : Hid (Calls Try.prog 9 #[.pointer (some ⟨w.heap.size + 1, 0, none⟩)] (w1.alloc (.cells #[.slice (some x) 0 0, .slice (some y) 0 0, .slice (some z) 0 0] 43)).drew fun e w' => e = .returned (.int .u64 v) ∧ (w1.alloc (.cells #[.slice (some x) 0 0, .slice (some y) 0 0, .slice (some z) 0 0] 43)).drew.grownBy w' (some w.heap.size)) :=
    HR.out (w.heap.size + 1) w.heap.size _ ((World.cell?_alloc_past _ _ _ (by omega)).trans pr) ((World.cell?_alloc_past _ _ _ (by omega)).trans p0) ((World.cell?_alloc_past _ _ _ (by omega)).trans p1) ((World.frozen?_alloc_past _ _ _ (by omega)).trans q0) ((World.frozen?_alloc_past _ _ _ (by omega)).trans q1)
  have hne : ¬ w1.heap.size = w.heap.size := by omega
  clear pr p0 p1 q0 q1 HR
  go_wp2
  go_region_held3 (fun w' => w'.cell? ⟨w1.heap.size, 0, none⟩ = some (.slice (some x) 0 0) ∧ w'.cell? ⟨w1.heap.size, 1, none⟩ = some (.slice (some y) 0 0) ∧ w'.cell? ⟨w1.heap.size, 2, none⟩ = some (.slice (some z) 0 0))
    (first | (exact ⟨hg.cell (by simp) (by simp; omega), hg.cell (by simp) (by simp; omega), hg.cell (by simp) (by simp; omega)⟩) | go_keep)
    (first | (go_at_call 9; refine HC.out.mono ?_; rintro e w2 ⟨rfl, hg⟩))
  go_wp2
  exact bodyPost_ret (v := .tuple #[.bool true, .int .i64 0, .int .i64 0, .int .i64 0, .bool false, .bool false, .bool false, .int .u64 v]) (by simp [results, Try.results4, go_sem]) rfl
    ⟨rfl, (m1.alloc m1.size _).drew.grown hg (by have := m1.size; simp; omega) (fun k hk => by simp at hk; omega)⟩
end Go.Proofs.Qxb6613148a
