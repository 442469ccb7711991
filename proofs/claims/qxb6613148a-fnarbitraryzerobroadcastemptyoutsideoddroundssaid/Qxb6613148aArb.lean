import Derived.Test.Qxb6613148aPcg
namespace Go.Proofs.Qxb6613148a
open Go.RowKit

/-- two empty slices that are not nil come back; of what was there nothing has turned -/
def Two (w : World) (e : Ending) (w' : World) : Prop := (∃ x y, e = .returned (.agg #[.slice (some x) 0 0, .slice (some y) 0 0])) ∧ Below w.heap.size w w'

theorem two_mk (w : World) (x y : Addr) (o1 o2 o3 o4 : Obj) : Two w (.returned (.agg #[.slice (some x) 0 0, .slice (some y) 0 0])) ((((w.alloc o1).alloc o2).alloc o3).alloc o4) :=
  ⟨⟨x, y, rfl⟩, ((((Below.refl _ _).alloc (Nat.le_refl _) _).alloc (by simp) _).alloc (by simp; omega) _).alloc (by simp; omega) _⟩

set_option maxHeartbeats 400000 in
theorem tuples_pos (r : Int) (p m : Value) (w : World) (h1 : r ≤ 65536) (h0 : 0 ≤ r) (hr : (r % 2 == 1) = false) :
    Calls Try.prog 12 #[.int .i64 r, .int .i64 0, p, m] w fun e w' => Two w e w' := by
  go_enter Try.func12, Try.ntmps12
  go_wp2
  go_loop [10] (fun k => ∃ n : Nat, 1 ≤ n ∧ n ≤ 32769 ∧ k = .int .i64 n) (fun k => 32769 - (intOf k).toNat)
  case atStart => exact ⟨1, by omega, by omega, rfl⟩
  case round =>
    obtain ⟨n, hn1, hn2, rfl⟩ := hrel
    by_cases hlt : (n : Int) ≤ r / 2
    · go_wp2
      refine wp_loop_rounds 1 ?_
      rw [rounds_succ]
      go_wp2
      go_round
      case rel => exact ⟨n + 1, by omega, by omega, by go_num⟩
      case measure => simp [intOf]; omega
    · go_wp2
      exact bodyPost_ret (v := .agg #[.slice (some ⟨w.heap.size + 1, 0, none⟩) 0 0, .slice (some ⟨w.heap.size + 1 + 1, 0, none⟩) 0 0]) (by simp [results, Try.results12, go_sem]) rfl (two_mk w _ _ _ _ _ _)

set_option maxHeartbeats 400000 in
theorem tuples_neg (r : Int) (p m : Value) (w : World) (hr : (r.tmod 2 == 1) = false) (hq : r.tdiv 2 ≤ 0) (hq' : -4611686018427387904 ≤ r.tdiv 2) :
    Calls Try.prog 12 #[.int .i64 r, .int .i64 0, p, m] w fun e w' => Two w e w' := by
  go_enter Try.func12, Try.ntmps12
  go_wp2
  refine wp_loop_rounds 1 ?_
  rw [rounds_succ]
  go_wp2
  exact bodyPost_ret (v := .agg #[.slice (some ⟨w.heap.size + 1, 0, none⟩) 0 0, .slice (some ⟨w.heap.size + 1 + 1, 0, none⟩) 0 0]) (by simp [results, Try.results12, go_sem]) rfl (two_mk w _ _ _ _ _ _)

theorem tdiv_bd (r : Int) (h0 : r < 0) (hb : -9223372036854775808 ≤ r) : (r.tmod 2 == 1) = false ∧ r.tdiv 2 ≤ 0 ∧ -4611686018427387904 ≤ r.tdiv 2 := by
  obtain ⟨n, rfl⟩ : ∃ n : Int, r = -n := ⟨-r, by omega⟩
  rw [Int.neg_tmod, Int.neg_tdiv, Int.tmod_eq_emod_of_nonneg (by omega), Int.tdiv_eq_ediv_of_nonneg (by omega)]
  refine ⟨?_, by omega, by omega⟩
  simp
  omega

/-- ArbitraryTuples[int] at no identifier, outside the positive odd rounds -/
theorem tuples_any (r : Int) (p m : Value) (w : World) (h1 : r ≤ 65536) (hb : -9223372036854775808 ≤ r) (hr : r ≤ 0 ∨ r % 2 = 0) :
    Calls Try.prog 12 #[.int .i64 r, .int .i64 0, p, m] w fun e w' => Two w e w' := by
  by_cases h0 : 0 ≤ r
  · exact tuples_pos r p m w h1 h0 (by simp; omega)
  · obtain ⟨a, b, c⟩ := tdiv_bd r (by omega) hb
    exact tuples_neg r p m w a b c

/-- three empty slices that are not nil come back -/
def Three (w : World) (e : Ending) (w' : World) : Prop := (∃ x y z, e = .returned (.agg #[.slice (some x) 0 0, .slice (some y) 0 0, .slice (some z) 0 0])) ∧ Below w.heap.size w w'

theorem three_mk {w w1 : World} {o : Obj} (hb : Below (w.alloc o).heap.size (w.alloc o) w1) (x y z : Addr) (u0 u1 u2 : Value) (o1 o2 o3 : Obj) :
    Three w (.returned (.agg #[.slice (some x) 0 0, .slice (some y) 0 0, .slice (some z) 0 0]))
      ((((((w1.setCell ⟨w.heap.size, 0, none⟩ u0).setCell ⟨w.heap.size, 1, none⟩ u1).setCell ⟨w.heap.size, 2, none⟩ u2).alloc o1).alloc o2).alloc o3) := by
  have hB : Below w.heap.size w w1 := ((Below.refl _ w).alloc (Nat.le_refl _) o).trans (hb.mono (by simp))
  have hS := hB.size
  refine ⟨⟨x, y, z, rfl⟩, ?_⟩
  exact ((((((hB.setCell (Nat.le_refl _) _).setCell (Nat.le_refl _) _).setCell (Nat.le_refl _) _).alloc (by simp [World.setCell]; omega) _).alloc (by simp [World.setCell]; omega) _).alloc (by simp [World.setCell]; omega) _)

set_option maxHeartbeats 400000 in
theorem ftuples_pos (r : Int) (p m : Value) (w : World) (h1 : r ≤ 65536) (h0 : 0 ≤ r) (hr : (r % 2 == 1) = false) :
    Calls Try.prog 10 #[.int .i64 r, .int .i64 0, p, m] w fun e w' => Three w e w' := by
  have hr' : r ≤ 0 ∨ r % 2 = 0 := by simp at hr; omega
  have H : Hid (r ≤ 0 ∨ r % 2 = 0) := hr'
  clear hr'
  go_enter Try.func10, Try.ntmps10
  go_wp2_with fail
  refine (tuples_any _ _ _ _ h1 (by omega) H.out).mono ?_
  rintro e w1 ⟨⟨x, y, rfl⟩, hb⟩
  have z : w.heap.size < w1.heap.size := by have := hb.size; simp at this; omega
  have q0 : w1.cell? ⟨w.heap.size, 0, none⟩ = some (.slice none 0 0) := (hb.cell (by simp)).trans (by simp)
  have q1 : w1.cell? ⟨w.heap.size, 1, none⟩ = some (.slice none 0 0) := (hb.cell (by simp)).trans (by simp)
  have q2 : w1.cell? ⟨w.heap.size, 2, none⟩ = some (.slice none 0 0) := (hb.cell (by simp)).trans (by simp)
  have g0 : w1.frozen? ⟨w.heap.size, 0, none⟩ = false := (hb.frozen (by simp)).trans (by simp)
  have g1 : w1.frozen? ⟨w.heap.size, 1, none⟩ = false := (hb.frozen (by simp)).trans (by simp)
  have g2 : w1.frozen? ⟨w.heap.size, 2, none⟩ = false := (hb.frozen (by simp)).trans (by simp)
  have z1 : w.heap.size < w1.heap.size + 1 := by omega
  have z2 : w.heap.size < w1.heap.size + 1 + 1 := by omega
  have z3 : w.heap.size < w1.heap.size + 1 + 1 + 1 := by omega
  go_wp2
  exact bodyPost_ret (v := .agg #[.slice (some x) 0 0, .slice (some ⟨w1.heap.size + 1, 0, none⟩) 0 0, .slice (some y) 0 0]) (by simp [results, Try.results10, go_sem, q0, q1, q2, z, z1, z2]) rfl (three_mk hb x _ y _ _ _ _ _ _)

set_option maxHeartbeats 400000 in
theorem ftuples_neg (r : Int) (p m : Value) (w : World) (h0 : r < 0) (hb0 : -9223372036854775808 ≤ r) (hr : (r.tmod 2 == 1) = false) :
    Calls Try.prog 10 #[.int .i64 r, .int .i64 0, p, m] w fun e w' => Three w e w' := by
  go_enter Try.func10, Try.ntmps10
  go_wp2_with fail
  refine (tuples_any _ _ _ _ (by omega) hb0 (.inl (by omega))).mono ?_
  rintro e w1 ⟨⟨x, y, rfl⟩, hb⟩
  have z : w.heap.size < w1.heap.size := by have := hb.size; simp at this; omega
  have q0 : w1.cell? ⟨w.heap.size, 0, none⟩ = some (.slice none 0 0) := (hb.cell (by simp)).trans (by simp)
  have q1 : w1.cell? ⟨w.heap.size, 1, none⟩ = some (.slice none 0 0) := (hb.cell (by simp)).trans (by simp)
  have q2 : w1.cell? ⟨w.heap.size, 2, none⟩ = some (.slice none 0 0) := (hb.cell (by simp)).trans (by simp)
  have g0 : w1.frozen? ⟨w.heap.size, 0, none⟩ = false := (hb.frozen (by simp)).trans (by simp)
  have g1 : w1.frozen? ⟨w.heap.size, 1, none⟩ = false := (hb.frozen (by simp)).trans (by simp)
  have g2 : w1.frozen? ⟨w.heap.size, 2, none⟩ = false := (hb.frozen (by simp)).trans (by simp)
  have z1 : w.heap.size < w1.heap.size + 1 := by omega
  have z2 : w.heap.size < w1.heap.size + 1 + 1 := by omega
  have z3 : w.heap.size < w1.heap.size + 1 + 1 + 1 := by omega
  go_wp2
  exact bodyPost_ret (v := .agg #[.slice (some x) 0 0, .slice (some ⟨w1.heap.size + 1, 0, none⟩) 0 0, .slice (some y) 0 0]) (by simp [results, Try.results10, go_sem, q0, q1, q2, z, z1, z2]) rfl (three_mk hb x _ y _ _ _ _ _ _)

/-- ArbitraryForgeableTuples[int] at no identifier, outside the positive odd rounds -/
theorem ftuples_any (r : Int) (p m : Value) (w : World) (h1 : r ≤ 65536) (hb : -9223372036854775808 ≤ r) (hr : r ≤ 0 ∨ r % 2 = 0) :
    Calls Try.prog 10 #[.int .i64 r, .int .i64 0, p, m] w fun e w' => Three w e w' := by
  by_cases h0 : 0 ≤ r
  · exact ftuples_pos r p m w h1 h0 (by simp; omega)
  · exact ftuples_neg r p m w (by omega) hb (tdiv_bd r (by omega) hb).1

end Go.Proofs.Qxb6613148a
