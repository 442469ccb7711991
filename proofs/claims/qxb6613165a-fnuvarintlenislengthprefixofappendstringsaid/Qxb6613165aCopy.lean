import Derived.Test.Qxb6613165aRows
import Derived.Test.Qxb6613165aMem
import Derived.WalkSpells
namespace Go.Proofs.Qxb6613165a
open Go.RowKit

theorem info5 : (Try.prog.info? 5).map (fun i => (i.zero, i.size, i.bytes)) = some (some (.int .u8 0), 1, 1) := by kernel_rfl

/-- what a call that makes a row hands back: the row is new, it reads as zs; of what was there nothing has turned -/
def Made (w : World) (zs : List Int) (e : Ending) (w' : World) : Prop := ∃ v, e = .returned v ∧ Own w.heap.size w' v zs ∧ Below w.heap.size w w'

theorem copy_nil (w : World) (c : Nat) :
    Calls Try.prog 7 #[.slice none 0 c] w fun e w' => e = .returned (.slice none 0 0) ∧ w' = w := by
  have hq := fun (w : World) => Lib.run_eql_slice_nil (P := Try.prog) w 26 5 none 0 c 0 0 Try.underlying26
  go_enter Try.func7, Try.ntmps7
  go_wp2
  go_ret
  exact ⟨rfl, rfl⟩

/-- the first k cells have been laid -/
def Laid (w0 : World) (n : Nat) (zs : List Int) (k : Nat) (w : World) : Prop :=
  ∃ xs : List Value, w.ownsRow w0.heap.size 5 1 (.slice (some ⟨w0.heap.size, 0, none⟩) n n) n xs ∧ (∀ j, j < k → xs[j]? = some (.int .u8 (zs.getD j 0))) ∧ Below w0.heap.size w0 w

theorem Laid.next {w0 w : World} {n k : Nat} {zs : List Int} (h : Laid w0 n zs k w) (hk : k < n) : Laid w0 n zs (k + 1) (w.setCell ⟨w0.heap.size, k, none⟩ (.int .u8 (zs.getD k 0))) := by
  obtain ⟨xs, ho, hx, hb⟩ := h
  refine ⟨xs.set k (.int .u8 (zs.getD k 0)), (ho.stored k _).1, fun j hj => ?_, hb.setCell (Nat.le_refl _) _⟩
  have hl : xs.length = n := by have := ho.1; omega
  by_cases e : j = k
  · subst e
    rw [List.getElem?_set_self (by omega)]
  · rw [List.getElem?_set_ne (by omega)]
    exact hx j (by omega)

theorem Laid.cell {w0 w : World} {n k : Nat} {zs : List Int} (h : Laid w0 n zs k w) (hk : k < n) : (∃ u, w.cell? ⟨w0.heap.size, k, none⟩ = some u) ∧ w.frozen? ⟨w0.heap.size, k, none⟩ = false := by
  obtain ⟨xs, ho, hx, hb⟩ := h
  have hl : xs.length = n := by have := ho.1; omega
  refine ⟨⟨xs[k], ?_⟩, ho.frozenAt k⟩
  rw [ho.cellAt k (by omega)]
  exact List.getElem?_eq_getElem (by omega)

theorem Laid.done {w0 w : World} {n k : Nat} {zs : List Int} (h : Laid w0 n zs k w) (hk : n ≤ k) (hz : zs.length = n) : Made w0 zs (.returned (.slice (some ⟨w0.heap.size, 0, none⟩) n n)) w := by
  obtain ⟨xs, ho, hx, hb⟩ := h
  have hl : xs.length = n := by have := ho.1; omega
  refine ⟨_, rfl, own_of (n := n) ?_, hb⟩
  have e : xs = cellsU zs := by
    apply List.ext_getElem?
    intro j
    by_cases hj : j < n
    · rw [hx j (by omega), cellsU_at zs j (by omega)]
    · rw [List.getElem?_eq_none (by omega), List.getElem?_eq_none (by rw [length_cellsU]; omega)]
  rw [← e]
  exact ho

set_option maxHeartbeats 400000 in
theorem copy_some (w : World) (b off n c : Nat) (zs : List Int) (hz : zs.length = n) (hn : n ≤ 4194304)
    (hc : ∀ j, j < n → w.cell? ⟨b, off + j, none⟩ = some (.int .u8 (zs.getD j 0))) :
    Calls Try.prog 7 #[.slice (some ⟨b, off, none⟩) n c] w fun e w' => Made w zs e w' := by
  have hq := fun (w : World) => Lib.run_eql_slice_nil (P := Try.prog) w 26 5 (some ⟨b, off, none⟩) n c 0 0 Try.underlying26
  obtain ⟨i0, hi, hz0, hz1, hz2⟩ := info_parts info5
  have HZ : Hid (zs.length = n) := hz
  have HC : Hid (∀ j, j < n → w.cell? ⟨b, off + j, none⟩ = some (.int .u8 (zs.getD j 0))) := hc
  clear hz hc
  go_enter Try.func7, Try.ntmps7
  go_wp2_with (at_make; refine wpList_make_full _ rfl (.tmp 8) (.tmp 8) 26 rfl w.heap.size 5 i0 (.int .u8 0) 1 Try.underlying26 hi hz0 hz1 .i64 .i64 (n : Int) (n : Int) n rfl rfl rfl rfl (by rw [hz2]; omega) (by unfold maxLen; omega) (Nat.le_refl _) ?_)
  intro w1 hown hgrow
  have hl0 : Laid w n zs 0 w1 := ⟨_, hown, fun j hj => by omega, (Below.refl _ _).grown hgrow (Nat.le_refl _) (fun k hk => by cases hk)⟩
  clear hown hgrow hi hz0 hz1 hz2
  go_wp2
  go_loopw [4] (fun i wr => ∃ k : Nat, k ≤ n ∧ i = .int .i64 k ∧ Laid w n zs k wr) (fun i _ => n - (intOf i).toNat)
  case atStart => exact ⟨0, Nat.zero_le _, rfl, hl0⟩
  case round =>
    obtain ⟨k, hk, rfl, hl⟩ := hrel
    by_cases hlt : k < n
    · have hcb := HC.out k hlt
      have hcx : wr.cell? ⟨b, off + k, none⟩ = some (.int .u8 (zs.getD k 0)) := by
        obtain ⟨xs, ho, hx, hb⟩ := hl
        exact (hb.cell (World.block_lt_of_cell? w _ hcb)).trans hcb
      obtain ⟨⟨u, hu⟩, hf⟩ := hl.cell hlt
      generalize hv : zs.getD k 0 = v at hcx
      have HV : Hid (zs.getD k 0 = v) := hv
      clear hcb hv
      go_wp2
      go_roundw
      case rel => exact ⟨k + 1, by omega, by go_num, by have := hl.next hlt; rw [HV.out] at this; exact this⟩
      case measure => simp [intOf]; omega
    · go_wp2
      go_ret
      exact hl.done (by omega) HZ.out

set_option maxHeartbeats 400000 in
theorem copy_empty (w : World) (x : Addr) (c : Nat) :
    Calls Try.prog 7 #[.slice (some x) 0 c] w fun e w' => Made w [] e w' := by
  have hq := fun (w : World) => Lib.run_eql_slice_nil (P := Try.prog) w 26 5 (some x) 0 c 0 0 Try.underlying26
  obtain ⟨i0, hi, hz0, hz1, hz2⟩ := info_parts info5
  go_enter Try.func7, Try.ntmps7
  go_wp2_with (at_make; refine wpList_make_full _ rfl (.tmp 8) (.tmp 8) 26 rfl w.heap.size 5 i0 (.int .u8 0) 1 Try.underlying26 hi hz0 hz1 .i64 .i64 0 0 0 rfl rfl rfl rfl (by omega) (by unfold maxLen; omega) (Nat.le_refl _) ?_)
  intro w1 hown hgrow
  have hl0 : Laid w 0 [] 0 w1 := ⟨_, hown, fun j hj => by omega, (Below.refl _ _).grown hgrow (Nat.le_refl _) (fun k hk => by cases hk)⟩
  clear hown hgrow hi hz0 hz1 hz2
  go_wp2
  refine wp_loop_rounds 1 ?_
  rw [rounds_succ]
  go_wp2
  go_ret
  exact hl0.done (by omega) rfl

/-- copyBytes -/
theorem copy_any (w : World) (v : Value) (zs : List Int) (hn : zs.length ≤ 4194304) (h : Rd w v zs) :
    Calls Try.prog 7 #[v] w fun e w' => Made w zs e w' := by
  obtain ⟨a, c, rfl, h1, h2, h3, h4⟩ := h
  cases a with
  | none =>
    obtain ⟨rfl, rfl⟩ := h1 rfl
    refine (copy_nil w 0).mono ?_
    rintro e w' ⟨rfl, rfl⟩
    exact ⟨_, rfl, World.ownsRow_nil _ _ _ _, Below.refl _ _⟩
  | some x =>
    by_cases hz : zs = []
    · subst hz
      exact copy_empty w x c
    · obtain ⟨b, off, e, hc⟩ := h4 hz
      obtain rfl := Option.some.inj e
      exact copy_some w b off zs.length c zs rfl hn hc

end Go.Proofs.Qxb6613165a
