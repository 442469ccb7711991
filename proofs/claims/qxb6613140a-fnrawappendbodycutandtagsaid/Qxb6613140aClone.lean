import Derived.Test.Qxb6613140aRows
import Derived.Test.Qxb6613140aMem
import Derived.Laws.CopyOwn
import Derived.WalkSpells
namespace Go.Proofs.Qxb6613140a
open Go.RowKit

theorem info5 : (Try.prog.info? 5).map (fun i => (i.zero, i.size, i.bytes)) = some (some (.int .u8 0), 1, 1) := by kernel_rfl
theorem size5 : (Try.prog.info? 5).map (fun i => i.size) = some 1 := by kernel_rfl

theorem clone_nil (w : World) (c : Nat) :
    Calls Try.prog 14 #[.slice none 0 c] w fun e w' => e = .returned (.slice none 0 0) ∧ w' = w := by
  have hq := fun (w : World) => Lib.run_eql_slice_nil (P := Try.prog) w 22 5 none 0 c 0 0 Try.underlying22
  go_enter Try.func14, Try.ntmps14
  go_wp2
  go_ret
  exact ⟨rfl, rfl⟩

theorem row_of_full {w : World} {base g n : Nat} {xs : List Value} (h : w.ownsRow base 5 1 (.slice (some ⟨g, 0, none⟩) n n) n xs) : ∃ Z : List Value, Z.length = n ∧ w.heap[g]? = some (.cells Z.toArray 5 (0, 0)) :=
  ⟨xs, by have := h.1; omega, heap_of_full h⟩

theorem splice_all {α : Type} (Z X : List α) (h : X.length = Z.length) : splice Z 0 X = X := by
  unfold splice
  rw [h]
  simp

/-- what a call that makes a row hands back: the row is new, it reads as zs; of what was there nothing has turned -/
def Made (w : World) (zs : List Int) (e : Ending) (w' : World) : Prop :=
  ∃ v, e = .returned v ∧ Own w' v zs ∧ (∀ k, v.ownBlock = some k → w.heap.size ≤ k) ∧ Below w.heap.size w w'

theorem made_row {w w' : World} {n : Nat} {xs : List Value} {zs : List Int} (h : w'.heap[w.heap.size]? = some (.cells xs.toArray 5 (0, 0))) (hx : xs = cellsU zs) (hn : zs.length = n) (hm : n ≤ maxLen) (hb : Below w.heap.size w w') :
    Made w zs (.returned (.slice (some ⟨w.heap.size, 0, none⟩) n n)) w' :=
  ⟨_, rfl, own_of_heap h hx hn hm, fun k hk => by simp [Value.ownBlock] at hk; omega, hb⟩

set_option maxHeartbeats 400000 in
theorem clone_some (w : World) (x : Addr) (n c : Nat) (zs : List Int) (hz : zs.length = n) (hn : n ≤ 4194304)
    (hc : ∀ j u, (cellsU zs)[j]? = some u → w.cell? (x.add j) = some u) :
    Calls Try.prog 14 #[.slice (some x) n c] w fun e w' => Made w zs e w' := by
  have hq := fun (w : World) => Lib.run_eql_slice_nil (P := Try.prog) w 22 5 (some x) n c 0 0 Try.underlying22
  obtain ⟨i0, hi, hz0, hz1, hz2⟩ := info_parts info5
  go_enter Try.func14, Try.ntmps14
  go_wp2_with (at_make; refine wpList_make_full _ rfl (.tmp 7) (.tmp 7) 22 rfl w.heap.size 5 i0 (.int .u8 0) 1 Try.underlying22 hi hz0 hz1 .i64 .i64 (n : Int) (n : Int) n rfl rfl rfl rfl (by rw [hz2]; omega) (by unfold maxLen; omega) (Nat.le_refl _) ?_)
  intro w1 hown hgrow
  have hbl : Below w.heap.size w w1 := (Below.refl _ _).grown hgrow (Nat.le_refl _) (fun k hk => by cases hk)
  obtain ⟨Z, hl, hrow⟩ := row_of_full hown
  have hc1 : ∀ j u, (cellsU zs)[j]? = some u → w1.cell? (x.add j) = some u := fun j u hu => hgrow.cell (hc j u hu) (by simp)
  have HR : Hid (w1.heap[w.heap.size]? = some (.cells Z.toArray 5 (0, 0))) := hrow
  have HC : Hid (∀ j u, (cellsU zs)[j]? = some u → w1.cell? (x.add j) = some u) := hc1
  have HL : Hid (Z.length = n) := hl
  have HZ : Hid (zs.length = n) := hz
  clear hrow hown hgrow hc hc1 hl hz hi hz0 hz1 hz2
  go_wp2_with (refine wpList_copy_splice rfl (.tmp 9) (.tmp 10) 22 22 rfl 5 Try.underlying22 size5 _ _ n n n c rfl rfl w.heap.size 0 Z 5 HR.out (cellsU zs) (by rw [length_cellsU, HZ.out]; simp) (fun _ => ⟨rfl, _, rfl, HC.out⟩) (by rw [length_cellsU, HZ.out, HL.out]; omega) (ints_oneCell _ _) w.heap.size w hbl (Nat.le_refl _) ?_)
  intro w2 HG hb2
  go_wp2
  go_ret
  exact made_row HG.out (splice_all _ _ (by rw [length_cellsU, HZ.out, HL.out])) HZ.out (by unfold maxLen; omega) hb2

/-- zzClone -/
theorem clone_any (w : World) (v : Value) (zs : List Int) (hn : zs.length ≤ 4194304) (h : Rd w v zs) :
    Calls Try.prog 14 #[v] w fun e w' => Made w zs e w' := by
  obtain ⟨a, c, rfl, h1, h2, h3, h4⟩ := h
  cases a with
  | none =>
    obtain ⟨rfl, rfl⟩ := h1 rfl
    refine (clone_nil w 0).mono ?_
    rintro e w' ⟨rfl, rfl⟩
    exact ⟨_, rfl, World.ownsRow_nil _ _ _ _, fun k hk => by simp [Value.ownBlock] at hk, Below.refl _ _⟩
  | some x =>
    refine clone_some w x zs.length c zs rfl hn ?_
    intro j u hu
    obtain ⟨hj, rfl⟩ := cellsU_get zs j u hu
    obtain ⟨b, off, e, hcell⟩ := h4 (by intro h; subst h; simp at hj)
    obtain rfl := Option.some.inj e
    rw [Addr.add_lit]
    exact hcell j hj

end Go.Proofs.Qxb6613140a
