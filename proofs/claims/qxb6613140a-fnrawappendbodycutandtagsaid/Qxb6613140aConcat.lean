import Derived.Test.Qxb6613140aClone
namespace Go.Proofs.Qxb6613140a
open Go.RowKit

theorem splice_both (Z : List Value) (xs ys : List Int) (n1 n2 : Nat) (hx : xs.length = n1) (hy : ys.length = n2) (hZ : Z.length = n1 + n2) : splice (splice Z 0 (cellsU xs)) n1 (cellsU ys) = cellsU (xs ++ ys) := by
  have lx : (cellsU xs).length = n1 := by rw [length_cellsU, hx]
  have ly : (cellsU ys).length = n2 := by rw [length_cellsU, hy]
  rw [cellsU_append]
  unfold splice
  rw [lx, ly]
  simp only [List.take_zero, List.nil_append, Nat.zero_add]
  rw [List.take_append_of_le_length (by omega), List.take_of_length_le (by omega), List.drop_of_length_le (by simp; omega)]
  simp

set_option maxHeartbeats 400000 in
theorem concat_core (w : World) (a1 a2 : Option Addr) (n1 c1 n2 c2 : Nat) (xs ys : List Int) (hx : xs.length = n1) (hy : ys.length = n2) (hn1 : n1 ≤ 4194304) (hn2 : n2 ≤ 4194304)
    (h1 : 0 < n1 → ∃ ad, a1 = some ad ∧ ∀ j u, (cellsU xs)[j]? = some u → w.cell? (ad.add j) = some u)
    (h2 : 0 < n2 → ∃ ad, a2 = some ad ∧ ∀ j u, (cellsU ys)[j]? = some u → w.cell? (ad.add j) = some u) :
    Calls Try.prog 10 #[.slice a1 n1 c1, .slice a2 n2 c2] w fun e w' => Made w (xs ++ ys) e w' := by
  obtain ⟨i0, hi, hz0, hz1, hz2⟩ := info_parts info5
  have H1 : Hid (0 < n1 → ∃ ad, a1 = some ad ∧ ∀ j u, (cellsU xs)[j]? = some u → w.cell? (ad.add j) = some u) := h1
  have H2 : Hid (0 < n2 → ∃ ad, a2 = some ad ∧ ∀ j u, (cellsU ys)[j]? = some u → w.cell? (ad.add j) = some u) := h2
  have HX : Hid (xs.length = n1) := hx
  have HY : Hid (ys.length = n2) := hy
  clear h1 h2 hx hy
  go_enter Try.func10, Try.ntmps10
  go_wp2_with (at_make; refine wpList_make_full _ rfl (.tmp 10) (.tmp 10) 22 rfl w.heap.size 5 i0 (.int .u8 0) 1 Try.underlying22 hi hz0 hz1 .i64 .i64 _ _ (n1 + n2) rfl rfl (by omega) (by omega) (by rw [hz2]; omega) (by unfold maxLen; omega) (Nat.le_refl _) ?_)
  intro w1 hown hgrow
  have hbl : Below w.heap.size w w1 := (Below.refl _ _).grown hgrow (Nat.le_refl _) (fun k hk => by cases hk)
  obtain ⟨Z, hl, hrow⟩ := row_of_full hown
  have HR : Hid (w1.heap[w.heap.size]? = some (.cells Z.toArray 5 (0, 0))) := hrow
  have HC : Hid (0 < n1 → ∃ ad, a1 = some ad ∧ ∀ j u, (cellsU xs)[j]? = some u → w1.cell? (ad.add j) = some u) := by
    intro h0
    obtain ⟨ad, e, hc⟩ := H1.out h0
    exact ⟨ad, e, fun j u hu => hgrow.cell (hc j u hu) (by simp)⟩
  have HL : Hid (Z.length = n1 + n2) := hl
  clear hrow hown hgrow hl hi hz0 hz1 hz2
  go_wp2_with (refine wpList_copy_splice rfl (.tmp 12) (.tmp 13) 22 22 rfl 5 Try.underlying22 size5 _ _ (n1 + n2) (n1 + n2) n1 c1 rfl rfl w.heap.size 0 Z 5 HR.out (cellsU xs) (by rw [length_cellsU, HX.out]; simp) (fun h0 => ⟨rfl, HC.out (by rw [length_cellsU, HX.out] at h0; exact h0)⟩) (by rw [length_cellsU, HX.out, HL.out]; omega) (ints_oneCell _ _) w.heap.size w hbl (Nat.le_refl _) ?_)
  intro w2 HG hb2
  have HC2 : Hid (0 < n2 → ∃ ad, a2 = some ad ∧ ∀ j u, (cellsU ys)[j]? = some u → w2.cell? (ad.add j) = some u) := by
    intro h0
    obtain ⟨ad, e, hc⟩ := H2.out h0
    exact ⟨ad, e, fun j u hu => (hb2.cell (World.block_lt_of_cell? w _ (hc j u hu))).trans (hc j u hu)⟩
  have HS : Hid ((splice Z 0 (cellsU xs)).length = n1 + n2) := by
    show _ = _
    rw [length_splice _ _ _ (by rw [length_cellsU, HX.out, HL.out]; omega), HL.out]
  rcases Nat.eq_zero_or_pos n2 with h0 | h0
  · go_wp2_with (refine wpList_copy_splice rfl (.tmp 18) (.tmp 19) 22 22 rfl 5 Try.underlying22 size5 _ _ 0 0 n2 c2 rfl rfl w.heap.size n1 (splice Z 0 (cellsU xs)) 5 HG.out (cellsU ys) (by rw [length_cellsU, HY.out]; show _ = min _ _; omega) (fun h => by rw [length_cellsU, HY.out] at h; omega) (by rw [length_cellsU, HY.out, HS.out]; omega) (ints_oneCell _ _) w.heap.size w hb2 (Nat.le_refl _) ?_)
    intro w3 HG3 hb3
    go_wp2
    go_ret
    exact made_row HG3.out (splice_both Z xs ys _ _ HX.out HY.out HL.out) (by rw [List.length_append, HX.out, HY.out]; omega) (by unfold maxLen; omega) hb3
  · have h0' : ¬ n2 = 0 := by omega
    go_wp2_with (refine wpList_copy_splice rfl (.tmp 18) (.tmp 19) 22 22 rfl 5 Try.underlying22 size5 _ _ n2 n2 n2 c2 rfl rfl w.heap.size n1 (splice Z 0 (cellsU xs)) 5 HG.out (cellsU ys) (by rw [length_cellsU, HY.out]; show _ = min _ _; omega) (fun h => ⟨rfl, HC2.out h0⟩) (by rw [length_cellsU, HY.out, HS.out]; omega) (ints_oneCell _ _) w.heap.size w hb2 (Nat.le_refl _) ?_)
    intro w3 HG3 hb3
    go_wp2
    go_ret
    exact made_row HG3.out (splice_both Z xs ys _ _ HX.out HY.out HL.out) (by rw [List.length_append, HX.out, HY.out]) (by unfold maxLen; omega) hb3

theorem Rd.src {w : World} {a : Option Addr} {zs : List Int} (h : zs ≠ [] → ∃ b off, a = some ⟨b, off, none⟩ ∧ ∀ i, i < zs.length → w.cell? ⟨b, off + i, none⟩ = some (.int .u8 (zs.getD i 0))) :
    0 < zs.length → ∃ ad, a = some ad ∧ ∀ j u, (cellsU zs)[j]? = some u → w.cell? (ad.add j) = some u := by
  intro h0
  obtain ⟨b, off, rfl, hc⟩ := h (by intro e; subst e; simp at h0)
  refine ⟨_, rfl, fun j u hu => ?_⟩
  obtain ⟨hj, rfl⟩ := cellsU_get zs j u hu
  rw [Addr.add_lit]
  exact hc j hj

/-- zzConcat -/
theorem concat_any (w : World) (v1 v2 : Value) (xs ys : List Int) (hn1 : xs.length ≤ 4194304) (hn2 : ys.length ≤ 4194304) (h1 : Rd w v1 xs) (h2 : Rd w v2 ys) :
    Calls Try.prog 10 #[v1, v2] w fun e w' => Made w (xs ++ ys) e w' := by
  obtain ⟨a1, c1, rfl, _, _, _, r1⟩ := h1
  obtain ⟨a2, c2, rfl, _, _, _, r2⟩ := h2
  exact concat_core w a1 a2 _ c1 _ c2 xs ys rfl rfl hn1 hn2 (Rd.src r1) (Rd.src r2)

end Go.Proofs.Qxb6613140a
