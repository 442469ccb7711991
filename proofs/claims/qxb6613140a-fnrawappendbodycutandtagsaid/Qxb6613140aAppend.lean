import Derived.Test.Qxb6613140aConcat
import Derived.Laws.AppendOwnNone
import Derived.ArgAppend
namespace Go.Proofs.Qxb6613140a
open Go.RowKit

/-- what an append to an own row hands back: it reads as zs; the row that it was may have been written, or the new one is new; nothing else has turned -/
def Apd (w : World) (v : Value) (zs : List Int) (e : Ending) (w' : World) : Prop :=
  ∃ v', e = .returned v' ∧ Own w' v' zs ∧ w.grownBy w' v.ownBlock ∧ (v'.ownBlock = v.ownBlock ∨ ∀ k, v'.ownBlock = some k → w.heap.size ≤ k)

set_option maxHeartbeats 400000 in
theorem apd_none (w : World) (g : Nat) (v : Value) (zs : List Int) (hp : w.cell? ⟨g, 1, none⟩ = some (.slice none 0 0)) (hO : Own w v zs) :
    Calls Try.prog 15 #[.pointer (some ⟨g, 0, none⟩), v] w fun e w' => e = .returned v ∧ w' = w := by
  obtain ⟨i0, hi, hz0, hz1, hz2⟩ := info_parts info5
  have HO : Hid (Own w v zs) := hO
  clear hO
  go_enter Try.func15, Try.ntmps15
  go_wp2_with (first | (at_builtin; refine wpList_append_own_none rfl (.tmp 5) (.tmp 9) 22 rfl 0 5 i0 1 Try.underlying22 hi v zs.length (cellsU zs) rfl HO.out rfl ?_) | go_in)
  go_ret
  exact ⟨rfl, rfl⟩

set_option maxHeartbeats 400000 in
theorem apd_nil (w : World) (g : Nat) (x : Addr) (m c : Nat) (ys : List Int) (hy : ys.length = m) (hm : m ≤ 4194304) (hp : w.cell? ⟨g, 1, none⟩ = some (.slice (some x) m c))
    (hc : ∀ j u, (cellsU ys)[j]? = some u → w.cell? (x.add j) = some u) :
    Calls Try.prog 15 #[.pointer (some ⟨g, 0, none⟩), .slice none 0 0] w fun e w' => Apd w (.slice none 0 0) ys e w' := by
  obtain ⟨i0, hi, hz0, hz1, hz2⟩ := info_parts info5
  have HY : Hid (ys.length = m) := hy
  have HC : Hid (∀ j u, (cellsU ys)[j]? = some u → w.cell? (x.add j) = some u) := hc
  clear hy hc
  go_enter Try.func15, Try.ntmps15
  go_wp2_with (first | (at_builtin; refine wpList_append_own _ rfl (.tmp 5) (.tmp 9) 22 rfl w.heap.size 5 i0 (.int .u8 0) 1 1 Try.underlying22 hi hz0 hz1 hz2 rfl (by decide) _ 0 [] rfl (World.ownsRow_nil _ _ _ _) x m c (cellsU ys) rfl (by rw [length_cellsU, HY.out]; omega) HC.out (ints_oneCell _ _) (by unfold maxLen; omega) (by omega) (Nat.le_refl _) ?_) | go_in)
  intro v' w1 hown hgrow _
  go_wp2
  go_ret
  exact ⟨v', rfl, (own_of hown).1, hgrow, .inr (own_of hown).2⟩

set_option maxHeartbeats 400000 in
theorem apd_room (w : World) (g h n cap : Nat) (x : Addr) (m c : Nat) (zs ys : List Int) (hz : zs.length = n) (hy : ys.length = m) (hroom : n + m ≤ cap) (hp : w.cell? ⟨g, 1, none⟩ = some (.slice (some x) m c))
    (hO : Own w (.slice (some ⟨h, 0, none⟩) n cap) zs) (hc : ∀ j u, (cellsU ys)[j]? = some u → w.cell? (x.add j) = some u) :
    Calls Try.prog 15 #[.pointer (some ⟨g, 0, none⟩), .slice (some ⟨h, 0, none⟩) n cap] w fun e w' => Apd w (.slice (some ⟨h, 0, none⟩) n cap) (zs ++ ys) e w' := by
  obtain ⟨i0, hi, hz0, hz1, hz2⟩ := info_parts info5
  have HY : Hid (ys.length = m) := hy
  have HO : Hid (w.ownsRow 0 5 1 (.slice (some ⟨h, 0, none⟩) n cap) n (cellsU zs)) := by show World.ownsRow _ _ _ _ _ _ _; rw [← hz]; rw [← hz] at hO; exact hO
  have HC : Hid (∀ j u, (cellsU ys)[j]? = some u → w.cell? (x.add j) = some u) := hc
  clear hy hc hO
  go_enter Try.func15, Try.ntmps15
  go_wp2_with (first | (at_builtin; refine wpList_append_fits _ rfl (.tmp 5) (.tmp 9) 22 rfl 0 5 i0 1 Try.underlying22 hi hz1 h n cap (cellsU zs) rfl HO.out x m c (cellsU ys) rfl (by rw [length_cellsU, HY.out]; omega) HC.out (ints_oneCell _ _) hroom ?_) | go_in)
  intro w1 hown hgrow
  rw [← cellsU_append] at hown
  go_wp2
  go_ret
  exact ⟨_, rfl, (own_of hown).1, hgrow, .inl rfl⟩

set_option maxHeartbeats 400000 in
theorem apd_grow (w : World) (g h n cap : Nat) (x : Addr) (m c : Nat) (zs ys : List Int) (hz : zs.length = n) (hy : ys.length = m) (hn : n ≤ 4194304) (hm : m ≤ 4194304) (hroom : cap < n + m) (hp : w.cell? ⟨g, 1, none⟩ = some (.slice (some x) m c))
    (hO : Own w (.slice (some ⟨h, 0, none⟩) n cap) zs) (hc : ∀ j u, (cellsU ys)[j]? = some u → w.cell? (x.add j) = some u) :
    Calls Try.prog 15 #[.pointer (some ⟨g, 0, none⟩), .slice (some ⟨h, 0, none⟩) n cap] w fun e w' => Apd w (.slice (some ⟨h, 0, none⟩) n cap) (zs ++ ys) e w' := by
  obtain ⟨i0, hi, hz0, hz1, hz2⟩ := info_parts info5
  have HY : Hid (ys.length = m) := hy
  have HZ : Hid (zs.length = n) := hz
  have HO : Hid (∀ b, some (⟨h, 0, none⟩ : Addr) = some b → ∀ j u, (cellsU zs)[j]? = some u → w.cell? (b.add j) = some u) := by
    intro b hb j u hu
    obtain rfl := Option.some.inj hb
    exact World.ownsRow.cells hO (g := h) rfl j u hu
  have HC : Hid (∀ j u, (cellsU ys)[j]? = some u → w.cell? (x.add j) = some u) := hc
  clear hy hc hO hz
  go_enter Try.func15, Try.ntmps15
  go_wp2_with (first | (at_builtin; refine wpList_append_grows _ rfl (.tmp 5) (.tmp 9) 22 rfl 5 i0 (.int .u8 0) 1 1 Try.underlying22 hi hz0 hz1 hz2 rfl (by decide) (some ⟨h, 0, none⟩) n cap (cellsU zs) rfl (fun h => by cases h) (by rw [length_cellsU, HZ.out]; omega) HO.out x m c (cellsU ys) rfl (by rw [length_cellsU, HY.out]; omega) HC.out (ints_oneCell _ _) hroom (by unfold maxLen; omega) (by omega) ?_) | go_in)
  intro v' w1 hown hgrow
  rw [← cellsU_append] at hown
  go_wp2
  go_ret
  exact ⟨v', rfl, (own_of hown).1, ⟨hgrow.os, hgrow.tape, hgrow.output, hgrow.size, fun k hk _ => hgrow.block k hk (by simp)⟩, .inr (own_of hown).2⟩

/-- ZZRawAppendBody at an own row -/
theorem apd_any (w : World) (g : Nat) (v v2 : Value) (zs ys : List Int) (hn : zs.length ≤ 4194304) (hm : ys.length ≤ 4194304) (hp : w.cell? ⟨g, 1, none⟩ = some v2) (hO : Own w v zs) (hR : Rd w v2 ys) :
    Calls Try.prog 15 #[.pointer (some ⟨g, 0, none⟩), v] w fun e w' => Apd w v (zs ++ ys) e w' := by
  obtain ⟨a, c, rfl, h1, h2, h3, h4⟩ := hR
  cases a with
  | none =>
    obtain ⟨rfl, rfl⟩ := h1 rfl
    refine (apd_none w g v zs hp hO).mono ?_
    rintro e w' ⟨rfl, rfl⟩
    exact ⟨v, rfl, by simpa using hO, World.grownBy.refl _ _, .inl rfl⟩
  | some x =>
    have hc : ∀ j u, (cellsU ys)[j]? = some u → w.cell? (x.add j) = some u := by
      intro j u hu
      have hj := (cellsU_get ys j u hu).1
      obtain ⟨ad, e, hc⟩ := Rd.src h4 (by omega)
      obtain rfl := Option.some.inj e
      exact hc j u hu
    have hO' := hO
    rcases hO'.2 with ⟨rfl, hn0⟩ | ⟨h, cap, cur, rfl, _⟩
    · obtain rfl : zs = [] := List.eq_nil_of_length_eq_zero hn0
      exact apd_nil w g x _ c ys rfl hm hp hc
    · by_cases hroom : zs.length + ys.length ≤ cap
      · exact apd_room w g h _ cap x _ c zs ys rfl rfl hroom hp hO hc
      · exact apd_grow w g h _ cap x _ c zs ys rfl rfl hn hm (by omega) hp hO hc

end Go.Proofs.Qxb6613140a
