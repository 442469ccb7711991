import Derived.Test.Qxb6613165aCopy
import Derived.Test.Qxb6613165aUvar
import Derived.Lib.AppendStr
namespace Go.Proofs.Qxb6613165a
open Go.RowKit

/-- what an append to an own row hands back -/
def Apd (B : Nat) (w : World) (zs : List Int) (e : Ending) (w' : World) : Prop := ∃ v, e = .returned v ∧ Own B w' v zs ∧ Below B w w'

theorem one_cell (w : World) (u : Value) (t : TypeId) : ∀ j u', [u][j]? = some u' → (w.alloc (.cells #[u] t)).cell? ((⟨w.heap.size, 0, none⟩ : Addr).add j) = some u' := by
  intro j u' hj
  match j, hj with
  | 0, hj => simp at hj; subst hj; simp [Addr.add]

theorem or_byte (y : Nat) : bits .or .u8 ((y : Int) % 256) 128 = ((y % 128 + 128 : Nat) : Int) := by
  rw [Lib.u8_or128_any _ (by omega) (by omega)]; omega

set_option maxHeartbeats 800000 in
set_option maxRecDepth 100000 in
theorem uvar_any (B x : Nat) (v : Value) (zs : List Int) (w : World) (hx : W64 x) (hn : zs.length ≤ 4194304) (hO : Own B w v zs) (hB : B ≤ w.heap.size) :
    Calls Try.prog 10 #[v, .int .u64 x] w fun e w' => Apd B w (zs ++ U x) e w' := by
  obtain ⟨i0, hi, hz0, hz1, hz2⟩ := info_parts info5
  have hL : ulen x ≤ 10 := ulen_le hx
  have HL : Hid ((U x).length = ulen x) := U_length x
  go_enter Try.func10, Try.ntmps10
  go_wp2
  go_loopw [0, 1] (fun vb vx wr => ∃ (y : Nat) (ps : List Int), vx = .int .u64 y ∧ Hid (U x = ps ++ U y) ∧ Own B wr vb (zs ++ ps) ∧ Below B w wr) (fun _ vx _ => (intOf vx).toNat)
  case atStart => exact ⟨x, [], rfl, rfl, by simpa using hO, Below.refl _ _⟩
  case round =>
    obtain ⟨y, ps, rfl, HS, ho, hb⟩ := hrel
    have hps : ps.length + ulen y ≤ 10 := by
      have h2 := congrArg List.length HS.out
      rw [List.length_append, U_length, U_length] at h2
      omega
    have hlen : (zs ++ ps).length ≤ 4194314 := by rw [List.length_append]; omega
    have HO : Hid (wr.ownsRow B 5 1 u0 (zs ++ ps).length (cellsU (zs ++ ps))) := ho
    have hsz := hb.size
    generalize hN : (zs ++ ps).length = N at hlen HO
    have HN : Hid ((zs ++ ps).length = N) := hN
    clear hN ho hO
    by_cases h128 : 128 ≤ y
    · have hor := or_byte y
      have ec : ((y % 128 + 128 : Nat) : Int) = (y : Int) % 128 + 128 := by omega
      rw [ec] at hor
      have EC : Hid (((y % 128 + 128 : Nat) : Int) = (y : Int) % 128 + 128) := ec
      clear ec
      go_wp2_with (at_builtin; refine wpList_append_own _ rfl (.tmp 7) (.tmp 11) 26 rfl B 5 i0 (.int .u8 0) 1 1 Try.underlying26 hi hz0 hz1 hz2 rfl (by decide) _ N (cellsU (zs ++ ps)) rfl (HO.out.alloc _) ⟨wr.heap.size, 0, none⟩ 1 1 [Value.int .u8 ((y : Int) % 128 + 128)] rfl rfl (one_cell wr _ _) (fun u hu => by simp at hu; subst hu; rfl) (by unfold maxLen; omega) (by omega) (by simp; omega) ?_)
      intro v' w1 hown' hgrow _
      have hb1 : Below B w w1 := (hb.alloc (by omega) _).grown hgrow (by simp; omega) (fun k hk => (HO.out.lt k hk).1)
      have ho1 : Own B w1 v' (zs ++ (ps ++ [(y : Int) % 128 + 128])) := by
        refine own_of (n := N + 1) ?_
        rw [← List.append_assoc, cellsU_append]
        exact hown'
      clear hown' hgrow
      go_wp2
      go_roundw
      case rel => exact ⟨y / 128, ps ++ [(y : Int) % 128 + 128], by go_num, by show U x = _; rw [HS.out, U_big h128, EC.out]; simp, ho1, hb1⟩
      case measure => simp [intOf]; omega
    · have HY : Hid (U y = [(y : Int)]) := U_small (by omega)
      go_wp2_with (at_builtin; refine wpList_append_own _ rfl (.tmp 15) (.tmp 18) 26 rfl B 5 i0 (.int .u8 0) 1 1 Try.underlying26 hi hz0 hz1 hz2 rfl (by decide) _ N (cellsU (zs ++ ps)) rfl (HO.out.alloc _) ⟨wr.heap.size, 0, none⟩ 1 1 [Value.int .u8 (y : Int)] rfl rfl (one_cell wr _ _) (fun u hu => by simp at hu; subst hu; rfl) (by unfold maxLen; omega) (by omega) (by simp; omega) ?_)
      intro v' w1 hown' hgrow _
      have hb1 : Below B w w1 := (hb.alloc (by omega) _).grown hgrow (by simp; omega) (fun k hk => (HO.out.lt k hk).1)
      have ho1 : Own B w1 v' (zs ++ U x) := by
        refine own_of (n := N + 1) ?_
        rw [HS.out, HY.out, ← List.append_assoc, cellsU_append]
        exact hown'
      clear hown' hgrow
      go_wp2
      go_ret
      exact ⟨v', rfl, ho1, hb1⟩

/-- a string's bytes as numbers -/
def S (s : ByteArray) : List Int := s.data.toList.map fun b => (b.toNat : Int)

theorem S_length (s : ByteArray) : (S s).length = s.size := by simp [S]

theorem cellsU_S (s : ByteArray) : cellsU (S s) = Lib.strCells s := by simp [cellsU, S, Lib.strCells]

set_option maxHeartbeats 400000 in
set_option maxRecDepth 100000 in
/-- wire.AppendString onto an own row -/
theorem string_any (B : Nat) (v : Value) (zs : List Int) (s : ByteArray) (w : World) (hn : zs.length ≤ 1048576) (hs : s.size ≤ 1048576) (hO : Own B w v zs) (hB : B ≤ w.heap.size) :
    Calls Try.prog 8 #[v, .string s] w fun e w' => Apd B w (zs ++ U s.size ++ S s) e w' := by
  obtain ⟨i0, hi, hz0, hz1, hz2⟩ := info_parts info5
  have hL : ulen s.size ≤ 10 := ulen_le (by omega)
  have HL : Hid ((U s.size).length = ulen s.size) := U_length _
  go_enter Try.func8, Try.ntmps8
  go_wp2_with fail
  refine (uvar_any B s.size v zs _ (by unfold W64; omega) (by omega) hO hB).mono ?_
  rintro e w1 ⟨v1, rfl, o1, m1⟩
  have hsz := m1.size
  have hl : (zs ++ U s.size).length ≤ 1048586 := by rw [List.length_append, HL.out]; omega
  go_wp2_with (at_builtin; refine Lib.wpList_append_own_string _ rfl (.tmp 10) (.tmp 11) 26 9 rfl B 5 i0 Try.underlying26 Try.underlying9 hi hz0 hz1 hz2 _ _ _ rfl o1 s rfl (by unfold maxLen; omega) (by omega) (by omega) ?_)
  intro v' w2 hown' hgrow _
  have hb2 : Below B w w2 := m1.grown hgrow (by omega) (fun k hk => (World.ownsRow.lt o1 k hk).1)
  have ho2 : Own B w2 v' (zs ++ U s.size ++ S s) := by
    refine own_of (n := zs.length + (U s.size).length + s.size) ?_
    rw [cellsU_append, cellsU_S]
    exact hown'
  clear hown' hgrow
  go_wp2
  go_ret
  exact ⟨v', rfl, ho2, hb2⟩

end Go.Proofs.Qxb6613165a
