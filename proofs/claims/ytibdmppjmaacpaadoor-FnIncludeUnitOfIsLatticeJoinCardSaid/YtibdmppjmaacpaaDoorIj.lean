/-
  includeUnitOf, zzJoin, zzKind.
-/
import Derived.Test.YtibdmppjmaacpaaDoorIn
namespace Go.Proofs.YtibdmppjmaacpaaDoor.Iu
open Go.ChangeShapes Go.WideShapes Go.ChangeAt Go.RowKit Rg
set_option linter.unusedVariables false
def zk (x : Int) : Int := if x % 5 = 0 then 0 else if x % 5 = 1 then 30 else if x % 5 = 2 then 34 else if x % 5 = 3 then 26 else 29
theorem zk_cases (x : Int) : zk x = 0 ∨ zk x = 30 ∨ zk x = 34 ∨ zk x = 26 ∨ zk x = 29 := by unfold zk; repeat' split
                                                                                            all_goals simp
theorem ret_u {a b : Int} (h : a = b) : Ending.returned (.int .u8 a) = .returned (.int .u8 b) := by rw [h]
set_option maxRecDepth 100000 in
theorem zk_any (x : Int) (w : World) (h0 : 0 ≤ x) (h1 : x ≤ 255) :
    Calls Tryd.prog 5 #[.int .u8 x] w fun e w' => e = .returned (.int .u8 (zk x)) ∧ w = w' := by
  obtain ⟨z, hz⟩ : ∃ z, z = zk x := ⟨_, rfl⟩
  rw [← hz]
  unfold zk at hz
  have HZ := Lib.hid hz
  clear hz
  go_enter Tryd.func5, Tryd.ntmps5
  go_wp2
  all_goals go_ret
  all_goals refine ⟨ret_u ?_, rfl⟩
  all_goals (have h := HZ.out; simp_all)
theorem t_ne {a b : ByteArray} (h : a.toList ≠ b.toList) : (!a.toList == b.toList) = true := by simpa using h
set_option maxRecDepth 100000 in
set_option maxHeartbeats 1000000 in
theorem join_any (st : Int) (u : ByteArray) (n : Int) (c : ByteArray) (w : World) (h0 : 0 ≤ st) (h1 : st ≤ 2) (h2 : 0 ≤ n) (h3 : n ≤ 2) :
    Calls Tryd.prog 8 #[.int .u8 st, .string u, .int .u8 n, .string c] w fun e w' => e = .returned (.tuple #[.int .u8 (jN st u n c), .string (jU st u n c)]) ∧ w = w' := by
  obtain ⟨x, hx⟩ : ∃ x, x = jN st u n c := ⟨_, rfl⟩
  obtain ⟨y, hy⟩ : ∃ y, y = jU st u n c := ⟨_, rfl⟩
  rw [← hx, ← hy]
  unfold jN at hx
  unfold jU at hy
  have HX := Lib.hid hx
  have HY := Lib.hid hy
  clear hx hy
  have hst : st = 0 ∨ st = 1 ∨ st = 2 := by omega
  have hn : n = 0 ∨ n = 1 ∨ n = 2 := by omega
  clear h0 h1 h2 h3
  by_cases hu : u.toList = c.toList
  · have g1 : (u.toList == c.toList) = true := by simpa using hu
    have g2 : (u.toList != c.toList) = false := by simpa using hu
    have HU := Lib.hid hu
    clear hu
    rcases hst with rfl | rfl | rfl <;> rcases hn with rfl | rfl | rfl
    all_goals
      go_enter Tryd.func8, Tryd.ntmps8
      go_wp2
      go_ret2
      refine ⟨ret_t2 ?_ ?_, rfl⟩
      · have h := HX.out; simpa [HU.out] using h.symm
      · have h := HY.out; simpa using h.symm
  · have g1 : (u.toList == c.toList) = false := by simpa using hu
    have g2 : (u.toList != c.toList) = true := by simpa using hu
    have HU := Lib.hid hu
    clear hu
    rcases hst with rfl | rfl | rfl <;> rcases hn with rfl | rfl | rfl
    all_goals
      go_enter Tryd.func8, Tryd.ntmps8
      go_wp2
      go_ret2
      refine ⟨ret_t2 ?_ ?_, rfl⟩
      · have h := HX.out; simpa [HU.out] using h.symm
      · have h := HY.out; simpa using h.symm
end Go.Proofs.YtibdmppjmaacpaaDoor.Iu
