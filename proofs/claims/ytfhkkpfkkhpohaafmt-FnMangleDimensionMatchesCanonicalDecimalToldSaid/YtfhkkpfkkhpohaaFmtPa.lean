/-
  isSUnit, isMsUnit, vdig, hasNonzero.
-/
import Derived.Test.YtfhkkpfkkhpohaaFmtZp
import Derived.Test.YtfhkkpfkkhpohaaFmtDc
import Derived.Deep.LoopGhost
import Derived.Deep.DeepCutAuto
import Derived.Deep.CutBlock
import Derived.Deep.QuietTactic
import Derived.BigQuiet
namespace Go.Proofs.YtfhkkpfkkhpohaaFmt.Sd
open Go.ChangeShapes Go.WideShapes Go.ChangeAt Go.RowKit Rg
set_option linter.unusedVariables false
def sU (u : ByteArray) : Bool := decide (u.data.toList = [115] ∨ u.data.toList = [83] ∨ u.data.toList = [197, 191])
set_option maxRecDepth 100000 in
set_option maxHeartbeats 1000000 in
theorem su_any (u : ByteArray) (w : World) :
    Calls Tryf.prog 10 #[.string u] w fun e w' => e = .returned (.bool (sU u)) ∧ w = w' := by
  by_cases h1 : u.toList = [115]
  · have hs : sU u = true := by simp [sU, ← Lib.toList_data, h1]
    rw [hs]
    go_enter Tryf.func10, Tryf.ntmps10
    go_wp2
    go_ret
    exact ⟨rfl, rfl⟩
  by_cases h2 : u.toList = [83]
  · have hs : sU u = true := by simp [sU, ← Lib.toList_data, h2]
    rw [hs]
    go_enter Tryf.func10, Tryf.ntmps10
    go_wp2
    go_ret
    exact ⟨rfl, rfl⟩
  by_cases h3 : u.toList = [197, 191]
  · have hs : sU u = true := by simp [sU, ← Lib.toList_data, h3]
    rw [hs]
    go_enter Tryf.func10, Tryf.ntmps10
    go_wp2
    go_ret
    exact ⟨rfl, rfl⟩
  have hs : sU u = false := by simp [sU, ← Lib.toList_data, h1, h2, h3]
  rw [hs]
  have g1 : (u.toList == [115]) = false := by simpa using h1
  have g2 : (u.toList == [83]) = false := by simpa using h2
  have g3 : (u.toList == [197, 191]) = false := by simpa using h3
  go_enter Tryf.func10, Tryf.ntmps10
  go_wp2
  go_ret
  exact ⟨rfl, rfl⟩
def mU (u : ByteArray) : Bool := match u.data.toList with
  | [] => false
  | b :: r => (b == 109 || b == 77) && decide (r = [115] ∨ r = [83] ∨ r = [197, 191])
set_option maxRecDepth 100000 in
set_option maxHeartbeats 1000000 in
theorem mu_any (u : ByteArray) (w : World) (hu : (u.size : Int) ≤ 9223372036854775807) :
    Calls Tryf.prog 8 #[.string u] w fun e w' => e = .returned (.bool (mU u)) ∧ w = w' := by
  by_cases hp : 0 < u.size
  · have HX : u.data.toList = u[0] :: u.data.toList.drop 1 := by have := drop_at u 0 hp; simpa using this
    have HE : sU (u.extract 1 u.size) = decide (u.data.toList.drop 1 = [115] ∨ u.data.toList.drop 1 = [83] ∨ u.data.toList.drop 1 = [197, 191]) := by rw [sU, ext_drop]
    have hm : mU u = ((u[0] == 109 || u[0] == 77) && sU (u.extract 1 u.size)) := by rw [mU, HX, HE]
    have HM := Lib.hid hm
    clear HX HE hm
    by_cases h1 : (u[0]'hp).toNat = 109
    · have e1 : (u[0] == 109) = true := by rw [beq_iff_eq]; exact UInt8.toNat_inj.1 (by simpa using h1)
      have hs : Hid (mU u = sU (u.extract 1 u.size)) := Lib.hid (by rw [HM.out, e1]; rfl)
      have b1 : (((u[0]'hp).toNat : Int) == 109) = true := by simp [h1]
      clear e1 h1 HM
      go_enter Tryf.func8, Tryf.ntmps8
      go_wp2_with fail
      refine (su_any _ _).mono ?_
      rintro e w' ⟨rfl, rfl⟩
      go_wp2
      go_ret
      exact ⟨ret_b hs.out.symm, rfl⟩
    · have e1 : (u[0] == 109) = false := by rw [beq_eq_false_iff_ne]; intro e; exact h1 (by rw [e]; rfl)
      have b1 : (((u[0]'hp).toNat : Int) == 109) = false := by simp; omega
      by_cases h2 : (u[0]'hp).toNat = 77
      · have e2 : (u[0] == 77) = true := by rw [beq_iff_eq]; exact UInt8.toNat_inj.1 (by simpa using h2)
        have hs : Hid (mU u = sU (u.extract 1 u.size)) := Lib.hid (by rw [HM.out, e1, e2]; rfl)
        have b2 : (((u[0]'hp).toNat : Int) == 77) = true := by simp [h2]
        clear e1 e2 h1 h2 HM
        go_enter Tryf.func8, Tryf.ntmps8
        go_wp2_with fail
        refine (su_any _ _).mono ?_
        rintro e w' ⟨rfl, rfl⟩
        go_wp2
        go_ret
        exact ⟨ret_b hs.out.symm, rfl⟩
      · have e2 : (u[0] == 77) = false := by rw [beq_eq_false_iff_ne]; intro e; exact h2 (by rw [e]; rfl)
        have hs : mU u = false := by rw [HM.out, e1, e2]; rfl
        have b2 : (((u[0]'hp).toNat : Int) == 77) = false := by simp; omega
        clear e1 e2 h1 h2 HM
        rw [hs]
        go_enter Tryf.func8, Tryf.ntmps8
        go_wp2
        go_ret
        exact ⟨rfl, rfl⟩
  · have e0 : u.size = 0 := by omega
    have hs : mU u = false := by rw [mU, ba_nil e0]
    rw [hs]
    go_enter Tryf.func8, Tryf.ntmps8
    go_wp2
    go_ret
    exact ⟨rfl, rfl⟩
def atU (A : List UInt8) (k : Nat) : UInt8 := A.getD k 48
theorem vd_at (A : List UInt8) (k : Nat) : vd A k = atU A k := vd_in A k
/-- a slice of bytes -/
def DS (w : World) (a : Option Addr) (A : List UInt8) : Prop := Sl w a A.length (fun i => .int .u8 ((atU A i).toNat : Int))
theorem DS.keep {w w' : World} {a : Option Addr} {A : List UInt8} (h : DS w a A) (hb : Below w.heap.size w w') : DS w' a A := Sl.keep h hb
theorem ret_u8 {a b : Int} (h : a = b) : Ending.returned (.int .u8 a) = .returned (.int .u8 b) := by rw [h]
set_option maxRecDepth 100000 in
set_option maxHeartbeats 1000000 in
theorem vd_any (a : Option Addr) (A : List UInt8) (c : Nat) (i : Int) (w : World) (h : DS w a A) (hA : (A.length : Int) ≤ 1048576) (h0 : -10 ≤ i) (h1 : i ≤ 2000000) :
    Calls Tryf.prog 12 #[.slice a A.length c, .int .i64 i] w fun e w' => e = .returned (.int .u8 ((vd A i).toNat : Int)) ∧ w = w' := by
  by_cases hi : 0 ≤ i ∧ i < A.length
  · obtain ⟨k, rfl⟩ := Int.eq_ofNat_of_zero_le hi.1
    have hk : k < A.length := by omega
    obtain ⟨ab, ao, rfl, hc⟩ := h k hk
    have HV : Hid (((vd A k).toNat : Int) = ((atU A k).toNat : Int)) := Lib.hid (by rw [vd_at])
    obtain ⟨L, hL⟩ : ∃ L, L = A.length := ⟨_, rfl⟩
    rw [← hL] at hi hk hA ⊢
    have hc2 : w.cell? ⟨ab, ao + k, none⟩ = some (.int .u8 ((atU A k).toNat : Int)) := hc
    clear hc
    generalize (atU A k).toNat = x at *
    have q0 : (0 : Int) ≤ k := by omega
    have q1 : (k : Int) < L := by omega
    clear h hi hL
    go_enter Tryf.func12, Tryf.ntmps12
    go_wp2
    go_ret
    exact ⟨ret_u8 HV.out.symm, rfl⟩
  · have HV : Hid (((vd A i).toNat : Int) = 48) := Lib.hid (by
      unfold vd
      split
      · rw [List.getD_eq_getElem?_getD, List.getElem?_eq_none (by omega)]; rfl
      · rfl)
    obtain ⟨L, hL⟩ : ∃ L, L = A.length := ⟨_, rfl⟩
    rw [← hL] at hi hA ⊢
    clear h
    by_cases h2 : 0 ≤ i
    · have h3 : ¬ i < (L : Int) := by omega
      clear hi hL
      go_enter Tryf.func12, Tryf.ntmps12
      go_wp2
      go_ret
      exact ⟨ret_u8 HV.out.symm, rfl⟩
    · clear hi hL
      go_enter Tryf.func12, Tryf.ntmps12
      go_wp2
      go_ret
      exact ⟨ret_u8 HV.out.symm, rfl⟩
def nzB (A : List UInt8) : Bool := A.any (fun b => b != 48)
set_option maxRecDepth 100000 in
set_option maxHeartbeats 1000000 in
theorem nz_any (a : Option Addr) (A : List UInt8) (c : Nat) (w : World) (h : DS w a A) (hA : (A.length : Int) ≤ 1048576) :
    Calls Tryf.prog 6 #[.slice a A.length c] w fun e w' => e = .returned (.bool (nzB A)) ∧ w = w' := by
  obtain ⟨L, hL⟩ : ∃ L, L = A.length := ⟨_, rfl⟩
  have HL := Lib.hid hL
  have H := Lib.hid h
  rw [← hL] at hA ⊢
  clear h hL
  go_enter Tryf.func6, Tryf.ntmps6
  go_wp2
  go_loop [3] (fun i => ∃ k : Nat, k ≤ L ∧ i = .int .i64 k ∧ Hid (nzB (A.drop k) = nzB A)) (fun i => L - (intOf i).toNat)
  case atStart => exact ⟨0, Nat.zero_le _, rfl, Lib.hid rfl⟩
  case round =>
    obtain ⟨k, hk, rfl, HR⟩ := hrel
    by_cases hlt : k < L
    · obtain ⟨ab, ao, rfl, hc⟩ := H.out k (by rw [← HL.out]; exact hlt)
      have hd : A.drop k = atU A k :: A.drop (k + 1) := by
        rw [List.drop_eq_getElem_cons (by rw [← HL.out]; exact hlt), atU, List.getD_eq_getElem?_getD, List.getElem?_eq_getElem (by rw [← HL.out]; exact hlt)]; rfl
      have hc2 : w.cell? ⟨ab, ao + k, none⟩ = some (.int .u8 ((atU A k).toNat : Int)) := hc
      clear hc
      have q0 : (0 : Int) ≤ k := by omega
      have q1 : (k : Int) < L := by omega
      by_cases hz : (atU A k).toNat = 48
      · have HN : Hid (nzB (A.drop (k + 1)) = nzB A) := Lib.hid (by
          rw [← HR.out, hd, nzB, nzB, List.any_cons]
          have : (atU A k != 48) = false := by rw [bne_eq_false_iff_eq]; exact UInt8.toNat_inj.1 (by simpa using hz)
          rw [this, Bool.false_or])
        have hb : (((atU A k).toNat : Int) != 48) = false := by rw [bne_eq_false_iff_eq]; omega
        generalize (atU A k).toNat = x at *
        clear hz hd HR
        go_wp2
        go_round
        case rel => exact ⟨k + 1, by omega, by go_num, HN⟩
        case measure => simp [intOf]; omega
      · have HN : Hid (nzB A = true) := Lib.hid (by
          rw [← HR.out, hd, nzB, List.any_cons]
          have : (atU A k != 48) = true := by rw [bne_iff_ne]; intro e; exact hz (by rw [e]; rfl)
          rw [this, Bool.true_or])
        have hb : (((atU A k).toNat : Int) != 48) = true := by rw [bne_iff_ne]; omega
        generalize (atU A k).toNat = x at *
        clear hz hd HR
        go_wp2
        go_ret
        exact ⟨ret_b HN.out.symm, rfl⟩
    · have HN : Hid (nzB A = false) := Lib.hid (by rw [← HR.out, List.drop_eq_nil_of_le (by rw [← HL.out]; omega)]; rfl)
      go_wp2
      go_ret
      exact ⟨ret_b HN.out.symm, rfl⟩
end Go.Proofs.YtfhkkpfkkhpohaaFmt.Sd
