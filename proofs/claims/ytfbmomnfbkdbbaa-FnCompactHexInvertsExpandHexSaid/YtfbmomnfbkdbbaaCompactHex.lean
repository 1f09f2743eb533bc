/-
  For every 32-bit word v, compacting the expanded word gives back v modulo 65536: the Go law FnCompactHexInvertsExpandHex returns true for every input. No condition.
-/
import Derived.Test.YtfbmomnfbkdbbaaRows
import Derived.WalkKit
import Derived.ProofKit
import Derived.OpenShut
import Derived.ShutString
import Derived.Laws.BitsAllLaws
namespace Go.Proofs.Ytfbmomnfbkdbbaa.fnCompactHexInvertsExpandHex
open Go.ChangeShapes Go.WideShapes Go.ChangeAt Go.RowKit
open Go.ChangeMaps (open_string shut_string)
set_option linter.unusedVariables false      -- a walk need not use every 'w<i>' (that an integer argument fits its kind)

theorem mul_sh (x k : Nat) : x * 2 ^ k = x <<< k := (Nat.shiftLeft_eq x k).symm
theorem div_sh (x k : Nat) : x / 2 ^ k = x >>> k := (Nat.shiftRight_eq_div_pow x k).symm
theorem small_cases (i : Nat) (P : Nat → Prop) (hlt : ∀ j : Fin 32, P j.val) (hge : 32 ≤ i → P i) : P i := by
  by_cases h : i < 32
  · exact hlt ⟨i, h⟩
  · exact hge (by omega)
theorem const_hi (c i : Nat) (hc : c < 2 ^ 32) (hi : 32 ≤ i) : c.testBit i = false :=
  Nat.testBit_lt_two_pow (Nat.lt_of_lt_of_le hc (Nat.pow_le_pow_right (by decide) hi))
def exN (n : Nat) : Nat := ((((n &&& 61440) <<< 16 % 2 ^ 32 ||| (n &&& 65280) <<< 12 % 2 ^ 32) ||| (n &&& 4080) <<< 8 % 2 ^ 32) ||| (n &&& 255) <<< 4 % 2 ^ 32) ||| (n &&& 15)
def coN (e : Nat) : Nat := ((e &&& 267386880) >>> 12) ||| ((e &&& 4080) >>> 4)
theorem co_ex (n : Nat) : coN (exN n) = n % 2 ^ 16 := by
  apply Nat.eq_of_testBit_eq
  intro i
  unfold coN exN
  simp only [Nat.testBit_or, Nat.testBit_and, Nat.testBit_shiftRight, Nat.testBit_shiftLeft, Nat.testBit_mod_two_pow]
  generalize n.testBit = f
  by_cases h : i < 16
  · have : i = 0 ∨ i = 1 ∨ i = 2 ∨ i = 3 ∨ i = 4 ∨ i = 5 ∨ i = 6 ∨ i = 7 ∨ i = 8 ∨ i = 9 ∨ i = 10 ∨ i = 11 ∨ i = 12 ∨ i = 13 ∨ i = 14 ∨ i = 15 := by omega
    rcases this with rfl | rfl | rfl | rfl | rfl | rfl | rfl | rfl | rfl | rfl | rfl | rfl | rfl | rfl | rfl | rfl <;> simp [Nat.testBit_eq_decide_div_mod_eq]
  · have h1 : (267386880 : Nat).testBit (12 + i) = false := Nat.testBit_lt_two_pow (Nat.lt_of_lt_of_le (by decide : 267386880 < 2 ^ 28) (Nat.pow_le_pow_right (by decide) (by omega)))
    have h2 : (4080 : Nat).testBit (4 + i) = false := Nat.testBit_lt_two_pow (Nat.lt_of_lt_of_le (by decide : 4080 < 2 ^ 20) (Nat.pow_le_pow_right (by decide) (by omega)))
    simp [h1, h2, h]
theorem exN_lt (n : Nat) : exN n < 4294967296 := by
  have h : ∀ x : Nat, x % 2 ^ 32 < 2 ^ 32 := fun x => Nat.mod_lt _ (by decide)
  have h5 : n &&& 15 < 2 ^ 32 := Nat.and_lt_two_pow _ (by decide)
  exact Nat.or_lt_two_pow (Nat.or_lt_two_pow (Nat.or_lt_two_pow (Nat.or_lt_two_pow (h _) (h _)) (h _)) (h _)) h5
theorem bits_ex (n : Nat) (h : n < 4294967296) : (bits BinOp.or IntKind.u32
                                (bits BinOp.or IntKind.u32
                                  (bits BinOp.or IntKind.u32
                                    (bits BinOp.or IntKind.u32
                                      (bits BinOp.and IntKind.u32 (n : Int) 61440 * 65536 % 4294967296)
                                      (bits BinOp.and IntKind.u32 n 65280 * 4096 % 4294967296))
                                    (bits BinOp.and IntKind.u32 n 4080 * 256 % 4294967296))
                                  (bits BinOp.and IntKind.u32 n 255 * 16 % 4294967296))
                                (bits BinOp.and IntKind.u32 n 15)) = (exN n : Nat) := by
  have ha : ∀ c : Nat, c < 4294967296 → bits BinOp.and IntKind.u32 (n : Int) (c : Int) = ((n &&& c : Nat) : Int) := fun c hc => u32_and_nat n c h hc
  have hm : ∀ x : Nat, ∀ c : Nat, ((x : Int) * (c : Int) % 4294967296) = ((x * c % 4294967296 : Nat) : Int) := fun x c => by rw [Int.natCast_emod, Int.natCast_mul]; rfl
  have hb : ∀ x : Nat, x % 4294967296 < 4294967296 := fun x => Nat.mod_lt _ (by decide)
  have ho : ∀ x y : Nat, x < 4294967296 → y < 4294967296 → (x ||| y) < 4294967296 := fun x y hx hy => Nat.or_lt_two_pow (n := 32) hx hy
  have h15 : n &&& 15 < 4294967296 := Nat.and_lt_two_pow (n := 32) _ (by decide)
  have e1 := ha 61440 (by decide); have e2 := ha 65280 (by decide); have e3 := ha 4080 (by decide); have e4 := ha 255 (by decide); have e5 := ha 15 (by decide)
  simp only [Int.cast_ofNat_Int] at e1 e2 e3 e4 e5
  have m1 := hm (n &&& 61440) 65536; have m2 := hm (n &&& 65280) 4096; have m3 := hm (n &&& 4080) 256; have m4 := hm (n &&& 255) 16
  simp only [Int.cast_ofNat_Int] at m1 m2 m3 m4
  rw [e1, e2, e3, e4, e5, m1, m2, m3, m4, u32_or_nat _ _ (hb _) (hb _), u32_or_nat _ _ (ho _ _ (hb _) (hb _)) (hb _), u32_or_nat _ _ (ho _ _ (ho _ _ (hb _) (hb _)) (hb _)) (hb _), u32_or_nat _ _ (ho _ _ (ho _ _ (ho _ _ (hb _) (hb _)) (hb _)) (hb _)) h15]
  unfold exN
  rw [← mul_sh, ← mul_sh, ← mul_sh, ← mul_sh]
theorem bits_co (e : Nat) (h : e < 4294967296) : bits BinOp.or IntKind.u32 (bits BinOp.and IntKind.u32 (e : Int) 267386880 / 4096) (bits BinOp.and IntKind.u32 e 4080 / 16) = (coN e : Nat) := by
  have e1 := u32_and_nat e 267386880 h (by decide); have e2 := u32_and_nat e 4080 h (by decide)
  simp only [Int.cast_ofNat_Int] at e1 e2
  have b1 : e &&& 267386880 < 2 ^ 28 := Nat.and_lt_two_pow _ (by decide)
  have b2 : e &&& 4080 < 2 ^ 12 := Nat.and_lt_two_pow _ (by decide)
  have d1 : (((e &&& 267386880 : Nat) : Int) / 4096) = (((e &&& 267386880) / 4096 : Nat) : Int) := (Int.natCast_ediv _ 4096).symm
  have d2 : (((e &&& 4080 : Nat) : Int) / 16) = (((e &&& 4080) / 16 : Nat) : Int) := (Int.natCast_ediv _ 16).symm
  rw [e1, e2, d1, d2, u32_or_nat _ _ (by omega) (by omega)]
  unfold coN
  rw [← div_sh, ← div_sh]
theorem own : ownKnob Try.prog.godebug = none := by kernel_rfl

/-! ### STEP 1: THE WALK: the Go text returns true. 'Grown w w'': the world has at most new blocks (Derived/RowKit3.lean). Part the cases AHEAD of 'go_enter' where a test parts the walk; take each callee by a contract of your own. -/
theorem walk (a0 : Int) (w0 : (Lit.int .u32 a0).wf = true) (w : World) :
    Calls Try.prog 3 #[.int .u32 a0] w fun e w' => e = .returned (.bool true) ∧ Grown w w' := by
  have hb : 0 ≤ a0 ∧ a0 ≤ 4294967295 := by simpa [Lit.wf, IntKind.min, IntKind.max, IntKind.bits, IntKind.signed] using w0
  obtain ⟨n, rfl⟩ := Int.eq_ofNat_of_zero_le hb.1
  have hn : n < 4294967296 := by omega
  have hk : (bits BinOp.or IntKind.u32 (bits BinOp.and IntKind.u32 (bits BinOp.or IntKind.u32 (bits BinOp.or IntKind.u32 (bits BinOp.or IntKind.u32 (bits BinOp.or IntKind.u32 (bits BinOp.and IntKind.u32 (n : Int) 61440 * 65536 % 4294967296) (bits BinOp.and IntKind.u32 n 65280 * 4096 % 4294967296)) (bits BinOp.and IntKind.u32 n 4080 * 256 % 4294967296)) (bits BinOp.and IntKind.u32 n 255 * 16 % 4294967296)) (bits BinOp.and IntKind.u32 n 15)) 267386880 / 4096) (bits BinOp.and IntKind.u32 (bits BinOp.or IntKind.u32 (bits BinOp.or IntKind.u32 (bits BinOp.or IntKind.u32 (bits BinOp.or IntKind.u32 (bits BinOp.and IntKind.u32 (n : Int) 61440 * 65536 % 4294967296) (bits BinOp.and IntKind.u32 n 65280 * 4096 % 4294967296)) (bits BinOp.and IntKind.u32 n 4080 * 256 % 4294967296)) (bits BinOp.and IntKind.u32 n 255 * 16 % 4294967296)) (bits BinOp.and IntKind.u32 n 15)) 4080 / 16) == (n : Int) % 65536) = true := by
    rw [bits_ex n hn, bits_co _ (exN_lt n), co_ex]
    simp
  clear hb w0
  go_enter Try.func3, Try.ntmps3
  go_wp2
  go_ret
  exact ⟨rfl, by repeat (first | exact Grown.refl _ | apply Grown.drew | apply Grown.alloc)⟩

/-! ### THE ROW's STEP: WRITTEN OUT: LEAVE IT -/
set_option maxRecDepth 100000 in
theorem lifted (os : Os) (started : os.Started) (H : Type) (enc : TypeId × Value → H) :
    ReturnsInHanded {} Try.checked os 3 .any (Rows.fnCompactHexInvertsExpandHexSpec.pre6 enc Try.prog Try.f3 Rows.fnCompactHexInvertsExpandHexRow.domain false) (Rows.fnCompactHexInvertsExpandHexSpec.post enc Try.prog Try.f3 false true false false) := by
  refine returnsInHanded_of_change (C := Try.checked) own started (by kernel_rfl) Try.func3
    (ChangeSpec.witness6 (enc := enc) (C := Try.checked) false ⟨#[], #[.int .u32 0], []⟩ 8 (by kernel_rfl) (by kernel_rfl) (by kernel_rfl) (by kernel_rfl)) ?_
  intro W base args ds gs before hval0 hW hcnd _
  have hval : ∀ (j : Nat) t v, Try.f3.params[j]? = some t → args[j]? = some v → Value.okWide Try.prog W .any base t v := hval0
  have hW' := hW
  obtain ⟨p, q, hA0, hV, rfl, hfz, hnd⟩ := hW
  have hA : DataW.TrodAll enc Try.prog W 0 (fun _ => true) true Try.f3.params.toList args.toList ds p := hA0
  rw [Try.params3] at hA hval
  obtain ⟨v0, vs0, d0, ds0, p0, q0, hargs, rfl, rfl, h0, r0⟩ := trodAll_cons hA
  obtain ⟨rfl, rfl, rfl⟩ := trodAll_nil r0
  obtain rfl : args = #[v0] := by cases args; simp_all
  obtain ⟨rfl, rfl⟩ := trodVars_none hV
  obtain ⟨a0, rfl, rfl, rfl, w0⟩ := open_int Try.underlying22 (hval 0 22 v0 rfl rfl) h0
  clear hA0 hval0
  simp only [List.append_nil] at hW'
  refine (walk a0 w0 W).mono fun e W' ⟨he, hg⟩ => ?_
  subst he
  exact ⟨_, rfl, post_of_same (pa := []) (pv := []) hW' (fun _ _ _ => (trodAll_cons_mk (shut_bool Try.underlying4 _) trodAll_mk0)) (fun sp _ => (trodAll_cons_mk (shut_int Try.underlying22 w0) trodAll_mk0)) (fun _ _ => rfl) rfl
    (hg.frame _) hg.2.1 (ok_one (by kernel_rfl) rfl (okWide_bool_mk Try.underlying4 _))⟩

theorem over : Rows.fnCompactHexInvertsExpandHexRow.holds Try.pinned (OpenSpec.ofChange Rows.fnCompactHexInvertsExpandHexSpec) :=
  OpenClaim.holds_of_wide 3 Try.f3 rfl rfl rfl rfl rfl rfl rfl ⟨rfl, rfl, rfl, rfl, rfl⟩ rfl rfl rfl rfl rfl (by kernel_rfl) Try.func3 (by kernel_rfl)
    (of_decide_eq_true (by kernel_rfl)) (by unfold Func.isWrapper; first | (rw [if_pos (by decide +kernel)]; kernel_rfl) | (rw [if_neg (by decide +kernel)]; exact ⟨rfl, rfl⟩))
    (fun os started H enc _ => lifted os started H enc)

/-- ████ THE STATEMENT ████ -/
theorem proved : Rows.FnCompactHexInvertsExpandHexSaid :=
  over
#print axioms proved
end Go.Proofs.Ytfbmomnfbkdbbaa.fnCompactHexInvertsExpandHex
