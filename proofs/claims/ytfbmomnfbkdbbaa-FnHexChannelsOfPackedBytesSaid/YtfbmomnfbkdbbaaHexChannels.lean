/-
  For any four bytes packed as RRGGBBAA, hexR, hexG, hexB and hexA return them: the Go law FnHexChannelsOfPackedBytes returns true for every input. No condition.
-/
import Derived.Test.YtfbmomnfbkdbbaaRows
import Derived.WalkKit
import Derived.ProofKit
import Derived.OpenShut
import Derived.Laws.BitsAllLaws
import Derived.ShutString
namespace Go.Proofs.Ytfbmomnfbkdbbaa.fnHexChannelsOfPackedBytes
open Go.ChangeShapes Go.WideShapes Go.ChangeAt Go.RowKit
open Go.ChangeMaps (open_string shut_string)
set_option linter.unusedVariables false      -- a walk need not use every 'w<i>' (that an integer argument fits its kind)

theorem own : ownKnob Try.prog.godebug = none := by kernel_rfl

theorem or_add (x y k : Nat) (hy : y < 2 ^ k) : (x * 2 ^ k) ||| y = x * 2 ^ k + y := by
  rw [Nat.mul_comm, Nat.two_pow_add_eq_or_of_lt hy]
theorem pack (r g b a : Nat) (h1 : r ≤ 255) (h2 : g ≤ 255) (h3 : b ≤ 255) (h4 : a ≤ 255) :
    bits BinOp.or IntKind.u32 (bits BinOp.or IntKind.u32 (bits BinOp.or IntKind.u32 ((r : Int) * 16777216) ((g : Int) * 65536)) ((b : Int) * 256)) (a : Int) = ((r * 16777216 + g * 65536 + b * 256 + a : Nat) : Int) := by
  have m1 : ((r : Int) * 16777216) = ((r * 16777216 : Nat) : Int) := by omega
  have m2 : ((g : Int) * 65536) = ((g * 65536 : Nat) : Int) := by omega
  have m3 : ((b : Int) * 256) = ((b * 256 : Nat) : Int) := by omega
  have o1 : (r * 16777216) ||| (g * 65536) = r * 16777216 + g * 65536 := or_add r (g * 65536) 24 (by omega)
  have o2 : (r * 16777216 + g * 65536) ||| (b * 256) = r * 16777216 + g * 65536 + b * 256 := by
    have := or_add (r * 256 + g) (b * 256) 16 (by omega)
    rw [show (r * 256 + g) * 2 ^ 16 = r * 16777216 + g * 65536 by omega] at this; exact this
  have o3 : (r * 16777216 + g * 65536 + b * 256) ||| a = r * 16777216 + g * 65536 + b * 256 + a := by
    have := or_add (r * 65536 + g * 256 + b) a 8 (by omega)
    rw [show (r * 65536 + g * 256 + b) * 2 ^ 8 = r * 16777216 + g * 65536 + b * 256 by omega] at this; exact this
  rw [m1, m2, m3, u32_or_nat _ _ (by omega) (by omega), o1, u32_or_nat _ _ (by omega) (by omega), o2, u32_or_nat _ _ (by omega) (by omega), o3]
theorem and255 (x : Nat) (h : x < 4294967296) : bits BinOp.and IntKind.u32 (x : Int) 255 = ((x % 256 : Nat) : Int) := by
  have e := u32_and_nat x 255 h (by decide)
  simp only [Int.cast_ofNat_Int] at e
  rw [e, show (255 : Nat) = 2 ^ 8 - 1 by decide, Nat.and_two_pow_sub_one_eq_mod]

/-- THE WALK -/
theorem walk (a0 : Int) (a1 : Int) (a2 : Int) (a3 : Int) (w0 : (Lit.int .u8 a0).wf = true) (w1 : (Lit.int .u8 a1).wf = true) (w2 : (Lit.int .u8 a2).wf = true) (w3 : (Lit.int .u8 a3).wf = true) (w : World) :
    Calls Try.prog 4 #[.int .u8 a0, .int .u8 a1, .int .u8 a2, .int .u8 a3] w fun e w' => e = .returned (.bool true) ∧ Grown w w' := by
  have q0 : 0 ≤ a0 ∧ a0 ≤ 255 := by simpa [Lit.wf, IntKind.min, IntKind.max, IntKind.bits, IntKind.signed] using w0
  have q1 : 0 ≤ a1 ∧ a1 ≤ 255 := by simpa [Lit.wf, IntKind.min, IntKind.max, IntKind.bits, IntKind.signed] using w1
  have q2 : 0 ≤ a2 ∧ a2 ≤ 255 := by simpa [Lit.wf, IntKind.min, IntKind.max, IntKind.bits, IntKind.signed] using w2
  have q3 : 0 ≤ a3 ∧ a3 ≤ 255 := by simpa [Lit.wf, IntKind.min, IntKind.max, IntKind.bits, IntKind.signed] using w3
  obtain ⟨r, rfl⟩ := Int.eq_ofNat_of_zero_le q0.1
  obtain ⟨g, rfl⟩ := Int.eq_ofNat_of_zero_le q1.1
  obtain ⟨b, rfl⟩ := Int.eq_ofNat_of_zero_le q2.1
  obtain ⟨a, rfl⟩ := Int.eq_ofNat_of_zero_le q3.1
  have h1 := q0.2
  have h2 := q1.2
  have h3 := q2.2
  have h4 := q3.2
  clear w0 w1 w2 w3 q0 q1 q2 q3
  have hp := pack r g b a (by omega) (by omega) (by omega) (by omega)
  obtain ⟨V, hV⟩ : ∃ V : Nat, V = r * 16777216 + g * 65536 + b * 256 + a := ⟨_, rfl⟩
  rw [← hV] at hp
  have hlo : ((r : Int) * 16777216 + g * 65536 + b * 256 + a) ≤ V := by omega
  have hhi : (V : Int) ≤ ((r : Int) * 16777216 + g * 65536 + b * 256 + a) := by omega
  have k1 : bits BinOp.and IntKind.u32 ((V : Int) / 65536) 255 = (g : Int) := by
    have := and255 (V / 65536) (by omega)
    rw [show (((V / 65536 : Nat) : Int)) = (V : Int) / 65536 by omega] at this
    rw [this]; omega
  have k2 : bits BinOp.and IntKind.u32 ((V : Int) / 256) 255 = (b : Int) := by
    have := and255 (V / 256) (by omega)
    rw [show (((V / 256 : Nat) : Int)) = (V : Int) / 256 by omega] at this
    rw [this]; omega
  have k3 : bits BinOp.and IntKind.u32 (V : Int) 255 = (a : Int) := by
    rw [and255 V (by omega)]; omega
  have k0 : (V : Int) / 16777216 = r := by omega
  clear hV hlo hhi
  go_enter Try.func4, Try.ntmps4
  go_wp2
  go_ret
  exact ⟨rfl, by repeat (first | exact Grown.refl _ | apply Grown.drew | apply Grown.alloc)⟩

/-! ### THE ROW's STEP: WRITTEN OUT: LEAVE IT -/
set_option maxRecDepth 100000 in
theorem lifted (os : Os) (started : os.Started) (H : Type) (enc : TypeId × Value → H) :
    ReturnsInHanded {} Try.checked os 4 .any (Rows.fnHexChannelsOfPackedBytesSpec.pre6 enc Try.prog Try.f4 Rows.fnHexChannelsOfPackedBytesRow.domain false) (Rows.fnHexChannelsOfPackedBytesSpec.post enc Try.prog Try.f4 false true false false) := by
  refine returnsInHanded_of_change (C := Try.checked) own started (by kernel_rfl) Try.func4
    (ChangeSpec.witness6 (enc := enc) (C := Try.checked) false ⟨#[], #[.int .u8 0, .int .u8 0, .int .u8 0, .int .u8 0], []⟩ 8 (by kernel_rfl) (by kernel_rfl) (by kernel_rfl) (by kernel_rfl)) ?_
  intro W base args ds gs before hval0 hW hcnd _
  have hval : ∀ (j : Nat) t v, Try.f4.params[j]? = some t → args[j]? = some v → Value.okWide Try.prog W .any base t v := hval0
  have hW' := hW
  obtain ⟨p, q, hA0, hV, rfl, hfz, hnd⟩ := hW
  have hA : DataW.TrodAll enc Try.prog W 0 (fun _ => true) true Try.f4.params.toList args.toList ds p := hA0
  rw [Try.params4] at hA hval
  obtain ⟨v0, vs0, d0, ds0, p0, q0, hargs, rfl, rfl, h0, r0⟩ := trodAll_cons hA
  obtain ⟨v1, vs1, d1, ds1, p1, q1, rfl, rfl, rfl, h1, r1⟩ := trodAll_cons r0
  obtain ⟨v2, vs2, d2, ds2, p2, q2, rfl, rfl, rfl, h2, r2⟩ := trodAll_cons r1
  obtain ⟨v3, vs3, d3, ds3, p3, q3, rfl, rfl, rfl, h3, r3⟩ := trodAll_cons r2
  obtain ⟨rfl, rfl, rfl⟩ := trodAll_nil r3
  obtain rfl : args = #[v0, v1, v2, v3] := by cases args; simp_all
  obtain ⟨rfl, rfl⟩ := trodVars_none hV
  obtain ⟨a0, rfl, rfl, rfl, w0⟩ := open_int Try.underlying5 (hval 0 5 v0 rfl rfl) h0
  obtain ⟨a1, rfl, rfl, rfl, w1⟩ := open_int Try.underlying5 (hval 1 5 v1 rfl rfl) h1
  obtain ⟨a2, rfl, rfl, rfl, w2⟩ := open_int Try.underlying5 (hval 2 5 v2 rfl rfl) h2
  obtain ⟨a3, rfl, rfl, rfl, w3⟩ := open_int Try.underlying5 (hval 3 5 v3 rfl rfl) h3
  clear hA0 hval0
  simp only [List.append_nil] at hW'
  refine (walk a0 a1 a2 a3 w0 w1 w2 w3 W).mono fun e W' ⟨he, hg⟩ => ?_
  subst he
  exact ⟨_, rfl, post_of_same (pa := []) (pv := []) hW' (fun _ _ _ => (trodAll_cons_mk (shut_bool Try.underlying4 _) trodAll_mk0)) (fun sp _ => (trodAll_cons_mk (shut_int Try.underlying5 w0) (trodAll_cons_mk (shut_int Try.underlying5 w1) (trodAll_cons_mk (shut_int Try.underlying5 w2) (trodAll_cons_mk (shut_int Try.underlying5 w3) trodAll_mk0))))) (fun _ _ => rfl) rfl
    (hg.frame _) hg.2.1 (ok_one (by kernel_rfl) rfl (okWide_bool_mk Try.underlying4 _))⟩

theorem over : Rows.fnHexChannelsOfPackedBytesRow.holds Try.pinned (OpenSpec.ofChange Rows.fnHexChannelsOfPackedBytesSpec) :=
  OpenClaim.holds_of_wide 4 Try.f4 rfl rfl rfl rfl rfl rfl rfl ⟨rfl, rfl, rfl, rfl, rfl⟩ rfl rfl rfl rfl rfl (by kernel_rfl) Try.func4 (by kernel_rfl)
    (of_decide_eq_true (by kernel_rfl)) (by unfold Func.isWrapper; first | (rw [if_pos (by decide +kernel)]; kernel_rfl) | (rw [if_neg (by decide +kernel)]; exact ⟨rfl, rfl⟩))
    (fun os started H enc _ => lifted os started H enc)

/-- ████ THE STATEMENT ████ -/
theorem proved : Rows.FnHexChannelsOfPackedBytesSaid :=
  over
#print axioms proved
end Go.Proofs.Ytfbmomnfbkdbbaa.fnHexChannelsOfPackedBytes
