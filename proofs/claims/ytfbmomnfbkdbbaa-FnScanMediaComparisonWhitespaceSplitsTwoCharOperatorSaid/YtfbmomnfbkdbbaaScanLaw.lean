/-
  Law 39: marking whitespace inside a two character comparison splits it. Conditions: none.
-/
import Derived.Test.YtfbmomnfbkdbbaaRows
import Derived.WalkKit
import Derived.ProofKit
import Derived.OpenShut
import Derived.ShutString
import Derived.ChangeOld
import Derived.Below
import Derived.Lib.Hide
import Derived.Outline
import Derived.Test.YtfbmomnfbkdbbaaScanF
import Derived.WalkSmall
namespace Go.Proofs.Ytfbmomnfbkdbbaa.fnScanMediaComparisonWhitespaceSplitsTwoCharOperator
open Go.ChangeShapes Go.WideShapes Go.ChangeAt Go.RowKit
open Go.ChangeMaps (open_string shut_string)
open Go.Deep Go.Proofs.Ytfbmomnfbkdbbaa.Scan
set_option linter.unusedVariables false

theorem own : ownKnob Try.prog.godebug = none := by kernel_rfl
theorem laidOut : laidOutB Try.prog = true := by kernel_rfl



set_option maxRecDepth 100000 in
set_option maxHeartbeats 4000000 in
/-- THE WALK -/
theorem walk (a0 : Option Addr) (len0 cap0 : Nat) (K S L : Nat → Int) (T : Nat → ByteArray) (a1 : Bool) (w : World) (w0 : Toks w a0 len0 K S L T) :
    Calls Try.prog 8 #[.slice a0 len0 cap0, .bool a1] w fun e w' => e = .returned (.bool true) ∧ Below w.heap.size w w' := by
  have H := Lib.hid w0
  clear w0
  go_enter Try.func8, Try.ntmps8
  go_wp2_with fail
  refine (bytes_any _ _ _ _ K S L T _ H.out).mono ?_
  rintro e w1 ⟨⟨r, rfl⟩, rfl⟩
  cases r
  case false =>
    go_wp2_with fail
    go_ret
    exact ⟨rfl, Below.refl _ _⟩
  go_wp2_with fail
  refine (size_any _ _ _ K S L T _ H.out).mono ?_
  rintro e w1 ⟨⟨r, rfl, hr⟩, rfl⟩
  have HR := Lib.hid hr
  clear hr
  by_cases hgt : (1048576 : Int) < r
  · go_wp2_with fail
    go_ret
    exact ⟨rfl, Below.refl _ _⟩
  have hn := HR.out (by omega)
  have hn2 : (len0 : Int) ≤ 16384 := by omega
  clear HR hn
  go_wp2_with fail
  refine (clone_any _ _ _ K S L T _ H.out hn2).mono ?_
  rintro e w1 ⟨a, c, rfl, h1, b1⟩
  have H1 := Lib.hid h1
  have B1 := Lib.hid b1
  clear h1 b1
  go_wp2_with fail
  refine (totoks_any _ _ _ K S L T _ H1.out hn2).mono ?_
  rintro e w2 (⟨rfl, rfl, rfl⟩ | ⟨rfl, hC⟩)
  · go_wp2_with fail
    refine (zz_nil 0 0 _).mono ?_
    rintro e w3 ⟨nq, c', r', rfl, rfl, x1, x2, x3, x4⟩
    have y1 : (c' != 3) = true := by simp; intro h; have := x3 h; omega
    have y2 : (c' != 5) = true := by simp; intro h; have := x4 h; omega
    clear x3 x4
    go_wp2_with fail
    go_ret
    exact ⟨rfl, below_drewN B1.out _⟩
  have HC := Lib.hid hC
  clear hC
  go_wp2_with fail
  refine (zz_any _ _ _ K S _ _ HC.out hn2).mono ?_
  rintro e w3 ⟨nq, c', r', rfl, rfl, x1, x2, x3, x4⟩
  have B2 := Lib.hid (B1.out.trans (HC.out.2.2.2.2.2.mono (B1.out.size)))
  have H2 := Lib.hid (H1.out.keep (below_drewN HC.out.2.2.2.2.2 nq))
  have Q := Lib.hid (fun i h => let ⟨_, _, _, _, q, s, _⟩ := H1.out i h; And.intro q s : ∀ i, i < len0 → (0 ≤ K i ∧ K i ≤ 255) ∧ (0 ≤ S i ∧ S i ≤ 255))
  clear HC H1 B1
  by_cases e3 : c' = 3
  · obtain ⟨p1, p2, p3⟩ := x3 e3
    clear x3 x4
    subst e3
    have P2 := Lib.hid p2
    have P3 := Lib.hid p3
    clear p2 p3
    go_wp2_with fail
    refine (totoks_any _ _ _ K S L T _ H2.out hn2).mono ?_
    rintro e w4 (⟨rfl, rfl, rfl⟩ | ⟨rfl, hC⟩)
    · omega
    obtain ⟨g1, g2, g3, g4, g5, g6⟩ := hC
    have B4 := Lib.hid ((below_drewN B2.out nq).trans (g6.mono (below_drewN B2.out nq).size))
    obtain ⟨c0, c1⟩ := g1 0 (by omega)
    obtain ⟨c2, c3⟩ := g1 1 (by omega)
    obtain ⟨⟨_, _⟩, s0a, s0b⟩ := Q.out 0 (by omega)
    obtain ⟨⟨_, _⟩, s1a, s1b⟩ := Q.out 1 (by omega)
    simp only [Nat.zero_mul, Nat.zero_add, Nat.one_mul, Nat.reduceAdd, P2.out, P3.out] at c0 c1 c2 c3
    have bg : w.heap.size ≤ (w2.drewN nq).heap.size := B2.out.size
    generalize (w2.drewN nq).heap.size = g at *
    have fz := g3 6
    have fz2 := g3 13
    clear g1 g2 g3 g5 g6 H2 P2 P3 Q
    have q1 : (1 : Int) < len0 := by omega
    have q0 : (0 : Int) < len0 := by omega
    have nle : 1 ≤ len0 := by omega
    have e1 : ((len0 - 1 : Nat) : Int) = (len0 : Int) - 1 := by omega
    have e2 : 0 < len0 - 1 := by omega
    have E1 := Lib.hid e1
    clear e1
    cases a1
    case true =>
      have FLG := Lib.hid (fl_before (S 0) (S 1) s0a s0b s1a s1b)
      clear s0a s0b s1a s1b
      have d0 : (w4.setCell ⟨g, 13, none⟩ (.int .u8 (bits BinOp.or IntKind.u8 (S 1) 1))).cell? ⟨g, 5, none⟩ = _ := set_far (by omega) c0
      have d1 : (w4.setCell ⟨g, 13, none⟩ (.int .u8 (bits BinOp.or IntKind.u8 (S 1) 1))).cell? ⟨g, 6, none⟩ = _ := set_far (by omega) c1
      have d2 : (w4.setCell ⟨g, 13, none⟩ (.int .u8 (bits BinOp.or IntKind.u8 (S 1) 1))).cell? ⟨g, 12, none⟩ = _ := set_far (by omega) c2
      have d3 : (w4.setCell ⟨g, 13, none⟩ (.int .u8 (bits BinOp.or IntKind.u8 (S 1) 1))).cell? ⟨g, 13, none⟩ = _ := set_same (by rw [c3]; rfl)
      have B5 := Lib.hid (B4.out.setCell (p := ⟨g, 13, none⟩) bg (.int .u8 (bits BinOp.or IntKind.u8 (S 1) 1)))
      go_wp2_with fail
      refine (zz_lt len0 g _ _ _ p1 hn2 d0 d1 d2 d3 FLG.out).mono ?_
      rintro e w6 ⟨nq', rfl, rfl⟩
      go_wp2_with fail
      go_ret
      exact ⟨rfl, below_drewN B5.out _⟩
    case false =>
      have FLG := Lib.hid (fl_after (S 0) (S 1) s0a s0b s1a s1b)
      clear s0a s0b s1a s1b
      have d0 : (w4.setCell ⟨g, 6, none⟩ (.int .u8 (bits BinOp.or IntKind.u8 (S 0) 2))).cell? ⟨g, 5, none⟩ = _ := set_far (by omega) c0
      have d1 : (w4.setCell ⟨g, 6, none⟩ (.int .u8 (bits BinOp.or IntKind.u8 (S 0) 2))).cell? ⟨g, 6, none⟩ = _ := set_same (by rw [c1]; rfl)
      have d2 : (w4.setCell ⟨g, 6, none⟩ (.int .u8 (bits BinOp.or IntKind.u8 (S 0) 2))).cell? ⟨g, 12, none⟩ = _ := set_far (by omega) c2
      have d3 : (w4.setCell ⟨g, 6, none⟩ (.int .u8 (bits BinOp.or IntKind.u8 (S 0) 2))).cell? ⟨g, 13, none⟩ = _ := set_far (by omega) c3
      have B5 := Lib.hid (B4.out.setCell (p := ⟨g, 6, none⟩) bg (.int .u8 (bits BinOp.or IntKind.u8 (S 0) 2)))
      go_wp2_with fail
      refine (zz_lt len0 g _ _ _ p1 hn2 d0 d1 d2 d3 FLG.out).mono ?_
      rintro e w6 ⟨nq', rfl, rfl⟩
      go_wp2_with fail
      go_ret
      exact ⟨rfl, below_drewN B5.out _⟩
  by_cases e5 : c' = 5
  · obtain ⟨p1, p2, p3⟩ := x4 e5
    clear x3 x4
    subst e5
    have P2 := Lib.hid p2
    have P3 := Lib.hid p3
    clear p2 p3
    go_wp2_with fail
    refine (totoks_any _ _ _ K S L T _ H2.out hn2).mono ?_
    rintro e w4 (⟨rfl, rfl, rfl⟩ | ⟨rfl, hC⟩)
    · omega
    obtain ⟨g1, g2, g3, g4, g5, g6⟩ := hC
    have B4 := Lib.hid ((below_drewN B2.out nq).trans (g6.mono (below_drewN B2.out nq).size))
    obtain ⟨c0, c1⟩ := g1 0 (by omega)
    obtain ⟨c2, c3⟩ := g1 1 (by omega)
    obtain ⟨⟨_, _⟩, s0a, s0b⟩ := Q.out 0 (by omega)
    obtain ⟨⟨_, _⟩, s1a, s1b⟩ := Q.out 1 (by omega)
    simp only [Nat.zero_mul, Nat.zero_add, Nat.one_mul, Nat.reduceAdd, P2.out, P3.out] at c0 c1 c2 c3
    have bg : w.heap.size ≤ (w2.drewN nq).heap.size := B2.out.size
    generalize (w2.drewN nq).heap.size = g at *
    have fz := g3 6
    have fz2 := g3 13
    clear g1 g2 g3 g5 g6 H2 P2 P3 Q
    have q1 : (1 : Int) < len0 := by omega
    have q0 : (0 : Int) < len0 := by omega
    have nle : 1 ≤ len0 := by omega
    have e1 : ((len0 - 1 : Nat) : Int) = (len0 : Int) - 1 := by omega
    have e2 : 0 < len0 - 1 := by omega
    have E1 := Lib.hid e1
    clear e1
    cases a1
    case true =>
      have FLG := Lib.hid (fl_before (S 0) (S 1) s0a s0b s1a s1b)
      clear s0a s0b s1a s1b
      have d0 : (w4.setCell ⟨g, 13, none⟩ (.int .u8 (bits BinOp.or IntKind.u8 (S 1) 1))).cell? ⟨g, 5, none⟩ = _ := set_far (by omega) c0
      have d1 : (w4.setCell ⟨g, 13, none⟩ (.int .u8 (bits BinOp.or IntKind.u8 (S 1) 1))).cell? ⟨g, 6, none⟩ = _ := set_far (by omega) c1
      have d2 : (w4.setCell ⟨g, 13, none⟩ (.int .u8 (bits BinOp.or IntKind.u8 (S 1) 1))).cell? ⟨g, 12, none⟩ = _ := set_far (by omega) c2
      have d3 : (w4.setCell ⟨g, 13, none⟩ (.int .u8 (bits BinOp.or IntKind.u8 (S 1) 1))).cell? ⟨g, 13, none⟩ = _ := set_same (by rw [c3]; rfl)
      have B5 := Lib.hid (B4.out.setCell (p := ⟨g, 13, none⟩) bg (.int .u8 (bits BinOp.or IntKind.u8 (S 1) 1)))
      go_wp2_with fail
      refine (zz_gt len0 g _ _ _ p1 hn2 d0 d1 d2 d3 FLG.out).mono ?_
      rintro e w6 ⟨nq', rfl, rfl⟩
      go_wp2_with fail
      go_ret
      exact ⟨rfl, below_drewN B5.out _⟩
    case false =>
      have FLG := Lib.hid (fl_after (S 0) (S 1) s0a s0b s1a s1b)
      clear s0a s0b s1a s1b
      have d0 : (w4.setCell ⟨g, 6, none⟩ (.int .u8 (bits BinOp.or IntKind.u8 (S 0) 2))).cell? ⟨g, 5, none⟩ = _ := set_far (by omega) c0
      have d1 : (w4.setCell ⟨g, 6, none⟩ (.int .u8 (bits BinOp.or IntKind.u8 (S 0) 2))).cell? ⟨g, 6, none⟩ = _ := set_same (by rw [c1]; rfl)
      have d2 : (w4.setCell ⟨g, 6, none⟩ (.int .u8 (bits BinOp.or IntKind.u8 (S 0) 2))).cell? ⟨g, 12, none⟩ = _ := set_far (by omega) c2
      have d3 : (w4.setCell ⟨g, 6, none⟩ (.int .u8 (bits BinOp.or IntKind.u8 (S 0) 2))).cell? ⟨g, 13, none⟩ = _ := set_far (by omega) c3
      have B5 := Lib.hid (B4.out.setCell (p := ⟨g, 6, none⟩) bg (.int .u8 (bits BinOp.or IntKind.u8 (S 0) 2)))
      go_wp2_with fail
      refine (zz_gt len0 g _ _ _ p1 hn2 d0 d1 d2 d3 FLG.out).mono ?_
      rintro e w6 ⟨nq', rfl, rfl⟩
      go_wp2_with fail
      go_ret
      exact ⟨rfl, below_drewN B5.out _⟩
  have y1 : (c' != 3) = true := by simpa using e3
  have y2 : (c' != 5) = true := by simpa using e5
  clear x3 x4
  go_wp2_with fail
  go_ret
  exact ⟨rfl, below_drewN B2.out _⟩

set_option maxRecDepth 100000 in
theorem lifted (os : Os) (started : os.Started) (H : Type) (enc : TypeId × Value → H) :
    ReturnsInHanded {} Try.checked os 8 .any (Rows.fnScanMediaComparisonWhitespaceSplitsTwoCharOperatorSpec.pre6 enc Try.prog Try.f8 Rows.fnScanMediaComparisonWhitespaceSplitsTwoCharOperatorRow.domain false) (Rows.fnScanMediaComparisonWhitespaceSplitsTwoCharOperatorSpec.post enc Try.prog Try.f8 false true false false) := by
  refine returnsInHanded_of_change (C := Try.checked) own started (by kernel_rfl) Try.func8
    (ChangeSpec.witness6 (enc := enc) (C := Try.checked) false ⟨#[], #[.slice none 0 0, .bool false], []⟩ 8 (by kernel_rfl) (by kernel_rfl) (by kernel_rfl) (by kernel_rfl)) ?_
  intro W base args ds gs before hval0 hW hcnd _
  have hval : ∀ (j : Nat) t v, Try.f8.params[j]? = some t → args[j]? = some v → Value.okWide Try.prog W .any base t v := hval0
  have hW' := hW
  obtain ⟨p, q, hA0, hV, rfl, hfz, hnd⟩ := hW
  have hA : DataW.TrodAll enc Try.prog W 0 (fun _ => true) true Try.f8.params.toList args.toList ds p := hA0
  rw [Try.params8] at hA hval
  obtain ⟨v0, vs0, d0, ds0, p0, q0, hargs, rfl, rfl, h0, r0⟩ := trodAll_cons hA
  obtain ⟨v1, vs1, d1, ds1, p1, q1, rfl, rfl, rfl, h1, r1⟩ := trodAll_cons r0
  obtain ⟨rfl, rfl, rfl⟩ := trodAll_nil r1
  obtain rfl : args = #[v0, v1] := by cases args; simp_all
  obtain ⟨rfl, rfl⟩ := trodVars_none hV
  obtain ⟨a0, len0, cap0, rfl⟩ := okWide_slice Try.underlying41 (hval 0 41 v0 rfl rfl)
  have k0 := h0
  have lt0 : ∀ x ∈ p0, x.block < W.heap.size := by obtain ⟨m, hm⟩ := k0; exact DataW.trod_lt m _ _ _ hm
  obtain ⟨K, S, L, T, w0⟩ : ∃ K S L T, Toks W a0 len0 K S L T := by
    obtain ⟨fuel, hf⟩ := h0
    exact toks_of Try.underlying41 hf
  obtain ⟨a1, rfl, rfl, rfl⟩ := open_bool Try.underlying4 (hval 1 4 v1 rfl rfl) h1
  clear hA0 hval0
  refine (walk a0 len0 cap0 K S L T a1 W w0).mono fun e W' ⟨he, bel⟩ => ?_
  subst he
  exact ⟨_, rfl, _, _, _, [], _, [], hW', trodAll_mk1 (shut_bool Try.underlying4 _), (trodAll_cons_mk (Below.trod laidOut (by kernel_rfl) (of_decide_eq_true (by kernel_rfl)) k0 bel lt0) (trodAll_cons_mk (shut_bool Try.underlying4 a1) trodAll_mk0)), rfl, bel.frame _, fun h => by cases h⟩

theorem over : Rows.fnScanMediaComparisonWhitespaceSplitsTwoCharOperatorRow.holds Try.pinned (OpenSpec.ofChange Rows.fnScanMediaComparisonWhitespaceSplitsTwoCharOperatorSpec) :=
  OpenClaim.holds_of_wide 8 Try.f8 rfl rfl rfl rfl rfl rfl rfl ⟨rfl, rfl, rfl, rfl, rfl⟩ rfl rfl rfl rfl rfl (by kernel_rfl) Try.func8 (by kernel_rfl)
    (of_decide_eq_true (by kernel_rfl)) (by unfold Func.isWrapper; first | (rw [if_pos (by decide +kernel)]; kernel_rfl) | (rw [if_neg (by decide +kernel)]; exact ⟨rfl, rfl⟩))
    (fun os started H enc _ => lifted os started H enc)

/-- THE STATEMENT -/
theorem proved : Rows.FnScanMediaComparisonWhitespaceSplitsTwoCharOperatorSaid := over
#print axioms proved
end Go.Proofs.Ytfbmomnfbkdbbaa.fnScanMediaComparisonWhitespaceSplitsTwoCharOperator
