/-
  For every list of prior letters, every list of compounds and every mode: the flattening of ':local' and ':global' hands the prior selectors on as they were, adds one more, and does nothing the second time: the Go law FnFlattenIdempotentAndKeepsPrefix returns true for every input, and every argument reads behind the call as it read before. No condition.
-/
import Derived.Test.YtbpnmiedomchpaaRows
import Derived.WalkKit
import Derived.ProofKit
import Derived.OpenShut
import Derived.ShutString
import Derived.ChangeOld
import Derived.Below
import Derived.Lib.Hide
import Derived.Outline
import Derived.Test.YtbpnmiedomchpaaGi
namespace Go.Proofs.Ytbpnmiedomchpaa.fnFlattenIdempotentAndKeepsPrefix
open Go.ChangeShapes Go.WideShapes Go.ChangeAt Go.RowKit
open Go.ChangeMaps (open_string shut_string)
set_option linter.unusedVariables false

theorem own : ownKnob Try.prog.godebug = none := by kernel_rfl
theorem laidOut : laidOutB Try.prog = true := by kernel_rfl



set_option maxRecDepth 100000 in
set_option maxHeartbeats 4000000 in
/-- THE WALK -/
theorem walk (a0 : Option Addr) (len0 cap0 : Nat) (P0 : List Nat) (a1 : Option Addr) (len1 cap1 : Nat) (C1 : List Fg.Co) (a2 : Int) (w : World) (w0 : Fg.PrU w (.slice a0 len0 cap0) P0) (w1 : Fg.CoV (Fg.Old w) w (.slice a1 len1 cap1) C1) (w2 : (Lit.int .u8 a2).wf = true) :
    Calls Try.prog 3 #[.slice a0 len0 cap0, .slice a1 len1 cap1, .int .u8 a2] w fun e w' => e = .returned (.bool true) ∧ Below w.heap.size w w' := by
  have w2' : 0 ≤ a2 ∧ a2 ≤ 255 := by
    simp only [Lit.wf, IntKind.min, IntKind.max, IntKind.bits, IntKind.signed] at w2
    simpa using w2
  obtain ⟨md, rfl⟩ : ∃ n : Nat, a2 = n := ⟨a2.toNat, by omega⟩
  exact Fg.f57 _ _ P0 C1 md w (by omega) w0 w1

set_option maxRecDepth 100000 in
theorem lifted (os : Os) (started : os.Started) (H : Type) (enc : TypeId × Value → H) :
    ReturnsInHanded {} Try.checked os 3 .any (Rows.fnFlattenIdempotentAndKeepsPrefixSpec.pre6 enc Try.prog Try.f3 Rows.fnFlattenIdempotentAndKeepsPrefixRow.domain false) (Rows.fnFlattenIdempotentAndKeepsPrefixSpec.post enc Try.prog Try.f3 false true false false) := by
  refine returnsInHanded_of_change (C := Try.checked) own started (by kernel_rfl) Try.func3
    (ChangeSpec.witness6 (enc := enc) (C := Try.checked) false ⟨#[], #[.slice none 0 0, .slice none 0 0, .int .u8 0], []⟩ 8 (by kernel_rfl) (by kernel_rfl) (by kernel_rfl) (by kernel_rfl)) ?_
  intro W base args ds gs before hval0 hW hcnd _
  have hval : ∀ (j : Nat) t v, Try.f3.params[j]? = some t → args[j]? = some v → Value.okWide Try.prog W .any base t v := hval0
  have hW' := hW
  obtain ⟨p, q, hA0, hV, rfl, hfz, hnd⟩ := hW
  have hA : DataW.TrodAll enc Try.prog W 0 (fun _ => true) true Try.f3.params.toList args.toList ds p := hA0
  rw [Try.params3] at hA hval
  obtain ⟨v0, vs0, d0, ds0, p0, q0, hargs, rfl, rfl, h0, r0⟩ := trodAll_cons hA
  obtain ⟨v1, vs1, d1, ds1, p1, q1, rfl, rfl, rfl, h1, r1⟩ := trodAll_cons r0
  obtain ⟨v2, vs2, d2, ds2, p2, q2, rfl, rfl, rfl, h2, r2⟩ := trodAll_cons r1
  obtain ⟨rfl, rfl, rfl⟩ := trodAll_nil r2
  obtain rfl : args = #[v0, v1, v2] := by cases args; simp_all
  obtain ⟨rfl, rfl⟩ := trodVars_none hV
  obtain ⟨a0, len0, cap0, rfl⟩ := okWide_slice Try.underlying22 (hval 0 22 v0 rfl rfl)
  have k0 := h0
  have lt0 : ∀ x ∈ p0, x.block < W.heap.size := by obtain ⟨m, hm⟩ := k0; exact DataW.trod_lt m _ _ _ hm
  obtain ⟨P0, w0⟩ : ∃ P0, Fg.PrU W (.slice a0 len0 cap0) P0 := by
    obtain ⟨fuel, hf⟩ := h0
    exact Fg.pru_rd Try.underlying22 hf
  obtain ⟨a1, len1, cap1, rfl⟩ := okWide_slice Try.underlying23 (hval 1 23 v1 rfl rfl)
  have k1 := h1
  have lt1 : ∀ x ∈ p1, x.block < W.heap.size := by obtain ⟨m, hm⟩ := k1; exact DataW.trod_lt m _ _ _ hm
  obtain ⟨C1, w1⟩ : ∃ C1, Fg.CoV (Fg.Old W) W (.slice a1 len1 cap1) C1 := by
    obtain ⟨fuel, hf⟩ := h1
    exact Fg.coo_rd Try.underlying23 hf
  obtain ⟨a2, rfl, rfl, rfl, w2⟩ := open_int Try.underlying5 (hval 2 5 v2 rfl rfl) h2
  clear hA0 hval0
  refine (walk a0 len0 cap0 P0 a1 len1 cap1 C1 a2 W w0 w1 w2).mono fun e W' ⟨he, bel⟩ => ?_
  subst he
  exact ⟨_, rfl, _, _, _, [], _, [], hW', trodAll_mk1 (shut_bool Try.underlying4 _), (trodAll_cons_mk (Below.trod laidOut (by kernel_rfl) (of_decide_eq_true (by kernel_rfl)) k0 bel lt0) (trodAll_cons_mk (Below.trod laidOut (by kernel_rfl) (of_decide_eq_true (by kernel_rfl)) k1 bel lt1) (trodAll_cons_mk (shut_int Try.underlying5 w2) trodAll_mk0))), rfl, bel.frame _, fun h => by cases h⟩

theorem over : Rows.fnFlattenIdempotentAndKeepsPrefixRow.holds Try.pinned (OpenSpec.ofChange Rows.fnFlattenIdempotentAndKeepsPrefixSpec) :=
  OpenClaim.holds_of_wide 3 Try.f3 rfl rfl rfl rfl rfl rfl rfl ⟨rfl, rfl, rfl, rfl, rfl⟩ rfl rfl rfl rfl rfl (by kernel_rfl) Try.func3 (by kernel_rfl)
    (of_decide_eq_true (by kernel_rfl)) (by unfold Func.isWrapper; first | (rw [if_pos (by decide +kernel)]; kernel_rfl) | (rw [if_neg (by decide +kernel)]; exact ⟨rfl, rfl⟩))
    (fun os started H enc _ => lifted os started H enc)

/-- THE STATEMENT -/
theorem proved : Rows.FnFlattenIdempotentAndKeepsPrefixSaid := over
#print axioms proved
end Go.Proofs.Ytbpnmiedomchpaa.fnFlattenIdempotentAndKeepsPrefix
