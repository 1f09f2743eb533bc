/-
  For every two quadruples of token codes, every quadruple of pair flags and of places and both flags: four corner longhands merge into one border-radius at the last rule exactly when every token is a safe numeric, and otherwise each keeps its rule: the Go law FnMangleCornerFourLonghandsMerge returns true for every input. The tables that the package and strings.ToLower read are tied to the text of the program. No condition.
-/
import Derived.Test.YtmaljklijpoojaaDoorRows
import Derived.Test.YtmaljklijpoojaaDoorTie
import Derived.Test.YtmaljklijpoojaaDoorCards
import Derived.WalkKit
import Derived.ProofKit
import Derived.OpenShut
import Derived.ShutString
import Derived.ChangeOld
import Derived.Below
import Derived.Lib.Hide
import Derived.Outline
import Derived.OpenVars
import Derived.Lay
import Derived.LaidMore
import Derived.SevenTiedAt
import Derived.Stop.Joined
import Derived.LaidLaws
import Derived.Laws.IdiomArrays
import Derived.Test.YtmaljklijpoojaaDoorDb
namespace Go.Proofs.YtmaljklijpoojaaDoor.fnMangleCornerFourLonghandsMerge
open Go.ChangeShapes Go.WideShapes Go.ChangeAt Go.RowKit
open Go.ChangeMaps (open_string shut_string)
set_option linter.unusedVariables false

theorem own : ownKnob Tryd.prog.godebug = none := by kernel_rfl
theorem laidOut : laidOutB Tryd.prog = true := by kernel_rfl
section
variable {H : Type} {enc : TypeId × Value → H} {P : Program} {w : World} {base : Nat} {spare : Nat → Bool} {hd : Bool}
theorem open_arr4_bool {r : Reach} {b0 : Nat} {t e : TypeId} {v : Value} {d : DataW H} {p : List MemPlace} (ht : P.underlying t = some (.array 4 e)) (he : P.underlying e = some (.bool)) (hce : P.cellsOf e = 1) (hC : P.cellsOf t = 4)
    (hv : Value.okWide P w r b0 t v) (h : DataW.Trod enc P w base spare hd t v d p) : ∃ z : Nat → Bool, v = .agg #[.bool (z 0), .bool (z 1), .bool (z 2), .bool (z 3)] := by
  simp only [Value.okWide, ht] at hv
  obtain ⟨cs, rfl, hsz, _⟩ := hv
  obtain ⟨l⟩ := cs
  match l, hsz.trans hC with
  | [c0, c1, c2, c3], _ =>
    obtain ⟨fuel, hf⟩ := h
    obtain ⟨y0, y1, y2, y3, n, -, g0, g1, g2, g3⟩ := trod_array4 ht hce hf
    obtain ⟨n0, e0, -⟩ := DataW.trod_bool he g0
    obtain rfl : c0 = .bool n0 := by simpa using e0
    obtain ⟨n1, e1, -⟩ := DataW.trod_bool he g1
    obtain rfl : c1 = .bool n1 := by simpa using e1
    obtain ⟨n2, e2, -⟩ := DataW.trod_bool he g2
    obtain rfl : c2 = .bool n2 := by simpa using e2
    obtain ⟨n3, e3, -⟩ := DataW.trod_bool he g3
    obtain rfl : c3 = .bool n3 := by simpa using e3
    exact ⟨fun | 0 => n0 | 1 => n1 | 2 => n2 | _ => n3, rfl⟩
theorem open_arr4_int {r : Reach} {b0 : Nat} {t e : TypeId} {k : IntKind} {v : Value} {d : DataW H} {p : List MemPlace} (ht : P.underlying t = some (.array 4 e)) (he : P.underlying e = some (.int k)) (hce : P.cellsOf e = 1) (hC : P.cellsOf t = 4)
    (hv : Value.okWide P w r b0 t v) (h : DataW.Trod enc P w base spare hd t v d p) : ∃ z : Nat → Int, v = .agg #[.int k (z 0), .int k (z 1), .int k (z 2), .int k (z 3)] ∧ ∀ j, j < 4 → (Lit.int k (z j)).wf = true := by
  simp only [Value.okWide, ht] at hv
  obtain ⟨cs, rfl, hsz, _⟩ := hv
  obtain ⟨l⟩ := cs
  match l, hsz.trans hC with
  | [c0, c1, c2, c3], _ =>
    obtain ⟨fuel, hf⟩ := h
    obtain ⟨y0, y1, y2, y3, n, -, g0, g1, g2, g3⟩ := trod_array4 ht hce hf
    obtain ⟨n0, e0, -, q0⟩ := DataW.trod_int he g0
    obtain rfl : c0 = .int k n0 := by simpa using e0
    obtain ⟨n1, e1, -, q1⟩ := DataW.trod_int he g1
    obtain rfl : c1 = .int k n1 := by simpa using e1
    obtain ⟨n2, e2, -, q2⟩ := DataW.trod_int he g2
    obtain rfl : c2 = .int k n2 := by simpa using e2
    obtain ⟨n3, e3, -, q3⟩ := DataW.trod_int he g3
    obtain rfl : c3 = .int k n3 := by simpa using e3
    exact ⟨fun | 0 => n0 | 1 => n1 | 2 => n2 | _ => n3, rfl, fun j hj => by
      have : j = 0 ∨ j = 1 ∨ j = 2 ∨ j = 3 := by omega
      rcases this with rfl | rfl | rfl | rfl <;> assumption⟩
end

open Co Quad Rg

set_option maxRecDepth 100000 in
set_option maxHeartbeats 4000000 in
/-- THE WALK -/
theorem walk (z0 : Nat → Int) (z1 : Nat → Int) (z2 : Nat → Bool) (z3 : Nat → Int) (a4 : Bool) (a5 : Bool) (w : World) (w0 : ∀ j, j < 4 → (Lit.int .u8 (z0 j)).wf = true) (w1 : ∀ j, j < 4 → (Lit.int .u8 (z1 j)).wf = true) (w3 : ∀ j, j < 4 → (Lit.int .i32 (z3 j)).wf = true) (hL : laidMetH Tryd.prog Rows.fnMangleCornerFourLonghandsMergeRow.laid w) :
    Calls Tryd.prog 3 #[.agg #[.int .u8 (z0 0), .int .u8 (z0 1), .int .u8 (z0 2), .int .u8 (z0 3)], .agg #[.int .u8 (z1 0), .int .u8 (z1 1), .int .u8 (z1 2), .int .u8 (z1 3)], .agg #[.bool (z2 0), .bool (z2 1), .bool (z2 2), .bool (z2 3)], .agg #[.int .i32 (z3 0), .int .i32 (z3 1), .int .i32 (z3 2), .int .i32 (z3 3)], .bool a4, .bool a5] w fun e w' => e = .returned (.bool true) ∧ Below w.heap.size w w' := by
  exact law55 z0 z1 z2 z3 a4 a5 w
    (fun j hj => by have : 0 ≤ z0 j ∧ z0 j ≤ 255 := by simpa [Lit.wf, IntKind.min, IntKind.max, IntKind.bits, IntKind.signed] using w0 j hj
                    omega)
    (fun j hj => by have : 0 ≤ z1 j ∧ z1 j ≤ 255 := by simpa [Lit.wf, IntKind.min, IntKind.max, IntKind.bits, IntKind.signed] using w1 j hj
                    omega)

theorem laid_met (os : Os) (args : Array Value) : laidMetH Tryd.prog Rows.fnMangleCornerFourLonghandsMergeRow.laid ((World.laidAll Tryd.prog os Rows.fnMangleCornerFourLonghandsMergeRow.laid).forCall (fun _ _ => 0) ⟨#[], args, []⟩).memory := by
  rw [MakeChecks.laidMetH_plain _ _ _ (by kernel_rfl)]; exact laidMet_laidAll _ (by kernel_rfl) (by kernel_rfl)

set_option maxRecDepth 1000000 in
theorem lifted (os : Os) (started : os.Started) (H : Type) (enc : TypeId × Value → H) :
    ReturnsInHanded {} Tryd.checked os 3 .any (fun w args => (Rows.fnMangleCornerFourLonghandsMergeSpec.pre enc Tryd.prog Tryd.f3 Rows.fnMangleCornerFourLonghandsMergeRow.domain false w args ∧ laidMetH Tryd.prog Rows.fnMangleCornerFourLonghandsMergeRow.laid w) ∧ sizedMet enc Tryd.prog Tryd.f3 (OpenSpec.ofChange Rows.fnMangleCornerFourLonghandsMergeSpec) false w args)
      (Rows.fnMangleCornerFourLonghandsMergeSpec.post enc Tryd.prog Tryd.f3 false true false false) := by
  refine returnsInHanded_of_change_and (C := Tryd.checked) (X := fun w _ => laidMetH Tryd.prog Rows.fnMangleCornerFourLonghandsMergeRow.laid w) (fun _ _ _ hh h => h.of_heap hh) own started (by kernel_rfl) Tryd.func3
    (ChangeSpec.witness_shaped (enc := enc) (C := Tryd.checked) (os := os) (X := fun w _ => laidMetH Tryd.prog Rows.fnMangleCornerFourLonghandsMergeRow.laid w) false (World.laidAll Tryd.prog os Rows.fnMangleCornerFourLonghandsMergeRow.laid) #[.agg #[.int .u8 0, .int .u8 0, .int .u8 0, .int .u8 0], .agg #[.int .u8 0, .int .u8 0, .int .u8 0, .int .u8 0], .agg #[.bool false, .bool false, .bool false, .bool false], .agg #[.int .i32 0, .int .i32 0, .int .i32 0, .int .i32 0], .bool false, .bool false] 8 (World.laidAll_os _ _ _)
      (World.shaped_of_ZipB (by kernel_rfl) (by kernel_rfl)) (by kernel_rfl) (by kernel_rfl) (by kernel_rfl)
      (laid_met os _)) ?_
  intro W base args ds gs before hval0 hW hcnd _ hL _
  have hval : ∀ (j : Nat) t v, Tryd.f3.params[j]? = some t → args[j]? = some v → Value.okWide Tryd.prog W .any base t v := hval0
  have hW' := hW
  obtain ⟨p, q, hA0, hV, rfl, hfz, hnd⟩ := hW
  have hA : DataW.TrodAll enc Tryd.prog W 0 (fun _ => true) true Tryd.f3.params.toList args.toList ds p := hA0
  rw [Tryd.params3] at hA hval
  obtain ⟨v0, vs0, d0, ds0, p0, q0, hargs, rfl, rfl, h0, r0⟩ := trodAll_cons hA
  obtain ⟨v1, vs1, d1, ds1, p1, q1, rfl, rfl, rfl, h1, r1⟩ := trodAll_cons r0
  obtain ⟨v2, vs2, d2, ds2, p2, q2, rfl, rfl, rfl, h2, r2⟩ := trodAll_cons r1
  obtain ⟨v3, vs3, d3, ds3, p3, q3, rfl, rfl, rfl, h3, r3⟩ := trodAll_cons r2
  obtain ⟨v4, vs4, d4, ds4, p4, q4, rfl, rfl, rfl, h4, r4⟩ := trodAll_cons r3
  obtain ⟨v5, vs5, d5, ds5, p5, q5, rfl, rfl, rfl, h5, r5⟩ := trodAll_cons r4
  obtain ⟨rfl, rfl, rfl⟩ := trodAll_nil r5
  obtain rfl : args = #[v0, v1, v2, v3, v4, v5] := by cases args; simp_all
  have hV1 := hV
  obtain ⟨rfl, rfl⟩ := trodVars_none hV
  have k0 := h0
  have lt0 : ∀ x ∈ p0, x.block < W.heap.size := by obtain ⟨m, hm⟩ := k0; exact DataW.trod_lt m _ _ _ hm
  obtain ⟨z0, rfl, w0⟩ := open_arr4_int Tryd.underlying22 Tryd.underlying5 (by kernel_rfl) (by kernel_rfl) (hval 0 22 v0 rfl rfl) h0
  have k1 := h1
  have lt1 : ∀ x ∈ p1, x.block < W.heap.size := by obtain ⟨m, hm⟩ := k1; exact DataW.trod_lt m _ _ _ hm
  obtain ⟨z1, rfl, w1⟩ := open_arr4_int Tryd.underlying22 Tryd.underlying5 (by kernel_rfl) (by kernel_rfl) (hval 1 22 v1 rfl rfl) h1
  have k2 := h2
  have lt2 : ∀ x ∈ p2, x.block < W.heap.size := by obtain ⟨m, hm⟩ := k2; exact DataW.trod_lt m _ _ _ hm
  obtain ⟨z2, rfl⟩ := open_arr4_bool Tryd.underlying23 Tryd.underlying4 (by kernel_rfl) (by kernel_rfl) (hval 2 23 v2 rfl rfl) h2
  have k3 := h3
  have lt3 : ∀ x ∈ p3, x.block < W.heap.size := by obtain ⟨m, hm⟩ := k3; exact DataW.trod_lt m _ _ _ hm
  obtain ⟨z3, rfl, w3⟩ := open_arr4_int Tryd.underlying24 Tryd.underlying21 (by kernel_rfl) (by kernel_rfl) (hval 3 24 v3 rfl rfl) h3
  obtain ⟨a4, rfl, rfl, rfl⟩ := open_bool Tryd.underlying4 (hval 4 4 v4 rfl rfl) h4
  obtain ⟨a5, rfl, rfl, rfl⟩ := open_bool Tryd.underlying4 (hval 5 4 v5 rfl rfl) h5
  clear hA0 hval0
  refine (walk z0 z1 z2 z3 a4 a5 W w0 w1 w3 hL).mono fun e W' ⟨he, bel⟩ => ?_
  subst he
  exact ⟨_, rfl, _, _, _, [], _, _, hW', trodAll_mk1 (shut_bool Tryd.underlying4 _), (trodAll_cons_mk (Below.trod laidOut (by kernel_rfl) (of_decide_eq_true (by kernel_rfl)) k0 bel lt0) (trodAll_cons_mk (Below.trod laidOut (by kernel_rfl) (of_decide_eq_true (by kernel_rfl)) k1 bel lt1) (trodAll_cons_mk (Below.trod laidOut (by kernel_rfl) (of_decide_eq_true (by kernel_rfl)) k2 bel lt2) (trodAll_cons_mk (Below.trod laidOut (by kernel_rfl) (of_decide_eq_true (by kernel_rfl)) k3 bel lt3) (trodAll_cons_mk (shut_bool Tryd.underlying4 a4) (trodAll_cons_mk (shut_bool Tryd.underlying4 a5) trodAll_mk0)))))), rfl, bel.frame _, fun h => by cases h⟩

theorem over : Rows.fnMangleCornerFourLonghandsMergeRow.holds Tryd.pinned (OpenSpec.ofChange Rows.fnMangleCornerFourLonghandsMergeSpec) :=
  OpenClaim.holds_of_wide 3 Tryd.f3 rfl rfl rfl rfl rfl rfl rfl ⟨rfl, rfl, rfl, rfl, rfl⟩ rfl rfl rfl rfl rfl (by kernel_rfl) Tryd.func3 (by kernel_rfl)
    (of_decide_eq_true (by kernel_rfl)) (by unfold Func.isWrapper; first | (rw [if_pos (by decide +kernel)]; kernel_rfl) | (rw [if_neg (by decide +kernel)]; exact ⟨rfl, rfl⟩))
    (fun os started H enc _ => lifted os started H enc)

/-- THE STATEMENT: the listed variables are tied to the program's text. -/
theorem proved : Rows.FnMangleCornerFourLonghandsMergeCardSaid :=
  Claim7.holds_tied_plain_at .later [] [.data, .pinned, .pinned] true (true, "35c9a36eea33c0e39ba6d8ec7a4f732f2c2f2f79f62d4d7246cf4b602f8686c3") true over (fun _ h => by cases h) (by kernel_rfl) (fun _ h => by cases h) fnMangleCornerFourLonghandsMerge_row_tie rfl ⟨rfl, rfl⟩ (by kernel_rfl) rfl
    (fun f fn hf hfn => by
      obtain rfl : f = 3 := Option.some.inj ((show Tryd.prog.funcNamed "github.com/evanw/esbuild/n011_161.FnMangleCornerFourLonghandsMerge" = some 3 by kernel_rfl).symm.trans hf) |>.symm
      obtain rfl : fn = Tryd.f3 := (Option.some.inj (Tryd.func3.symm.trans hfn)).symm
      exact ⟨by kernel_rfl, fun j t ht => by
        rw [Tryd.params3] at ht
        have hm : t ∈ [22, 22, 23, 24, 4, 4] := by simpa using Array.mem_of_getElem? ht
        have hall : ([22, 22, 23, 24, 4, 4].all fun u => !Tryd.prog.wantsStandIn u) = true := by kernel_rfl
        exact (show Tryd.prog.wantsStandIn t = false by simpa using List.all_eq_true.1 hall t hm)⟩)
    (by kernel_rfl)
#print axioms proved
end Go.Proofs.YtmaljklijpoojaaDoor.fnMangleCornerFourLonghandsMerge
