/-
  For every number of rules, every list of kinds, every list of texts and every three flags: a margin box that has absorbed one percentage forgets all four sides on a refused value, takes the new flag and leaves every rule as it was: the Go law FnMangleSidesRefusalResetsBox returns true for every input. The tables that the package and strings.ToLower read are tied to the text of the program. No condition.
-/
import Derived.Test.YtnihlfldlkkobaaDoorRows
import Derived.Test.YtnihlfldlkkobaaDoorTie
import Derived.Test.YtnihlfldlkkobaaDoorCards
import Derived.WalkKit
import Derived.ProofKit
import Derived.OpenShut
import Derived.ShutString
import Derived.ChangeOld
import Derived.Below
import Derived.Lib.Hide
import Derived.Outline
import Derived.OpenVars
import Derived.Lay
import Derived.LaidMore
import Derived.SevenTiedAt
import Derived.Stop.Joined
import Derived.LaidLaws
import Derived.SliceStrings
import Derived.Test.YtnihlfldlkkobaaDoorLi
namespace Go.Proofs.YtnihlfldlkkobaaDoor.fnMangleSidesRefusalResetsBox
open Go.ChangeShapes Go.WideShapes Go.ChangeAt Go.RowKit
open Go.ChangeMaps (open_string shut_string)
set_option linter.unusedVariables false

theorem own : ownKnob Tryd.prog.godebug = none := by kernel_rfl
theorem laidOut : laidOutB Tryd.prog = true := by kernel_rfl

/-- What the walk is told of a slice that came in: it is nil; or it leads to a row of 'cap' cells that hold 'zs'. -/
def IsRow {α : Type} [Inhabited α] (mk : α → Value) (ok : α → Prop) (w : World) (a : Option Addr) (len cap : Nat) (zs : List α) : Prop :=
  (a = none ∧ len = 0 ∧ cap = 0 ∧ zs = []) ∨
  ∃ x, a = some x ∧ len ≤ cap ∧ cap ≤ maxLen ∧ zs.length = cap ∧ (∀ i (h : i < zs.length), w.cell? (x.add i) = some (mk zs[i])) ∧ ∀ n ∈ zs, ok n
section
variable {H : Type} {enc : TypeId × Value → H} {P : Program} {w : World} {base : Nat} {hd : Bool}
theorem row_of_int {t e : TypeId} {k : IntKind} {fuel : Nat} {a : Option Addr} {len cap : Nat} {x : DataW H × List MemPlace} (ht : P.underlying t = some (.slice e)) (he : P.underlying e = some (.int k)) (hc : P.cellsOf e = 1)
    (hf : DataW.trod enc P w base (fun _ => true) hd fuel t (Value.slice a len cap).cells.toList = some x) : ∃ zs, IsRow (.int k) (fun n => (Lit.int k n).wf = true) w a len cap zs := by
  rcases open_ints ht he hc hf with ⟨hcs, _⟩ | ⟨y, l, c, zs, hcs, _, hl, hm, hz, _, hcell, hwz⟩
  · simp [Value.cells] at hcs
    obtain ⟨rfl, rfl, rfl⟩ := hcs
    exact ⟨[], .inl ⟨rfl, rfl, rfl, rfl⟩⟩
  · simp [Value.cells] at hcs
    obtain ⟨rfl, rfl, rfl⟩ := hcs
    exact ⟨zs, .inr ⟨_, rfl, hl, hm, by simpa using hz, fun i h => by have := hcell i h; simpa [List.getD, h] using this, hwz⟩⟩
theorem row_of_string {t e : TypeId} {fuel : Nat} {a : Option Addr} {len cap : Nat} {x : DataW H × List MemPlace} (ht : P.underlying t = some (.slice e)) (he : P.underlying e = some .string) (hc : P.cellsOf e = 1)
    (hf : DataW.trod enc P w base (fun _ => true) hd fuel t (Value.slice a len cap).cells.toList = some x) : ∃ zs, IsRow .string (fun s => s.size ≤ maxLen) w a len cap zs := by
  rcases open_strings ht he hc hf with ⟨hcs, _⟩ | ⟨y, l, c, zs, hcs, _, hl, hm, hz, _, hcell, hwz⟩
  · simp [Value.cells] at hcs
    obtain ⟨rfl, rfl, rfl⟩ := hcs
    exact ⟨[], .inl ⟨rfl, rfl, rfl, rfl⟩⟩
  · simp [Value.cells] at hcs
    obtain ⟨rfl, rfl, rfl⟩ := hcs
    exact ⟨zs, .inr ⟨_, rfl, hl, hm, by simpa using hz, fun i h => by have := hcell i h; simpa [List.getD, h] using this, hwz⟩⟩
end

open Bx Quad Rg

set_option maxRecDepth 100000 in
set_option maxHeartbeats 4000000 in
/-- THE WALK -/
theorem walk (a0 : Int) (a1 : Option Addr) (len1 cap1 : Nat) (z1 : List Int) (a2 : Option Addr) (len2 cap2 : Nat) (z2 : List ByteArray) (a3 : Bool) (a4 : Bool) (a5 : Bool) (w : World) (w0 : (Lit.int .i64 a0).wf = true) (w1 : IsRow (.int .u8) (fun n => (Lit.int .u8 n).wf = true) w a1 len1 cap1 z1) (w2 : IsRow .string (fun s => s.size ≤ maxLen) w a2 len2 cap2 z2) (hL : laidMetH Tryd.prog Rows.fnMangleSidesRefusalResetsBoxRow.laid w) :
    Calls Tryd.prog 3 #[.int .i64 a0, .slice a1 len1 cap1, .slice a2 len2 cap2, .bool a3, .bool a4, .bool a5] w fun e w' => e = .returned (.bool true) ∧ Below w.heap.size w w' := by
  obtain ⟨h1, o1, h3, h4⟩ := Sl.of_row (mk := Value.int .u8) (ok := fun n => (Lit.int .u8 n).wf = true) w1
  obtain ⟨g1, o2, g3, g4⟩ := Sl.of_row (mk := Value.string) (ok := fun s => s.size ≤ maxLen) w2
  exact law15 a0 a1 a2 len1 cap1 len2 cap2 (fun i => z1.getD i default) (fun i => z2.getD i default) a3 a4 a5 w h1
    (fun i hi => by have : 0 ≤ z1.getD i default ∧ z1.getD i default ≤ 255 := by simpa [Lit.wf, IntKind.min, IntKind.max, IntKind.bits, IntKind.signed] using o1 i hi
                    omega)
    h3 (by have := h4; unfold maxLen at this; omega) g1 g3 (by have := g4; unfold maxLen at this; omega)
    (fun i hi => by have := o2 i hi; unfold maxLen at this; omega)

theorem laid_met (os : Os) (args : Array Value) : laidMetH Tryd.prog Rows.fnMangleSidesRefusalResetsBoxRow.laid ((World.laidAll Tryd.prog os Rows.fnMangleSidesRefusalResetsBoxRow.laid).forCall (fun _ _ => 0) ⟨#[], args, []⟩).memory := by
  rw [MakeChecks.laidMetH_plain _ _ _ (by kernel_rfl)]; exact laidMet_laidAll _ (by kernel_rfl) (by kernel_rfl)

set_option maxRecDepth 1000000 in
theorem lifted (os : Os) (started : os.Started) (H : Type) (enc : TypeId × Value → H) :
    ReturnsInHanded {} Tryd.checked os 3 .any (fun w args => (Rows.fnMangleSidesRefusalResetsBoxSpec.pre enc Tryd.prog Tryd.f3 Rows.fnMangleSidesRefusalResetsBoxRow.domain false w args ∧ laidMetH Tryd.prog Rows.fnMangleSidesRefusalResetsBoxRow.laid w) ∧ sizedMet enc Tryd.prog Tryd.f3 (OpenSpec.ofChange Rows.fnMangleSidesRefusalResetsBoxSpec) false w args)
      (Rows.fnMangleSidesRefusalResetsBoxSpec.post enc Tryd.prog Tryd.f3 false true false false) := by
  refine returnsInHanded_of_change_and (C := Tryd.checked) (X := fun w _ => laidMetH Tryd.prog Rows.fnMangleSidesRefusalResetsBoxRow.laid w) (fun _ _ _ hh h => h.of_heap hh) own started (by kernel_rfl) Tryd.func3
    (ChangeSpec.witness_shaped (enc := enc) (C := Tryd.checked) (os := os) (X := fun w _ => laidMetH Tryd.prog Rows.fnMangleSidesRefusalResetsBoxRow.laid w) false (World.laidAll Tryd.prog os Rows.fnMangleSidesRefusalResetsBoxRow.laid) #[.int .i64 0, .slice none 0 0, .slice none 0 0, .bool false, .bool false, .bool false] 8 (World.laidAll_os _ _ _)
      (World.shaped_of_ZipB (by kernel_rfl) (by kernel_rfl)) (by kernel_rfl) (by kernel_rfl) (by kernel_rfl)
      (laid_met os _)) ?_
  intro W base args ds gs before hval0 hW hcnd _ hL _
  have hval : ∀ (j : Nat) t v, Tryd.f3.params[j]? = some t → args[j]? = some v → Value.okWide Tryd.prog W .any base t v := hval0
  have hW' := hW
  obtain ⟨p, q, hA0, hV, rfl, hfz, hnd⟩ := hW
  have hA : DataW.TrodAll enc Tryd.prog W 0 (fun _ => true) true Tryd.f3.params.toList args.toList ds p := hA0
  rw [Tryd.params3] at hA hval
  obtain ⟨v0, vs0, d0, ds0, p0, q0, hargs, rfl, rfl, h0, r0⟩ := trodAll_cons hA
  obtain ⟨v1, vs1, d1, ds1, p1, q1, rfl, rfl, rfl, h1, r1⟩ := trodAll_cons r0
  obtain ⟨v2, vs2, d2, ds2, p2, q2, rfl, rfl, rfl, h2, r2⟩ := trodAll_cons r1
  obtain ⟨v3, vs3, d3, ds3, p3, q3, rfl, rfl, rfl, h3, r3⟩ := trodAll_cons r2
  obtain ⟨v4, vs4, d4, ds4, p4, q4, rfl, rfl, rfl, h4, r4⟩ := trodAll_cons r3
  obtain ⟨v5, vs5, d5, ds5, p5, q5, rfl, rfl, rfl, h5, r5⟩ := trodAll_cons r4
  obtain ⟨rfl, rfl, rfl⟩ := trodAll_nil r5
  obtain rfl : args = #[v0, v1, v2, v3, v4, v5] := by cases args; simp_all
  have hV1 := hV
  obtain ⟨rfl, rfl⟩ := trodVars_none hV
  obtain ⟨a0, rfl, rfl, rfl, w0⟩ := open_int Tryd.underlying3 (hval 0 3 v0 rfl rfl) h0
  obtain ⟨a1, len1, cap1, rfl⟩ := okWide_slice Tryd.underlying22 (hval 1 22 v1 rfl rfl)
  have k1 := h1
  have lt1 : ∀ x ∈ p1, x.block < W.heap.size := by obtain ⟨m, hm⟩ := k1; exact DataW.trod_lt m _ _ _ hm
  obtain ⟨z1, w1⟩ : ∃ zs, IsRow (.int .u8) (fun n => (Lit.int .u8 n).wf = true) W a1 len1 cap1 zs := by
    obtain ⟨fuel, hf⟩ := h1
    exact row_of_int Tryd.underlying22 Tryd.underlying5 (by kernel_rfl) hf
  obtain ⟨a2, len2, cap2, rfl⟩ := okWide_slice Tryd.underlying23 (hval 2 23 v2 rfl rfl)
  have k2 := h2
  have lt2 : ∀ x ∈ p2, x.block < W.heap.size := by obtain ⟨m, hm⟩ := k2; exact DataW.trod_lt m _ _ _ hm
  obtain ⟨z2, w2⟩ : ∃ zs, IsRow .string (fun s => s.size ≤ maxLen) W a2 len2 cap2 zs := by
    obtain ⟨fuel, hf⟩ := h2
    exact row_of_string Tryd.underlying23 Tryd.underlying9 (by kernel_rfl) hf
  obtain ⟨a3, rfl, rfl, rfl⟩ := open_bool Tryd.underlying4 (hval 3 4 v3 rfl rfl) h3
  obtain ⟨a4, rfl, rfl, rfl⟩ := open_bool Tryd.underlying4 (hval 4 4 v4 rfl rfl) h4
  obtain ⟨a5, rfl, rfl, rfl⟩ := open_bool Tryd.underlying4 (hval 5 4 v5 rfl rfl) h5
  clear hA0 hval0
  refine (walk a0 a1 len1 cap1 z1 a2 len2 cap2 z2 a3 a4 a5 W w0 w1 w2 hL).mono fun e W' ⟨he, bel⟩ => ?_
  subst he
  exact ⟨_, rfl, _, _, _, [], _, _, hW', trodAll_mk1 (shut_bool Tryd.underlying4 _), (trodAll_cons_mk (shut_int Tryd.underlying3 w0) (trodAll_cons_mk (Below.trod laidOut (by kernel_rfl) (of_decide_eq_true (by kernel_rfl)) k1 bel lt1) (trodAll_cons_mk (Below.trod laidOut (by kernel_rfl) (of_decide_eq_true (by kernel_rfl)) k2 bel lt2) (trodAll_cons_mk (shut_bool Tryd.underlying4 a3) (trodAll_cons_mk (shut_bool Tryd.underlying4 a4) (trodAll_cons_mk (shut_bool Tryd.underlying4 a5) trodAll_mk0)))))), rfl, bel.frame _, fun h => by cases h⟩

theorem over : Rows.fnMangleSidesRefusalResetsBoxRow.holds Tryd.pinned (OpenSpec.ofChange Rows.fnMangleSidesRefusalResetsBoxSpec) :=
  OpenClaim.holds_of_wide 3 Tryd.f3 rfl rfl rfl rfl rfl rfl rfl ⟨rfl, rfl, rfl, rfl, rfl⟩ rfl rfl rfl rfl rfl (by kernel_rfl) Tryd.func3 (by kernel_rfl)
    (of_decide_eq_true (by kernel_rfl)) (by unfold Func.isWrapper; first | (rw [if_pos (by decide +kernel)]; kernel_rfl) | (rw [if_neg (by decide +kernel)]; exact ⟨rfl, rfl⟩))
    (fun os started H enc _ => lifted os started H enc)

/-- THE STATEMENT: the listed variables are tied to the program's text. -/
theorem proved : Rows.FnMangleSidesRefusalResetsBoxCardSaid :=
  Claim7.holds_tied_plain_at .later [] [.data, .pinned, .pinned] true (true, "ab694a44c926982ce0e8da824b8416754eb5270cf6f2e7f1230f99d19cf12138") true over (fun _ h => by cases h) (by kernel_rfl) (fun _ h => by cases h) fnMangleSidesRefusalResetsBox_row_tie rfl ⟨rfl, rfl⟩ (by kernel_rfl) rfl
    (fun f fn hf hfn => by
      obtain rfl : f = 3 := Option.some.inj ((show Tryd.prog.funcNamed "github.com/evanw/esbuild/n011_282.FnMangleSidesRefusalResetsBox" = some 3 by kernel_rfl).symm.trans hf) |>.symm
      obtain rfl : fn = Tryd.f3 := (Option.some.inj (Tryd.func3.symm.trans hfn)).symm
      exact ⟨by kernel_rfl, fun j t ht => by
        rw [Tryd.params3] at ht
        have hm : t ∈ [3, 22, 23, 4, 4, 4] := by simpa using Array.mem_of_getElem? ht
        have hall : ([3, 22, 23, 4, 4, 4].all fun u => !Tryd.prog.wantsStandIn u) = true := by kernel_rfl
        exact (show Tryd.prog.wantsStandIn t = false by simpa using List.all_eq_true.1 hall t hm)⟩)
    (by kernel_rfl)
#print axioms proved
end Go.Proofs.YtnihlfldlkkobaaDoor.fnMangleSidesRefusalResetsBox
