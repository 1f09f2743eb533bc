/-
  For every three lists of colours, of numbers of positions and of midpoints: switchToDoublePositions changes nothing in its own output, and its output carries every position once, in order: the Go law FnSwitchToDoublePositionsIdempotent returns true for every input. The table that the package reads is tied to the text of the program. No condition.
-/
import Derived.Test.YtfhfeimlikpbpaaDoorRows
import Derived.Test.YtfhfeimlikpbpaaDoorTie
import Derived.Test.YtfhfeimlikpbpaaDoorCards
import Derived.WalkKit
import Derived.ProofKit
import Derived.OpenShut
import Derived.ShutString
import Derived.ChangeOld
import Derived.Below
import Derived.Lib.Hide
import Derived.Outline
import Derived.OpenVars
import Derived.Lay
import Derived.LaidMore
import Derived.SevenTiedAt
import Derived.Stop.Joined
import Derived.LaidLaws
import Derived.SliceStrings
import Derived.Test.YtfhfeimlikpbpaaDoorTi
namespace Go.Proofs.YtfhfeimlikpbpaaDoor.fnSwitchToDoublePositionsIdempotent
open Go.ChangeShapes Go.WideShapes Go.ChangeAt Go.RowKit
open Go.ChangeMaps (open_string shut_string)
set_option linter.unusedVariables false

theorem own : ownKnob Tryd.prog.godebug = none := by kernel_rfl
theorem laidOut : laidOutB Tryd.prog = true := by kernel_rfl

/-- What the walk is told of a slice that came in: it is nil; or it leads to a row of 'cap' cells that hold 'zs'. -/
def IsRow {α : Type} [Inhabited α] (mk : α → Value) (ok : α → Prop) (w : World) (a : Option Addr) (len cap : Nat) (zs : List α) : Prop :=
  (a = none ∧ len = 0 ∧ cap = 0 ∧ zs = []) ∨
  ∃ x, a = some x ∧ len ≤ cap ∧ cap ≤ maxLen ∧ zs.length = cap ∧ (∀ i (h : i < zs.length), w.cell? (x.add i) = some (mk zs[i])) ∧ ∀ n ∈ zs, ok n
section
variable {H : Type} {enc : TypeId × Value → H} {P : Program} {w : World} {base : Nat} {hd : Bool}
theorem row_of_int {t e : TypeId} {k : IntKind} {fuel : Nat} {a : Option Addr} {len cap : Nat} {x : DataW H × List MemPlace} (ht : P.underlying t = some (.slice e)) (he : P.underlying e = some (.int k)) (hc : P.cellsOf e = 1)
    (hf : DataW.trod enc P w base (fun _ => true) hd fuel t (Value.slice a len cap).cells.toList = some x) : ∃ zs, IsRow (.int k) (fun n => (Lit.int k n).wf = true) w a len cap zs := by
  rcases open_ints ht he hc hf with ⟨hcs, _⟩ | ⟨y, l, c, zs, hcs, _, hl, hm, hz, _, hcell, hwz⟩
  · simp [Value.cells] at hcs
    obtain ⟨rfl, rfl, rfl⟩ := hcs
    exact ⟨[], .inl ⟨rfl, rfl, rfl, rfl⟩⟩
  · simp [Value.cells] at hcs
    obtain ⟨rfl, rfl, rfl⟩ := hcs
    exact ⟨zs, .inr ⟨_, rfl, hl, hm, by simpa using hz, fun i h => by have := hcell i h; simpa [List.getD, h] using this, hwz⟩⟩
theorem row_of_string {t e : TypeId} {fuel : Nat} {a : Option Addr} {len cap : Nat} {x : DataW H × List MemPlace} (ht : P.underlying t = some (.slice e)) (he : P.underlying e = some .string) (hc : P.cellsOf e = 1)
    (hf : DataW.trod enc P w base (fun _ => true) hd fuel t (Value.slice a len cap).cells.toList = some x) : ∃ zs, IsRow .string (fun s => s.size ≤ maxLen) w a len cap zs := by
  rcases open_strings ht he hc hf with ⟨hcs, _⟩ | ⟨y, l, c, zs, hcs, _, hl, hm, hz, _, hcell, hwz⟩
  · simp [Value.cells] at hcs
    obtain ⟨rfl, rfl, rfl⟩ := hcs
    exact ⟨[], .inl ⟨rfl, rfl, rfl, rfl⟩⟩
  · simp [Value.cells] at hcs
    obtain ⟨rfl, rfl, rfl⟩ := hcs
    exact ⟨zs, .inr ⟨_, rfl, hl, hm, by simpa using hz, fun i h => by have := hcell i h; simpa [List.getD, h] using this, hwz⟩⟩
end

open Rg Cs

set_option maxRecDepth 100000 in
set_option maxHeartbeats 4000000 in
/-- THE WALK -/
theorem walk (a0 : Option Addr) (len0 cap0 : Nat) (z0 : List ByteArray) (a1 : Option Addr) (len1 cap1 : Nat) (z1 : List Int) (a2 : Option Addr) (len2 cap2 : Nat) (z2 : List ByteArray) (w : World) (w0 : IsRow .string (fun s => s.size ≤ maxLen) w a0 len0 cap0 z0) (w1 : IsRow (.int .u8) (fun n => (Lit.int .u8 n).wf = true) w a1 len1 cap1 z1) (w2 : IsRow .string (fun s => s.size ≤ maxLen) w a2 len2 cap2 z2) (hL : laidMetH Tryd.prog Rows.fnSwitchToDoublePositionsIdempotentRow.laid w) :
    Calls Tryd.prog 3 #[.slice a0 len0 cap0, .slice a1 len1 cap1, .slice a2 len2 cap2] w fun e w' => e = .returned (.bool true) ∧ Below w.heap.size w w' := by
  obtain ⟨h0, o0, n0, m0⟩ := Sl.of_row (mk := Value.string) (ok := fun s => s.size ≤ maxLen) w0
  obtain ⟨h1, o1, n1, m1⟩ := Sl.of_row (mk := Value.int .u8) (ok := fun n => (Lit.int .u8 n).wf = true) w1
  obtain ⟨h2, o2, n2, m2⟩ := Sl.of_row (mk := Value.string) (ok := fun s => s.size ≤ maxLen) w2
  have hb : ∀ i, i < len1 → 0 ≤ z1.getD i default ∧ z1.getD i default < 256 := fun i hi => by
    have : 0 ≤ z1.getD i default ∧ z1.getD i default ≤ 255 := by simpa [Lit.wf, IntKind.min, IntKind.max, IntKind.bits, IntKind.signed] using o1 i hi
    omega
  refine law52 a0 a1 a2 len0 len1 len2 cap0 cap1 cap2 (fun i => z0.getD i default) (fun i => z2.getD i default) (fun i => if i < len1 then (z1.getD i default).toNat else 0) w (fun i => ?_) h0 (fun i hi => ?_) h2 n0 n1 n2 m0 m1 m2 o0 o2
  · by_cases h : i < len1
    · simp only [h, if_true]
      have := hb i h
      omega
    · simp [h]
  · obtain ⟨ab, ao, e, c⟩ := h1 i hi
    refine ⟨ab, ao, e, c.trans ?_⟩
    have := hb i hi
    simp only [hi, if_true]
    congr 2
    omega

theorem laid_met (os : Os) (args : Array Value) : laidMetH Tryd.prog Rows.fnSwitchToDoublePositionsIdempotentRow.laid ((World.laidAll Tryd.prog os Rows.fnSwitchToDoublePositionsIdempotentRow.laid).forCall (fun _ _ => 0) ⟨#[], args, []⟩).memory := by
  rw [MakeChecks.laidMetH_plain _ _ _ (by kernel_rfl)]; exact laidMet_laidAll _ (by kernel_rfl) (by kernel_rfl)

set_option maxRecDepth 1000000 in
theorem lifted (os : Os) (started : os.Started) (H : Type) (enc : TypeId × Value → H) :
    ReturnsInHanded {} Tryd.checked os 3 .any (fun w args => (Rows.fnSwitchToDoublePositionsIdempotentSpec.pre enc Tryd.prog Tryd.f3 Rows.fnSwitchToDoublePositionsIdempotentRow.domain false w args ∧ laidMetH Tryd.prog Rows.fnSwitchToDoublePositionsIdempotentRow.laid w) ∧ sizedMet enc Tryd.prog Tryd.f3 (OpenSpec.ofChange Rows.fnSwitchToDoublePositionsIdempotentSpec) false w args)
      (Rows.fnSwitchToDoublePositionsIdempotentSpec.post enc Tryd.prog Tryd.f3 false true false false) := by
  refine returnsInHanded_of_change_and (C := Tryd.checked) (X := fun w _ => laidMetH Tryd.prog Rows.fnSwitchToDoublePositionsIdempotentRow.laid w) (fun _ _ _ hh h => h.of_heap hh) own started (by kernel_rfl) Tryd.func3
    (ChangeSpec.witness_shaped (enc := enc) (C := Tryd.checked) (os := os) (X := fun w _ => laidMetH Tryd.prog Rows.fnSwitchToDoublePositionsIdempotentRow.laid w) false (World.laidAll Tryd.prog os Rows.fnSwitchToDoublePositionsIdempotentRow.laid) #[.slice none 0 0, .slice none 0 0, .slice none 0 0] 8 (World.laidAll_os _ _ _)
      (World.shaped_of_ZipB (by kernel_rfl) (by kernel_rfl)) (by kernel_rfl) (by kernel_rfl) (by kernel_rfl)
      (laid_met os _)) ?_
  intro W base args ds gs before hval0 hW hcnd _ hL _
  have hval : ∀ (j : Nat) t v, Tryd.f3.params[j]? = some t → args[j]? = some v → Value.okWide Tryd.prog W .any base t v := hval0
  have hW' := hW
  obtain ⟨p, q, hA0, hV, rfl, hfz, hnd⟩ := hW
  have hA : DataW.TrodAll enc Tryd.prog W 0 (fun _ => true) true Tryd.f3.params.toList args.toList ds p := hA0
  rw [Tryd.params3] at hA hval
  obtain ⟨v0, vs0, d0, ds0, p0, q0, hargs, rfl, rfl, h0, r0⟩ := trodAll_cons hA
  obtain ⟨v1, vs1, d1, ds1, p1, q1, rfl, rfl, rfl, h1, r1⟩ := trodAll_cons r0
  obtain ⟨v2, vs2, d2, ds2, p2, q2, rfl, rfl, rfl, h2, r2⟩ := trodAll_cons r1
  obtain ⟨rfl, rfl, rfl⟩ := trodAll_nil r2
  obtain rfl : args = #[v0, v1, v2] := by cases args; simp_all
  have hV1 := hV
  obtain ⟨g0, hg0⟩ : ∃ g, gs = [g] := by
    match gs, hV with
    | [g], _ => exact ⟨g, rfl⟩
  subst hg0
  obtain ⟨a0, len0, cap0, rfl⟩ := okWide_slice Tryd.underlying22 (hval 0 22 v0 rfl rfl)
  have k0 := h0
  have lt0 : ∀ x ∈ p0, x.block < W.heap.size := by obtain ⟨m, hm⟩ := k0; exact DataW.trod_lt m _ _ _ hm
  obtain ⟨z0, w0⟩ : ∃ zs, IsRow .string (fun s => s.size ≤ maxLen) W a0 len0 cap0 zs := by
    obtain ⟨fuel, hf⟩ := h0
    exact row_of_string Tryd.underlying22 Tryd.underlying9 (by kernel_rfl) hf
  obtain ⟨a1, len1, cap1, rfl⟩ := okWide_slice Tryd.underlying23 (hval 1 23 v1 rfl rfl)
  have k1 := h1
  have lt1 : ∀ x ∈ p1, x.block < W.heap.size := by obtain ⟨m, hm⟩ := k1; exact DataW.trod_lt m _ _ _ hm
  obtain ⟨z1, w1⟩ : ∃ zs, IsRow (.int .u8) (fun n => (Lit.int .u8 n).wf = true) W a1 len1 cap1 zs := by
    obtain ⟨fuel, hf⟩ := h1
    exact row_of_int Tryd.underlying23 Tryd.underlying5 (by kernel_rfl) hf
  obtain ⟨a2, len2, cap2, rfl⟩ := okWide_slice Tryd.underlying22 (hval 2 22 v2 rfl rfl)
  have k2 := h2
  have lt2 : ∀ x ∈ p2, x.block < W.heap.size := by obtain ⟨m, hm⟩ := k2; exact DataW.trod_lt m _ _ _ hm
  obtain ⟨z2, w2⟩ : ∃ zs, IsRow .string (fun s => s.size ≤ maxLen) W a2 len2 cap2 zs := by
    obtain ⟨fuel, hf⟩ := h2
    exact row_of_string Tryd.underlying22 Tryd.underlying9 (by kernel_rfl) hf
  clear hA0 hval0
  refine (walk a0 len0 cap0 z0 a1 len1 cap1 z1 a2 len2 cap2 z2 W w0 w1 w2 hL).mono fun e W' ⟨he, bel⟩ => ?_
  subst he
  exact ⟨_, rfl, _, _, _, [], _, _, hW', trodAll_mk1 (shut_bool Tryd.underlying4 _), (trodAll_cons_mk (Below.trod laidOut (by kernel_rfl) (of_decide_eq_true (by kernel_rfl)) k0 bel lt0) (trodAll_cons_mk (Below.trod laidOut (by kernel_rfl) (of_decide_eq_true (by kernel_rfl)) k1 bel lt1) (trodAll_cons_mk (Below.trod laidOut (by kernel_rfl) (of_decide_eq_true (by kernel_rfl)) k2 bel lt2) trodAll_mk0))), (Below.trodVars laidOut bel (by kernel_rfl) hV1), bel.frame _, fun h => by cases h⟩

theorem over : Rows.fnSwitchToDoublePositionsIdempotentRow.holds Tryd.pinned (OpenSpec.ofChange Rows.fnSwitchToDoublePositionsIdempotentSpec) :=
  OpenClaim.holds_of_wide 3 Tryd.f3 rfl rfl rfl rfl rfl rfl rfl ⟨rfl, rfl, rfl, rfl, rfl⟩ rfl rfl rfl rfl rfl (by kernel_rfl) Tryd.func3 (by kernel_rfl)
    (of_decide_eq_true (by kernel_rfl)) (by unfold Func.isWrapper; first | (rw [if_pos (by decide +kernel)]; kernel_rfl) | (rw [if_neg (by decide +kernel)]; exact ⟨rfl, rfl⟩))
    (fun os started H enc _ => lifted os started H enc)

/-- THE STATEMENT: the listed variables are tied to the program's text. -/
theorem proved : Rows.FnSwitchToDoublePositionsIdempotentCardSaid :=
  Claim7.holds_tied_plain_at .later [] [.data] true (true, "41ebb8e750390f6a1bf535845eaf9c37bfcf140a0ad44cf5f8d1b7a92d53b6dc") false over (fun _ h => by cases h) (by kernel_rfl) (fun _ h => by cases h) fnSwitchToDoublePositionsIdempotent_row_tie rfl ⟨rfl, rfl⟩ (by kernel_rfl) rfl
    (fun f fn hf hfn => by
      obtain rfl : f = 3 := Option.some.inj ((show Tryd.prog.funcNamed "github.com/evanw/esbuild/n011_180.FnSwitchToDoublePositionsIdempotent" = some 3 by kernel_rfl).symm.trans hf) |>.symm
      obtain rfl : fn = Tryd.f3 := (Option.some.inj (Tryd.func3.symm.trans hfn)).symm
      exact ⟨by kernel_rfl, fun j t ht => by
        rw [Tryd.params3] at ht
        have hm : t ∈ [22, 23, 22] := by simpa using Array.mem_of_getElem? ht
        have hall : ([22, 23, 22].all fun u => !Tryd.prog.wantsStandIn u) = true := by kernel_rfl
        exact (show Tryd.prog.wantsStandIn t = false by simpa using List.all_eq_true.1 hall t hm)⟩)
    (by kernel_rfl)
#print axioms proved
end Go.Proofs.YtfhfeimlikpbpaaDoor.fnSwitchToDoublePositionsIdempotent
