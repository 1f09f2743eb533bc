/-
  For every text and every keyword: swapping the case of the text's ASCII letters does not change whether isValidCustomIdent accepts it: the Go law FnIsValidCustomIdentIgnoresAsciiCase returns true for every input. The variables that the package and strings.ToLower read are tied to the text of the program. No condition.
-/
import Derived.Test.YtgicookbgfodbaaDoorRows
import Derived.Test.YtgicookbgfodbaaDoorTie
import Derived.Test.YtgicookbgfodbaaDoorCards
import Derived.WalkKit
import Derived.ProofKit
import Derived.OpenShut
import Derived.ShutString
import Derived.ChangeOld
import Derived.Below
import Derived.Lib.Hide
import Derived.Outline
import Derived.OpenVars
import Derived.Lay
import Derived.LaidMore
import Derived.SevenTiedAt
import Derived.Stop.Joined
import Derived.LaidLaws
import Derived.Test.YtgicookbgfodbaaDoorVw
import Derived.Deep.DeepCutAuto
import Derived.Deep.CutBlock
import Derived.Lib.LaidIn
import Derived.MakeChecks
namespace Go.Proofs.YtgicookbgfodbaaDoor.fnIsValidCustomIdentIgnoresAsciiCase
open Go.ChangeShapes Go.WideShapes Go.ChangeAt Go.RowKit
open Go.ChangeMaps (open_string shut_string)
set_option linter.unusedVariables false

theorem own : ownKnob Tryd.prog.godebug = none := by kernel_rfl
theorem laidOut : laidOutB Tryd.prog = true := by kernel_rfl

open Sy Rg
open Go.ChangeMaps (setBlock heap_setBlock_same heap_setBlock_other)
def ZB (Q : Prop) (w : World) (e : Ending) (w' : World) : Prop := (∃ r : Bool, e = .returned (.bool r) ∧ (r = true → Q)) ∧ w = w'
set_option maxRecDepth 100000 in
set_option maxHeartbeats 2000000 in
theorem zzb20 (p : ByteArray) (q : ByteArray) (w : World) (hp : (p.size : Int) ≤ 9223372036854775807) (hq : (q.size : Int) ≤ 9223372036854775807) :
    Calls Tryd.prog 4 #[.string p, .string q] w (ZB ((p.size : Int) ≤ 1048576) w) := by
  go_enter Tryd.func4, Tryd.ntmps4
  by_cases g1 : (1048576 : Int) < (p.size : Int)
  · go_wp2_with fail
    go_ret
    exact ⟨⟨false, rfl, fun h => by cases h⟩, rfl⟩
  by_cases g2 : (1048576 : Int) < (q.size : Int)
  · go_wp2_with fail
    go_ret
    exact ⟨⟨false, rfl, fun h => by cases h⟩, rfl⟩
  by_cases k2 : (1048576 : Int) < (p.size : Int) + (q.size : Int)
  · go_wp2_with fail
    go_ret
    exact ⟨⟨false, rfl, fun h => by cases h⟩, rfl⟩
  go_wp2_with fail
  go_ret
  exact ⟨⟨true, rfl, fun _ => by first | omega | trivial⟩, rfl⟩

theorem sw_size (s : ByteArray) : (swS s).size = s.size := by rw [ba_size, swS_list, List.length_map, ← ba_size]
theorem ev_map {w : World} (h : EV w) (k : ByteArray) : EV (setBlock (w.alloc (.map #[] 0)) w.heap.size (kmO k)) ∧ (setBlock (w.alloc (.map #[] 0)) w.heap.size (kmO k)).heap[w.heap.size]? = some (kmO k) ∧ Below w.heap.size w (setBlock (w.alloc (.map #[] 0)) w.heap.size (kmO k)) := by
  have h0 : (w.alloc (.map #[] 0)).heap[w.heap.size]? = some (.map #[] 0) := heap_alloc_new w _
  have hb0 : Below w.heap.size w (w.alloc (.map #[] 0)) := (Below.refl _ _).alloc (Nat.le_refl _) _
  have hb : Below w.heap.size w (setBlock (w.alloc (.map #[] 0)) w.heap.size (kmO k)) := by
    refine hb0.trans ⟨rfl, rfl, rfl, by simp [setBlock], fun i hi => heap_setBlock_other h0 _ (by omega)⟩
  exact ⟨h.keep hb, heap_setBlock_same h0 _, hb⟩

set_option maxRecDepth 100000 in
set_option maxHeartbeats 4000000 in
/-- THE WALK -/
theorem walk (a0 : ByteArray) (a1 : ByteArray) (w : World) (w0 : a0.size ≤ maxLen) (w1 : a1.size ≤ maxLen) (hL : laidMetH Tryd.prog Rows.fnIsValidCustomIdentIgnoresAsciiCaseRow.laid w) :
    Calls Tryd.prog 3 #[.string a0, .string a1] w fun e w' => e = .returned (.bool true) ∧ Below w.heap.size w w' := by
  have hl0 : (a0.size : Int) ≤ 9223372036854775807 := by unfold maxLen at w0; omega
  have hl1 : (a1.size : Int) ≤ 9223372036854775807 := by unfold maxLen at w1; omega
  clear w0 w1
  have HEV : Hid (EV w) := Lib.hid ⟨TL_of hL (by kernel_rfl) (by exact .tail _ (.tail _ (.head _))) (by exact .tail _ (.tail _ (.tail _ (.head _)))) (by exact .head _), MV_of (nm := "github.com/evanw/esbuild/internal/css_parser.cssWideAndReservedKeywords") (D := cssL) hL (by kernel_rfl) (by exact .tail _ (.head _)) (by kernel_rfl) (by kernel_rfl)⟩
  clear hL
  have hmm : ∀ W : World, (Instr.makeMap 24 none).run Tryd.prog W = .ok (.map (some W.heap.size)) (W.alloc (.map #[] 0)) := fun W => run_makeMap _ W
  go_enter Tryd.func3, Tryd.ntmps3
  go_wp2_with fail
  refine (zzb20 a0 a1 w hl0 hl1).mono ?_
  rintro e wz ⟨⟨r, rfl, hr⟩, rfl⟩
  cases r
  · clear hr
    go_wp2_with fail
    go_ret
    exact ⟨rfl, Below.refl _ _⟩
  have hs := hr rfl
  clear hr hl0
  by_cases hk : (1048576 : Int) < a1.size
  · go_wp2_with fail
    all_goals go_ret
    all_goals exact ⟨rfl, Below.refl _ _⟩
  clear hl1
  go_wp2_with (first | (refine wpl_insert _ _ rfl _ _ _ _ rfl _ _ _ rfl rfl rfl (km_put _ _ _ (heap_alloc_new _ _)) ?_))
  obtain ⟨e1, e2, e3⟩ := ev_map HEV.out a1
  generalize setBlock (w.alloc (.map #[] 0)) w.heap.size (kmO a1) = w1 at *
  obtain ⟨b, hb⟩ : ∃ b, w.heap.size = b := ⟨_, rfl⟩
  rw [hb] at e2
  have HE1 := Lib.hid e1
  have HB1 := Lib.hid e3
  have hc := zic_any a1 a0 b w1 hs e1 e2
  rw [hb]
  clear e1 e2 e3 hb
  refine hc.mono ?_
  rintro e w2 ⟨rfl, hb⟩
  have HE2 := Lib.hid (HE1.out.keep hb)
  have HB2 := Lib.hid (HB1.out.trans (hb.mono HB1.out.size))
  clear hc hb HE1 HB1
  go_wp2_with (first | (refine wpl_insert _ _ rfl _ _ _ _ rfl _ _ _ rfl rfl rfl (km_put _ _ _ (heap_alloc_new _ _)) ?_))
  refine (sw_any a0 w2 hs).mono ?_
  rintro e w3 ⟨rfl, hb⟩
  have HE3 := Lib.hid (HE2.out.keep hb)
  have HB3 := Lib.hid (HB2.out.trans (hb.mono HB2.out.size))
  clear hb HE2 HB2
  go_wp2_with (first | (refine wpl_insert _ _ rfl _ _ _ _ rfl _ _ _ rfl rfl rfl (km_put _ _ _ (heap_alloc_new _ _)) ?_))
  obtain ⟨e1, e2, e3⟩ := ev_map HE3.out a1
  generalize setBlock (w3.alloc (.map #[] 0)) w3.heap.size (kmO a1) = w4 at *
  obtain ⟨b, hb⟩ : ∃ b, w3.heap.size = b := ⟨_, rfl⟩
  rw [hb] at e2
  have HB4 := Lib.hid (HB3.out.trans (e3.mono HB3.out.size))
  have hc := zic_any a1 (swS a0) b w4 (by rw [sw_size]; exact hs) e1 e2
  rw [vci_sw] at hc
  rw [hb]
  clear e1 e2 e3 hb
  refine hc.mono ?_
  rintro e w5 ⟨rfl, hb⟩
  have HB5 := Lib.hid (HB4.out.trans (hb.mono HB4.out.size))
  clear hc hb
  generalize vci a1 a0 = v at *
  cases v
  all_goals go_wp2_with fail
  all_goals go_ret
  all_goals exact ⟨rfl, HB5.out⟩

/-- Go's great tables: the door's own run does not lay them -/
def grt : List String := ["unicode.CaseRanges", "unicode/utf8.first"]
noncomputable def wit (os : Os) : World := (World.doorLaid Tryd.prog 54 os).layVars Tryd.prog (Rows.fnIsValidCustomIdentIgnoresAsciiCaseRow.laid.filter fun x => grt.contains x.1)
theorem wit_os (os : Os) : (wit os).os = os := World.layVars_os _ _ _
noncomputable def blk (os : Os) : List Nat := ((DataW.laidRun Tryd.prog (wit os) 8 ((Rows.fnIsValidCustomIdentIgnoresAsciiCaseRow.laid.filter fun x => !grt.contains x.1).map (·.1))).map fun x => x.2.map (·.block)).getD []
theorem lay_fits (os : Os) : (World.doorLaid Tryd.prog 54 os).layFits Tryd.prog (Rows.fnIsValidCustomIdentIgnoresAsciiCaseRow.laid.filter fun x => grt.contains x.1) (blk os) = true := by kernel_rfl
theorem lay_ifaces (os : Os) : (World.doorLaid Tryd.prog 54 os).layIfaces Tryd.prog (Rows.fnIsValidCustomIdentIgnoresAsciiCaseRow.laid.filter fun x => grt.contains x.1) (wit os) = true := by kernel_rfl
theorem lay_small (os : Os) : LaidIn Tryd.prog (wit os) (Rows.fnIsValidCustomIdentIgnoresAsciiCaseRow.laid.filter fun x => !grt.contains x.1) (blk os) :=
  LaidIn.of_run _ 8 (by kernel_rfl) (by kernel_rfl) (by kernel_rfl) (by kernel_rfl)
theorem laid_met (os : Os) (args : Array Value) : laidMetH Tryd.prog Rows.fnIsValidCustomIdentIgnoresAsciiCaseRow.laid ((wit os).forCall (fun _ _ => 0) ⟨#[], args, []⟩).memory := by
  rw [MakeChecks.laidMetH_plain _ _ _ (by kernel_rfl)]
  have h : laidMet Tryd.prog Rows.fnIsValidCustomIdentIgnoresAsciiCaseRow.laid (wit os) := laidMet_layVars (w0 := World.doorLaid Tryd.prog 54 os) grt (blk os) rfl (lay_fits os) (lay_ifaces os) (lay_small os)
  exact h.of_heap (by simp [World.memory, World.forCall, Input.heap])

set_option maxRecDepth 1000000 in
theorem lifted (os : Os) (started : os.Started) (H : Type) (enc : TypeId × Value → H) :
    ReturnsInHanded {} Tryd.checked os 3 .any (fun w args => (Rows.fnIsValidCustomIdentIgnoresAsciiCaseSpec.pre enc Tryd.prog Tryd.f3 Rows.fnIsValidCustomIdentIgnoresAsciiCaseRow.domain false w args ∧ laidMetH Tryd.prog Rows.fnIsValidCustomIdentIgnoresAsciiCaseRow.laid w) ∧ sizedMet enc Tryd.prog Tryd.f3 (OpenSpec.ofChange Rows.fnIsValidCustomIdentIgnoresAsciiCaseSpec) false w args)
      (Rows.fnIsValidCustomIdentIgnoresAsciiCaseSpec.post enc Tryd.prog Tryd.f3 false true false false) := by
  refine returnsInHanded_of_change_and (C := Tryd.checked) (X := fun w _ => laidMetH Tryd.prog Rows.fnIsValidCustomIdentIgnoresAsciiCaseRow.laid w) (fun _ _ _ hh h => h.of_heap hh) own started (by kernel_rfl) Tryd.func3
    (ChangeSpec.witness_shaped (enc := enc) (C := Tryd.checked) (os := os) (X := fun w _ => laidMetH Tryd.prog Rows.fnIsValidCustomIdentIgnoresAsciiCaseRow.laid w) false (wit os) #[.string ByteArray.empty, .string ByteArray.empty] 8 (wit_os os)
      (World.shaped_of_ZipB (by kernel_rfl) (by kernel_rfl)) (by kernel_rfl) (by kernel_rfl) (by kernel_rfl)
      (laid_met os _)) ?_
  intro W base args ds gs before hval0 hW hcnd _ hL _
  have hval : ∀ (j : Nat) t v, Tryd.f3.params[j]? = some t → args[j]? = some v → Value.okWide Tryd.prog W .any base t v := hval0
  have hW' := hW
  obtain ⟨p, q, hA0, hV, rfl, hfz, hnd⟩ := hW
  have hA : DataW.TrodAll enc Tryd.prog W 0 (fun _ => true) true Tryd.f3.params.toList args.toList ds p := hA0
  rw [Tryd.params3] at hA hval
  obtain ⟨v0, vs0, d0, ds0, p0, q0, hargs, rfl, rfl, h0, r0⟩ := trodAll_cons hA
  obtain ⟨v1, vs1, d1, ds1, p1, q1, rfl, rfl, rfl, h1, r1⟩ := trodAll_cons r0
  obtain ⟨rfl, rfl, rfl⟩ := trodAll_nil r1
  obtain rfl : args = #[v0, v1] := by cases args; simp_all
  have hV1 := hV
  obtain ⟨g0, hg0⟩ : ∃ g0, gs = [g0] := by
    match gs, hV with
    | [g0], _ => exact ⟨g0, rfl⟩
  subst hg0
  obtain ⟨a0, rfl, rfl, rfl, w0⟩ := open_string Tryd.underlying9 (hval 0 9 v0 rfl rfl) h0
  obtain ⟨a1, rfl, rfl, rfl, w1⟩ := open_string Tryd.underlying9 (hval 1 9 v1 rfl rfl) h1
  clear hA0 hval0
  refine (walk a0 a1 W w0 w1 hL).mono fun e W' ⟨he, bel⟩ => ?_
  subst he
  exact ⟨_, rfl, _, _, _, [], _, _, hW', trodAll_mk1 (shut_bool Tryd.underlying4 _), (trodAll_cons_mk (shut_string Tryd.underlying9 w0) (trodAll_cons_mk (shut_string Tryd.underlying9 w1) trodAll_mk0)), (Below.trodVars laidOut bel (by kernel_rfl) hV1), bel.frame _, fun h => by cases h⟩

theorem over : Rows.fnIsValidCustomIdentIgnoresAsciiCaseRow.holds Tryd.pinned (OpenSpec.ofChange Rows.fnIsValidCustomIdentIgnoresAsciiCaseSpec) :=
  OpenClaim.holds_of_wide 3 Tryd.f3 rfl rfl rfl rfl rfl rfl rfl ⟨rfl, rfl, rfl, rfl, rfl⟩ rfl rfl rfl rfl rfl (by kernel_rfl) Tryd.func3 (by kernel_rfl)
    (of_decide_eq_true (by kernel_rfl)) (by unfold Func.isWrapper; first | (rw [if_pos (by decide +kernel)]; kernel_rfl) | (rw [if_neg (by decide +kernel)]; exact ⟨rfl, rfl⟩))
    (fun os started H enc _ => lifted os started H enc)

/-- THE STATEMENT: the listed variables are tied to the program's text. -/
theorem proved : Rows.FnIsValidCustomIdentIgnoresAsciiCaseCardSaid :=
  Claim7.holds_tied_plain_at .later [] [.data, .mapped, .pinned, .pinned] true (true, "dc9bfad2f19752a701472dffbdea65f33d4e71a2f5a468b9c8de7d99e3daaf4e") false over (fun _ h => by cases h) (by kernel_rfl) (fun _ h => by cases h) fnIsValidCustomIdentIgnoresAsciiCase_row_tie rfl ⟨rfl, rfl⟩ (by kernel_rfl) rfl
    (fun f fn hf hfn => by
      obtain rfl : f = 3 := Option.some.inj ((show Tryd.prog.funcNamed "github.com/evanw/esbuild/n011_54.FnIsValidCustomIdentIgnoresAsciiCase" = some 3 by kernel_rfl).symm.trans hf) |>.symm
      obtain rfl : fn = Tryd.f3 := (Option.some.inj (Tryd.func3.symm.trans hfn)).symm
      exact ⟨by kernel_rfl, fun j t ht => by
        rw [Tryd.params3] at ht
        have hm : t ∈ [9, 9] := by simpa using Array.mem_of_getElem? ht
        have hall : ([9, 9].all fun u => !Tryd.prog.wantsStandIn u) = true := by kernel_rfl
        exact (show Tryd.prog.wantsStandIn t = false by simpa using List.all_eq_true.1 hall t hm)⟩)
    (by kernel_rfl)
#print axioms proved
end Go.Proofs.YtgicookbgfodbaaDoor.fnIsValidCustomIdentIgnoresAsciiCase
