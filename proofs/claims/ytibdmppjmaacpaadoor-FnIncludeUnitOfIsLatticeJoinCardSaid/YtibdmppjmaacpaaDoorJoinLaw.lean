/-
  For every tracker state, unit, token kind, text and unit offset, including the token moves the tracker to the join of its state and the class of the token: the Go law FnIncludeUnitOfIsLatticeJoin returns true for every input. The tables that strings.ToLower reads are tied to the text of the program. No condition.
-/
import Derived.Test.YtibdmppjmaacpaaDoorRows
import Derived.Test.YtibdmppjmaacpaaDoorTie
import Derived.Test.YtibdmppjmaacpaaDoorCards
import Derived.WalkKit
import Derived.ProofKit
import Derived.OpenShut
import Derived.ShutString
import Derived.ChangeOld
import Derived.Below
import Derived.Lib.Hide
import Derived.Outline
import Derived.OpenVars
import Derived.Lay
import Derived.LaidMore
import Derived.SevenTiedAt
import Derived.Stop.Joined
import Derived.LaidLaws
import Derived.Test.YtibdmppjmaacpaaDoorIk
import Derived.Deep.DeepCutAuto
import Derived.Deep.CutBlock
namespace Go.Proofs.YtibdmppjmaacpaaDoor.fnIncludeUnitOfIsLatticeJoin
open Go.ChangeShapes Go.WideShapes Go.ChangeAt Go.RowKit
open Go.ChangeMaps (open_string shut_string)
set_option linter.unusedVariables false

theorem own : ownKnob Tryd.prog.godebug = none := by kernel_rfl
theorem laidOut : laidOutB Tryd.prog = true := by kernel_rfl

open Iu Rg
def ZB (Q : Prop) (w : World) (e : Ending) (w' : World) : Prop := (∃ r : Bool, e = .returned (.bool r) ∧ (r = true → Q)) ∧ w = w'
set_option maxRecDepth 100000 in
set_option maxHeartbeats 2000000 in
theorem zzb32 (x : Int) (p : ByteArray) (y : Int) (q : ByteArray) (z : Int) (w : World) (hp : (p.size : Int) ≤ 9223372036854775807) (hq : (q.size : Int) ≤ 9223372036854775807) :
    Calls Tryd.prog 4 #[.int .u8 x, .string p, .int .u8 y, .string q, .int .u16 z] w (ZB ((0 : Int) ≤ 1048576) w) := by
  go_enter Tryd.func4, Tryd.ntmps4
  by_cases g1 : (1048576 : Int) < (p.size : Int)
  · go_wp2_with fail
    go_ret
    exact ⟨⟨false, rfl, fun h => by cases h⟩, rfl⟩
  by_cases g2 : (1048576 : Int) < (q.size : Int)
  · go_wp2_with fail
    go_ret
    exact ⟨⟨false, rfl, fun h => by cases h⟩, rfl⟩
  by_cases k2 : (1048576 : Int) < (p.size : Int) + (q.size : Int)
  · go_wp2_with fail
    go_ret
    exact ⟨⟨false, rfl, fun h => by cases h⟩, rfl⟩
  go_wp2_with fail
  go_ret
  exact ⟨⟨true, rfl, fun _ => by decide⟩, rfl⟩
theorem clN_le (K : Int) (T : ByteArray) (o : Nat) : 0 ≤ clN K T o ∧ clN K T o ≤ 2 := by
  unfold clN
  repeat' split
  all_goals decide

set_option maxRecDepth 100000 in
set_option maxHeartbeats 4000000 in
/-- THE WALK -/
theorem walk (a0 : Int) (a1 : ByteArray) (a2 : Int) (a3 : ByteArray) (a4 : Int) (w : World) (w0 : (Lit.int .u8 a0).wf = true) (w1 : a1.size ≤ maxLen) (w2 : (Lit.int .u8 a2).wf = true) (w3 : a3.size ≤ maxLen) (w4 : (Lit.int .u16 a4).wf = true) (hL : laidMetH Tryd.prog Rows.fnIncludeUnitOfIsLatticeJoinRow.laid w) :
    Calls Tryd.prog 3 #[.int .u8 a0, .string a1, .int .u8 a2, .string a3, .int .u16 a4] w fun e w' => e = .returned (.bool true) ∧ Below w.heap.size w w' := by
  have q0 : 0 ≤ a0 ∧ a0 ≤ 255 := by simpa [Lit.wf, IntKind.min, IntKind.max, IntKind.bits, IntKind.signed] using w0
  have q2 : 0 ≤ a2 ∧ a2 ≤ 255 := by simpa [Lit.wf, IntKind.min, IntKind.max, IntKind.bits, IntKind.signed] using w2
  have q4 : 0 ≤ a4 ∧ a4 ≤ 65535 := by simpa [Lit.wf, IntKind.min, IntKind.max, IntKind.bits, IntKind.signed] using w4
  obtain ⟨q0, q00⟩ := q0
  obtain ⟨q2, q22⟩ := q2
  obtain ⟨q4, q44⟩ := q4
  unfold maxLen at w1 w3
  have w1 : (a1.size : Int) ≤ 9223372036854775807 := by omega
  have w3 : (a3.size : Int) ≤ 9223372036854775807 := by omega
  clear w0 w2 w4
  have HT := Lib.hid (TL_of hL (by kernel_rfl) (by exact .tail _ (.head _)) (by exact .tail _ (.tail _ (.head _))) (by exact .head _))
  clear hL
  by_cases b1 : (1048576 : Int) < a1.size
  · go_enter Tryd.func3, Tryd.ntmps3
    go_wp2_with (go_at_call 4; refine (zzb32 _ _ _ _ _ _ w1 w3).mono ?_; rintro e wz ⟨⟨r, rfl, -⟩, rfl⟩; cases r)
    all_goals (go_ret; exact ⟨rfl, Below.refl _ _⟩)
  by_cases b2 : (1048576 : Int) < a3.size
  · go_enter Tryd.func3, Tryd.ntmps3
    go_wp2_with (go_at_call 4; refine (zzb32 _ _ _ _ _ _ w1 w3).mono ?_; rintro e wz ⟨⟨r, rfl, -⟩, rfl⟩; cases r)
    all_goals (go_ret; exact ⟨rfl, Below.refl _ _⟩)
  by_cases b3 : (1048576 : Int) < a1.size + a3.size
  · go_enter Tryd.func3, Tryd.ntmps3
    go_wp2_with (go_at_call 4; refine (zzb32 _ _ _ _ _ _ w1 w3).mono ?_; rintro e wz ⟨⟨r, rfl, -⟩, rfl⟩; cases r)
    all_goals (go_ret; exact ⟨rfl, Below.refl _ _⟩)
  by_cases b4 : 2 < a0
  · go_enter Tryd.func3, Tryd.ntmps3
    go_wp2_with (go_at_call 4; refine (zzb32 _ _ _ _ _ _ w1 w3).mono ?_; rintro e wz ⟨⟨r, rfl, -⟩, rfl⟩; cases r)
    all_goals (go_ret; exact ⟨rfl, Below.refl _ _⟩)
  by_cases b5 : a0 = 0 ∧ a1.toList ≠ []
  · obtain ⟨rfl, n1⟩ := b5
    have n2 : (!a1.toList.isEmpty) = true := by simpa using n1
    go_enter Tryd.func3, Tryd.ntmps3
    go_wp2_with (go_at_call 4; refine (zzb32 _ _ _ _ _ _ w1 w3).mono ?_; rintro e wz ⟨⟨r, rfl, -⟩, rfl⟩; cases r)
    all_goals (go_ret; exact ⟨rfl, Below.refl _ _⟩)
  by_cases b6 : (a3.size : Int) < a4
  · have HN : Hid (a0 = 0 → a1.toList = []) := Lib.hid (fun h => by
      rcases Classical.em (a1.toList = []) with e | e
      · exact e
      · exact absurd ⟨h, e⟩ b5)
    clear b5
    by_cases c0 : a0 = 0
    · subst c0
      have n1 := HN.out rfl
      have n2 : (!a1.toList.isEmpty) = false := by simp [n1]
      go_enter Tryd.func3, Tryd.ntmps3
      go_wp2_with (go_at_call 4; refine (zzb32 _ _ _ _ _ _ w1 w3).mono ?_; rintro e wz ⟨⟨r, rfl, -⟩, rfl⟩; cases r)
      all_goals (go_ret; exact ⟨rfl, Below.refl _ _⟩)
    · have c1 : (a0 == 0) = false := by simpa using c0
      go_enter Tryd.func3, Tryd.ntmps3
      go_wp2_with (go_at_call 4; refine (zzb32 _ _ _ _ _ _ w1 w3).mono ?_; rintro e wz ⟨⟨r, rfl, -⟩, rfl⟩; cases r)
      all_goals (go_ret; exact ⟨rfl, Below.refl _ _⟩)
  obtain ⟨o, rfl⟩ := Int.eq_ofNat_of_zero_le q4
  have ho : (o : Int) ≤ a3.size := by omega
  have hT3 : (a3.size : Int) ≤ 1048576 := by omega
  have hst : a0 ≤ 2 := by omega
  have HN : Hid (a0 = 0 → a1.toList = []) := Lib.hid (fun h => by
    rcases Classical.em (a1.toList = []) with e | e
    · exact e
    · exact absurd ⟨h, e⟩ b5)
  clear b5
  go_enter Tryd.func3, Tryd.ntmps3
  go_wp2_with fail
  refine (zzb32 _ _ _ _ _ _ w1 w3).mono ?_
  rintro e wz ⟨⟨r, rfl, -⟩, rfl⟩
  cases r
  · go_wp2_with fail
    go_ret
    exact ⟨rfl, Below.refl _ _⟩
  clear w1 w3
  go_upto_region 7 with fail
  go_cut [48] (fun s48 wc => s48 = .bool false ∧ wc = w)
  case first =>
    by_cases c0 : a0 = 0
    · subst c0
      have n1 := HN.out rfl
      have n2 : (!a1.toList.isEmpty) = false := by simp [n1]
      go_wp2_with fail
      go_meet
      exact ⟨rfl, rfl⟩
    · have c1 : (a0 == 0) = false := by simpa using c0
      go_wp2_with fail
      go_meet
      exact ⟨rfl, rfl⟩
  case rest =>
    obtain ⟨rfl, hw⟩ := hcut
    obtain rfl : w = wc := hw.symm
    go_wp2_with (go_at_call 5; refine (zk_any _ _ q2 q22).mono ?_; rintro e wz ⟨rfl, rfl⟩)
    obtain ⟨K, hK⟩ : ∃ K, K = zk a2 := ⟨_, rfl⟩
    have hKc := zk_cases a2
    rw [← hK] at hKc ⊢
    clear hK
    have hbk : Bk (w.alloc (.cells #[.pointer none, .string a3, .int .i32 0, .int .u32 0, .int .u16 o, .int .u8 K, .int .u8 0] 32)) w.heap.size 32 #[.pointer none, .string a3, .int .i32 0, .int .u32 0, .int .u16 o, .int .u8 K, .int .u8 0] := heap_alloc_new w _
    have hb0 : Below w.heap.size w (w.alloc (.cells #[.pointer none, .string a3, .int .i32 0, .int .u32 0, .int .u16 o, .int .u8 K, .int .u8 0] 32)) := (Below.refl _ _).alloc (Nat.le_refl _) _
    generalize World.alloc w _ = w1 at hbk hb0 ⊢
    refine (zz_any a1 a0 K a3 o w1 q0 hst hKc hT3 ho (HT.out.keep hb0)).mono ?_
    rintro e w2 ⟨rfl, hb2⟩
    have HB2 := Lib.hid (hb0.trans (hb2.mono hb0.size))
    have HK2 := Lib.hid (hbk.keep hb2)
    clear hb2 hbk hb0
    obtain ⟨hn0, hn1⟩ := clN_le K a3 o
    have d0 := HK2.out.cell 0 rfl
    have d1 := HK2.out.cell 1 rfl
    have d2 := HK2.out.cell 2 rfl
    have d3 := HK2.out.cell 3 rfl
    have d4 := HK2.out.cell 4 rfl
    have d5 := HK2.out.cell 5 rfl
    have d6 := HK2.out.cell 6 rfl
    obtain ⟨x, hx⟩ : ∃ x, x = jN a0 a1 (clN K a3 o) (clU K a3 o) := ⟨_, rfl⟩
    obtain ⟨y, hy⟩ : ∃ y, y = jU a0 a1 (clN K a3 o) (clU K a3 o) := ⟨_, rfl⟩
    rw [← hx, ← hy]
    have HX := Lib.hid hx
    have HY := Lib.hid hy
    clear hx hy
    go_wp2_with fail
    refine (cl_any K a3 o w2 hKc hT3 ho (HT.out.keep HB2.out)).mono ?_
    rintro e w3 ⟨rfl, hb3⟩
    have HB3 := Lib.hid (HB2.out.trans (hb3.mono HB2.out.size))
    clear hb3 d0 d1 d2 d3 d4 d5 d6
    go_wp2_with fail
    refine (join_any a0 a1 (clN K a3 o) (clU K a3 o) w3 q0 hst hn0 hn1).mono ?_
    rintro e wz ⟨rfl, rfl⟩
    rw [← HX.out, ← HY.out]
    go_wp2_with fail
    go_ret
    exact ⟨rfl, HB3.out⟩

theorem laid_met (os : Os) (args : Array Value) : laidMetH Tryd.prog Rows.fnIncludeUnitOfIsLatticeJoinRow.laid ((World.laidAll Tryd.prog os Rows.fnIncludeUnitOfIsLatticeJoinRow.laid).forCall (fun _ _ => 0) ⟨#[], args, []⟩).memory := by
  rw [MakeChecks.laidMetH_plain _ _ _ (by kernel_rfl)]; exact laidMet_laidAll _ (by kernel_rfl) (by kernel_rfl)

set_option maxRecDepth 1000000 in
theorem lifted (os : Os) (started : os.Started) (H : Type) (enc : TypeId × Value → H) :
    ReturnsInHanded {} Tryd.checked os 3 .any (fun w args => (Rows.fnIncludeUnitOfIsLatticeJoinSpec.pre enc Tryd.prog Tryd.f3 Rows.fnIncludeUnitOfIsLatticeJoinRow.domain false w args ∧ laidMetH Tryd.prog Rows.fnIncludeUnitOfIsLatticeJoinRow.laid w) ∧ sizedMet enc Tryd.prog Tryd.f3 (OpenSpec.ofChange Rows.fnIncludeUnitOfIsLatticeJoinSpec) false w args)
      (Rows.fnIncludeUnitOfIsLatticeJoinSpec.post enc Tryd.prog Tryd.f3 false true false false) := by
  refine returnsInHanded_of_change_and (C := Tryd.checked) (X := fun w _ => laidMetH Tryd.prog Rows.fnIncludeUnitOfIsLatticeJoinRow.laid w) (fun _ _ _ hh h => h.of_heap hh) own started (by kernel_rfl) Tryd.func3
    (ChangeSpec.witness_shaped (enc := enc) (C := Tryd.checked) (os := os) (X := fun w _ => laidMetH Tryd.prog Rows.fnIncludeUnitOfIsLatticeJoinRow.laid w) false (World.laidAll Tryd.prog os Rows.fnIncludeUnitOfIsLatticeJoinRow.laid) #[.int .u8 0, .string ByteArray.empty, .int .u8 0, .string ByteArray.empty, .int .u16 0] 8 (World.laidAll_os _ _ _)
      (World.shaped_of_ZipB (by kernel_rfl) (by kernel_rfl)) (by kernel_rfl) (by kernel_rfl) (by kernel_rfl)
      (laid_met os _)) ?_
  intro W base args ds gs before hval0 hW hcnd _ hL _
  have hval : ∀ (j : Nat) t v, Tryd.f3.params[j]? = some t → args[j]? = some v → Value.okWide Tryd.prog W .any base t v := hval0
  have hW' := hW
  obtain ⟨p, q, hA0, hV, rfl, hfz, hnd⟩ := hW
  have hA : DataW.TrodAll enc Tryd.prog W 0 (fun _ => true) true Tryd.f3.params.toList args.toList ds p := hA0
  rw [Tryd.params3] at hA hval
  obtain ⟨v0, vs0, d0, ds0, p0, q0, hargs, rfl, rfl, h0, r0⟩ := trodAll_cons hA
  obtain ⟨v1, vs1, d1, ds1, p1, q1, rfl, rfl, rfl, h1, r1⟩ := trodAll_cons r0
  obtain ⟨v2, vs2, d2, ds2, p2, q2, rfl, rfl, rfl, h2, r2⟩ := trodAll_cons r1
  obtain ⟨v3, vs3, d3, ds3, p3, q3, rfl, rfl, rfl, h3, r3⟩ := trodAll_cons r2
  obtain ⟨v4, vs4, d4, ds4, p4, q4, rfl, rfl, rfl, h4, r4⟩ := trodAll_cons r3
  obtain ⟨rfl, rfl, rfl⟩ := trodAll_nil r4
  obtain rfl : args = #[v0, v1, v2, v3, v4] := by cases args; simp_all
  have hV1 := hV
  obtain ⟨rfl, rfl⟩ := trodVars_none hV
  obtain ⟨a0, rfl, rfl, rfl, w0⟩ := open_int Tryd.underlying5 (hval 0 5 v0 rfl rfl) h0
  obtain ⟨a1, rfl, rfl, rfl, w1⟩ := open_string Tryd.underlying9 (hval 1 9 v1 rfl rfl) h1
  obtain ⟨a2, rfl, rfl, rfl, w2⟩ := open_int Tryd.underlying5 (hval 2 5 v2 rfl rfl) h2
  obtain ⟨a3, rfl, rfl, rfl, w3⟩ := open_string Tryd.underlying9 (hval 3 9 v3 rfl rfl) h3
  obtain ⟨a4, rfl, rfl, rfl, w4⟩ := open_int Tryd.underlying22 (hval 4 22 v4 rfl rfl) h4
  clear hA0 hval0
  refine (walk a0 a1 a2 a3 a4 W w0 w1 w2 w3 w4 hL).mono fun e W' ⟨he, bel⟩ => ?_
  subst he
  exact ⟨_, rfl, _, _, _, [], _, _, hW', trodAll_mk1 (shut_bool Tryd.underlying4 _), (trodAll_cons_mk (shut_int Tryd.underlying5 w0) (trodAll_cons_mk (shut_string Tryd.underlying9 w1) (trodAll_cons_mk (shut_int Tryd.underlying5 w2) (trodAll_cons_mk (shut_string Tryd.underlying9 w3) (trodAll_cons_mk (shut_int Tryd.underlying22 w4) trodAll_mk0))))), rfl, bel.frame _, fun h => by cases h⟩

theorem over : Rows.fnIncludeUnitOfIsLatticeJoinRow.holds Tryd.pinned (OpenSpec.ofChange Rows.fnIncludeUnitOfIsLatticeJoinSpec) :=
  OpenClaim.holds_of_wide 3 Tryd.f3 rfl rfl rfl rfl rfl rfl rfl ⟨rfl, rfl, rfl, rfl, rfl⟩ rfl rfl rfl rfl rfl (by kernel_rfl) Tryd.func3 (by kernel_rfl)
    (of_decide_eq_true (by kernel_rfl)) (by unfold Func.isWrapper; first | (rw [if_pos (by decide +kernel)]; kernel_rfl) | (rw [if_neg (by decide +kernel)]; exact ⟨rfl, rfl⟩))
    (fun os started H enc _ => lifted os started H enc)

/-- THE STATEMENT: the listed variables are tied to the program's text. -/
theorem proved : Rows.FnIncludeUnitOfIsLatticeJoinCardSaid :=
  Claim7.holds_tied_plain_at .later [] [.data, .pinned, .pinned] true (true, "82c631f882f0e0177987c1ff380999c6768294b06705d62b8510757aa278f701") false over (fun _ h => by cases h) (by kernel_rfl) (fun _ h => by cases h) fnIncludeUnitOfIsLatticeJoin_row_tie rfl ⟨rfl, rfl⟩ (by kernel_rfl) rfl
    (fun f fn hf hfn => by
      obtain rfl : f = 3 := Option.some.inj ((show Tryd.prog.funcNamed "github.com/evanw/esbuild/n011_282.FnIncludeUnitOfIsLatticeJoin" = some 3 by kernel_rfl).symm.trans hf) |>.symm
      obtain rfl : fn = Tryd.f3 := (Option.some.inj (Tryd.func3.symm.trans hfn)).symm
      exact ⟨by kernel_rfl, fun j t ht => by
        rw [Tryd.params3] at ht
        have hm : t ∈ [5, 9, 5, 9, 22] := by simpa using Array.mem_of_getElem? ht
        have hall : ([5, 9, 5, 9, 22].all fun u => !Tryd.prog.wantsStandIn u) = true := by kernel_rfl
        exact (show Tryd.prog.wantsStandIn t = false by simpa using List.all_eq_true.1 hall t hm)⟩)
    (by kernel_rfl)
#print axioms proved
end Go.Proofs.YtibdmppjmaacpaaDoor.fnIncludeUnitOfIsLatticeJoin
