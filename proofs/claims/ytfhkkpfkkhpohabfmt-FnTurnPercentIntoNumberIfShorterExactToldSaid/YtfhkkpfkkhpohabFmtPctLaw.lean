/-
  For every sign code, every pair of digit strings and either choice of the point, turnPercentIntoNumberIfShorter answers as the model says: the Go law FnTurnPercentIntoNumberIfShorterExact returns true for every input. The texts that fmt prints are told by the form's own Lean function. No condition.
-/
import Derived.Test.YtfhkkpfkkhpohabFmtRows
import Derived.Test.YtfhkkpfkkhpohabFmtCards
import Derived.WalkKit
import Derived.ProofKit
import Derived.OpenShut
import Derived.ShutString
import Derived.ChangeOld
import Derived.Below
import Derived.Lib.Hide
import Derived.Outline
import Derived.OpenVars
import Derived.Lay
import Derived.LaidMore
import Derived.SevenToldRow
import Derived.Stop.Texts
import Derived.Stop.FmtTextKit
import Derived.WalkSpells
import Derived.Stop.Joined
import Derived.Stop.JoinedTold
import Derived.Stop.Told
import Derived.Deep.DeepWitnessRef
import Derived.Test.YtfhkkpfkkhpohabFmtZq
import Derived.Test.YtfhkkpfkkhpohabFmtPt
namespace Go.Proofs.YtfhkkpfkkhpohabFmt.fnTurnPercentIntoNumberIfShorterExact
open Go.ChangeShapes Go.WideShapes Go.ChangeAt Go.RowKit
open Go.ChangeMaps (open_string shut_string)
open Go.Extern.Stop Go.Stop Go.Extern
set_option linter.unusedVariables false

theorem own : ownKnob Tryf.prog.godebug = none := by kernel_rfl
theorem laidOut : laidOutB Tryf.prog = true := by kernel_rfl

open Sd Rg
def ZB (Q : Prop) (w : World) (e : Ending) (w' : World) : Prop := (∃ r : Bool, e = .returned (.bool r) ∧ (r = true → Q)) ∧ w = w'
set_option maxRecDepth 100000 in
set_option maxHeartbeats 2000000 in
theorem zzb41 (x : Int) (p : ByteArray) (q : ByteArray) (d : Bool) (w : World) (hp : (p.size : Int) ≤ 9223372036854775807) (hq : (q.size : Int) ≤ 9223372036854775807) :
    Calls Tryf.prog 4 #[.int .u8 x, .string p, .string q, .bool d] w (ZB ((0 : Int) ≤ 1048576) w) := by
  go_enter Tryf.func4, Tryf.ntmps4
  by_cases g1 : (1048576 : Int) < (p.size : Int)
  · go_wp2_with fail
    go_ret
    exact ⟨⟨false, rfl, fun h => by cases h⟩, rfl⟩
  by_cases g2 : (1048576 : Int) < (q.size : Int)
  · go_wp2_with fail
    go_ret
    exact ⟨⟨false, rfl, fun h => by cases h⟩, rfl⟩
  by_cases k2 : (1048576 : Int) < (p.size : Int) + (q.size : Int)
  · go_wp2_with fail
    go_ret
    exact ⟨⟨false, rfl, fun h => by cases h⟩, rfl⟩
  go_wp2_with fail
  go_ret
  exact ⟨⟨true, rfl, fun _ => by decide⟩, rfl⟩
theorem dig_list {s : ByteArray} (h : digB s = true) : ∀ b ∈ s.data.toList, isDg b = true := by unfold digB at h; exact List.all_eq_true.1 h
theorem sgB_three (x : Int) : sgB x = ⟨#[]⟩ ∨ sgB x = ⟨#[45]⟩ ∨ sgB x = ⟨#[43]⟩ := by unfold sgB; split; exact .inr (.inl rfl); split; exact .inr (.inr rfl); exact .inl rfl
theorem sgB_size (x : Int) : (sgB x).size ≤ 1 := by rcases sgB_three x with h | h | h <;> rw [h] <;> decide
theorem zzt_any (F : Interp) (b : Nat) (T sg : ByteArray) (I Fr : List UInt8) (dot : Bool) (w : World) (hw : TK w b T 34) (hF : F.told.answers w.tape)
    (ht : T.data.toList = sg.data.toList ++ (bodyL I Fr dot ++ [37])) (hsg : sg = ⟨#[]⟩ ∨ sg = ⟨#[45]⟩ ∨ sg = ⟨#[43]⟩) (hI : ∀ b ∈ I, isDg b = true) (hFr : ∀ b ∈ Fr, isDg b = true) (hd : dot = false → Fr = []) (hz : (T.size : Int) ≤ 1048578) :
    Calls Tryf.prog 7 #[.pointer (some ⟨b, 0, none⟩)] w (TuP b T (sg.data.toList ++ po I Fr) w) := by
  have c := turn_any F b T sg I Fr dot w hw hF ht hsg hI hFr hd hz
  have HC := Lib.hid c
  clear c hw hF ht hsg hI hFr hd hz
  go_enter Tryf.func7, Tryf.ntmps7
  go_wp2_with fail
  refine HC.out.mono ?_
  rintro e w2 ⟨r, rfl, h⟩
  have H := Lib.hid h
  clear h
  go_wp2_with fail
  refine bodyPost_ret (v := .tuple #[]) (by simp [results, Tryf.results7, go_sem]) rfl ?_
  exact ⟨r, rfl, H.out⟩

set_option maxRecDepth 100000 in
set_option maxHeartbeats 4000000 in
/-- THE WALK -/
theorem walk (F : Interp) (a0 : Int) (a1 : ByteArray) (a2 : ByteArray) (a3 : Bool) (w : World) (hF : F.told.answers w.tape) (w0 : (Lit.int .u8 a0).wf = true) (w1 : a1.size ≤ maxLen) (w2 : a2.size ≤ maxLen) :
    Calls Tryf.prog 3 #[.int .u8 a0, .string a1, .string a2, .bool a3] w fun e w' => e = .returned (.bool true) ∧ Below w.heap.size w w' := by
  have q0 : 0 ≤ a0 ∧ a0 ≤ 255 := by simpa [Lit.wf, IntKind.min, IntKind.max, IntKind.bits, IntKind.signed] using w0
  obtain ⟨q0, q00⟩ := q0
  unfold maxLen at w1 w2
  have w1 : (a1.size : Int) ≤ 9223372036854775807 := by omega
  have w2 : (a2.size : Int) ≤ 9223372036854775807 := by omega
  clear w0
  have HF := Lib.hid hF
  clear hF
  by_cases b1 : (65536 : Int) < a1.size
  · go_enter Tryf.func3, Tryf.ntmps3
    go_wp2_with (first | (go_at_call 4; refine (zzb41 _ _ _ _ _ w1 w2).mono ?_; rintro e wz ⟨⟨r, rfl, -⟩, rfl⟩; cases r) | (go_at_call 5; refine (digits_any _ _ (by unfold maxLen; omega)).mono ?_; rintro e wz ⟨rfl, rfl⟩))
    all_goals (go_ret; exact ⟨rfl, Below.refl _ _⟩)
  by_cases b2 : (65536 : Int) < a2.size
  · go_enter Tryf.func3, Tryf.ntmps3
    go_wp2_with (first | (go_at_call 4; refine (zzb41 _ _ _ _ _ w1 w2).mono ?_; rintro e wz ⟨⟨r, rfl, -⟩, rfl⟩; cases r) | (go_at_call 5; refine (digits_any _ _ (by unfold maxLen; omega)).mono ?_; rintro e wz ⟨rfl, rfl⟩))
    all_goals (go_ret; exact ⟨rfl, Below.refl _ _⟩)
  cases d1 : digB a1 with
  | false =>
    go_enter Tryf.func3, Tryf.ntmps3
    go_wp2_with (first | (go_at_call 4; refine (zzb41 _ _ _ _ _ w1 w2).mono ?_; rintro e wz ⟨⟨r, rfl, -⟩, rfl⟩; cases r) | (go_at_call 5; refine (digits_any _ _ (by unfold maxLen; omega)).mono ?_; rintro e wz ⟨rfl, rfl⟩))
    all_goals (go_ret; exact ⟨rfl, Below.refl _ _⟩)
  | true =>
  cases d2 : digB a2 with
  | false =>
    go_enter Tryf.func3, Tryf.ntmps3
    go_wp2_with (first | (go_at_call 4; refine (zzb41 _ _ _ _ _ w1 w2).mono ?_; rintro e wz ⟨⟨r, rfl, -⟩, rfl⟩; cases r) | (go_at_call 5; refine (digits_any _ _ (by unfold maxLen; omega)).mono ?_; rintro e wz ⟨rfl, rfl⟩))
    all_goals (go_ret; exact ⟨rfl, Below.refl _ _⟩)
  | true =>
  by_cases hh : a3 = false ∧ a2.size ≠ 0
  · obtain ⟨rfl, hne⟩ := hh
    have hn1 : a2.data.toList ≠ [] := fun e => hne (by rw [← ba_len, e]; rfl)
    have n1 : ¬ a2.toList = [] := by rw [Lib.toList_data]; exact hn1
    have n2 : (!a2.toList.isEmpty) = true := by simpa using n1
    go_enter Tryf.func3, Tryf.ntmps3
    go_wp2_with (first | (go_at_call 4; refine (zzb41 _ _ _ _ _ w1 w2).mono ?_; rintro e wz ⟨⟨r, rfl, -⟩, rfl⟩; cases r) | (go_at_call 5; refine (digits_any _ _ (by unfold maxLen; omega)).mono ?_; rintro e wz ⟨rfl, rfl⟩))
    all_goals (go_ret; exact ⟨rfl, Below.refl _ _⟩)
  have HI := Lib.hid (dig_list d1)
  have HFr := Lib.hid (dig_list d2)
  have HSG := Lib.hid (sgB_three a0)
  have hs := sgB_size a0
  have HD : Hid (a3 = false → a2.data.toList = []) := Lib.hid (fun h => ba_nil (by
    rcases Nat.eq_zero_or_pos a2.size with e | e
    · exact e
    · exact absurd ⟨h, by omega⟩ hh))
  have hb1 : (a1.size : Int) ≤ 65536 := by omega
  have hb2 : (a2.size : Int) ≤ 65536 := by omega
  obtain ⟨sg, hsg⟩ : ∃ sg, sg = sgB a0 := ⟨_, rfl⟩
  rw [← hsg] at HSG hs
  have HSE := Lib.hid hsg.symm
  clear hh hsg b1 b2
  go_enter Tryf.func3, Tryf.ntmps3
  go_wp2_with fail
  refine (zzb41 _ _ _ _ _ w1 w2).mono ?_
  rintro e wz ⟨⟨r, rfl, -⟩, rfl⟩
  cases r
  · go_wp2_with fail
    go_ret
    exact ⟨rfl, Below.refl _ _⟩
  go_upto_region 7 with (first | (go_at_call 5; refine (digits_any _ _ (by unfold maxLen; omega)).mono ?_; rintro e wz ⟨rfl, rfl⟩))
  clear d1 d2 w1 w2
  go_cut [41] (fun s41 wc => s41 = .bool false ∧ wc = w)
  case first =>
    cases a3 with
    | false =>
      have hn1 : a2.data.toList = [] := HD.out rfl
      have n1 : a2.toList = [] := by rw [Lib.toList_data]; exact hn1
      have n2 : (!a2.toList.isEmpty) = false := by simp [n1]
      go_wp2_with fail
      go_meet
      exact ⟨rfl, rfl⟩
    | true =>
      go_wp2_with fail
      go_meet
      exact ⟨rfl, rfl⟩
  case rest =>
    obtain ⟨rfl, rfl⟩ := hcut
    go_upto_if 45 with (first | (go_at_call 6; refine (sign_any _ _ q0 q00).mono ?_; rintro e wz ⟨rfl, rfl⟩; rw [HSE.out]))
    go_cut [10] (fun s10 wx => ∃ num : ByteArray, s10 = .string num ∧ (num.size : Int) ≤ 131073 ∧ Hid (num.data.toList = bodyL a1.data.toList a2.data.toList a3) ∧ wx = wc)
    case first =>
      cases a3 with
      | false =>
        go_wp2_with fail
        go_meet
        exact ⟨_, rfl, by omega, Lib.hid (by simp [bodyL]), rfl⟩
      | true =>
        go_wp2_with fail
        go_meet
        have hp1 : (⟨#[46]⟩ : ByteArray).size = 1 := rfl
        exact ⟨_, rfl, by simp; omega, Lib.hid (by simp [bodyL]), rfl⟩
    case rest =>
      obtain ⟨num, rfl, hnum, HN, rfl⟩ := hcut
      go_upto_region 14 with fail
      obtain ⟨T, hT⟩ : ∃ T, sg ++ num ++ (⟨#[37]⟩ : ByteArray) = T := ⟨_, rfl⟩
      have HT := Lib.hid (show T.data.toList = sg.data.toList ++ (bodyL a1.data.toList a2.data.toList a3 ++ [37]) by
        rw [← hT, ByteArray.data_append, Array.toList_append, ByteArray.data_append, Array.toList_append, HN.out, List.append_assoc])
      have hTs : (T.size : Int) ≤ 131075 := by
        rw [← hT, ByteArray.size_append, ByteArray.size_append]
        have : (⟨#[37]⟩ : ByteArray).size = 1 := rfl
        omega
      rw [hT]
      clear hT hnum HN
      go_wp2_with fail
      have hTK : TK (wc.alloc (.cells #[.pointer none, .string T, .int .i32 0, .int .u32 0, .int .u16 0, .int .u8 34, .int .u8 2] 33)) wc.heap.size T 34 := heap_alloc_new wc _
      have hB0 : Below wc.heap.size wc (wc.alloc (.cells #[.pointer none, .string T, .int .i32 0, .int .u32 0, .int .u16 0, .int .u8 34, .int .u8 2] 33)) := (Below.refl _ _).alloc (Nat.le_refl _) _
      generalize World.alloc wc _ = w1 at hTK hB0 ⊢
      have HTK := Lib.hid hTK
      have HB0 := Lib.hid hB0
      clear hTK hB0
      refine (zzt_any F wc.heap.size T sg a1.data.toList a2.data.toList a3 w1 HTK.out (by rw [HB0.out.tape]; exact HF.out) HT.out HSG.out HI.out HFr.out HD.out (by omega)).mono ?_
      rintro e w2 ⟨r, rfl, hr, hb2, hor⟩
      have HB2 := Lib.hid (HB0.out.trans hb2)
      have HR := Lib.hid hr
      have HOR := Lib.hid hor
      clear hr hb2 hor HTK HB0
      go_wp2_with fail
      refine (po_any sg a1 a2 w2 hs hb1 hb2).mono ?_
      rintro e w3 ⟨m, rfl, hm, hb3⟩
      have em : r = m := ba_ext (by rw [HR.out, hm])
      have HB3 := Lib.hid (HB2.out.trans (hb3.mono HB2.out.size))
      have HOR3 : Hid ((r.size < T.size ∧ TK w3 wc.heap.size r 30) ∨ (¬ r.size < T.size ∧ TK w3 wc.heap.size T 34)) := Lib.hid (HOR.out.imp (fun h => ⟨h.1, h.2.keep hb3⟩) (fun h => ⟨h.1, h.2.keep hb3⟩))
      have HM := Lib.hid em
      clear em hm hb3 HOR HR HB2 HSG
      rcases HOR3.out with ⟨hlt, hK⟩ | ⟨hlt, hK⟩
      · have em := HM.out
        subst em
        have c0 := hK.cell 0 rfl
        have c1 := hK.cell 1 rfl
        have c5 := hK.cell 5 rfl
        have c6 := hK.cell 6 rfl
        have hl2 : (r.size : Int) < T.size := by omega
        clear HOR3 hK
        go_wp2_with fail
        go_ret
        exact ⟨rfl, HB3.out⟩
      · have em := HM.out
        subst em
        have c0 := hK.cell 0 rfl
        have c1 := hK.cell 1 rfl
        have c5 := hK.cell 5 rfl
        have c6 := hK.cell 6 rfl
        have hl2 : ¬ (r.size : Int) < T.size := by omega
        clear HOR3 hK
        go_wp2_with fail
        go_ret
        exact ⟨rfl, HB3.out⟩

theorem laid_met (os : Os) (args : Array Value) : laidMetH Tryf.prog Rows.fnTurnPercentIntoNumberIfShorterExactRow.laid ((World.laidAll Tryf.prog os Rows.fnTurnPercentIntoNumberIfShorterExactRow.laid).forCall (fun _ _ => 0) ⟨#[], args, []⟩).memory := by
  rw [MakeChecks.laidMetH_plain _ _ _ (by kernel_rfl)]; exact laidMet_laidAll _ (by kernel_rfl) (by kernel_rfl)

set_option maxRecDepth 1000000 in
theorem witness (os : Os) (H : Type) (enc : TypeId × Value → H) (F : Stop.Interp) :
    ∃ (w : World) (tape : Tape) (i : Input), w.os = os ∧ (w.forCall tape i).Shaped Tryf.checked.prog ∧ i.vars = [] ∧ Input.okWide Tryf.checked.prog (w.forCall tape i) .any w.heap.size 3 i ∧
      (OpenSpec.ofChange Rows.fnTurnPercentIntoNumberIfShorterExactSpec).preRow enc Tryf.checked.prog Tryf.f3 Rows.fnTurnPercentIntoNumberIfShorterExactRow.domain false Rows.fnTurnPercentIntoNumberIfShorterExactRow.laid (w.forCall tape i).memory i.args ∧ ({ modest := false } : Assume).holds Tryf.checked.prog (lone (Frame.enter Tryf.checked.prog 3 i.args .normal) [] (w.forCall tape i)) ∧ F.answers tape := by
  have hok : Input.okWideB Tryf.checked.prog ((World.laidAll Tryf.prog os Rows.fnTurnPercentIntoNumberIfShorterExactRow.laid).forCall (fun _ _ => 0) ⟨#[], #[.int .u8 0, .string ByteArray.empty, .string ByteArray.empty, .bool false], []⟩) 3 ⟨#[], #[.int .u8 0, .string ByteArray.empty, .string ByteArray.empty, .bool false], []⟩ = true := by kernel_rfl
  exact ⟨World.laidAll Tryf.prog os Rows.fnTurnPercentIntoNumberIfShorterExactRow.laid, F.over fun _ _ => 0, ⟨#[], #[.int .u8 0, .string ByteArray.empty, .string ByteArray.empty, .bool false], []⟩, World.laidAll_os _ _ _,
    World.shaped_of_ZipB (by kernel_rfl) (by kernel_rfl), (Input.okWide_of_okWideB (base := 0) hok).1, (Input.okWide_of_okWideB hok).2,
    OpenSpec.preRow_of_B rfl 8 (by kernel_rfl) (by kernel_rfl) (laid_met os _), by
    simp only [Assume.holds]
    exact ⟨by simp, by simp, fun _ => F.over_modest Modest.zero, by simp, by simp⟩, F.over_answers _⟩

set_option maxRecDepth 100000 in
theorem lifted (os : Os) (started : os.Started) (H : Type) (enc : TypeId × Value → H) :
    ReturnsInTold none {} Tryf.checked os 3 .any Input.okWide ((OpenSpec.ofChange Rows.fnTurnPercentIntoNumberIfShorterExactSpec).preRow enc Tryf.prog Tryf.f3 Rows.fnTurnPercentIntoNumberIfShorterExactRow.domain false Rows.fnTurnPercentIntoNumberIfShorterExactRow.laid)
      (fun F => ((OpenSpec.ofChange Rows.fnTurnPercentIntoNumberIfShorterExactSpec).at F).post enc Tryf.prog Tryf.f3 false true false false) (aloneAtReturn Tryf.prog) nothingAlways := by
  refine returnsInTold_of_row (C := Tryf.checked) (s := OpenSpec.ofChange Rows.fnTurnPercentIntoNumberIfShorterExactSpec) (by kernel_rfl) own started (by kernel_rfl) Tryf.func3 (witness os H enc) ?_
  intro F W base args ds gs before _ hF hval0 hW hcnd _ _ hL _
  have hval : ∀ (j : Nat) t v, Tryf.f3.params[j]? = some t → args[j]? = some v → Value.okWide Tryf.prog W .any base t v := hval0
  have hW' := hW
  obtain ⟨p, q, hA0, hV, rfl, hfz, hnd⟩ := hW
  have hA : DataW.TrodAll enc Tryf.prog W 0 (fun _ => true) true Tryf.f3.params.toList args.toList ds p := hA0
  rw [Tryf.params3] at hA hval
  obtain ⟨v0, vs0, d0, ds0, p0, q0, hargs, rfl, rfl, h0, r0⟩ := trodAll_cons hA
  obtain ⟨v1, vs1, d1, ds1, p1, q1, rfl, rfl, rfl, h1, r1⟩ := trodAll_cons r0
  obtain ⟨v2, vs2, d2, ds2, p2, q2, rfl, rfl, rfl, h2, r2⟩ := trodAll_cons r1
  obtain ⟨v3, vs3, d3, ds3, p3, q3, rfl, rfl, rfl, h3, r3⟩ := trodAll_cons r2
  obtain ⟨rfl, rfl, rfl⟩ := trodAll_nil r3
  obtain rfl : args = #[v0, v1, v2, v3] := by cases args; simp_all
  have hV1 := hV
  obtain ⟨rfl, rfl⟩ := trodVars_none hV
  obtain ⟨a0, rfl, rfl, rfl, w0⟩ := open_int Tryf.underlying5 (hval 0 5 v0 rfl rfl) h0
  obtain ⟨a1, rfl, rfl, rfl, w1⟩ := open_string Tryf.underlying9 (hval 1 9 v1 rfl rfl) h1
  obtain ⟨a2, rfl, rfl, rfl, w2⟩ := open_string Tryf.underlying9 (hval 2 9 v2 rfl rfl) h2
  obtain ⟨a3, rfl, rfl, rfl⟩ := open_bool Tryf.underlying4 (hval 3 4 v3 rfl rfl) h3
  clear hA0 hval0
  refine (walk F a0 a1 a2 a3 W hF w0 w1 w2).mono fun e W' ⟨he, bel⟩ => ?_
  subst he
  exact ⟨_, rfl, _, _, _, [], _, _, hW', trodAll_mk1 (shut_bool Tryf.underlying4 _), (trodAll_cons_mk (shut_int Tryf.underlying5 w0) (trodAll_cons_mk (shut_string Tryf.underlying9 w1) (trodAll_cons_mk (shut_string Tryf.underlying9 w2) (trodAll_cons_mk (shut_bool Tryf.underlying4 a3) trodAll_mk0)))), rfl, bel.frame _, fun h => by cases h⟩

theorem stops0 : Tryf.pinned.checked.prog.stops = "fmt.Sprintf" :: [] := by kernel_rfl
theorem stopKnobs : Tryf.pinned.checked.prog.stopKnobs = [] := by kernel_rfl
theorem quiet (os : Os) : Stop.quiet Tryf.pinned.checked.prog os := by
  intro k hk
  rw [stopKnobs] at hk
  cases hk

/-- THE STATEMENT: fmt's texts are told by the form's own Lean function. -/
theorem proved : Rows.FnTurnPercentIntoNumberIfShorterExactToldSaid :=
  Claim7.holds_of_told_any 3 Tryf.f3 "fmt.Sprintf" [] [] _ _ _ (by kernel_rfl) rfl rfl rfl laidOut (by kernel_rfl) rfl ⟨rfl, rfl, rfl, rfl, rfl, rfl, rfl⟩ rfl rfl (by kernel_rfl) (by kernel_rfl) Tryf.func3 (by kernel_rfl)
    (of_decide_eq_true (by kernel_rfl)) (by unfold Func.isWrapper; first | (rw [if_pos (by decide +kernel)]; kernel_rfl) | (rw [if_neg (by decide +kernel)]; exact ⟨rfl, rfl⟩)) stops0.symm rfl stopKnobs.symm (by kernel_rfl)
    (by kernel_rfl) (by kernel_rfl) (by kernel_rfl) (by kernel_rfl) (by kernel_rfl) (by kernel_rfl) (by kernel_rfl) (by kernel_rfl) (by kernel_rfl) rfl (by kernel_rfl) rfl rfl
    rfl rfl
    rfl (by kernel_rfl) (by kernel_rfl) (by kernel_rfl) (by decide) (by kernel_rfl)
    (OpenClaim.moreEntering_of (by kernel_rfl) (by kernel_rfl) (by kernel_rfl) (by kernel_rfl) (by kernel_rfl) (by kernel_rfl) (by kernel_rfl) (by kernel_rfl) (by kernel_rfl) (by kernel_rfl))
    ⟨_, WideRow.started_initial, quiet _⟩
    (fun os started _ H enc _ => lifted os started H enc)
#print axioms proved
end Go.Proofs.YtfhkkpfkkhpohabFmt.fnTurnPercentIntoNumberIfShorterExact
