/-
  For every plain nonzero decimal value and every unit, mangleDimension answers the canonical decimal or refuses, as the model says: the Go law FnMangleDimensionMatchesCanonicalDecimal returns true for every input. The texts that fmt prints are told by the form's own Lean function; the tables that SimpleFold reads are tied to the text of the program. No condition.
-/
import Derived.Test.YtfhkkpfkkhpohaaFmtRows
import Derived.Test.YtfhkkpfkkhpohaaFmtTie
import Derived.Test.YtfhkkpfkkhpohaaFmtCards
import Derived.WalkKit
import Derived.ProofKit
import Derived.OpenShut
import Derived.ShutString
import Derived.ChangeOld
import Derived.Below
import Derived.Lib.Hide
import Derived.Outline
import Derived.OpenVars
import Derived.Lay
import Derived.LaidMore
import Derived.SevenTiedAt
import Derived.Stop.Joined
import Derived.Stop.JoinedTold
import Derived.Stop.Told
import Derived.Deep.DeepWitnessRef
import Derived.Test.YtfhkkpfkkhpohaaFmtOd
import Derived.Deep.DeepCutAuto
import Derived.Deep.CutBlock
namespace Go.Proofs.YtfhkkpfkkhpohaaFmt.fnMangleDimensionMatchesCanonicalDecimal
open Go.ChangeShapes Go.WideShapes Go.ChangeAt Go.RowKit
open Go.ChangeMaps (open_string shut_string)
open Go.Extern.Stop Go.Stop Go.Extern
set_option linter.unusedVariables false

theorem own : ownKnob Tryf.prog.godebug = none := by kernel_rfl
theorem laidOut : laidOutB Tryf.prog = true := by kernel_rfl

open Sd Rg
def ZB (Q : Prop) (w : World) (e : Ending) (w' : World) : Prop := (∃ r : Bool, e = .returned (.bool r) ∧ (r = true → Q)) ∧ w = w'
set_option maxRecDepth 100000 in
set_option maxHeartbeats 2000000 in
theorem zzb37 (p : ByteArray) (q : ByteArray) (w : World) (hp : (p.size : Int) ≤ 9223372036854775807) (hq : (q.size : Int) ≤ 9223372036854775807) :
    Calls Tryf.prog 4 #[.string p, .string q] w (ZB ((0 : Int) ≤ 1048576) w) := by
  go_enter Tryf.func4, Tryf.ntmps4
  by_cases g1 : (1048576 : Int) < (p.size : Int)
  · go_wp2_with fail
    go_ret
    exact ⟨⟨false, rfl, fun h => by cases h⟩, rfl⟩
  by_cases g2 : (1048576 : Int) < (q.size : Int)
  · go_wp2_with fail
    go_ret
    exact ⟨⟨false, rfl, fun h => by cases h⟩, rfl⟩
  by_cases k2 : (1048576 : Int) < (p.size : Int) + (q.size : Int)
  · go_wp2_with fail
    go_ret
    exact ⟨⟨false, rfl, fun h => by cases h⟩, rfl⟩
  go_wp2_with fail
  go_ret
  exact ⟨⟨true, rfl, fun _ => by decide⟩, rfl⟩
set_option maxRecDepth 100000 in
theorem zzm_any (F : Interp) (t u sg : ByteArray) (I Fr : List UInt8) (dot : Bool) (w : World) (hF : F.told.answers w.tape) (hT : FT w)
    (ht : t.data.toList = sg.data.toList ++ bodyL I Fr dot) (hsg : sg = ⟨#[]⟩ ∨ sg = ⟨#[45]⟩ ∨ sg = ⟨#[43]⟩) (hI : ∀ b ∈ I, isDg b = true) (hFr : ∀ b ∈ Fr, isDg b = true) (hd : dot = false → Fr = []) (hnz : nzB (I ++ Fr) = true) (hz : (t.size : Int) ≤ 1048576) (hu : (u.size : Int) ≤ 1048576) :
    Calls Tryf.prog 7 #[.string t, .string u] w (MdP (I ++ Fr) sg.data.toList I.length t.size u w) := by
  have c := md_any F t u sg I Fr dot w hF hT ht hsg hI hFr hd hnz hz hu
  have HC := Lib.hid c
  clear c hF hT ht hsg hI hFr hd hnz hz hu
  go_enter Tryf.func7, Tryf.ntmps7
  go_wp2_with fail
  refine HC.out.mono ?_
  rintro e w2 ⟨gv, gu, gok, rfl, h⟩
  have H := Lib.hid h
  clear h
  go_wp2_with fail
  refine bodyPost_ret (v := .tuple #[.string gv, .string gu, .bool gok]) (by simp [results, Tryf.results7, go_sem]) rfl ?_
  exact ⟨gv, gu, gok, rfl, H.out⟩

set_option maxRecDepth 100000 in
set_option maxHeartbeats 4000000 in
/-- THE WALK -/
theorem walk (F : Interp) (a0 : ByteArray) (a1 : ByteArray) (w : World) (hF : F.told.answers w.tape) (w0 : a0.size ≤ maxLen) (w1 : a1.size ≤ maxLen) (hL : laidMetH Tryf.prog Rows.fnMangleDimensionMatchesCanonicalDecimalRow.laid w) :
    Calls Tryf.prog 3 #[.string a0, .string a1] w fun e w' => e = .returned (.bool true) ∧ Below w.heap.size w w' := by
  unfold maxLen at w0 w1
  have w0 : (a0.size : Int) ≤ 9223372036854775807 := by omega
  have w1 : (a1.size : Int) ≤ 9223372036854775807 := by omega
  have HF := Lib.hid hF
  have HT := Lib.hid (FT_of hL (by kernel_rfl) (by exact .tail _ (.head _)) (by exact .tail _ (.tail _ (.head _))))
  clear hF hL
  by_cases b1 : (1048576 : Int) < a0.size
  · go_enter Tryf.func3, Tryf.ntmps3
    go_wp2_with (go_at_call 4; refine (zzb37 _ _ _ w0 w1).mono ?_; rintro e wz ⟨⟨r, rfl, -⟩, rfl⟩; cases r)
    all_goals (go_ret; exact ⟨rfl, Below.refl _ _⟩)
  by_cases b2 : (1048576 : Int) < a1.size
  · go_enter Tryf.func3, Tryf.ntmps3
    go_wp2_with (go_at_call 4; refine (zzb37 _ _ _ w0 w1).mono ?_; rintro e wz ⟨⟨r, rfl, -⟩, rfl⟩; cases r)
    all_goals (go_ret; exact ⟨rfl, Below.refl _ _⟩)
  have hz : (a0.size : Int) ≤ 1048576 := by omega
  have hu : (a1.size : Int) ≤ 1048576 := by omega
  clear b1 b2
  go_enter Tryf.func3, Tryf.ntmps3
  go_wp2_with fail
  refine (zzb37 _ _ _ w0 w1).mono ?_
  rintro e wz ⟨⟨r, rfl, -⟩, rfl⟩
  cases r
  · go_wp2_with fail
    go_ret
    exact ⟨rfl, Below.refl _ _⟩
  clear w0 w1
  go_wp2_with fail
  refine (pd_any a0 w hz).mono ?_
  rintro e w1 (⟨rfl, hb⟩ | ⟨sg, I, Fr, dot, a, c, rfl, hds, ht, hsg, hI, hFr, hd, hb⟩)
  · go_wp2_with fail
    go_ret
    exact ⟨rfl, hb⟩
  have HB1 := Lib.hid hb
  have HDS := Lib.hid hds
  have Ht := Lib.hid ht
  have HD := Lib.hid (And.intro hsg (And.intro hI (And.intro hFr hd)))
  have hlen : (I ++ Fr).length ≤ a0.size := by
    rw [← ba_len, ht]
    unfold bodyL
    cases dot with
    | false => rw [hd rfl]; simp
    | true => simp; omega
  have hIl : I.length ≤ (I ++ Fr).length := by simp
  have hsl : (sg.size : Int) ≤ 1 := by rcases hsg with h | h | h <;> rw [h] <;> decide
  have hA : ((I ++ Fr).length : Int) ≤ 1048576 := by omega
  have hIq : (I.length : Int) ≤ 1048576 := by omega
  have hsl1 : sg.data.toList.length ≤ 1 := by rw [ba_len]; omega
  clear hb hds ht hsg hI hFr hd hlen hIl
  obtain ⟨A, hAe⟩ : ∃ A, A = I ++ Fr := ⟨_, rfl⟩
  have HAE := Lib.hid hAe
  obtain ⟨p, hp⟩ : ∃ p : Int, p = I.length := ⟨_, rfl⟩
  have HP := Lib.hid hp
  obtain ⟨LA, hLA⟩ : ∃ LA, LA = (I ++ Fr).length := ⟨_, rfl⟩
  have HLA := Lib.hid (hLA.trans (congrArg List.length hAe.symm))
  have hp0 : 0 ≤ p := by omega
  rw [← hp] at hIq ⊢
  rw [← hLA] at hA ⊢
  rw [← hAe] at HDS
  clear hp hAe hLA
  have hA2 : (A.length : Int) ≤ 1048576 := by rw [← HLA.out]; exact hA
  cases hnz : nzB A with
  | false =>
    go_wp2_with (go_at_call 6; (rw [HLA.out]; refine (nz_any a A c w1 HDS.out hA2).mono ?_); rintro e wz ⟨rfl, rfl⟩; rw [hnz])
    go_ret
    exact ⟨rfl, HB1.out⟩
  | true =>
    go_upto_region 8 with (go_at_call 6; (rw [HLA.out]; refine (nz_any a A c w1 HDS.out hA2).mono ?_); rintro e wz ⟨rfl, rfl⟩; rw [hnz])
    have HNZ := Lib.hid hnz
    have hsc := shf_canA A (p + -3) hnz
    have hsc3 := shf_canA A (p + 3) hnz
    have HC1 := Lib.hid hsc.1
    have HC3 := Lib.hid hsc3.1
    have HFL := Lib.hid hsc.2
    have HBN := Lib.hid (shf_len A (p + -3) hnz sg.data.toList hsl1 hA2 (by omega) (by omega))
    have HBP := Lib.hid (shf_len A (p + 3) hnz sg.data.toList hsl1 hA2 (by omega) (by omega))
    clear hnz hsc hsc3 hsl1
    go_wp2_with fail
    refine (zzm_any F a0 a1 sg I Fr dot w1 (by rw [HB1.out.tape]; exact HF.out) (HT.out.keep HB1.out) Ht.out HD.out.1 HD.out.2.1 HD.out.2.2.1 HD.out.2.2.2 (by rw [← HAE.out]; exact HNZ.out) hz hu).mono ?_
    rintro e w2 ⟨gv, gu, gok, rfl, hb2, hor⟩
    rw [← HAE.out, ← HP.out] at hor
    have HDS2 := Lib.hid (HDS.out.keep hb2)
    have HB2 := Lib.hid (HB1.out.trans (hb2.mono HB1.out.size))
    have HOR := Lib.hid hor
    clear hb2 hor HDS HB1
    have HS2 := HB2.out.size
    cases hm : mU a1 with
    | true =>
      have hsu := mU_sU hm
      go_wp2_with fail
      refine (mu_any a1 w2 (by omega)).mono ?_
      rintro e wz ⟨rfl, rfl⟩
      rw [hm]
      have HM := Lib.hid hm
      clear hm
      go_wp2_with fail
      refine (canon_any sg a A c (p - 3) w2 HDS2.out hA2 HFL.out hsl (by omega) (by omega)).mono ?_
      rintro e w3 ⟨r, rfl, hr, hb3⟩
      have hr1 : r.data.toList = sg.data.toList ++ shf A (p + -3) := by rw [hr, HC1.out]; rfl
      have hrl : r.size = (sg.data.toList ++ shf A (p + -3)).length := by rw [← ba_len, hr1]
      have hr2 : (r.size : Int) ≤ 10000000 := by have := HBN.out; rw [hrl]; exact this
      have HR := Lib.hid hr1
      have HRL := Lib.hid hrl
      have HB3 := Lib.hid (HB2.out.trans (hb3.mono HS2))
      clear hr hr1 hrl hb3
      by_cases hlt : (r.size : Int) + 1 < (a0.size : Int) + 2
      · have hres : gv = r ∧ gu = ⟨#[115]⟩ ∧ gok = true := by
          rcases HOR.out with ⟨_, _, e, h1, h2⟩ | ⟨h, _⟩ | ⟨h, _⟩
          · exact ⟨ba_ext (by rw [e, HR.out]), h1, h2⟩
          · exact absurd ⟨HM.out, by rw [← HRL.out]; omega⟩ h
          · exact absurd ⟨HM.out, by rw [← HRL.out]; omega⟩ h
        obtain ⟨rfl, rfl, rfl⟩ := hres
        go_wp2_with fail
        go_ret
        exact ⟨rfl, HB3.out⟩
      · have hres : gv = ⟨#[]⟩ ∧ gu = ⟨#[]⟩ ∧ gok = false := by
          rcases HOR.out with ⟨_, h, _⟩ | ⟨_, h, _⟩ | ⟨_, _, h⟩
          · exact absurd (show (r.size : Int) + 1 < (a0.size : Int) + 2 by rw [← HRL.out] at h; omega) hlt
          · rw [hsu] at h; cases h
          · exact h
        obtain ⟨rfl, rfl, rfl⟩ := hres
        go_wp2_with fail
        refine (su_any a1 w3).mono ?_
        rintro e wz ⟨rfl, rfl⟩
        rw [hsu]
        go_wp2_with fail
        go_ret
        exact ⟨rfl, HB3.out⟩
    | false =>
      go_wp2_with fail
      refine (mu_any a1 w2 (by omega)).mono ?_
      rintro e wz ⟨rfl, rfl⟩
      rw [hm]
      have HM := Lib.hid hm
      clear hm
      cases hs : sU a1 with
      | true =>
        go_wp2_with fail
        refine (su_any a1 w2).mono ?_
        rintro e wz ⟨rfl, rfl⟩
        rw [hs]
        have HS := Lib.hid hs
        clear hs
        go_wp2_with fail
        refine (canon_any sg a A c (p + 3) w2 HDS2.out hA2 HFL.out hsl (by omega) (by omega)).mono ?_
        rintro e w3 ⟨r, rfl, hr, hb3⟩
        have hr1 : r.data.toList = sg.data.toList ++ shf A (p + 3) := by rw [hr, HC3.out]
        have hrl : r.size = (sg.data.toList ++ shf A (p + 3)).length := by rw [← ba_len, hr1]
        have hr2 : (r.size : Int) ≤ 10000000 := by have := HBP.out; rw [hrl]; exact this
        have HR := Lib.hid hr1
        have HRL := Lib.hid hrl
        have HB3 := Lib.hid (HB2.out.trans (hb3.mono HS2))
        clear hr hr1 hrl hb3
        by_cases hlt : (r.size : Int) + 2 < (a0.size : Int) + 1
        · have hres : gv = r ∧ gu = ⟨#[109, 115]⟩ ∧ gok = true := by
            rcases HOR.out with ⟨h, _⟩ | ⟨_, _, _, e, h1, h2⟩ | ⟨_, h, _⟩
            · rw [HM.out] at h; cases h
            · exact ⟨ba_ext (by rw [e, HR.out]), h1, h2⟩
            · exact absurd ⟨HS.out, by rw [← HRL.out]; omega⟩ h
          obtain ⟨rfl, rfl, rfl⟩ := hres
          go_wp2_with fail
          go_ret
          exact ⟨rfl, HB3.out⟩
        · have hres : gv = ⟨#[]⟩ ∧ gu = ⟨#[]⟩ ∧ gok = false := by
            rcases HOR.out with ⟨h, _⟩ | ⟨_, _, h, _⟩ | ⟨_, _, h⟩
            · rw [HM.out] at h; cases h
            · exact absurd (show (r.size : Int) + 2 < (a0.size : Int) + 1 by rw [← HRL.out] at h; omega) hlt
            · exact h
          obtain ⟨rfl, rfl, rfl⟩ := hres
          go_wp2_with fail
          go_ret
          exact ⟨rfl, HB3.out⟩
      | false =>
        go_wp2_with fail
        refine (su_any a1 w2).mono ?_
        rintro e wz ⟨rfl, rfl⟩
        rw [hs]
        have hres : gv = ⟨#[]⟩ ∧ gu = ⟨#[]⟩ ∧ gok = false := by
          rcases HOR.out with ⟨h, _⟩ | ⟨_, h, _⟩ | ⟨_, _, h⟩
          · rw [HM.out] at h; cases h
          · rw [hs] at h; cases h
          · exact h
        obtain ⟨rfl, rfl, rfl⟩ := hres
        go_wp2_with fail
        go_ret
        exact ⟨rfl, HB2.out⟩

theorem laid_met (os : Os) (args : Array Value) : laidMetH Tryf.prog Rows.fnMangleDimensionMatchesCanonicalDecimalRow.laid ((World.laidAll Tryf.prog os Rows.fnMangleDimensionMatchesCanonicalDecimalRow.laid).forCall (fun _ _ => 0) ⟨#[], args, []⟩).memory := by
  rw [MakeChecks.laidMetH_plain _ _ _ (by kernel_rfl)]; exact laidMet_laidAll _ (by kernel_rfl) (by kernel_rfl)

set_option maxRecDepth 1000000 in
theorem witness (os : Os) (H : Type) (enc : TypeId × Value → H) (F : Stop.Interp) :
    ∃ (w : World) (tape : Tape) (i : Input), w.os = os ∧ (w.forCall tape i).Shaped Tryf.checked.prog ∧ i.vars = [] ∧ Input.okWide Tryf.checked.prog (w.forCall tape i) .any w.heap.size 3 i ∧
      (OpenSpec.ofChange Rows.fnMangleDimensionMatchesCanonicalDecimalSpec).preRow enc Tryf.checked.prog Tryf.f3 Rows.fnMangleDimensionMatchesCanonicalDecimalRow.domain false Rows.fnMangleDimensionMatchesCanonicalDecimalRow.laid (w.forCall tape i).memory i.args ∧ ({ modest := false } : Assume).holds Tryf.checked.prog (lone (Frame.enter Tryf.checked.prog 3 i.args .normal) [] (w.forCall tape i)) ∧ F.answers tape := by
  have hok : Input.okWideB Tryf.checked.prog ((World.laidAll Tryf.prog os Rows.fnMangleDimensionMatchesCanonicalDecimalRow.laid).forCall (F.over fun _ _ => 0) ⟨#[], #[.string ByteArray.empty, .string ByteArray.empty], []⟩) 3 ⟨#[], #[.string ByteArray.empty, .string ByteArray.empty], []⟩ = true := by kernel_rfl
  exact ⟨World.laidAll Tryf.prog os Rows.fnMangleDimensionMatchesCanonicalDecimalRow.laid, F.over fun _ _ => 0, ⟨#[], #[.string ByteArray.empty, .string ByteArray.empty], []⟩, World.laidAll_os _ _ _,
    World.shaped_of_ZipB (by kernel_rfl) (by kernel_rfl), (Input.okWide_of_okWideB (base := 0) hok).1, (Input.okWide_of_okWideB hok).2,
    OpenSpec.preRow_of_B rfl 8 (by kernel_rfl) (by kernel_rfl) (laid_met os _), by
    simp only [Assume.holds]
    exact ⟨by simp, by simp, fun _ => F.over_modest Modest.zero, by simp, by simp⟩, F.over_answers _⟩

set_option maxRecDepth 100000 in
theorem lifted (os : Os) (started : os.Started) (H : Type) (enc : TypeId × Value → H) :
    ReturnsInTold none {} Tryf.checked os 3 .any Input.okWide ((OpenSpec.ofChange Rows.fnMangleDimensionMatchesCanonicalDecimalSpec).preRow enc Tryf.prog Tryf.f3 Rows.fnMangleDimensionMatchesCanonicalDecimalRow.domain false Rows.fnMangleDimensionMatchesCanonicalDecimalRow.laid)
      (fun F => ((OpenSpec.ofChange Rows.fnMangleDimensionMatchesCanonicalDecimalSpec).at F).post enc Tryf.prog Tryf.f3 false true false false) (aloneAtReturn Tryf.prog) nothingAlways := by
  refine returnsInTold_of_row (C := Tryf.checked) (s := OpenSpec.ofChange Rows.fnMangleDimensionMatchesCanonicalDecimalSpec) (by kernel_rfl) own started (by kernel_rfl) Tryf.func3 (witness os H enc) ?_
  intro F W base args ds gs before _ hF hval0 hW hcnd _ _ hL _
  have hval : ∀ (j : Nat) t v, Tryf.f3.params[j]? = some t → args[j]? = some v → Value.okWide Tryf.prog W .any base t v := hval0
  have hW' := hW
  obtain ⟨p, q, hA0, hV, rfl, hfz, hnd⟩ := hW
  have hA : DataW.TrodAll enc Tryf.prog W 0 (fun _ => true) true Tryf.f3.params.toList args.toList ds p := hA0
  rw [Tryf.params3] at hA hval
  obtain ⟨v0, vs0, d0, ds0, p0, q0, hargs, rfl, rfl, h0, r0⟩ := trodAll_cons hA
  obtain ⟨v1, vs1, d1, ds1, p1, q1, rfl, rfl, rfl, h1, r1⟩ := trodAll_cons r0
  obtain ⟨rfl, rfl, rfl⟩ := trodAll_nil r1
  obtain rfl : args = #[v0, v1] := by cases args; simp_all
  have hV1 := hV
  obtain ⟨rfl, rfl⟩ := trodVars_none hV
  obtain ⟨a0, rfl, rfl, rfl, w0⟩ := open_string Tryf.underlying9 (hval 0 9 v0 rfl rfl) h0
  obtain ⟨a1, rfl, rfl, rfl, w1⟩ := open_string Tryf.underlying9 (hval 1 9 v1 rfl rfl) h1
  clear hA0 hval0
  refine (walk F a0 a1 W hF w0 w1 hL).mono fun e W' ⟨he, bel⟩ => ?_
  subst he
  exact ⟨_, rfl, _, _, _, [], _, _, hW', trodAll_mk1 (shut_bool Tryf.underlying4 _), (trodAll_cons_mk (shut_string Tryf.underlying9 w0) (trodAll_cons_mk (shut_string Tryf.underlying9 w1) trodAll_mk0)), rfl, bel.frame _, fun h => by cases h⟩

theorem stops0 : Tryf.pinned.checked.prog.stops = "fmt.Sprintf" :: [] := by kernel_rfl
theorem stopKnobs : Tryf.pinned.checked.prog.stopKnobs = [] := by kernel_rfl
theorem quiet (os : Os) : Stop.quiet Tryf.pinned.checked.prog os := by
  intro k hk
  rw [stopKnobs] at hk
  cases hk

/-- THE STATEMENT: fmt's texts are told by the form's own Lean function; the listed variables are tied to the program's text. -/
theorem proved : Rows.FnMangleDimensionMatchesCanonicalDecimalToldSaid :=
  Claim7.holds_of_told_tied_any_at .later 3 Tryf.f3 "fmt.Sprintf" [] [] _ _ _ _ _ (by kernel_rfl) rfl rfl rfl laidOut (by kernel_rfl) rfl ⟨rfl, rfl, rfl, rfl, rfl, rfl, rfl⟩ rfl rfl (by kernel_rfl) (by kernel_rfl) Tryf.func3 (by kernel_rfl)
    (of_decide_eq_true (by kernel_rfl)) (by unfold Func.isWrapper; first | (rw [if_pos (by decide +kernel)]; kernel_rfl) | (rw [if_neg (by decide +kernel)]; exact ⟨rfl, rfl⟩)) stops0.symm rfl stopKnobs.symm (by kernel_rfl)
    (by kernel_rfl) (by kernel_rfl) (by kernel_rfl) (by kernel_rfl) (by kernel_rfl) (by kernel_rfl) (by kernel_rfl) (by kernel_rfl) (by kernel_rfl) rfl (by kernel_rfl) rfl rfl
    rfl rfl
    rfl (by kernel_rfl) (by kernel_rfl) (by kernel_rfl) (by decide) (by kernel_rfl) fnMangleDimensionMatchesCanonicalDecimal_row_tie
    (OpenClaim.moreEntering_of (by kernel_rfl) (by kernel_rfl) (by kernel_rfl) (by kernel_rfl) (by kernel_rfl) (by kernel_rfl) (by kernel_rfl) (by kernel_rfl) (by kernel_rfl) (by kernel_rfl))
    ⟨_, WideRow.started_initial, quiet _⟩
    (fun os started _ H enc _ => lifted os started H enc)
#print axioms proved
end Go.Proofs.YtfhkkpfkkhpohaaFmt.fnMangleDimensionMatchesCanonicalDecimal
