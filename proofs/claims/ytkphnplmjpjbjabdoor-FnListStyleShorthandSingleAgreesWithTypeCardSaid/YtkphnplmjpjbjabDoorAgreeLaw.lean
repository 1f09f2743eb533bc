/-
  For every kind, text, payload and either sort of parser: at one token that is no identifier 'inside' or 'outside', the list-style shorthand and list-style-type agree: the Go law FnListStyleShorthandSingleAgreesWithType returns true for every input. The variables that the package and strings.ToLower read are tied to the text of the program. No condition.
-/
import Derived.Test.YtkphnplmjpjbjabDoorRows
import Derived.Test.YtkphnplmjpjbjabDoorTie
import Derived.Test.YtkphnplmjpjbjabDoorCards
import Derived.WalkKit
import Derived.ProofKit
import Derived.OpenShut
import Derived.ShutString
import Derived.ChangeOld
import Derived.Below
import Derived.Lib.Hide
import Derived.Outline
import Derived.OpenVars
import Derived.Lay
import Derived.LaidMore
import Derived.SevenTiedAt
import Derived.Stop.Joined
import Derived.LaidLaws
import Derived.Test.YtkphnplmjpjbjabDoorLs
import Derived.Test.YtkphnplmjpjbjabDoorFo
import Derived.Test.YtkphnplmjpjbjabDoorNw
import Derived.Test.YtkphnplmjpjbjabDoorCt
import Derived.Deep.DeepCutAuto
import Derived.Deep.CutBlock
import Derived.Lib.LaidIn
import Derived.MakeChecks
namespace Go.Proofs.YtkphnplmjpjbjabDoor.fnListStyleShorthandSingleAgreesWithType
open Go.ChangeShapes Go.WideShapes Go.ChangeAt Go.RowKit
open Go.ChangeMaps (open_string shut_string)
set_option linter.unusedVariables false

theorem own : ownKnob Tryd.prog.godebug = none := by kernel_rfl
theorem laidOut : laidOutB Tryd.prog = true := by kernel_rfl

open Sy Rg
def ZB (Q : Prop) (w : World) (e : Ending) (w' : World) : Prop := (∃ r : Bool, e = .returned (.bool r) ∧ (r = true → Q)) ∧ w = w'
set_option maxRecDepth 100000 in
set_option maxHeartbeats 2000000 in
theorem zzb46 (x : Int) (p : ByteArray) (y : Int) (b : Bool) (w : World) (hp : (p.size : Int) ≤ 9223372036854775807) :
    Calls Tryd.prog 4 #[.int .u8 x, .string p, .int .u32 y, .bool b] w (ZB ((p.size : Int) ≤ 1048576) w) := by
  go_enter Tryd.func4, Tryd.ntmps4
  by_cases g1 : (1048576 : Int) < (p.size : Int)
  · go_wp2_with fail
    go_ret
    exact ⟨⟨false, rfl, fun h => by cases h⟩, rfl⟩
  go_wp2_with fail
  go_ret
  exact ⟨⟨true, rfl, fun _ => by first | omega | trivial⟩, rfl⟩

def kd46 (k : Int) : Int := if k % 8 = 3 then 36 else if k % 8 = 4 then 37 else if k % 8 = 5 then 27 else if k % 8 = 6 then 39 else 29
set_option maxRecDepth 100000 in
set_option maxHeartbeats 1000000 in
theorem ki_any (k : Int) (w : World) (h0 : 0 ≤ k) (h1 : k ≤ 255) : Calls Tryd.prog 5 #[.int .u8 k] w fun e w' => e = .returned (.int .u8 (kd46 k)) ∧ w = w' := by
  obtain ⟨m, hm⟩ : ∃ m, k % 8 = m := ⟨_, rfl⟩
  have ht : k.tmod 8 = m := by rw [Int.tmod_eq_emod_of_nonneg h0]; exact hm
  unfold kd46
  rw [hm]
  have hm0 : 0 ≤ m ∧ m ≤ 7 := by omega
  have HM := Lib.hid hm
  clear hm
  obtain ⟨m0, m1⟩ := hm0
  by_cases e3 : m = 3
  · subst e3
    go_enter Tryd.func5, Tryd.ntmps5
    go_wp2_with fail
    all_goals go_ret
    all_goals exact ⟨rfl, rfl⟩
  by_cases e4 : m = 4
  · subst e4
    go_enter Tryd.func5, Tryd.ntmps5
    go_wp2_with fail
    all_goals go_ret
    all_goals exact ⟨rfl, rfl⟩
  by_cases e5 : m = 5
  · subst e5
    go_enter Tryd.func5, Tryd.ntmps5
    go_wp2_with fail
    all_goals go_ret
    all_goals exact ⟨rfl, rfl⟩
  by_cases e6 : m = 6
  · subst e6
    go_enter Tryd.func5, Tryd.ntmps5
    go_wp2_with fail
    all_goals go_ret
    all_goals exact ⟨rfl, rfl⟩
  rw [if_neg e3, if_neg e4, if_neg e5, if_neg e6]
  go_enter Tryd.func5, Tryd.ntmps5
  go_wp2_with fail
  all_goals go_ret
  all_goals exact ⟨rfl, rfl⟩
theorem low_in {s : ByteArray} {W : List UInt8} (hW : ∀ x ∈ W, x.toNat < 128) (h : (lowB s).toList = W) : (foldB s).toList = W := by
  rw [ByteArray.toList_eq] at h ⊢
  have h2 : Lib.toLowerD s.data.toList = W := by simpa [lowB] using h
  have h3 := (low_fol s.data.toList.length s.data.toList (Nat.le_refl _)).1 (by rw [h2]; exact hW)
  show ((folD s.data.toList.length s.data.toList).toArray).toList = W
  rw [h3, h2]
theorem stp_same {D2 : DataW Unit} {s : ByteArray} {K P : Int} (h1 : ¬ (K = 29 ∧ (foldB s).toList = [105, 110, 115, 105, 100, 101])) (h2 : ¬ (K = 29 ∧ (foldB s).toList = [111, 117, 116, 115, 105, 100, 101])) (S0 : SY) : stp (cL D2) 0 ([(s, K, P)], S0) = stp (cT D2) 0 ([(s, K, P)], S0) := by
  refine stp_congr ?_
  show cL D2 0 (s, K, P) = cT D2 0 (s, K, P)
  by_cases hK : K = 29
  · unfold cL
    have a : ((lowB s).toList == [105, 110, 115, 105, 100, 101]) = false := by
      rw [Bool.eq_false_iff]
      intro h
      exact h1 ⟨hK, low_in (by decide) (by simpa using h)⟩
    have b : ((lowB s).toList == [111, 117, 116, 115, 105, 100, 101]) = false := by
      rw [Bool.eq_false_iff]
      intro h
      exact h2 ⟨hK, low_in (by decide) (by simpa using h)⟩
    show (cT D2 0 (s, K, P) && !((lowB s).toList == [105, 110, 115, 105, 100, 101]) && !((lowB s).toList == [111, 117, 116, 115, 105, 100, 101])) = _
    rw [a, b]
    simp
  · unfold cL cT
    rw [decide_eq_false hK]
    rfl
theorem infoTok : (Tryd.prog.info? 36).map (fun i => (i.zero, i.size, i.bytes)) = some (some (.agg #[.pointer none, .string ⟨#[]⟩, .int .i32 0, .int .u32 0, .int .u16 0, .int .u8 0, .int .u8 0]), 7, 40) := by kernel_rfl
theorem mk_tok (W : World) : (Instr.makeSlice 29 (.int .i64 1) (.int .i64 1)).run Tryd.prog W = .ok (.slice (some ⟨W.heap.size, 0, none⟩) 1 1) (W.alloc (.cells #[.pointer none, .string ⟨#[]⟩, .int .i32 0, .int .u32 0, .int .u16 0, .int .u8 0, .int .u8 0] 36)) := by
  obtain ⟨i0, hi, hz0, hz1, hz2⟩ := info_parts infoTok
  have := run_make_rowN (P := Tryd.prog) 29 36 i0 _ (by kernel_rfl) hi hz0 .i64 .i64 1 1 (Nat.le_refl _) (by rw [hz2]; omega) (by omega) W
  rw [hz1] at this
  have hm : madeCells (Value.agg #[.pointer none, .string ⟨#[]⟩, .int .i32 0, .int .u32 0, .int .u16 0, .int .u8 0, .int .u8 0]).cells (1 * 7) = #[.pointer none, .string ⟨#[]⟩, .int .i32 0, .int .u32 0, .int .u16 0, .int .u8 0, .int .u8 0] := by kernel_rfl
  rw [hm] at this
  exact this
theorem TB.one (w : World) (x : TK) : TB (w.alloc (.cells (tkR x).toArray 36)) w.heap.size [x] := heap_alloc_new w _
theorem ST.other {B p g g' : Nat} {X : Nat → Prop} {ml : Bool} {z : List TK × SY} {w : World} {T : List TK} (h : ST B X p ml g z w) (ht : TB w g' T) (hb : B ≤ g') (hx : ¬ X g') : ST B X p ml g' (T, z.2) w :=
  ⟨h.ev, h.ps, ht, hb, fun i hi => ⟨(h.xs i hi).1, (h.xs i hi).2.1, fun e => hx (e ▸ hi)⟩⟩
theorem cells_one {w : World} {g : Nat} {x : TK} (h : TB w g [x]) : w.cell? ⟨g, 1, none⟩ = some (.string x.1) ∧ w.cell? ⟨g, 3, none⟩ = some (.int .u32 x.2.2) ∧ w.cell? ⟨g, 5, none⟩ = some (.int .u8 x.2.1) :=
  ⟨TB.cellAt (i := 0) (j := 1) h (by simp) rfl, TB.cellAt (i := 0) (j := 3) h (by simp) rfl, TB.cellAt (i := 0) (j := 5) h (by simp) rfl⟩
set_option maxRecDepth 100000 in
set_option maxHeartbeats 1000000 in
theorem ws_any {B : Nat} {X : Nat → Prop} (D2 : DataW Unit) (p g : Nat) (ml : Bool) (z : List TK × SY) (w : World) (h : ST B X p ml g z w) (hm : MB B D2 w) (hn : z.1.length = 1) (hb : SBd 2000000 z.2) (hs : ((z.1.getD 0 tk0).1.size : Int) ≤ 1048576) :
    Calls Tryd.prog 8 #[.pointer (some ⟨p, 0, none⟩), .slice (some ⟨g, 0, none⟩) 1 1] w fun e w' => e = .returned (.tuple #[]) ∧ ∃ X' : Nat → Prop, ST B X' p ml g (stp (cL D2) 0 z) w' ∧ GO X g w X' w' := by
  have hc := ls_any D2 p g ml z w h hm hn hb hs
  clear h hb hs hn hm
  generalize stp (cL D2) 0 z = y at *
  go_enter Tryd.func8, Tryd.ntmps8
  go_wp2_with fail
  refine hc.mono ?_
  rintro e w' ⟨rfl, X', h1, h2⟩
  have H := Lib.hid (And.intro h1 h2)
  clear h1 h2 hc
  go_wp2_with fail
  go_end0
  exact ⟨rfl, X', H.out.1, H.out.2⟩
set_option maxRecDepth 100000 in
set_option maxHeartbeats 1000000 in
theorem wt_any {B : Nat} {X : Nat → Prop} (D2 : DataW Unit) (p g : Nat) (ml : Bool) (z : List TK × SY) (w : World) (h : ST B X p ml g z w) (hm : MB B D2 w) (hn : z.1.length = 1) (hb : SBd 2000000 z.2) (hs : ((z.1.getD 0 tk0).1.size : Int) ≤ 1048576) :
    Calls Tryd.prog 9 #[.pointer (some ⟨p, 0, none⟩), .pointer (some ⟨g, 0, none⟩)] w fun e w' => e = .returned (.tuple #[]) ∧ ∃ X' : Nat → Prop, ST B X' p ml g (stp (cT D2) 0 z) w' ∧ GO X g w X' w' := by
  have hc : Calls Tryd.prog 14 #[.pointer (some ⟨p, 0, none⟩), .pointer (some ⟨g, 0, none⟩)] w fun e w' => e = .returned (.tuple #[]) ∧ ∃ X' : Nat → Prop, ST B X' p ml g (stp (cT D2) 0 z) w' ∧ GO X g w X' w' := lt_any D2 p g 0 ml z w h hm (by omega) hb hs
  clear h hb hs hn hm
  generalize stp (cT D2) 0 z = y at *
  go_enter Tryd.func9, Tryd.ntmps9
  go_wp2_with fail
  refine hc.mono ?_
  rintro e w' ⟨rfl, X', h1, h2⟩
  have H := Lib.hid (And.intro h1 h2)
  clear h1 h2 hc
  go_wp2_with fail
  go_end0
  exact ⟨rfl, X', H.out.1, H.out.2⟩

set_option maxRecDepth 100000 in
set_option maxHeartbeats 4000000 in
/-- THE WALK -/
theorem walk (a0 : Int) (a1 : ByteArray) (a2 : Int) (a3 : Bool) (w : World) (w0 : (Lit.int .u8 a0).wf = true) (w1 : a1.size ≤ maxLen) (w2 : (Lit.int .u32 a2).wf = true) (hL : laidMetH Tryd.prog Rows.fnListStyleShorthandSingleAgreesWithTypeRow.laid w) :
    Calls Tryd.prog 3 #[.int .u8 a0, .string a1, .int .u32 a2, .bool a3] w fun e w' => e = .returned (.bool true) ∧ Below w.heap.size w w' := by
  have q0 : 0 ≤ a0 ∧ a0 ≤ 255 := by simpa [Lit.wf, IntKind.min, IntKind.max, IntKind.bits, IntKind.signed] using w0
  obtain ⟨q00, q01⟩ := q0
  have hl1 : (a1.size : Int) ≤ 9223372036854775807 := by unfold maxLen at w1; omega
  have q2 : 0 ≤ a2 ∧ a2 ≤ 4294967295 := by simpa [Lit.wf, IntKind.min, IntKind.max, IntKind.bits, IntKind.signed] using w2
  clear w0 w1 w2
  have HEV := Lib.hid (show EV w.heap.size w from ⟨w, rfl, ⟨TL_of hL (by kernel_rfl) (by exact .tail _ (.tail _ (.tail _ (.tail _ (.head _))))) (by exact .tail _ (.tail _ (.tail _ (.tail _ (.tail _ (.head _)))))) (by exact .head _), MV_of (nm := "github.com/evanw/esbuild/internal/css_parser.cssWideAndReservedKeywords") (D := cssL) hL (by kernel_rfl) (by exact .tail _ (.tail _ (.head _))) (by kernel_rfl) (by kernel_rfl), IR_of hL (by kernel_rfl) (by exact .tail _ (.head _))⟩, Below.refl _ _⟩)
  have HMB := Lib.hid (show MB w.heap.size Rows.laid_github_com_evanw_esbuild_internal_css_parser_predefinedCounterStyles w from ⟨w, rfl, MV_of (nm := "github.com/evanw/esbuild/internal/css_parser.predefinedCounterStyles") hL (by kernel_rfl) (by exact .tail _ (.tail _ (.tail _ (.head _)))) (by kernel_rfl) (by kernel_rfl), Below.refl _ _⟩)
  clear hL
  generalize Rows.laid_github_com_evanw_esbuild_internal_css_parser_predefinedCounterStyles = D2 at HMB
  go_enter Tryd.func3, Tryd.ntmps3
  go_wp2_with fail
  refine (zzb46 a0 a1 a2 a3 w hl1).mono ?_
  rintro e wz ⟨⟨r, rfl, hr⟩, rfl⟩
  cases r
  · clear hr
    go_wp2_with fail
    go_ret
    exact ⟨rfl, Below.refl _ _⟩
  have hs := hr rfl
  clear hr hl1
  have HQ2 := Lib.hid q2
  clear q2
  go_wp2_with fail
  refine (ki_any a0 w q00 q01).mono ?_
  rintro e wz ⟨rfl, rfl⟩
  obtain ⟨K, hK⟩ : ∃ K, kd46 a0 = K := ⟨_, rfl⟩
  rw [hK]
  have HK := Lib.hid hK
  clear hK
  go_upto_if 27 with fail
  go_cut [] (fun wc => Hid (Below w.heap.size w wc ∧ ¬ (K = 29 ∧ (foldB a1).toList = [105, 110, 115, 105, 100, 101]) ∧ ¬ (K = 29 ∧ (foldB a1).toList = [111, 117, 116, 115, 105, 100, 101])))
  case first =>
    by_cases k29 : K = 29
    case neg =>
      have g0 : (K == 29) = false := by simpa using k29
      go_wp2_with fail
      go_meet
      exact Lib.hid ⟨Below.refl _ _, fun h => k29 h.1, fun h => k29 h.1⟩
    subst k29
    go_wp2_with fail
    refine (fo_any a1 w hs).mono ?_
    rintro e wb ⟨rfl, hb⟩
    have HB := Lib.hid hb
    clear hb
    generalize foldB a1 = u at *
    rcases Bool.eq_false_or_eq_true (u.toList == [105, 110, 115, 105, 100, 101]) with g1 | g1
    · go_wp2_with fail
      all_goals go_ret
      all_goals exact ⟨rfl, HB.out⟩
    rcases Bool.eq_false_or_eq_true (u.toList == [111, 117, 116, 115, 105, 100, 101]) with g2 | g2
    · go_wp2_with fail
      all_goals go_ret
      all_goals exact ⟨rfl, HB.out⟩
    go_wp2_with fail
    go_meet
    exact Lib.hid ⟨HB.out, fun h => by rw [h.2] at g1; simp at g1, fun h => by rw [h.2] at g2; simp at g2⟩
  case rest =>
  have HC := hcut
  clear hcut
  have HEV1 := Lib.hid (HEV.out.keep HC.out.1)
  have HMB1 := Lib.hid (HMB.out.keep HC.out.1)
  clear HEV HMB
  go_wp2_with fail
  refine (np_any a3 wc).mono ?_
  rintro e w3 ⟨p1, X1, rfl, hps, hX, hb⟩
  have HP1 := Lib.hid (And.intro hps (And.intro hX hb))
  clear hps hX hb
  go_wp2_with fail
  refine (np_any a3 w3).mono ?_
  rintro e w4 ⟨p2, X2, rfl, hps, hX, hb⟩
  have HP2 := Lib.hid (And.intro hps (And.intro hX hb))
  clear hps hX hb
  have hmk := mk_tok
  go_wp2_with fail
  refine (ki_any a0 _ q00 q01).mono ?_
  rintro e wz ⟨rfl, rfl⟩
  rw [HK.out]
  go_wp2_with fail
  obtain ⟨wA, hwA⟩ : ∃ w', w4.alloc (.cells (tkR (a1, K, a2)).toArray 36) = w' := ⟨_, rfl⟩
  have hwA2 := hwA
  unfold tkR at hwA2
  obtain ⟨q1, hq1⟩ : ∃ q, w4.heap.size = q := ⟨_, rfl⟩
  have hA1 := TB.one w4 (a1, K, a2)
  have hA2 : Below w4.heap.size w4 (w4.alloc (.cells (tkR (a1, K, a2)).toArray 36)) := (Below.refl _ _).alloc (Nat.le_refl _) _
  have hA3 : (w4.alloc (.cells (tkR (a1, K, a2)).toArray 36)).heap.size = w4.heap.size + 1 := by simp
  rw [hwA] at hA1 hA2 hA3
  rw [hwA2, hq1]
  rw [hq1] at hA1 hA3
  have HA := Lib.hid (And.intro hA1 (And.intro hA2 (And.intro hA3 hq1)))
  clear hA1 hA2 hA3 hwA hwA2 hq1 hmk
  refine (ki_any a0 wA q00 q01).mono ?_
  rintro e wz ⟨rfl, rfl⟩
  rw [HK.out]
  go_upto_region 14 with fail
  obtain ⟨wB, hwB⟩ : ∃ w', wA.alloc (.cells (tkR (a1, K, a2)).toArray 36) = w' := ⟨_, rfl⟩
  have hwB2 := hwB
  unfold tkR at hwB2
  obtain ⟨q2, hq2⟩ : ∃ q, wA.heap.size = q := ⟨_, rfl⟩
  have hB1 := TB.one wA (a1, K, a2)
  have hB2 : Below wA.heap.size wA (wA.alloc (.cells (tkR (a1, K, a2)).toArray 36)) := (Below.refl _ _).alloc (Nat.le_refl _) _
  rw [hwB] at hB1 hB2
  rw [hwB2, hq2]
  rw [hq2] at hB1
  have HB := Lib.hid (And.intro hB1 (And.intro hB2 hq2))
  clear hB1 hB2 hwB hwB2 hq2
  have e1 := HA.out.2.2.2
  have e2 := HA.out.2.2.1
  have e3 := HB.out.2.2
  have s0 := HC.out.1.size
  have s3 := HP1.out.2.2.size
  have s4 := HP2.out.2.2.size
  have hx1 : ∀ i, X1 i → wc.heap.size ≤ i ∧ i < w3.heap.size := HP1.out.2.1
  have hx2 : ∀ i, X2 i → w3.heap.size ≤ i ∧ i < w4.heap.size := HP2.out.2.1
  have B4B : Below w4.heap.size w4 wB := HA.out.2.1.trans (HB.out.2.1.mono HA.out.2.1.size)
  have BCB : Below wc.heap.size wc wB := (HP1.out.2.2.trans (HP2.out.2.2.mono s3)).trans (B4B.mono (Nat.le_trans s3 s4))
  have sB := HB.out.1.lt
  have B3B : Below w3.heap.size w3 wB := HP2.out.2.2.trans (B4B.mono s4)
  have HST1 : Hid (ST w.heap.size X1 p1 a3 q1 ([(a1, K, a2)], []) wB) := Lib.hid
    ⟨HEV1.out.keep BCB, HP1.out.1.keep B3B, Bk.keep HA.out.1 HB.out.2.1, by omega, fun i hi => by have := hx1 i hi; exact ⟨by omega, by omega, by omega⟩⟩
  have HMB2 := Lib.hid (HMB1.out.keep BCB)
  have HPS2 := Lib.hid (HP2.out.1.keep B4B)
  have HTB2 := Lib.hid HB.out.1
  have HX := Lib.hid (And.intro hx1 (And.intro hx2 (And.intro (show w.heap.size ≤ wc.heap.size from s0) (And.intro s3 (And.intro s4 (And.intro e1 (show q2 = q1 + 1 ∧ q2 < wB.heap.size from ⟨by omega, sB⟩)))))))
  have HBB := Lib.hid (HC.out.1.trans (BCB.mono s0))
  clear e1 e2 e3 s0 s3 s4 hx1 hx2 B4B BCB B3B sB HA HB HP1 HP2 HEV1 HMB1
  go_wp2_with fail
  refine (ws_any D2 p1 q1 a3 ([(a1, K, a2)], []) wB HST1.out HMB2.out rfl (SBd.nil _) hs).mono ?_
  rintro e w5 ⟨rfl, Y1, h1, h2⟩
  have H1 := Lib.hid h1
  have G1 := Lib.hid h2
  clear h1 h2
  have HST2 : Hid (ST w.heap.size X2 p2 a3 q2 ([(a1, K, a2)], []) w5) := Lib.hid (by
    obtain ⟨x1, x2, s0, s3, s4, e1, e2, e3⟩ := HX.out
    exact ⟨H1.out.ev, HPS2.out.off G1.out.1 (fun i hi h => h.elim (fun h => by have := x1 i h; have := x2 i hi; omega) (fun e => by have := x2 i hi; omega)),
      G1.out.1.keep_bk HTB2.out (fun h => h.elim (fun h => by have := x1 q2 h; omega) (fun e => by omega)), by omega,
      fun i hi => by have := x2 i hi; have := G1.out.1.2.2.2.1; exact ⟨by omega, by omega, by omega⟩⟩)
  have HB5 := Lib.hid (G1.out.below HST1.out)
  have HMB3 := Lib.hid (HMB2.out.below HB5.out)
  go_wp2_with fail
  refine (wt_any D2 p2 q2 a3 ([(a1, K, a2)], []) w5 HST2.out HMB3.out rfl (SBd.nil _) hs).mono ?_
  rintro e w6 ⟨rfl, Y2, h1, h2⟩
  have H2 := Lib.hid h1
  have G2 := Lib.hid h2
  clear h1 h2
  have HBF := Lib.hid ((HBB.out.trans HB5.out).trans (G2.out.below HST2.out))
  have HY : Hid (∀ i, (Y1 i ∨ i = q1) → ¬ (X2 i ∨ i = q2)) := Lib.hid (fun i hi h => by
    obtain ⟨x1, x2, s0, s3, s4, e1, e2, e3⟩ := HX.out
    rcases hi with hi | hi
    · rcases G1.out.2 i hi with c | c
      · have := x1 i c
        rcases h with h | h
        · have := x2 i h; omega
        · omega
      · rcases h with h | h
        · have := x2 i h; omega
        · omega
    · rcases h with h | h
      · have := x2 i h; omega
      · omega)
  have hPS1 := H1.out.ps.off G2.out.1 (fun i hi => HY.out i (.inl hi))
  have hTB1 := G2.out.1.keep_bk H1.out.tb (HY.out q1 (.inr rfl))
  have hT2 := H2.out.tb
  have hP2 := H2.out.ps
  rw [stp_same HC.out.2.1 HC.out.2.2 []] at hPS1 hTB1
  have hlen : (stp (cT D2) 0 ([(a1, K, a2)], [])).1.length = 1 := stp_len 0
  have hbd : SBd 1 (stp (cT D2) 0 ([(a1, K, a2)], [])).2 := (stp_bd (n := 0) (SBd.nil 0) 0)
  generalize stp (cT D2) 0 ([(a1, K, a2)], []) = zz at *
  obtain ⟨Z, SS⟩ := zz
  obtain ⟨⟨t, k, pl⟩, rfl⟩ : ∃ y, Z = [y] := List.length_eq_one_iff.1 hlen
  obtain ⟨c1, c3, c5⟩ := cells_one hTB1
  obtain ⟨d1, d3, d5⟩ := cells_one hT2
  have HPA := Lib.hid hPS1
  have HPB := Lib.hid hP2
  have hm1 : SS.length ≤ 1 := hbd.1
  clear hPS1 hTB1 hT2 hP2 hlen hbd H1 H2 G1 G2 HY HX HST1 HST2 HB5 HMB2 HMB3 HPS2 HTB2 HBB
  dsimp only at c1 c3 c5 d1 d3 d5 HPA HPB
  have gs : (t.toList == t.toList) = true := by simp
  go_upto_region 16 with fail
  go_quiet (fail)
  have HBD := Lib.hid (show Below w6.heap.size w6 (w6.drewN nq) from ⟨rfl, rfl, rfl, Nat.le_refl _, fun _ _ => rfl⟩)
  generalize w6.drewN nq = w7 at *
  have HP7 := Lib.hid (And.intro (HPA.out.keep HBD.out) (HPB.out.keep HBD.out))
  have HB7 := Lib.hid (HBF.out.trans (HBD.out.mono HBF.out.size))
  clear HPA HPB HBF HBD c1 c3 c5 d1 d3 d5 gs
  go_wp2_with fail
  refine (cnt_any p1 a3 SS w7 HP7.out.1).mono ?_
  rintro e wz ⟨rfl, rfl⟩
  go_wp2_with fail
  refine (cnt_any p2 a3 SS w7 HP7.out.2).mono ?_
  rintro e wz ⟨rfl, rfl⟩
  go_wp2_with fail
  have h2a := cnt2_any p1 a3 SS w7 HP7.out.1
  have h2b := cnt2_any p2 a3 SS w7 HP7.out.2
  generalize (if a3 = true then SS.length else 0) = cc at h2a h2b
  have H2B := Lib.hid h2b
  clear h2b
  refine h2a.mono ?_
  clear h2a
  rintro e wz ⟨rfl, rfl⟩
  go_wp2_with fail
  refine H2B.out.mono ?_
  rintro e wz ⟨rfl, rfl⟩
  go_wp2_with fail
  go_loopw [15] (fun i wr => ∃ j : Nat, j ≤ SS.length ∧ i = .int .i64 j ∧ wr = w7) (fun i _ => SS.length - (intOf i).toNat)
  case atStart => exact ⟨0, Nat.zero_le _, rfl, rfl⟩
  case round =>
    obtain ⟨j, hj, rfl, rfl⟩ := hrel
    by_cases hlt : j < SS.length
    · have q0 : (0 : Int) ≤ j := by omega
      have q1 : (j : Int) < SS.length := by omega
      have n1 := name_any p1 j a3 SS _ HP7.out.1 hlt
      have n2 := name_any p2 j a3 SS _ HP7.out.2 hlt
      generalize (SS.getD j (⟨#[]⟩, 0)).1 = nm at n1 n2
      have N1 := Lib.hid n1
      have N2 := Lib.hid n2
      clear n1 n2
      go_wp2_with fail
      refine N1.out.mono ?_
      rintro e wz ⟨rfl, rfl⟩
      go_wp2_with fail
      refine N2.out.mono ?_
      rintro e wz ⟨rfl, rfl⟩
      have gn : (nm.toList == nm.toList) = true := by simp
      go_wp2_with fail
      exact ⟨⟨j + 1, by omega, by go_num, trivial⟩, by simp [intOf]; omega⟩
    · obtain rfl : j = SS.length := by omega
      go_wp2_with fail
      go_ret
      exact ⟨rfl, HB7.out⟩

/-- Go's great tables: the door's own run does not lay them -/
def grt : List String := ["unicode.CaseRanges", "unicode/utf8.first"]
noncomputable def wit (os : Os) : World := (World.doorLaid Tryd.prog 334 os).layVars Tryd.prog (Rows.fnListStyleShorthandSingleAgreesWithTypeRow.laid.filter fun x => grt.contains x.1)
theorem wit_os (os : Os) : (wit os).os = os := World.layVars_os _ _ _
noncomputable def blk (os : Os) : List Nat := ((DataW.laidRun Tryd.prog (wit os) 8 ((Rows.fnListStyleShorthandSingleAgreesWithTypeRow.laid.filter fun x => !grt.contains x.1).map (·.1))).map fun x => x.2.map (·.block)).getD []
theorem lay_fits (os : Os) : (World.doorLaid Tryd.prog 334 os).layFits Tryd.prog (Rows.fnListStyleShorthandSingleAgreesWithTypeRow.laid.filter fun x => grt.contains x.1) (blk os) = true := by kernel_rfl
theorem lay_ifaces (os : Os) : (World.doorLaid Tryd.prog 334 os).layIfaces Tryd.prog (Rows.fnListStyleShorthandSingleAgreesWithTypeRow.laid.filter fun x => grt.contains x.1) (wit os) = true := by kernel_rfl
theorem lay_small (os : Os) : LaidIn Tryd.prog (wit os) (Rows.fnListStyleShorthandSingleAgreesWithTypeRow.laid.filter fun x => !grt.contains x.1) (blk os) :=
  LaidIn.of_run _ 8 (by kernel_rfl) (by kernel_rfl) (by kernel_rfl) (by kernel_rfl)
theorem laid_met (os : Os) (args : Array Value) : laidMetH Tryd.prog Rows.fnListStyleShorthandSingleAgreesWithTypeRow.laid ((wit os).forCall (fun _ _ => 0) ⟨#[], args, []⟩).memory := by
  rw [MakeChecks.laidMetH_plain _ _ _ (by kernel_rfl)]
  have h : laidMet Tryd.prog Rows.fnListStyleShorthandSingleAgreesWithTypeRow.laid (wit os) := laidMet_layVars (w0 := World.doorLaid Tryd.prog 334 os) grt (blk os) rfl (lay_fits os) (lay_ifaces os) (lay_small os)
  exact h.of_heap (by simp [World.memory, World.forCall, Input.heap])

set_option maxRecDepth 1000000 in
theorem lifted (os : Os) (started : os.Started) (H : Type) (enc : TypeId × Value → H) :
    ReturnsInHanded {} Tryd.checked os 3 .any (fun w args => (Rows.fnListStyleShorthandSingleAgreesWithTypeSpec.pre enc Tryd.prog Tryd.f3 Rows.fnListStyleShorthandSingleAgreesWithTypeRow.domain false w args ∧ laidMetH Tryd.prog Rows.fnListStyleShorthandSingleAgreesWithTypeRow.laid w) ∧ sizedMet enc Tryd.prog Tryd.f3 (OpenSpec.ofChange Rows.fnListStyleShorthandSingleAgreesWithTypeSpec) false w args)
      (Rows.fnListStyleShorthandSingleAgreesWithTypeSpec.post enc Tryd.prog Tryd.f3 false true false false) := by
  refine returnsInHanded_of_change_and (C := Tryd.checked) (X := fun w _ => laidMetH Tryd.prog Rows.fnListStyleShorthandSingleAgreesWithTypeRow.laid w) (fun _ _ _ hh h => h.of_heap hh) own started (by kernel_rfl) Tryd.func3
    (ChangeSpec.witness_shaped (enc := enc) (C := Tryd.checked) (os := os) (X := fun w _ => laidMetH Tryd.prog Rows.fnListStyleShorthandSingleAgreesWithTypeRow.laid w) false (wit os) #[.int .u8 0, .string ByteArray.empty, .int .u32 0, .bool false] 8 (wit_os os)
      (World.shaped_of_ZipB (by kernel_rfl) (by kernel_rfl)) (by kernel_rfl) (by kernel_rfl) (by kernel_rfl)
      (laid_met os _)) ?_
  intro W base args ds gs before hval0 hW hcnd _ hL _
  have hval : ∀ (j : Nat) t v, Tryd.f3.params[j]? = some t → args[j]? = some v → Value.okWide Tryd.prog W .any base t v := hval0
  have hW' := hW
  obtain ⟨p, q, hA0, hV, rfl, hfz, hnd⟩ := hW
  have hA : DataW.TrodAll enc Tryd.prog W 0 (fun _ => true) true Tryd.f3.params.toList args.toList ds p := hA0
  rw [Tryd.params3] at hA hval
  obtain ⟨v0, vs0, d0, ds0, p0, q0, hargs, rfl, rfl, h0, r0⟩ := trodAll_cons hA
  obtain ⟨v1, vs1, d1, ds1, p1, q1, rfl, rfl, rfl, h1, r1⟩ := trodAll_cons r0
  obtain ⟨v2, vs2, d2, ds2, p2, q2, rfl, rfl, rfl, h2, r2⟩ := trodAll_cons r1
  obtain ⟨v3, vs3, d3, ds3, p3, q3, rfl, rfl, rfl, h3, r3⟩ := trodAll_cons r2
  obtain ⟨rfl, rfl, rfl⟩ := trodAll_nil r3
  obtain rfl : args = #[v0, v1, v2, v3] := by cases args; simp_all
  have hV1 := hV
  obtain ⟨g0, g1, g2, hg0⟩ : ∃ g0 g1 g2, gs = [g0, g1, g2] := by
    match gs, hV with
    | [g0, g1, g2], _ => exact ⟨g0, g1, g2, rfl⟩
  subst hg0
  obtain ⟨a0, rfl, rfl, rfl, w0⟩ := open_int Tryd.underlying5 (hval 0 5 v0 rfl rfl) h0
  obtain ⟨a1, rfl, rfl, rfl, w1⟩ := open_string Tryd.underlying9 (hval 1 9 v1 rfl rfl) h1
  obtain ⟨a2, rfl, rfl, rfl, w2⟩ := open_int Tryd.underlying22 (hval 2 22 v2 rfl rfl) h2
  obtain ⟨a3, rfl, rfl, rfl⟩ := open_bool Tryd.underlying4 (hval 3 4 v3 rfl rfl) h3
  clear hA0 hval0
  refine (walk a0 a1 a2 a3 W w0 w1 w2 hL).mono fun e W' ⟨he, bel⟩ => ?_
  subst he
  exact ⟨_, rfl, _, _, _, [], _, _, hW', trodAll_mk1 (shut_bool Tryd.underlying4 _), (trodAll_cons_mk (shut_int Tryd.underlying5 w0) (trodAll_cons_mk (shut_string Tryd.underlying9 w1) (trodAll_cons_mk (shut_int Tryd.underlying22 w2) (trodAll_cons_mk (shut_bool Tryd.underlying4 a3) trodAll_mk0)))), (Below.trodVars laidOut bel (by kernel_rfl) hV1), bel.frame _, fun h => by cases h⟩

theorem over : Rows.fnListStyleShorthandSingleAgreesWithTypeRow.holds Tryd.pinned (OpenSpec.ofChange Rows.fnListStyleShorthandSingleAgreesWithTypeSpec) :=
  OpenClaim.holds_of_wide 3 Tryd.f3 rfl rfl rfl rfl rfl rfl rfl ⟨rfl, rfl, rfl, rfl, rfl⟩ rfl rfl rfl rfl rfl (by kernel_rfl) Tryd.func3 (by kernel_rfl)
    (of_decide_eq_true (by kernel_rfl)) (by unfold Func.isWrapper; first | (rw [if_pos (by decide +kernel)]; kernel_rfl) | (rw [if_neg (by decide +kernel)]; exact ⟨rfl, rfl⟩))
    (fun os started H enc _ => lifted os started H enc)

/-- THE STATEMENT: the listed variables are tied to the program's text. -/
theorem proved : Rows.FnListStyleShorthandSingleAgreesWithTypeCardSaid :=
  Claim7.holds_tied_plain_at .later [] [.data, .data, .mapped, .mapped, .pinned, .pinned] true (true, "ff45b8a53d37efefaa7931363d97357aae120fbde51cf80c1d41bfd45dc022af") false over (fun _ h => by cases h) (by kernel_rfl) (fun _ h => by cases h) fnListStyleShorthandSingleAgreesWithType_row_tie rfl ⟨rfl, rfl⟩ (by kernel_rfl) rfl
    (fun f fn hf hfn => by
      obtain rfl : f = 3 := Option.some.inj ((show Tryd.prog.funcNamed "github.com/evanw/esbuild/n011_231.FnListStyleShorthandSingleAgreesWithType" = some 3 by kernel_rfl).symm.trans hf) |>.symm
      obtain rfl : fn = Tryd.f3 := (Option.some.inj (Tryd.func3.symm.trans hfn)).symm
      exact ⟨by kernel_rfl, fun j t ht => by
        rw [Tryd.params3] at ht
        have hm : t ∈ [5, 9, 22, 4] := by simpa using Array.mem_of_getElem? ht
        have hall : ([5, 9, 22, 4].all fun u => !Tryd.prog.wantsStandIn u) = true := by kernel_rfl
        exact (show Tryd.prog.wantsStandIn t = false by simpa using List.all_eq_true.1 hall t hm)⟩)
    (by kernel_rfl)
#print axioms proved
end Go.Proofs.YtkphnplmjpjbjabDoor.fnListStyleShorthandSingleAgreesWithType
