/-
  A range that parseRangeMediaFeature accepts accounts for every token, in order; no conditions.
-/
import Derived.Test.YtoaanhipdjjeiaaRows
import Derived.WalkKit
import Derived.ProofKit
import Derived.OpenShut
import Derived.ShutString
import Derived.ChangeOld
import Derived.Below
import Derived.Lib.Hide
import Derived.Outline
import Derived.Test.YtoaanhipdjjeiaaOp
import Derived.StillTailTactics
namespace Go.Proofs.Ytoaanhipdjjeiaa.fnParseRangeMediaFeatureAccountsForEveryToken
open Go.ChangeShapes Go.WideShapes Go.ChangeAt Go.RowKit
open Go.ChangeMaps (open_string shut_string)
set_option linter.unusedVariables false

theorem own : ownKnob Try.prog.godebug = none := by kernel_rfl
theorem laidOut : laidOutB Try.prog = true := by kernel_rfl

open Scan
/-- what stays true to the end: the tokens, the copy that came in, and the parsed range -/
def ST (C B g n q : Nat) (K S L : Nat → Int) (T : Nat → ByteArray) (a AB AA : Option Addr) (b ka cB cA p : Nat) (cb ca : Int) (w w0 wr : World) : Prop :=
  TB B g n n K S L T w0 wr ∧ Toks wr a n K S L T ∧ (wr.cell? ⟨q, 0, none⟩ = some (.slice AB b cB) ∧ wr.cell? ⟨q, 1, none⟩ = some (.string (T p)) ∧ wr.cell? ⟨q, 2, none⟩ = some (.slice AA ka cA) ∧ wr.cell? ⟨q, 3, none⟩ = some (.int .i32 (L p)) ∧ wr.cell? ⟨q, 4, none⟩ = some (.int .u8 cb) ∧ wr.cell? ⟨q, 5, none⟩ = some (.int .u8 ca)) ∧ Below C w wr ∧ C ≤ wr.heap.size
theorem ST.keep {C B g n q : Nat} {K S L : Nat → Int} {T : Nat → ByteArray} {a AB AA : Option Addr} {b ka cB cA p : Nat} {cb ca : Int} {w w0 wr wr' : World} (h : ST C B g n q K S L T a AB AA b ka cB cA p cb ca w w0 wr) (hb : Below wr.heap.size wr wr') : ST C B g n q K S L T a AB AA b ka cB cA p cb ca w w0 wr' := by
  obtain ⟨h1, h2, ⟨c0, c1, c2, c3, c4, c5⟩, h4, h5⟩ := h
  exact ⟨h1.keep hb, h2.keep hb, ⟨later hb c0, later hb c1, later hb c2, later hb c3, later hb c4, later hb c5⟩, h4.trans (hb.mono h5), Nat.le_trans h5 hb.size⟩

set_option maxRecDepth 100000 in
set_option maxHeartbeats 4000000 in
/-- THE WALK -/
theorem walk (a0 : Option Addr) (len0 cap0 : Nat) (K S L : Nat → Int) (T : Nat → ByteArray) (w : World) (w0 : Toks w a0 len0 K S L T) :
    Calls Try.prog 3 #[.slice a0 len0 cap0] w fun e w' => e = .returned (.bool true) ∧ Below w.heap.size w w' := by
  have H := Lib.hid w0
  clear w0
  go_enter Try.func3, Try.ntmps3
  go_wp2_with fail
  refine (bytes_any _ _ _ K S L T _ H.out).mono ?_
  rintro e w1 ⟨⟨r, rfl⟩, rfl⟩
  cases r
  case false =>
    go_wp2_with fail
    go_ret
    exact ⟨rfl, Below.refl _ _⟩
  go_wp2_with fail
  refine (size_any _ _ _ K S L T _ H.out).mono ?_
  rintro e w1 ⟨⟨r, rfl, hr⟩, rfl⟩
  have HR := Lib.hid hr
  clear hr
  by_cases hgt : (1048576 : Int) < r
  · go_wp2_with fail
    go_ret
    exact ⟨rfl, Below.refl _ _⟩
  have hn := HR.out (by omega)
  have hn2 : (len0 : Int) ≤ 16384 := by omega
  clear HR hn
  go_wp2_with fail
  refine (clone_any _ _ _ K S L T _ H.out hn2).mono ?_
  rintro e w1 ⟨a, c, rfl, h1, b1⟩
  have H1 := Lib.hid h1
  have B1 := Lib.hid b1
  clear h1 b1 H
  go_wp2_with fail
  refine (totoks_any _ _ _ K S L T _ H1.out hn2).mono ?_
  rintro e w2 (⟨rfl, rfl, rfl⟩ | ⟨rfl, hC⟩)
  · go_wp2_with fail
    refine (zzp_nil _).mono ?_
    rintro e w3 ⟨rfl, nq, rfl⟩
    go_wp2_with fail
    go_ret
    exact ⟨rfl, below_drewN B1.out _⟩
  have HC := Lib.hid hC
  clear hC
  go_wp2_with fail
  refine (zzp_any _ hn2 (fun _ => rfl) HC.out).mono ?_
  rintro e w3 (⟨rfl, h3⟩ | ⟨q, rfl, hG, hT⟩)
  · have B3 := Lib.hid h3
    clear h3
    go_wp2_with fail
    go_ret
    exact ⟨rfl, B1.out.trans (B3.out.mono B1.out.size)⟩
  obtain ⟨AB, AA, b, ka, cB, cA, cb, ca, ⟨r0, r1, r2, r3, r4, r5⟩, hAB, hAA, ⟨i1, i2, i3, i4⟩, o1, hk, o2, hs⟩ := hG
  have HST := Lib.hid (show ST w.heap.size w1.heap.size w1.heap.size len0 q K S L T a AB AA b ka cB cA (b + widthN cb) cb ca w w1 w3 from ⟨hT, H1.out.keep hT.2.2.2.2.2, ⟨r0, r1, r2, r3, r4, r5⟩, B1.out.trans (hT.2.2.2.2.2.mono B1.out.size), Nat.le_trans B1.out.size hT.2.2.2.2.2.size⟩)
  have HAB := Lib.hid hAB
  have HAA := Lib.hid hAA
  have HO1 := Lib.hid o1
  have HO2 := Lib.hid o2
  have HK := Lib.hid hk
  have HS := Lib.hid hs
  have HI := Lib.hid (And.intro i1 (And.intro i2 (And.intro i3 i4)))
  clear hT hAB hAA o1 o2 hk hs r0 r1 r2 r3 r4 r5 H1 B1 HC i1 i2 i3 i4 hgt
  go_wp2_with fail
  go_loopw [5, 6] (fun p i wr => ∃ j : Nat, j ≤ b ∧ p = .int .i64 j ∧ i = .int .i64 j ∧ Hid (ST w.heap.size w1.heap.size w1.heap.size len0 q K S L T a AB AA b ka cB cA (b + widthN cb) cb ca w w1 wr)) (fun _ i _ => b - (intOf i).toNat)
  case atStart => exact ⟨0, Nat.zero_le _, rfl, rfl, HST⟩
  case round =>
    clear HST
    obtain ⟨j, hj, rfl, rfl, HT⟩ := hrel
    obtain ⟨r0, r1, r2, r3, r4, r5⟩ := HT.out.2.2.1
    by_cases hlt : j < b
    · as_aux_lemma =>
        obtain rfl := HAB.out (by omega)
        have hjn : j < len0 := by have := HS.out; omega
        obtain ⟨d0, d1, d2, d3, d4, d5, s, d6⟩ := HT.out.1.1 j hjn
        obtain ⟨ab, ao, rfl, ⟨e0, e1, e2, e3⟩, -⟩ := HT.out.2.1 j hjn
        have q0 : (0 : Int) ≤ j := by omega
        have q1 : (j : Int) < b := by omega
        have q2 : (j : Int) < len0 := by omega
        clear r1 r2 r3 r4 r5
        go_wp2_with fail
        go_still_tail 16, (by kernel_rfl)
        have HSd := Lib.hid (HT.out.keep (Below.refl _ _).drew)
        change wpList _ _ _ _ _ _
        go_wp2_with fail
        refine (same_any (K j) s (S j) (L j) (T j) _).mono ?_
        rintro e w5 ⟨rfl, hb⟩
        have HN := Lib.hid (HSd.out.keep hb)
        clear hb HSd d0 d1 d2 d3 d4 d5 d6 e0 e1 e2 e3 r0
        go_wp2
        exact ⟨⟨j + 1, by omega, by go_num, by go_num, HN⟩, by simp [intOf]; omega⟩
    · as_aux_lemma =>
        obtain rfl : j = b := by omega
        clear hlt hj
        clear r1 r2 r3 r5
        go_wp2_with fail
        refine (op_any HT.out.2.1 _ j cb hn2 HI.out.1 HI.out.2.1 HO1.out).mono ?_
        rintro e w5 ⟨rfl, nq, rfl⟩
        have HN := Lib.hid (HT.out.keep (below_drewN (Below.refl _ _) nq))
        clear HT r4 r0
        generalize wr.drewN nq = w5 at *
        clear wr
        obtain ⟨r0, r1, r2, r3, r4, r5⟩ := HN.out.2.2.1
        have HW := Lib.hid (width_any cb)
        generalize widthN cb = W1 at *
        have hjn : j + W1 < len0 := by have := HS.out; omega
        obtain ⟨ab, ao, rfl, ⟨e0, e1, e2, e3⟩, -⟩ := HN.out.2.1 (j + W1) hjn
        rw [HK.out] at e0
        have q0 : (0 : Int) ≤ (j : Int) + W1 := by omega
        have q1 : (j : Int) + W1 < len0 := by omega
        have q2 : ((j : Int) + W1).toNat = j + W1 := by omega
        clear r0 r2 r5
        go_wp2_with fail
        refine (HW.out _ HI.out.1 HI.out.2.1).mono ?_
        rintro e w6 ⟨rfl, rfl⟩
        clear HW
        go_wp2_with fail
        go_quiet (fail)
        clear r1 r3 r4 e0 e1 e2 e3
        have HN2 := Lib.hid (fun nq => HN.out.keep (below_drewN (Below.refl _ _) nq))
        clear HN
        generalize hw6 : World.drewN _ _ = w6
        have HN := Lib.hid (show ST w.heap.size w1.heap.size w1.heap.size len0 q K S L T (some ⟨ab, ao, none⟩) AB AA j ka cB cA (j + W1) cb ca w w1 w6 from by rw [← hw6]; exact HN2.out _)
        clear HN2 hw6
        obtain ⟨r0, r1, r2, r3, r4, r5⟩ := HN.out.2.2.1
        clear r0 r1 r3 r4
        have hca := HI.out
        have HOP := Lib.hid (op_any (w := w6) HN.out.2.1 c (j + W1 + 1) ca hn2 hca.2.2.1 hca.2.2.2 HO2.out)
        rw [show ((j + W1 + 1 : Nat) : Int) = (j : Int) + W1 + 1 by omega] at HOP
        clear hca q2
        go_wp2_with fail
        refine HOP.out.mono ?_
        rintro e w7 ⟨rfl, nq3, rfl⟩
        clear HOP r5
        have HN7 := Lib.hid (HN.out.keep (below_drewN (Below.refl _ _) nq3))
        generalize w6.drewN nq3 = w7 at *
        clear HN r2 w6
        obtain ⟨r0, r1, r2, r3, r4, r5⟩ := HN7.out.2.2.1
        clear r0 r1 r3 r4
        have HW := Lib.hid (width_any ca)
        generalize widthN ca = W2 at *
        go_wp2_with fail
        refine (HW.out _ HI.out.2.2.1 HI.out.2.2.2).mono ?_
        rintro e w8 ⟨rfl, rfl⟩
        clear HW
        obtain ⟨P, hP⟩ : ∃ P, P = j + W1 + 1 + W2 := ⟨_, rfl⟩
        have HP := Lib.hid (show P + ka = len0 by have := HS.out; omega)
        have HAA2 := Lib.hid (show 0 < ka → AA = some ⟨w1.heap.size, P * 7, none⟩ by rw [hP]; exact HAA.out)
        have q4 : (j : Int) + W1 + 1 + W2 ≤ len0 := by have := HS.out; omega
        have q5 : (j : Int) + W1 + 1 + W2 = (P : Int) := by omega
        clear hP HAA HS HO1 HO2 HK hjn q0 q1
        go_wp2_with fail
        clear r2
        go_loopw [5, 7] (fun p i wr => ∃ k t : Nat, k ≤ ka ∧ Hid (t = P + k) ∧ p = .int .i64 (t : Int) ∧ i = .int .i64 k ∧ Hid (ST w.heap.size w1.heap.size w1.heap.size len0 q K S L T (some ⟨ab, ao, none⟩) AB AA j ka cB cA (j + W1) cb ca w w1 wr)) (fun _ i _ => ka - (intOf i).toNat)
        case atStart => exact ⟨0, P, Nat.zero_le _, Lib.hid rfl, by rw [← q5], rfl, HN7⟩
        case round =>
          clear HN7 q4 q5
          obtain ⟨k, t, hk, Ht, rfl, rfl, HT⟩ := hrel
          obtain ⟨r0, r1, r2, r3, r4, r5⟩ := HT.out.2.2.1
          clear r0 r1 r3 r4 r5
          by_cases hlt : k < ka
          · as_aux_lemma =>
              obtain rfl := HAA2.out (by omega)
              have hjn : t < len0 := by have := HP.out; have := Ht.out; omega
              obtain ⟨d0, d1, d2, d3, d4, d5, s, d6⟩ := HT.out.1.1 t hjn
              obtain ⟨ab', ao', he, ⟨e0, e1, e2, e3⟩, -⟩ := HT.out.2.1 t hjn
              simp only [Option.some.injEq, Addr.mk.injEq, and_true] at he
              obtain ⟨rfl, rfl⟩ := he
              rw [show t * 7 = P * 7 + k * 7 by have := Ht.out; omega] at d0 d1 d2 d3 d4 d5 d6
              have q0 : (0 : Int) ≤ t := by omega
              have q1 : (t : Int) < len0 := by omega
              have q2 : (k : Int) < ka := by omega
              have q3 : (0 : Int) ≤ k := by omega
              have q6 : (k : Int) ≤ 16384 := by have := HP.out; omega
              go_wp2_with fail
              go_still_tail 16, (by kernel_rfl)
              have HSd := Lib.hid (HT.out.keep (Below.refl _ _).drew)
              change wpList _ _ _ _ _ _
              go_wp2_with fail
              refine (same_any (K t) s (S t) (L t) (T t) _).mono ?_
              rintro e w9 ⟨rfl, hb⟩
              have HN := Lib.hid (HSd.out.keep hb)
              have HT1 := Lib.hid (show t + 1 = P + (k + 1) by have := Ht.out; omega)
              clear hb HSd d0 d1 d2 d3 d4 d5 d6 e0 e1 e2 e3 r2
              go_wp2
              exact ⟨⟨k + 1, t + 1, by omega, HT1, by go_num, by go_num, HN⟩, by simp [intOf]; omega⟩
          · as_aux_lemma =>
              obtain rfl : k = ka := by omega
              have HB := Lib.hid HT.out.2.2.2.1
              obtain rfl : t = len0 := by have := HP.out; have := Ht.out; omega
              clear hlt hk HT
              go_wp2
              go_ret
              exact ⟨rfl, HB.out⟩

set_option maxRecDepth 100000 in
theorem lifted (os : Os) (started : os.Started) (H : Type) (enc : TypeId × Value → H) :
    ReturnsInHanded {} Try.checked os 3 .any (Rows.fnParseRangeMediaFeatureAccountsForEveryTokenSpec.pre6 enc Try.prog Try.f3 Rows.fnParseRangeMediaFeatureAccountsForEveryTokenRow.domain false) (Rows.fnParseRangeMediaFeatureAccountsForEveryTokenSpec.post enc Try.prog Try.f3 false true false false) := by
  refine returnsInHanded_of_change (C := Try.checked) own started (by kernel_rfl) Try.func3
    (ChangeSpec.witness6 (enc := enc) (C := Try.checked) false ⟨#[], #[.slice none 0 0], []⟩ 8 (by kernel_rfl) (by kernel_rfl) (by kernel_rfl) (by kernel_rfl)) ?_
  intro W base args ds gs before hval0 hW hcnd _
  have hval : ∀ (j : Nat) t v, Try.f3.params[j]? = some t → args[j]? = some v → Value.okWide Try.prog W .any base t v := hval0
  have hW' := hW
  obtain ⟨p, q, hA0, hV, rfl, hfz, hnd⟩ := hW
  have hA : DataW.TrodAll enc Try.prog W 0 (fun _ => true) true Try.f3.params.toList args.toList ds p := hA0
  rw [Try.params3] at hA hval
  obtain ⟨v0, vs0, d0, ds0, p0, q0, hargs, rfl, rfl, h0, r0⟩ := trodAll_cons hA
  obtain ⟨rfl, rfl, rfl⟩ := trodAll_nil r0
  obtain rfl : args = #[v0] := by cases args; simp_all
  obtain ⟨rfl, rfl⟩ := trodVars_none hV
  obtain ⟨a0, len0, cap0, rfl⟩ := okWide_slice Try.underlying22 (hval 0 22 v0 rfl rfl)
  have k0 := h0
  have lt0 : ∀ x ∈ p0, x.block < W.heap.size := by obtain ⟨m, hm⟩ := k0; exact DataW.trod_lt m _ _ _ hm
  obtain ⟨K, S, L, T, w0⟩ : ∃ K S L T, Toks W a0 len0 K S L T := by
    obtain ⟨fuel, hf⟩ := h0
    exact toks_of Try.underlying22 hf
  clear hA0 hval0
  refine (walk a0 len0 cap0 K S L T W w0).mono fun e W' ⟨he, bel⟩ => ?_
  subst he
  exact ⟨_, rfl, _, _, _, [], _, [], hW', trodAll_mk1 (shut_bool Try.underlying4 _), (trodAll_cons_mk (Below.trod laidOut (by kernel_rfl) (of_decide_eq_true (by kernel_rfl)) k0 bel lt0) trodAll_mk0), rfl, bel.frame _, fun h => by cases h⟩

theorem over : Rows.fnParseRangeMediaFeatureAccountsForEveryTokenRow.holds Try.pinned (OpenSpec.ofChange Rows.fnParseRangeMediaFeatureAccountsForEveryTokenSpec) :=
  OpenClaim.holds_of_wide 3 Try.f3 rfl rfl rfl rfl rfl rfl rfl ⟨rfl, rfl, rfl, rfl, rfl⟩ rfl rfl rfl rfl rfl (by kernel_rfl) Try.func3 (by kernel_rfl)
    (of_decide_eq_true (by kernel_rfl)) (by unfold Func.isWrapper; first | (rw [if_pos (by decide +kernel)]; kernel_rfl) | (rw [if_neg (by decide +kernel)]; exact ⟨rfl, rfl⟩))
    (fun os started H enc _ => lifted os started H enc)

/-- THE STATEMENT -/
theorem proved : Rows.FnParseRangeMediaFeatureAccountsForEveryTokenSaid := over
#print axioms proved
end Go.Proofs.Ytoaanhipdjjeiaa.fnParseRangeMediaFeatureAccountsForEveryToken
