/-
  For every two lengths up to 4096 and either operator, appending a binary media query whose terms are plain gives under minify the same list as appending its terms one by one. Conditions: none beyond the given statement's own.
-/
import Derived.Test.YtbjcolglkegicabRows
import Derived.WalkKit
import Derived.ProofKit
import Derived.OpenShut
import Derived.ShutString
import Derived.ChangeOld
import Derived.Below
import Derived.Lib.Hide
import Derived.Outline
import Derived.Test.YtbjcolglkegicabMl
namespace Go.Proofs.Ytbjcolglkegicab.fnAppendMediaTermFlattenAgreesWithSingles
open Go.ChangeShapes Go.WideShapes Go.ChangeAt Go.RowKit
open Go.ChangeMaps (open_string shut_string)
set_option linter.unusedVariables false

theorem own : ownKnob Try.prog.godebug = none := by kernel_rfl
theorem laidOut : laidOutB Try.prog = true := by kernel_rfl

open Mq Rg

set_option maxRecDepth 100000 in
set_option maxHeartbeats 4000000 in
/-- THE WALK -/
theorem walk (a0 : Int) (a1 : Int) (a2 : Bool) (w : World) (w0 : (Lit.int .u16 a0).wf = true) (w1 : (Lit.int .u16 a1).wf = true) :
    Calls Try.prog 3 #[.int .u16 a0, .int .u16 a1, .bool a2] w fun e w' => e = .returned (.bool true) ∧ Below w.heap.size w w' := by
  obtain ⟨n, rfl⟩ : ∃ n : Nat, a0 = n := ⟨a0.toNat, by have h : IntKind.u16.min = 0 := rfl; simp [Lit.wf] at w0; omega⟩
  obtain ⟨m, rfl⟩ : ∃ m : Nat, a1 = m := ⟨a1.toNat, by have h : IntKind.u16.min = 0 := rfl; simp [Lit.wf] at w1; omega⟩
  clear w0 w1
  by_cases hn : (4096 : Int) < n
  · go_enter Try.func3, Try.ntmps3
    go_wp2
    go_ret
    exact ⟨rfl, Below.refl _ _⟩
  by_cases hm : (4096 : Int) < m
  · go_enter Try.func3, Try.ntmps3
    go_wp2
    go_ret
    exact ⟨rfl, Below.refl _ _⟩
  have hn2 : (n : Int) ≤ 4096 := by omega
  have hm2 : (m : Int) ≤ 4096 := by omega
  clear hn hm
  go_enter Try.func3, Try.ntmps3
  go_wp2_with fail
  refine (op_any a2 w).mono ?_
  rintro e w1 ⟨rfl, rfl⟩
  generalize (if a2 = true then (1 : Int) else 0) = op
  go_wp2_with fail
  refine (run_any m 1048576 hm2 (by omega) (by omega) w).mono ?_
  rintro e w1 ⟨v, Gs, rfl, ⟨gs, cs, rfl⟩, o1, p1, b1, l1⟩
  have HS := Lib.hid (And.intro o1 (And.intro p1 (And.intro b1 l1)))
  clear o1 p1 b1 l1
  go_wp2_with fail
  refine (run_any n 0 hn2 (by omega) (by omega) w1).mono ?_
  rintro e w2 ⟨v, Ga, rfl, ⟨gi, ci, rfl⟩, o2, p2, b2, l2⟩
  have HS2 := Lib.hid (show ownM w.heap.size w2 (.slice (some ⟨gs, 0, none⟩) m cs) m (rowc (fun j => 1048576 + j) Gs m) ∧ (∀ j, j < m → PB w2 (Gs j)) ∧ Below w.heap.size w w2 ∧ w.heap.size ≤ w2.heap.size ∧ gs < gi from
    ⟨own_keep HS.out.1 b2, fun j hj => (HS.out.2.1 j hj).keep b2, HS.out.2.2.1.trans (b2.mono HS.out.2.2.2), Nat.le_trans HS.out.2.2.2 b2.size, Nat.lt_of_lt_of_le (own_lt HS.out.1).2 (own_lt o2).1⟩)
  have HA := Lib.hid (show ownM w.heap.size w2 (.slice (some ⟨gi, 0, none⟩) n ci) n (rowc (fun j => 0 + j) Ga n) ∧ ∀ j, j < n → PB w2 (Ga j) from ⟨ownM_mono o2 HS.out.2.2.2, p2⟩)
  clear HS o2 p2 b2 l2
  go_wp2_with fail
  refine (binary_any op gs m cs w2).mono ?_
  rintro e w3 ⟨rfl, hbb, hb⟩
  have HS3 := Lib.hid (show ownM w.heap.size w3 (.slice (some ⟨gs, 0, none⟩) m cs) m (rowc (fun j => 1048576 + j) Gs m) ∧ (∀ j, j < m → PB w3 (Gs j)) ∧ Below w.heap.size w w3 ∧ w.heap.size ≤ w3.heap.size ∧ gs < gi from
    ⟨own_keep HS2.out.1 hb, fun j hj => (HS2.out.2.1 j hj).keep hb, HS2.out.2.2.1.trans (hb.mono HS2.out.2.2.2.1), Nat.le_trans HS2.out.2.2.2.1 hb.size, HS2.out.2.2.2.2⟩)
  have HA3 := Lib.hid (show ownM w.heap.size w3 (.slice (some ⟨gi, 0, none⟩) n ci) n (rowc (fun j => 0 + j) Ga n) ∧ ∀ j, j < n → PB w3 (Ga j) from ⟨own_keep HA.out.1 hb, fun j hj => (HA.out.2 j hj).keep hb⟩)
  have HBB := Lib.hid hbb
  clear HS2 HA hbb hb
  go_wp2_with fail
  refine (zapp_bin (w2.heap.size + 2) gi gs n m ci cs w.heap.size op _ _ w3 (by omega) (by omega) HS3.out.2.2.2.1 HA3.out.1 HS3.out.1 (rowc_one _ _ _) HBB.out).mono ?_
  rintro e w4 ⟨ga, ca, rfl, o4, g4, r4⟩
  have HS4 := Lib.hid (show ownM w.heap.size w4 (.slice (some ⟨gs, 0, none⟩) m cs) m (rowc (fun j => 1048576 + j) Gs m) ∧ ownM w.heap.size w4 (.slice (some ⟨ga, 0, none⟩) (n + m) ca) (n + m) (rowc (fun j => 0 + j) Ga n ++ rowc (fun j => 1048576 + j) Gs m) ∧ (∀ j, j < n → PB w4 (Ga j)) ∧ (∀ j, j < m → PB w4 (Gs j)) ∧ Below w.heap.size w w4 ∧ w.heap.size ≤ w4.heap.size from
    ⟨HS3.out.1.kept g4 (.inr (by have := HS3.out.2.2.2.2; simp [Value.ownBlock]; omega)), o4, fun j hj => (HA3.out.2 j hj).grown g4 ((HA3.out.2 j hj).ne_row HA3.out.1), fun j hj => (HS3.out.2.1 j hj).grown g4 ((HS3.out.2.1 j hj).ne_row HA3.out.1), HS3.out.2.2.1.grown g4 HS3.out.2.2.2.1 (fun q hq => by injection hq with hq; have := (own_lt HA3.out.1).1; omega), Nat.le_trans HS3.out.2.2.2.1 g4.size⟩)
  clear HS3 HA3 HBB o4 g4 r4
  go_wp2_with fail
  refine (run_any n 0 hn2 (by omega) (by omega) w4).mono ?_
  rintro e w5 ⟨v, Gb, rfl, ⟨gb, cb, rfl⟩, o5, p5, b5, l5⟩
  have HT0 := Lib.hid (show ST w.heap.size n m 0 gs cs ga ca (fun j => 1048576 + j) (fun j => 0 + j) Gs Ga Gb (.slice (some ⟨gb, 0, none⟩) n cb) w w5 from
    ⟨own_keep HS4.out.1 b5, own_keep HS4.out.2.1 b5, ⟨gb, cb, rfl, by simpa [rowc] using (show ownM w.heap.size w5 (.slice (some ⟨gb, 0, none⟩) n cb) n (rowc (fun j => 0 + j) Gb n) from ownM_mono o5 HS4.out.2.2.2.2.2), by have := (own_lt HS4.out.1).2; have := (own_lt o5).1; omega, by have := (own_lt HS4.out.2.1).2; have := (own_lt o5).1; omega⟩,
      fun j hj => ⟨(HS4.out.2.2.1 j hj).keep b5, p5 j hj⟩, fun j hj => (HS4.out.2.2.2.1 j hj).keep b5, HS4.out.2.2.2.2.1.trans (b5.mono HS4.out.2.2.2.2.2), Nat.le_trans HS4.out.2.2.2.2.2 b5.size⟩)
  clear HS4 o5 p5 b5 l5
  go_wp2_with fail
  go_loopw [10, 11] (fun v i wr => ∃ k : Nat, k ≤ m ∧ i = .int .i64 k ∧ Hid (ST w.heap.size n m k gs cs ga ca (fun j => 1048576 + j) (fun j => 0 + j) Gs Ga Gb v w wr)) (fun _ i _ => m - (intOf i).toNat)
  case atStart => exact ⟨0, Nat.zero_le _, rfl, HT0⟩
  case round =>
    clear HT0
    obtain ⟨k, hk, rfl, HT⟩ := hrel
    by_cases hlt : k < m
    · as_aux_lemma =>
      obtain ⟨gb2, cb2, rfl, -⟩ := HT.out.2.2.1
      have c0 : wr.cell? ⟨gs, k * 2, none⟩ = some (.int .i32 (1048576 + k)) := (HT.out.1.cellAt _ (by omega)).trans (rowc_at _ _ _ _ hlt).1
      have c1 : wr.cell? ⟨gs, k * 2 + 1, none⟩ = some (.iface 87 (.pointer (some ⟨Gs k, 0, none⟩))) := (HT.out.1.cellAt _ (by omega)).trans (rowc_at _ _ _ _ hlt).2
      have q0 : (0 : Int) ≤ k := by omega
      have q1 : (k : Int) < m := by omega
      go_wp2_with fail
      refine (zapp_one (Gs k) gb2 (n + k) cb2 w.heap.size op (1048576 + k) _ wr (by omega) HT.out.2.2.2.2.2.2 (by obtain ⟨_, _, ⟨gb', cb', hv, h3, _⟩, _⟩ := HT.out; rw [← hv] at h3; exact h3)).mono ?_
      intro e w2 ha
      obtain ⟨g3, c3, rfl, hs⟩ := HT.out.next hlt ha
      have HN := Lib.hid hs
      clear hs ha HT c0 c1
      go_wp2_with fail
      exact ⟨⟨k + 1, by omega, by go_num, HN⟩, by simp [intOf]; omega⟩
    · as_aux_lemma =>
      obtain rfl : k = m := by omega
      obtain ⟨gb2, cb2, L, Gx, Gy, rfl, h2⟩ := HT.out.done
      have H2 := Lib.hid h2
      clear h2 HT hlt hk
      obtain ⟨N, hN⟩ : ∃ N, N = n + k := ⟨_, rfl⟩
      have hN2 : (N : Int) ≤ 8192 := by omega
      rw [← hN] at H2 ⊢
      clear hN
      go_wp2_with fail
      go_loopw [12] (fun i wr => ∃ k : Nat, k ≤ N ∧ i = .int .i64 k ∧ Hid (S2 w.heap.size N ga ca gb2 cb2 L Gx Gy w wr)) (fun i _ => N - (intOf i).toNat)
      case atStart => exact ⟨0, Nat.zero_le _, rfl, H2⟩
      case round =>
        clear H2
        obtain ⟨i, hi, rfl, HT⟩ := hrel
        by_cases hlt : i < N
        · obtain ⟨⟨c0, c1⟩, c2, c3⟩ := HT.out.at_ hlt
          have q0 : (0 : Int) ≤ i := by omega
          have q1 : (i : Int) < N := by omega
          go_wp2_with fail
          go_quiet (fail)
          have HT1 := Lib.hid (HT.out.keep (below_drewN (Below.refl _ _) nq))
          clear c0 c1 c2 c3 HT
          generalize World.drewN _ _ = w6 at *
          obtain ⟨⟨c0, c1⟩, c2, c3⟩ := HT1.out.at_ hlt
          clear c2 c3
          go_wp2_with fail
          refine (as_any _ _ w6 (HT1.out.2.2.1 i hlt).1).mono ?_
          rintro e w7 ⟨rfl, hb⟩
          have HT2 := Lib.hid (HT1.out.keep hb)
          clear c0 c1 HT1 hb
          obtain ⟨⟨c0, c1⟩, c2, c3⟩ := HT2.out.at_ hlt
          clear c0 c1
          go_wp2_with fail
          refine (as_any _ _ w7 (HT2.out.2.2.1 i hlt).2).mono ?_
          rintro e w8 ⟨rfl, hb⟩
          have HT3 := Lib.hid (HT2.out.keep hb)
          clear c2 c3 HT2 hb
          go_wp2_with fail
          exact ⟨⟨i + 1, by omega, by go_num, HT3⟩, by simp [intOf]; omega⟩
        · obtain rfl : i = N := by omega
          have HB := Lib.hid HT.out.2.2.2.1
          clear HT
          go_wp2_with fail
          go_ret
          exact ⟨rfl, HB.out⟩

set_option maxRecDepth 100000 in
theorem lifted (os : Os) (started : os.Started) (H : Type) (enc : TypeId × Value → H) :
    ReturnsInHanded {} Try.checked os 3 .any (Rows.fnAppendMediaTermFlattenAgreesWithSinglesSpec.pre6 enc Try.prog Try.f3 Rows.fnAppendMediaTermFlattenAgreesWithSinglesRow.domain false) (Rows.fnAppendMediaTermFlattenAgreesWithSinglesSpec.post enc Try.prog Try.f3 false true false false) := by
  refine returnsInHanded_of_change (C := Try.checked) own started (by kernel_rfl) Try.func3
    (ChangeSpec.witness6 (enc := enc) (C := Try.checked) false ⟨#[], #[.int .u16 0, .int .u16 0, .bool false], []⟩ 8 (by kernel_rfl) (by kernel_rfl) (by kernel_rfl) (by kernel_rfl)) ?_
  intro W base args ds gs before hval0 hW hcnd _
  have hval : ∀ (j : Nat) t v, Try.f3.params[j]? = some t → args[j]? = some v → Value.okWide Try.prog W .any base t v := hval0
  have hW' := hW
  obtain ⟨p, q, hA0, hV, rfl, hfz, hnd⟩ := hW
  have hA : DataW.TrodAll enc Try.prog W 0 (fun _ => true) true Try.f3.params.toList args.toList ds p := hA0
  rw [Try.params3] at hA hval
  obtain ⟨v0, vs0, d0, ds0, p0, q0, hargs, rfl, rfl, h0, r0⟩ := trodAll_cons hA
  obtain ⟨v1, vs1, d1, ds1, p1, q1, rfl, rfl, rfl, h1, r1⟩ := trodAll_cons r0
  obtain ⟨v2, vs2, d2, ds2, p2, q2, rfl, rfl, rfl, h2, r2⟩ := trodAll_cons r1
  obtain ⟨rfl, rfl, rfl⟩ := trodAll_nil r2
  obtain rfl : args = #[v0, v1, v2] := by cases args; simp_all
  obtain ⟨rfl, rfl⟩ := trodVars_none hV
  obtain ⟨a0, rfl, rfl, rfl, w0⟩ := open_int Try.underlying22 (hval 0 22 v0 rfl rfl) h0
  obtain ⟨a1, rfl, rfl, rfl, w1⟩ := open_int Try.underlying22 (hval 1 22 v1 rfl rfl) h1
  obtain ⟨a2, rfl, rfl, rfl⟩ := open_bool Try.underlying4 (hval 2 4 v2 rfl rfl) h2
  clear hA0 hval0
  refine (walk a0 a1 a2 W w0 w1).mono fun e W' ⟨he, bel⟩ => ?_
  subst he
  exact ⟨_, rfl, _, _, _, [], _, [], hW', trodAll_mk1 (shut_bool Try.underlying4 _), (trodAll_cons_mk (shut_int Try.underlying22 w0) (trodAll_cons_mk (shut_int Try.underlying22 w1) (trodAll_cons_mk (shut_bool Try.underlying4 a2) trodAll_mk0))), rfl, bel.frame _, fun h => by cases h⟩

theorem over : Rows.fnAppendMediaTermFlattenAgreesWithSinglesRow.holds Try.pinned (OpenSpec.ofChange Rows.fnAppendMediaTermFlattenAgreesWithSinglesSpec) :=
  OpenClaim.holds_of_wide 3 Try.f3 rfl rfl rfl rfl rfl rfl rfl ⟨rfl, rfl, rfl, rfl, rfl⟩ rfl rfl rfl rfl rfl (by kernel_rfl) Try.func3 (by kernel_rfl)
    (of_decide_eq_true (by kernel_rfl)) (by unfold Func.isWrapper; first | (rw [if_pos (by decide +kernel)]; kernel_rfl) | (rw [if_neg (by decide +kernel)]; exact ⟨rfl, rfl⟩))
    (fun os started H enc _ => lifted os started H enc)

/-- THE STATEMENT -/
theorem proved : Rows.FnAppendMediaTermFlattenAgreesWithSinglesSaid := over
#print axioms proved
end Go.Proofs.Ytbjcolglkegicab.fnAppendMediaTermFlattenAgreesWithSingles
