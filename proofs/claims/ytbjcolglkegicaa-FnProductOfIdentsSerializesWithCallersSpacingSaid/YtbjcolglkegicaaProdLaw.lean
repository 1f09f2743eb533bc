/-
  For every list of at least two names and every choice of inversions and whitespace, the product of these identifiers serializes as a parenthesis whose children are the identifiers with the chosen operators between them. Conditions: none beyond the given statement's own.
-/
import Derived.Test.YtbjcolglkegicaaRows
import Derived.WalkKit
import Derived.ProofKit
import Derived.OpenShut
import Derived.ShutString
import Derived.ChangeOld
import Derived.Below
import Derived.Lib.Hide
import Derived.Outline
import Derived.SliceStrings
import Derived.Deep.Grids
import Derived.Test.YtbjcolglkegicaaPl
namespace Go.Proofs.Ytbjcolglkegicaa.fnProductOfIdentsSerializesWithCallersSpacing
open Go.ChangeShapes Go.WideShapes Go.ChangeAt Go.RowKit
open Go.ChangeMaps (open_string shut_string)
set_option linter.unusedVariables false

theorem own : ownKnob Try.prog.godebug = none := by kernel_rfl
theorem laidOut : laidOutB Try.prog = true := by kernel_rfl

/-- What the walk is told of a slice that came in: it is nil; or it leads to a row of 'cap' cells that hold 'zs'. -/
def IsRow {α : Type} [Inhabited α] (mk : α → Value) (ok : α → Prop) (w : World) (a : Option Addr) (len cap : Nat) (zs : List α) : Prop :=
  (a = none ∧ len = 0 ∧ cap = 0 ∧ zs = []) ∨
  ∃ x, a = some x ∧ len ≤ cap ∧ cap ≤ maxLen ∧ zs.length = cap ∧ (∀ i (h : i < zs.length), w.cell? (x.add i) = some (mk zs[i])) ∧ ∀ n ∈ zs, ok n
section
variable {H : Type} {enc : TypeId × Value → H} {P : Program} {w : World} {base : Nat} {hd : Bool}
theorem row_of_string {t e : TypeId} {fuel : Nat} {a : Option Addr} {len cap : Nat} {x : DataW H × List MemPlace} (ht : P.underlying t = some (.slice e)) (he : P.underlying e = some .string) (hc : P.cellsOf e = 1)
    (hf : DataW.trod enc P w base (fun _ => true) hd fuel t (Value.slice a len cap).cells.toList = some x) : ∃ zs, IsRow .string (fun s => s.size ≤ maxLen) w a len cap zs := by
  rcases open_strings ht he hc hf with ⟨hcs, _⟩ | ⟨y, l, c, zs, hcs, _, hl, hm, hz, _, hcell, hwz⟩
  · simp [Value.cells] at hcs
    obtain ⟨rfl, rfl, rfl⟩ := hcs
    exact ⟨[], .inl ⟨rfl, rfl, rfl, rfl⟩⟩
  · simp [Value.cells] at hcs
    obtain ⟨rfl, rfl, rfl⟩ := hcs
    exact ⟨zs, .inr ⟨_, rfl, hl, hm, by simpa using hz, fun i h => by have := hcell i h; simpa [List.getD, h] using this, hwz⟩⟩
theorem row_of_bool {t e : TypeId} {fuel : Nat} {a : Option Addr} {len cap : Nat} {x : DataW H × List MemPlace} (ht : P.underlying t = some (.slice e)) (he : P.underlying e = some .bool) (hc : P.cellsOf e = 1)
    (hf : DataW.trod enc P w base (fun _ => true) hd fuel t (Value.slice a len cap).cells.toList = some x) : ∃ zs, IsRow .bool (fun _ => True) w a len cap zs := by
  rcases Go.Deep.open_bools ht he hc hf with ⟨hcs, _⟩ | ⟨y, l, c, B, hcs, _, hl, hm, _, hcell⟩
  · simp [Value.cells] at hcs
    obtain ⟨rfl, rfl, rfl⟩ := hcs
    exact ⟨[], .inl ⟨rfl, rfl, rfl, rfl⟩⟩
  · simp [Value.cells] at hcs
    obtain ⟨rfl, rfl, rfl⟩ := hcs
    exact ⟨(List.range cap).map B, .inr ⟨_, rfl, hl, hm, by simp, fun i h => by have := hcell i (by simpa using h); simpa using this, fun _ _ => trivial⟩⟩
end

open Pd Rg

set_option maxRecDepth 100000 in
set_option maxHeartbeats 4000000 in
/-- THE WALK -/
theorem walk (a0 : Option Addr) (len0 cap0 : Nat) (z0 : List ByteArray) (a1 : Option Addr) (len1 cap1 : Nat) (z1 : List Bool) (a2 : Int) (w : World) (w0 : IsRow .string (fun s => s.size ≤ maxLen) w a0 len0 cap0 z0) (w1 : IsRow .bool (fun _ => True) w a1 len1 cap1 z1) (w2 : (Lit.int .u8 a2).wf = true) :
    Calls Try.prog 3 #[.slice a0 len0 cap0, .slice a1 len1 cap1, .int .u8 a2] w fun e w' => e = .returned (.bool true) ∧ Below w.heap.size w w' := by
  unfold IsRow at w0 w1
  obtain ⟨hS, hsz, hz0, hm0⟩ := Sl.of_row w0
  obtain ⟨hI, -, hz1, hm1⟩ := Sl.of_row w1
  obtain ⟨T, hT⟩ : ∃ T : Nat → ByteArray, T = fun i => z0.getD i default := ⟨_, rfl⟩
  obtain ⟨IV, hIV⟩ : ∃ IV : Nat → Bool, IV = fun i => z1.getD i default := ⟨_, rfl⟩
  have HS := Lib.hid (show Sl w a0 len0 (fun i => .string (T i)) by rw [hT]; exact hS)
  have HI := Lib.hid (show Sl w a1 len1 (fun i => .bool (IV i)) by rw [hIV]; exact hI)
  have HSZ := Lib.hid (show ∀ i, i < len0 → ((T i).size : Int) ≤ 9223372036854775807 from fun i hi => by have := hsz i hi; unfold maxLen at this; rw [hT]; simp only; omega)
  have HL := Lib.hid (show (len0 : Int) ≤ 9223372036854775807 ∧ (len1 : Int) ≤ 9223372036854775807 by unfold maxLen at hm0 hm1; omega)
  have HZ := Lib.hid (And.intro hz0 hz1)
  clear w0 w1 w2 hS hsz hz0 hm0 hI hz1 hm1 hT hIV
  by_cases hn : (65536 : Int) < len0
  · have l1 := HL.out.1
    have l2 := HL.out.2
    go_enter Try.func3, Try.ntmps3
    go_wp2_with fail
    refine (bytes_any a0 a1 len0 cap0 len1 cap1 T a2 w HS.out HSZ.out HL.out.1 HL.out.2).mono ?_
    rintro e w1 ⟨⟨r, rfl⟩, rfl⟩
    cases r
    all_goals (go_wp2_with fail; go_ret; exact ⟨rfl, Below.refl _ _⟩)
  by_cases hm : (65536 : Int) < len1
  · have l1 := HL.out.1
    have l2 := HL.out.2
    go_enter Try.func3, Try.ntmps3
    go_wp2_with fail
    refine (bytes_any a0 a1 len0 cap0 len1 cap1 T a2 w HS.out HSZ.out HL.out.1 HL.out.2).mono ?_
    rintro e w1 ⟨⟨r, rfl⟩, rfl⟩
    cases r
    all_goals (go_wp2_with fail; go_ret; exact ⟨rfl, Below.refl _ _⟩)
  have hn2 : (len0 : Int) ≤ 65536 := by omega
  have hm2 : (len1 : Int) ≤ 65536 := by omega
  clear hn hm
  go_enter Try.func3, Try.ntmps3
  go_wp2_with fail
  refine (bytes_any a0 a1 len0 cap0 len1 cap1 T a2 w HS.out HSZ.out HL.out.1 HL.out.2).mono ?_
  rintro e w1 ⟨⟨r, rfl⟩, rfl⟩
  cases r
  case false =>
    go_wp2_with fail
    go_ret
    exact ⟨rfl, Below.refl _ _⟩
  go_wp2_with fail
  go_loop [7, 8] (fun t i => ∃ (k : Nat) (s : Int), k ≤ len0 ∧ i = .int .i64 k ∧ t = .int .i64 s) (fun _ i => len0 - (intOf i).toNat)
  case atStart => exact ⟨0, _, Nat.zero_le _, rfl, rfl⟩
  case round =>
    obtain ⟨k, s, hk, rfl, rfl⟩ := hrel
    by_cases hlt : k < len0
    · as_aux_lemma =>
      obtain ⟨ab, ao, hx, d⟩ := HS.out k hlt
      subst hx
      have q0 : (0 : Int) ≤ k := by omega
      have q1 : (k : Int) < len0 := by omega
      go_wp2_with fail
      go_round
      case rel => exact ⟨k + 1, _, by omega, by go_num, rfl⟩
      case measure => simp [intOf]; omega
    · as_aux_lemma =>
      obtain rfl : k = len0 := by omega
      clear hlt hk
      by_cases ht : (1048576 : Int) < s
      · go_wp2_with fail
        go_ret
        exact ⟨rfl, Below.refl _ _⟩
      by_cases h2 : (k : Int) < 2
      · go_wp2_with fail
        go_ret
        exact ⟨rfl, Below.refl _ _⟩
      have h22 := Lib.hid (show 2 ≤ k by omega)
      go_wp2_with fail
      refine (clones_any a0 k cap0 T w HS.out HZ.out.1 hn2).mono ?_
      rintro e w1 ⟨an, cn, rfl, hS1, hB1, -, hb1⟩
      have HS1 := Lib.hid hS1
      have HI1 := Lib.hid (HI.out.keep hb1)
      have HB1 := Lib.hid hb1
      clear hS1 hb1 hB1
      go_wp2_with fail
      refine (cloneb_any a1 len1 cap1 IV w1 HI1.out HZ.out.2 hm2).mono ?_
      rintro e w2 ⟨ai, ci, rfl, hI2, hB2, -, hb2⟩
      have HS2 := Lib.hid (HS1.out.keep hb2)
      have HI2 := Lib.hid hI2
      have HB2 := Lib.hid (HB1.out.trans (hb2.mono HB1.out.size))
      clear hI2 hb2 hB2 HS1 HI1 HB1 HS HI HSZ HL HZ
      go_wp2_with fail
      refine (noterms_any w2).mono ?_
      rintro e w3 ⟨rfl, rfl⟩
      have HT0 := Lib.hid (show LT 0 (.slice none 0 0) (ivf len1 IV) T w2 w2 from ⟨fun _ => 0, fun _ => 0, World.ownsRow_nil _ _ _ _, fun i hi => absurd hi (by omega), Below.refl _ _⟩)
      have hk2 : (2 : Int) ≤ k := by omega
      clear ht h2
      go_wp2_with fail
      go_loopw [10, 11] (fun v i wr => ∃ j : Nat, j ≤ k ∧ i = .int .i64 j ∧ Hid (LT j v (ivf len1 IV) T w2 wr)) (fun _ i _ => k - (intOf i).toNat)
      case atStart => exact ⟨0, Nat.zero_le _, rfl, HT0⟩
      case round =>
        clear HT0
        obtain ⟨j, hj, rfl, HT⟩ := hrel
        by_cases hlt : j < k
        · as_aux_lemma =>
          obtain ⟨G, H, o1, t1, b1⟩ := HT.out
          obtain ⟨ab, ao, hx, d⟩ := (HS2.out.keep b1) j hlt
          subst hx
          have HO := Lib.hid o1
          have HV := Lib.hid t1
          have HB := Lib.hid b1
          have q0 : (0 : Int) ≤ j := by omega
          have q1 : (j : Int) < k := by omega
          clear o1 t1 b1 HT
          by_cases hj0 : j = 0
          · have HF := Lib.hid (show ivf len1 IV j = false by rw [hj0]; rfl)
            have q2 : ¬ (0 : Int) < j := by omega
            clear hj0
            go_wp2_with fail
            refine (with_any w2.heap.size j u10 _ (T j) wr (by omega) HB.out.size HO.out).mono ?_
            intro e w4 hw
            obtain ⟨v', rfl, hN⟩ := LT.next HO.out HV.out HB.out HF.out hw
            have HN := Lib.hid hN
            clear hw hN
            go_wp2_with fail
            exact ⟨⟨j + 1, by omega, by go_num, HN⟩, by simp [intOf]; omega⟩
          have q2 : (0 : Int) < j := by omega
          by_cases hjm : j < len1
          · have q3 : (j : Int) < len1 := by omega
            obtain ⟨ab2, ao2, hx2, d2⟩ := (HI2.out.keep HB.out) j hjm
            subst hx2
            cases hiv : IV j
            · have HF := Lib.hid (ivf_no hjm hiv)
              simp only [hiv] at d2
              clear hiv hj0
              go_wp2_with fail
              refine (with_any w2.heap.size j u10 _ (T j) wr (by omega) HB.out.size HO.out).mono ?_
              intro e w4 hw
              obtain ⟨v', rfl, hN⟩ := LT.next HO.out HV.out HB.out HF.out hw
              have HN := Lib.hid hN
              clear hw hN
              go_wp2_with fail
              exact ⟨⟨j + 1, by omega, by go_num, HN⟩, by simp [intOf]; omega⟩
            · have HF := Lib.hid (ivf_true (by omega) hjm hiv)
              simp only [hiv] at d2
              clear hiv hj0
              go_wp2_with fail
              refine (inv_any w2.heap.size j u10 _ (T j) wr (by omega) HB.out.size HO.out).mono ?_
              intro e w4 hw
              obtain ⟨v', rfl, hN⟩ := LT.next HO.out HV.out HB.out HF.out hw
              have HN := Lib.hid hN
              clear hw hN
              go_wp2_with fail
              exact ⟨⟨j + 1, by omega, by go_num, HN⟩, by simp [intOf]; omega⟩
          · have q3 : ¬ (j : Int) < len1 := by omega
            have HF := Lib.hid (ivf_out (IV := IV) hjm)
            clear hjm hj0
            go_wp2_with fail
            refine (with_any w2.heap.size j u10 _ (T j) wr (by omega) HB.out.size HO.out).mono ?_
            intro e w4 hw
            obtain ⟨v', rfl, hN⟩ := LT.next HO.out HV.out HB.out HF.out hw
            have HN := Lib.hid hN
            clear hw hN
            go_wp2_with fail
            exact ⟨⟨j + 1, by omega, by go_num, HN⟩, by simp [intOf]; omega⟩
        · as_aux_lemma =>
          obtain rfl : j = k := by omega
          obtain ⟨G, H, o1, t1, b1⟩ := HT.out
          obtain ⟨gt, ct, rfl, -, -⟩ := o1.form (by omega)
          have HO := Lib.hid o1
          have HV := Lib.hid t1
          have HS3 := Lib.hid (HS2.out.keep b1)
          have HI3 := Lib.hid (HI2.out.keep b1)
          have HB := Lib.hid (HB2.out.trans (b1.mono HB2.out.size))
          clear o1 t1 b1 HT HS2 HI2 HB2 hlt hj
          go_wp2_with fail
          refine (zprod_any w2.heap.size gt j ct (ivf len1 IV) G H T a2 wr HO.out HV.out h22.out hn2 (own_cap HO.out) (ivf_zero _ _)).mono ?_
          rintro e w5 ⟨gb, gr, cr, rfl, hX, hR, hb⟩
          have HX := Lib.hid hX
          have HR := Lib.hid hR
          have HS4 := Lib.hid (HS3.out.keep hb)
          have HI4 := Lib.hid (HI3.out.keep hb)
          have HB4 := Lib.hid (HB.out.trans (hb.mono HB.out.size))
          have HC := Lib.hid (alloc_cell (hX.cell 0 rfl))
          clear hX hR hb HS3 HI3 HB HO HV
          obtain ⟨N, hN⟩ : ∃ N, N = 2 * j - 1 := ⟨_, rfl⟩
          rw [← hN] at HC HR HX
          have HNN := Lib.hid (show N + 1 = 2 * j by have := h22.out; omega)
          have hNI : (N : Int) = 2 * (j : Int) - 1 := by have := h22.out; omega
          clear hN
          have hc0 := HC.out
          have HR6 := Lib.hid (HR.out.alloc (.cells #[.pointer (some ⟨gb, 0, none⟩), .string ⟨#[40]⟩, .int .i32 0, .int .u32 0, .int .u16 0, .int .u8 33, .int .u8 0] 38))
          have HS6 := Lib.hid (HS4.out.keep ((Below.refl _ _).alloc (Nat.le_refl _) (.cells #[.pointer (some ⟨gb, 0, none⟩), .string ⟨#[40]⟩, .int .i32 0, .int .u32 0, .int .u16 0, .int .u8 33, .int .u8 0] 38)))
          have HI6 := Lib.hid (HI4.out.keep ((Below.refl _ _).alloc (Nat.le_refl _) (.cells #[.pointer (some ⟨gb, 0, none⟩), .string ⟨#[40]⟩, .int .i32 0, .int .u32 0, .int .u16 0, .int .u8 33, .int .u8 0] 38)))
          have HB6 := Lib.hid (HB4.out.alloc HB4.out.size (.cells #[.pointer (some ⟨gb, 0, none⟩), .string ⟨#[40]⟩, .int .i32 0, .int .u32 0, .int .u16 0, .int .u8 33, .int .u8 0] 38))
          clear HR HS4 HI4 HB4 HC HX
          go_wp2_with fail
          clear hc0
          generalize (World.alloc _ _ : World) = w6 at *
          have HW := Lib.hid (Below.refl w6.heap.size w6)
          go_loopw [16] (fun i wr => ∃ q : Nat, q ≤ j ∧ i = .int .i64 q ∧ Hid (Below w6.heap.size w6 wr)) (fun i _ => j - (intOf i).toNat)
          case atStart => exact ⟨0, Nat.zero_le _, rfl, HW⟩
          case round =>
            clear HW
            obtain ⟨q, hq, rfl, HW⟩ := hrel
            by_cases hlt : q < j
            · obtain ⟨d0, d1, d2, d3, d4, d5, d6⟩ := T7_even (k := q) (own_keep HR6.out HW.out) (by have := HNN.out; omega)
              obtain ⟨ab, ao, hx, n0⟩ := (HS6.out.keep HW.out) q hlt
              subst hx
              have q0 : (0 : Int) ≤ q := by omega
              have q1 : (q : Int) < j := by omega
              have q2 : 2 * (q : Int) < N := by omega
              have n1 := alloc_cell n0
              go_wp2_with fail
              go_quiet (fail)
              have HW2 := Lib.hid (HW.out.trans ((below_drewN ((Below.refl wr.heap.size wr).alloc (Nat.le_refl _) (.cells (vtok (T q)) 38)) nq).mono HW.out.size))
              clear d0 d1 d2 d3 d4 d5 d6 n0 n1 HW
              by_cases hq0 : q = 0
              · have q3 : ¬ (0 : Int) < q := by omega
                clear hq0
                go_wp2_with fail
                exact ⟨⟨q + 1, by omega, by go_num, HW2⟩, by simp [intOf]; omega⟩
              · have q3 : (0 : Int) < q := by omega
                obtain ⟨r, hr⟩ : ∃ r, r = q - 1 := ⟨_, rfl⟩
                have hqr : q = r + 1 := by omega
                generalize World.drewN _ _ = w7 at *
                obtain ⟨d0, d1, d2, d3, d4, d5, d6⟩ := T7_odd (k := r) (own_keep HR6.out HW2.out) (by have := HNN.out; omega)
                rw [← hqr] at d1 d5
                have q4 : (2 * (q : Int) - 1).toNat = 2 * r + 1 := by omega
                have q5 : 2 * (q : Int) - 1 < N := by omega
                have q6 : 0 ≤ 2 * (q : Int) - 1 := by omega
                clear hr hqr hq0
                by_cases hqm : q < len1
                · have q7 : (q : Int) < len1 := by omega
                  obtain ⟨ab2, ao2, hx2, n2⟩ := (HI6.out.keep HW2.out) q hqm
                  subst hx2
                  cases hiv : IV q
                  · have hF := ivf_no hqm hiv
                    simp only [hF, hiv, if_false, Bool.false_eq_true] at d1 d5 n2
                    have n3 := alloc_cell n2
                    clear hF hiv
                    have HW3 := Lib.hid (HW2.out.trans (((Below.refl w7.heap.size w7).alloc (Nat.le_refl _) (.cells #[.pointer none, .string mB, .int .i32 0, .int .u32 0, .int .u16 0, .int .u8 13, .int .u8 a2] 38)).mono HW2.out.size))
                    go_wp2_with fail
                    exact ⟨⟨q + 1, by omega, by go_num, HW3⟩, by simp [intOf]; omega⟩
                  · have hF := ivf_true (by omega) hqm hiv
                    simp only [hF, hiv, if_true] at d1 d5 n2
                    have n3 := alloc_cell n2
                    clear hF hiv
                    have HW3 := Lib.hid (HW2.out.trans (((Below.refl w7.heap.size w7).alloc (Nat.le_refl _) (.cells #[.pointer none, .string sB, .int .i32 0, .int .u32 0, .int .u16 0, .int .u8 24, .int .u8 a2] 38)).mono HW2.out.size))
                    go_wp2_with fail
                    exact ⟨⟨q + 1, by omega, by go_num, HW3⟩, by simp [intOf]; omega⟩
                · have q7 : ¬ (q : Int) < len1 := by omega
                  have hF := ivf_out (IV := IV) hqm
                  simp only [hF, if_false, Bool.false_eq_true] at d1 d5
                  clear hF
                  have HW3 := Lib.hid (HW2.out.trans (((Below.refl w7.heap.size w7).alloc (Nat.le_refl _) (.cells #[.pointer none, .string mB, .int .i32 0, .int .u32 0, .int .u16 0, .int .u8 13, .int .u8 a2] 38)).mono HW2.out.size))
                  go_wp2_with fail
                  exact ⟨⟨q + 1, by omega, by go_num, HW3⟩, by simp [intOf]; omega⟩
            · have q1 : (j : Int) ≤ q := by omega
              have HBF := Lib.hid (HB6.out.trans (HW.out.mono HB6.out.size))
              clear HW
              go_wp2_with fail
              go_ret
              exact ⟨rfl, HBF.out⟩

set_option maxRecDepth 100000 in
theorem lifted (os : Os) (started : os.Started) (H : Type) (enc : TypeId × Value → H) :
    ReturnsInHanded {} Try.checked os 3 .any (Rows.fnProductOfIdentsSerializesWithCallersSpacingSpec.pre6 enc Try.prog Try.f3 Rows.fnProductOfIdentsSerializesWithCallersSpacingRow.domain false) (Rows.fnProductOfIdentsSerializesWithCallersSpacingSpec.post enc Try.prog Try.f3 false true false false) := by
  refine returnsInHanded_of_change (C := Try.checked) own started (by kernel_rfl) Try.func3
    (ChangeSpec.witness6 (enc := enc) (C := Try.checked) false ⟨#[], #[.slice none 0 0, .slice none 0 0, .int .u8 0], []⟩ 8 (by kernel_rfl) (by kernel_rfl) (by kernel_rfl) (by kernel_rfl)) ?_
  intro W base args ds gs before hval0 hW hcnd _
  have hval : ∀ (j : Nat) t v, Try.f3.params[j]? = some t → args[j]? = some v → Value.okWide Try.prog W .any base t v := hval0
  have hW' := hW
  obtain ⟨p, q, hA0, hV, rfl, hfz, hnd⟩ := hW
  have hA : DataW.TrodAll enc Try.prog W 0 (fun _ => true) true Try.f3.params.toList args.toList ds p := hA0
  rw [Try.params3] at hA hval
  obtain ⟨v0, vs0, d0, ds0, p0, q0, hargs, rfl, rfl, h0, r0⟩ := trodAll_cons hA
  obtain ⟨v1, vs1, d1, ds1, p1, q1, rfl, rfl, rfl, h1, r1⟩ := trodAll_cons r0
  obtain ⟨v2, vs2, d2, ds2, p2, q2, rfl, rfl, rfl, h2, r2⟩ := trodAll_cons r1
  obtain ⟨rfl, rfl, rfl⟩ := trodAll_nil r2
  obtain rfl : args = #[v0, v1, v2] := by cases args; simp_all
  obtain ⟨rfl, rfl⟩ := trodVars_none hV
  obtain ⟨a0, len0, cap0, rfl⟩ := okWide_slice Try.underlying22 (hval 0 22 v0 rfl rfl)
  have k0 := h0
  have lt0 : ∀ x ∈ p0, x.block < W.heap.size := by obtain ⟨m, hm⟩ := k0; exact DataW.trod_lt m _ _ _ hm
  obtain ⟨z0, w0⟩ : ∃ zs, IsRow .string (fun s => s.size ≤ maxLen) W a0 len0 cap0 zs := by
    obtain ⟨fuel, hf⟩ := h0
    exact row_of_string Try.underlying22 Try.underlying9 (by kernel_rfl) hf
  obtain ⟨a1, len1, cap1, rfl⟩ := okWide_slice Try.underlying23 (hval 1 23 v1 rfl rfl)
  have k1 := h1
  have lt1 : ∀ x ∈ p1, x.block < W.heap.size := by obtain ⟨m, hm⟩ := k1; exact DataW.trod_lt m _ _ _ hm
  obtain ⟨z1, w1⟩ : ∃ zs, IsRow .bool (fun _ => True) W a1 len1 cap1 zs := by
    obtain ⟨fuel, hf⟩ := h1
    exact row_of_bool Try.underlying23 Try.underlying4 (by kernel_rfl) hf
  obtain ⟨a2, rfl, rfl, rfl, w2⟩ := open_int Try.underlying5 (hval 2 5 v2 rfl rfl) h2
  clear hA0 hval0
  refine (walk a0 len0 cap0 z0 a1 len1 cap1 z1 a2 W w0 w1 w2).mono fun e W' ⟨he, bel⟩ => ?_
  subst he
  exact ⟨_, rfl, _, _, _, [], _, [], hW', trodAll_mk1 (shut_bool Try.underlying4 _), (trodAll_cons_mk (Below.trod laidOut (by kernel_rfl) (of_decide_eq_true (by kernel_rfl)) k0 bel lt0) (trodAll_cons_mk (Below.trod laidOut (by kernel_rfl) (of_decide_eq_true (by kernel_rfl)) k1 bel lt1) (trodAll_cons_mk (shut_int Try.underlying5 w2) trodAll_mk0))), rfl, bel.frame _, fun h => by cases h⟩

theorem over : Rows.fnProductOfIdentsSerializesWithCallersSpacingRow.holds Try.pinned (OpenSpec.ofChange Rows.fnProductOfIdentsSerializesWithCallersSpacingSpec) :=
  OpenClaim.holds_of_wide 3 Try.f3 rfl rfl rfl rfl rfl rfl rfl ⟨rfl, rfl, rfl, rfl, rfl⟩ rfl rfl rfl rfl rfl (by kernel_rfl) Try.func3 (by kernel_rfl)
    (of_decide_eq_true (by kernel_rfl)) (by unfold Func.isWrapper; first | (rw [if_pos (by decide +kernel)]; kernel_rfl) | (rw [if_neg (by decide +kernel)]; exact ⟨rfl, rfl⟩))
    (fun os started H enc _ => lifted os started H enc)

/-- THE STATEMENT -/
theorem proved : Rows.FnProductOfIdentsSerializesWithCallersSpacingSaid := over
#print axioms proved
end Go.Proofs.Ytbjcolglkegicaa.fnProductOfIdentsSerializesWithCallersSpacing
