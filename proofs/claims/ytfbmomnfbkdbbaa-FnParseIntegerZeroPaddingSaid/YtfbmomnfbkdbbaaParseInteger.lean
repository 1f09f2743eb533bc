/-
  For every non-empty text up to 1 MiB and every k in 0..65536, putting k zeros in front of the text leaves the answer of parseInteger unchanged: the Go law FnParseIntegerZeroPadding returns true for every input. No condition.
-/
import Derived.Test.YtfbmomnfbkdbbaaRows
import Derived.WalkKit
import Derived.ProofKit
import Derived.OpenShut
import Derived.ShutString
import Derived.ChangeOld
import Derived.Below
import Derived.Lib.Hide
import Derived.Outline
import Derived.OwnWalk
import Derived.Lib.UnsafeStr
import Derived.Laws.IdiomStrings
namespace Go.Proofs.Ytfbmomnfbkdbbaa.fnParseIntegerZeroPadding
open Go.ChangeShapes Go.WideShapes Go.ChangeAt Go.RowKit
open Go.ChangeMaps (open_string shut_string)
set_option linter.unusedVariables false

theorem own : ownKnob Try.prog.godebug = none := by kernel_rfl
theorem laidOut : laidOutB Try.prog = true := by kernel_rfl

def isDg (c : UInt8) : Bool := decide (48 ≤ c.toNat ∧ c.toNat ≤ 57)
def stripZ (l : List UInt8) : List UInt8 := l.dropWhile (fun c => c.toNat == 48)
def piText (l : List UInt8) : List UInt8 := if (stripZ l).isEmpty then [48] else if (stripZ l).all isDg then stripZ l else []
def piOk (l : List UInt8) : Bool := (stripZ l).isEmpty || (stripZ l).all isDg
def PiPost (l : List UInt8) (w : World) (e : Ending) (w' : World) : Prop := e = .returned (.tuple #[.string ⟨(piText l).toArray⟩, .bool (piOk l)]) ∧ w = w'
theorem ret_pi {l t : List UInt8} {b : Bool} {w : World} (e : piText l = t ∧ piOk l = b) : PiPost l w (.returned (.tuple #[.string ⟨t.toArray⟩, .bool b])) w := by
  obtain ⟨rfl, rfl⟩ := e; exact ⟨rfl, rfl⟩
theorem drop_at (s : ByteArray) (k : Nat) (h : k < s.size) : s.data.toList.drop k = s[k] :: s.data.toList.drop (k + 1) := by
  rw [List.drop_eq_getElem_cons (by simpa using h)]; rfl
theorem strip_yes (s : ByteArray) (k : Nat) (h : k < s.size) (hz : s[k].toNat = 48) : stripZ (s.data.toList.drop k) = stripZ (s.data.toList.drop (k + 1)) := by
  rw [drop_at s k h, stripZ, List.dropWhile_cons, if_pos (by simp [hz])]; rfl
theorem strip_no (s : ByteArray) (k : Nat) (h : k < s.size) (hz : ¬ s[k].toNat = 48) : stripZ (s.data.toList.drop k) = s.data.toList.drop k := by
  rw [drop_at s k h, stripZ, List.dropWhile_cons, if_neg (by simp [hz])]
theorem drop_end (s : ByteArray) (k : Nat) (h : ¬ k < s.size) : s.data.toList.drop k = [] := List.drop_eq_nil_of_le (by simp; omega)
theorem pi_zero (l : List UInt8) (h : stripZ l = []) : piText l = [48] ∧ piOk l = true := by simp [piText, piOk, h]
theorem pi_yes (l : List UInt8) (h : stripZ l ≠ []) (ha : (stripZ l).all isDg = true) : piText l = stripZ l ∧ piOk l = true := by simp [piText, piOk, h, ha]
theorem pi_no (l : List UInt8) (h : stripZ l ≠ []) (ha : (stripZ l).all isDg = false) : piText l = [] ∧ piOk l = false := by simp [piText, piOk, h, ha]
theorem pi_zeros (k : Nat) (l : List UInt8) : stripZ (List.replicate k 48 ++ l) = stripZ l := by
  induction k with
  | zero => rfl
  | succ k ih => rw [List.replicate_succ, List.cons_append, stripZ, List.dropWhile_cons, if_pos (by decide)]; exact ih
theorem ext_drop (s : ByteArray) (k : Nat) : (s.extract k s.size) = ⟨(s.data.toList.drop k).toArray⟩ := by
  apply ByteArray.ext
  apply Array.ext'
  simp [ByteArray.data_extract, List.take_of_length_le]

set_option maxRecDepth 100000 in
set_option maxHeartbeats 1000000 in
theorem parseInt_any (s : ByteArray) (w : World) (h0 : 0 < s.size) (hs : s.size ≤ maxLen) :
    Calls Try.prog 36 #[.string s] w (PiPost s.data.toList w) := by
  unfold maxLen at hs
  have hne : ((s.size : Int) == 0) = false := beq_eq_false_iff_ne.2 (by omega)
  go_enter Try.func36, Try.ntmps36
  go_wp2
  go_loop [5] (fun i => ∃ k : Nat, k ≤ s.size ∧ i = .int .i64 k ∧ Hid (stripZ (s.data.toList.drop k) = stripZ s.data.toList)) (fun i => s.size - (intOf i).toNat)
  case atStart => exact ⟨0, Nat.zero_le _, rfl, Lib.hid rfl⟩
  case round =>
    obtain ⟨k, hk, rfl, HR⟩ := hrel
    by_cases hlt : k < s.size
    · by_cases hz : s[k].toNat = 48
      · have HN : Hid (stripZ (s.data.toList.drop (k + 1)) = stripZ s.data.toList) := Lib.hid (by rw [← strip_yes s k hlt hz]; exact HR.out)
        have hb : ((s[k].toNat : Int) == 48) = true := by simp [hz]
        clear hz
        go_wp2
        go_round
        case rel => exact ⟨k + 1, by omega, by go_num, HN⟩
        case measure => simp [intOf]; omega
      · have HN : Hid (stripZ s.data.toList = s.data.toList.drop k) := Lib.hid (by rw [← strip_no s k hlt hz]; exact HR.out.symm)
        have HE : Hid (stripZ s.data.toList ≠ []) := Lib.hid (by rw [HN.out, drop_at s k hlt]; simp)
        have hb : ((s[k].toNat : Int) == 48) = false := by simp; omega
        have hkn : ((k : Int) == (s.size : Int)) = false := by simp; omega
        clear hz
        go_wp2
        go_loop [6] (fun i => ∃ j : Nat, k ≤ j ∧ j ≤ s.size ∧ i = .int .i64 j ∧ Hid ((s.data.toList.drop k).all isDg = (s.data.toList.drop j).all isDg)) (fun i => s.size - (intOf i).toNat)
        case atStart => exact ⟨k, Nat.le_refl _, by omega, rfl, Lib.hid rfl⟩
        case round =>
          obtain ⟨j, hkj, hj, rfl, HA⟩ := hrel
          by_cases hjl : j < s.size
          · by_cases hd : 48 ≤ s[j].toNat ∧ s[j].toNat ≤ 57
            · have HA' : Hid ((s.data.toList.drop k).all isDg = (s.data.toList.drop (j + 1)).all isDg) := Lib.hid (by rw [HA.out, drop_at s j hjl, List.all_cons]; simp [isDg, hd])
              have d1 : ¬ ((s[j].toNat : Int) < 48) := by omega
              have d2 : ¬ ((57 : Int) < (s[j].toNat : Int)) := by omega
              clear hd
              go_wp2
              go_round
              case rel => exact ⟨j + 1, by omega, by omega, by go_num, HA'⟩
              case measure => simp [intOf]; omega
            · have HF : Hid ((stripZ s.data.toList).all isDg = false) := Lib.hid (by rw [HN.out, HA.out, drop_at s j hjl, List.all_cons]; simp [isDg]; omega)
              by_cases h48 : s[j].toNat < 48
              · have d1 : ((s[j].toNat : Int) < 48) := by omega
                clear hd
                go_wp2
                go_ret2
                exact ret_pi (pi_no _ HE.out HF.out)
              · have d1 : ¬ ((s[j].toNat : Int) < 48) := by omega
                have d2 : ((57 : Int) < (s[j].toNat : Int)) := by omega
                clear hd
                go_wp2
                go_ret2
                exact ret_pi (pi_no _ HE.out HF.out)
          · have HF : Hid ((stripZ s.data.toList).all isDg = true) := Lib.hid (by rw [HN.out, HA.out, drop_end s j hjl]; rfl)
            go_wp2
            go_ret2
            have h := ret_pi (w := w) (pi_yes _ HE.out HF.out)
            rw [HN.out, ← ext_drop] at h
            exact h
    · have HN : Hid (stripZ s.data.toList = []) := Lib.hid (by rw [← HR.out, drop_end s k hlt]; rfl)
      have hkn : ((k : Int) == (s.size : Int)) = true := by simp; omega
      have hkl : decide ((k : Int) < (s.size : Int)) = false := by simp; omega
      go_wp2
      go_ret2
      exact ret_pi (pi_zero _ HN.out)
theorem zzInt_any (s : ByteArray) (w : World) (h0 : 0 < s.size) (hs : s.size ≤ maxLen) :
    Calls Try.prog 21 #[.string s] w (PiPost s.data.toList w) := by
  go_enter Try.func21, Try.ntmps21
  go_wp2_with fail
  refine (parseInt_any s _ h0 hs).mono ?_
  rintro e w' ⟨rfl, rfl⟩
  go_wp2
  go_ret2
  exact ⟨rfl, rfl⟩
theorem info5 : (Try.prog.info? 5).map (fun i => (i.zero, i.size, i.bytes)) = some (some (.int .u8 0), 1, 1) := by kernel_rfl
def bufZ (k : Nat) : List UInt8 := List.replicate k 48
theorem bufZ_snoc (k : Nat) : Lib.byteCells (bufZ (k + 1)) = Lib.byteCells (bufZ k) ++ [Value.int .u8 48] := by
  simp [bufZ, Lib.byteCells, List.replicate_succ']
theorem cell_one (w : World) (x : Value) (t : TypeId) : ∀ j u, [x][j]? = some u → (w.alloc (.cells #[x] t)).cell? ((⟨w.heap.size, 0, none⟩ : Addr).add j) = some u := by
  intro j u' hj
  match j, hj with
  | 0, hj => simp at hj; subst hj; simp [Addr.add]
theorem one_one (n : Int) : ∀ u ∈ [Value.int .u8 n], u.oneCell' = true := by intro u' hu'; simp at hu'; subst hu'; rfl
def bufT (p : Nat) (s : ByteArray) (j : Nat) : List UInt8 := List.replicate p 48 ++ s.data.toList.take j
theorem bufT_length (p : Nat) (s : ByteArray) : (bufT p s s.size).length = p + s.size := by simp [bufT]
theorem bufT_snoc (p : Nat) (s : ByteArray) (j : Nat) (h : j < s.size) : Lib.byteCells (bufT p s (j + 1)) = Lib.byteCells (bufT p s j) ++ [Value.int .u8 (s[j].toNat : Int)] := by
  have e : s.data.toList.take (j + 1) = s.data.toList.take j ++ [s[j]] := by
    rw [List.take_succ_eq_append_getElem (by simpa using h)]; rfl
  simp [bufT, Lib.byteCells, e]
theorem pi_same (p : Nat) (s : ByteArray) : piText (bufT p s s.size) = piText s.data.toList ∧ piOk (bufT p s s.size) = piOk s.data.toList := by
  have e : stripZ (bufT p s s.size) = stripZ s.data.toList := by
    rw [bufT, pi_zeros, List.take_of_length_le (by simp)]
  exact ⟨by simp only [piText, e], by simp only [piOk, e]⟩

set_option maxRecDepth 100000 in
set_option maxHeartbeats 4000000 in
/-- THE WALK -/
theorem walk (a0 : ByteArray) (a1 : Int) (w : World) (w0 : a0.size ≤ maxLen) (w1 : (Lit.int .i64 a1).wf = true) :
    Calls Try.prog 7 #[.string a0, .int .i64 a1] w fun e w' => e = .returned (.bool true) ∧ Below w.heap.size w w' := by
  have q1 : -9223372036854775808 ≤ a1 ∧ a1 ≤ 9223372036854775807 := by simpa [Lit.wf, IntKind.min, IntKind.max, IntKind.bits, IntKind.signed] using w1
  obtain ⟨q1, q2⟩ := q1
  clear w1
  obtain ⟨i0, hi, hz0, hz1, hz2⟩ := info_parts info5
  unfold maxLen at w0
  by_cases c0 : (a0.size : Int) ≤ 1048576
  case neg =>
    go_enter Try.func7, Try.ntmps7
    go_wp2
    go_ret
    exact ⟨rfl, Below.refl _ _⟩
  by_cases c1 : a1 < 0
  · go_enter Try.func7, Try.ntmps7
    go_wp2
    go_ret
    exact ⟨rfl, Below.refl _ _⟩
  by_cases c2 : 65536 < a1
  · go_enter Try.func7, Try.ntmps7
    go_wp2
    go_ret
    exact ⟨rfl, Below.refl _ _⟩
  by_cases c3 : 0 < a0.size
  case neg =>
    have hne : ((a0.size : Int) == 0) = true := beq_iff_eq.2 (by omega)
    go_enter Try.func7, Try.ntmps7
    go_wp2
    go_ret
    exact ⟨rfl, Below.refl _ _⟩
  obtain ⟨p, rfl⟩ := Int.eq_ofNat_of_zero_le (show 0 ≤ a1 by omega)
  have hp : (p : Int) ≤ 65536 := by omega
  clear c1 c2 q1 q2
  have hne : ((a0.size : Int) == 0) = false := beq_eq_false_iff_ne.2 (by omega)
  go_enter Try.func7, Try.ntmps7
  go_wp2_with (first | (at_make; refine wpList_make_own _ rfl _ _ 33 rfl w.heap.size 5 i0 (.int .u8 0) 1 Try.underlying33 hi hz0 hz1 .i64 .i64 _ (p + a0.size) rfl rfl ?c1 ?c2 ?c3 (Nat.le_refl _) ?_) | go_in)
  case c1 => simp
  case c2 => rw [hz2]; omega
  case c3 => unfold maxLen; omega
  intro w1 hown1 hg1
  have hb1 : Below w.heap.size w w1 := (Below.refl _ _).grown hg1 (Nat.le_refl _) (fun k hk => by simp at hk)
  clear hg1
  go_wp2
  go_loopw [5, 6] (fun b i wr => ∃ k : Nat, k ≤ p ∧ i = .int .i64 k ∧ wr.ownsRow w.heap.size 5 1 b k (Lib.byteCells (bufZ k)) ∧ Below w.heap.size w wr) (fun _ i _ => p - (intOf i).toNat)
  case atStart => exact ⟨0, Nat.zero_le _, rfl, hown1, hb1⟩
  case round =>
    clear hown1 hb1
    obtain ⟨k, hk, rfl, hown, hbel⟩ := hrel
    have hsz := hbel.size
    by_cases hlt : k < p
    · go_wp2_with (at_builtin; refine wpList_append_own _ rfl _ _ 33 rfl w.heap.size 5 i0 (.int .u8 0) 1 1 Try.underlying33 hi hz0 hz1 hz2 rfl (by decide) _ _ _ rfl (hown.alloc _) ⟨wr.heap.size, 0, none⟩ 1 1 [Value.int .u8 48] rfl rfl (cell_one _ _ _) (one_one _) ?c1 ?c2 ?c3 ?_)
      case c1 => unfold maxLen; omega
      case c2 => omega
      case c3 => simp; omega
      intro v' w2 hown2 hgrow _
      have hb2 : Below w.heap.size w w2 := (hbel.alloc (by omega) _).grown hgrow (by simp; omega) (fun k hk => (hown.lt k hk).1)
      rw [← bufZ_snoc] at hown2
      clear hgrow hown hbel
      go_wp2
      go_roundw
      case rel => exact ⟨k + 1, by omega, by go_num, hown2, hb2⟩
      case measure => simp [intOf]; omega
    · obtain rfl : k = p := by omega
      have hown' : wr.ownsRow w.heap.size 5 1 u5 (k + 0) (Lib.byteCells (bufT k a0 0)) := by simpa [bufT, bufZ] using hown
      clear hown
      obtain ⟨wo, rfl⟩ : ∃ wo : World, wo = wr := ⟨_, rfl⟩
      go_wp2
      go_loopw [5, 7] (fun b i wr => ∃ j : Nat, j ≤ a0.size ∧ i = .int .i64 j ∧ wr.ownsRow w.heap.size 5 1 b (k + j) (Lib.byteCells (bufT k a0 j)) ∧ Below w.heap.size w wr) (fun _ i _ => a0.size - (intOf i).toNat)
      case atStart => exact ⟨0, by omega, rfl, hown', hbel⟩
      case round =>
        clear hown' hbel
        obtain ⟨j, hj, rfl, hown, hbel⟩ := hrel
        have hsz := hbel.size
        by_cases hlt : j < a0.size
        · have HS := Lib.hid (bufT_snoc k a0 j hlt)
          go_wp2_with (at_builtin; refine wpList_append_own _ rfl _ _ 33 rfl w.heap.size 5 i0 (.int .u8 0) 1 1 Try.underlying33 hi hz0 hz1 hz2 rfl (by decide) _ _ _ rfl (hown.alloc _) ⟨wr.heap.size, 0, none⟩ 1 1 [Value.int .u8 (a0[j].toNat : Int)] rfl rfl (cell_one _ _ _) (one_one _) ?c1 ?c2 ?c3 ?_)
          case c1 => unfold maxLen; omega
          case c2 => omega
          case c3 => simp; omega
          intro v' w2 hown2 hgrow _
          have hb2 : Below w.heap.size w w2 := (hbel.alloc (by omega) _).grown hgrow (by simp; omega) (fun k hk => (hown.lt k hk).1)
          rw [← HS.out] at hown2
          clear hgrow hown hbel
          go_wp2
          go_roundw
          case rel => exact ⟨j + 1, by omega, by go_num, hown2, hb2⟩
          case measure => simp [intOf]; omega
        · obtain rfl : j = a0.size := by omega
          have hlen := bufT_length k a0
          obtain ⟨e1, e2⟩ := pi_same k a0
          rw [← hlen] at hown
          generalize bufT k a0 a0.size = l at *
          have HE1 := Lib.hid e1
          have HE2 := Lib.hid e2
          have HL := Lib.hid hlen
          have hpos : 0 < l.length := by omega
          clear e1 e2 hlen
          rcases hown.2 with ⟨-, h0⟩ | ⟨g, cap, cur, rfl, -, -, -, -, -, -⟩
          · omega
          · have hcv := run_convert_bytes_back (P := Try.prog) wr 33 9 5 ⟨g, 0, none⟩ cap l Try.underlying33 Try.underlying5 Try.underlying9 (fun j hj => hown.cells (g := g) rfl j _ (by simp [Lib.byteCells, hj]))
            go_wp2_with fail
            refine (zzInt_any a0 _ c3 (by unfold maxLen; omega)).mono ?_
            rintro e w' ⟨rfl, rfl⟩
            go_wp2_with fail
            refine (zzInt_any ⟨l.toArray⟩ _ hpos (by unfold maxLen; show l.length ≤ _; have := HL.out; omega)).mono ?_
            rintro e w' ⟨rfl, rfl⟩
            rw [show piText (ByteArray.mk l.toArray).data.toList = piText a0.data.toList from HE1.out, show piOk (ByteArray.mk l.toArray).data.toList = piOk a0.data.toList from HE2.out]
            go_wp2
            go_ret
            exact ⟨rfl, hbel⟩

set_option maxRecDepth 100000 in
theorem lifted (os : Os) (started : os.Started) (H : Type) (enc : TypeId × Value → H) :
    ReturnsInHanded {} Try.checked os 7 .any (Rows.fnParseIntegerZeroPaddingSpec.pre6 enc Try.prog Try.f7 Rows.fnParseIntegerZeroPaddingRow.domain false) (Rows.fnParseIntegerZeroPaddingSpec.post enc Try.prog Try.f7 false true false false) := by
  refine returnsInHanded_of_change (C := Try.checked) own started (by kernel_rfl) Try.func7
    (ChangeSpec.witness6 (enc := enc) (C := Try.checked) false ⟨#[], #[.string ByteArray.empty, .int .i64 0], []⟩ 8 (by kernel_rfl) (by kernel_rfl) (by kernel_rfl) (by kernel_rfl)) ?_
  intro W base args ds gs before hval0 hW hcnd _
  have hval : ∀ (j : Nat) t v, Try.f7.params[j]? = some t → args[j]? = some v → Value.okWide Try.prog W .any base t v := hval0
  have hW' := hW
  obtain ⟨p, q, hA0, hV, rfl, hfz, hnd⟩ := hW
  have hA : DataW.TrodAll enc Try.prog W 0 (fun _ => true) true Try.f7.params.toList args.toList ds p := hA0
  rw [Try.params7] at hA hval
  obtain ⟨v0, vs0, d0, ds0, p0, q0, hargs, rfl, rfl, h0, r0⟩ := trodAll_cons hA
  obtain ⟨v1, vs1, d1, ds1, p1, q1, rfl, rfl, rfl, h1, r1⟩ := trodAll_cons r0
  obtain ⟨rfl, rfl, rfl⟩ := trodAll_nil r1
  obtain rfl : args = #[v0, v1] := by cases args; simp_all
  obtain ⟨rfl, rfl⟩ := trodVars_none hV
  obtain ⟨a0, rfl, rfl, rfl, w0⟩ := open_string Try.underlying9 (hval 0 9 v0 rfl rfl) h0
  obtain ⟨a1, rfl, rfl, rfl, w1⟩ := open_int Try.underlying3 (hval 1 3 v1 rfl rfl) h1
  clear hA0 hval0
  refine (walk a0 a1 W w0 w1).mono fun e W' ⟨he, bel⟩ => ?_
  subst he
  exact ⟨_, rfl, _, _, _, [], _, [], hW', trodAll_mk1 (shut_bool Try.underlying4 _), (trodAll_cons_mk (shut_string Try.underlying9 w0) (trodAll_cons_mk (shut_int Try.underlying3 w1) trodAll_mk0)), rfl, bel.frame _, fun h => by cases h⟩

theorem over : Rows.fnParseIntegerZeroPaddingRow.holds Try.pinned (OpenSpec.ofChange Rows.fnParseIntegerZeroPaddingSpec) :=
  OpenClaim.holds_of_wide 7 Try.f7 rfl rfl rfl rfl rfl rfl rfl ⟨rfl, rfl, rfl, rfl, rfl⟩ rfl rfl rfl rfl rfl (by kernel_rfl) Try.func7 (by kernel_rfl)
    (of_decide_eq_true (by kernel_rfl)) (by unfold Func.isWrapper; first | (rw [if_pos (by decide +kernel)]; kernel_rfl) | (rw [if_neg (by decide +kernel)]; exact ⟨rfl, rfl⟩))
    (fun os started H enc _ => lifted os started H enc)

/-- THE STATEMENT -/
theorem proved : Rows.FnParseIntegerZeroPaddingSaid := over
#print axioms proved
end Go.Proofs.Ytfbmomnfbkdbbaa.fnParseIntegerZeroPadding
