/-
  For every 32-bit word, its eight-digit hex spelling in lower or upper case, preceded by up to 255 zeros, is parsed back by parseHex to the same word with ok = true: the Go law FnParseHexReadsFormattedWord returns true for every input. No condition.
-/
import Derived.Test.YtfbmomnfbkdbbaaRows
import Derived.WalkKit
import Derived.ProofKit
import Derived.OpenShut
import Derived.ShutString
import Derived.ChangeOld
import Derived.Below
import Derived.Lib.Hide
import Derived.Outline
import Derived.Laws.BitsAllLaws
import Derived.Laws.RangeAny
import Derived.OwnWalk
import Derived.Lib.UnsafeStr
import Derived.Laws.IdiomStrings
namespace Go.Proofs.Ytfbmomnfbkdbbaa.fnParseHexReadsFormattedWord
open Go.ChangeShapes Go.WideShapes Go.ChangeAt Go.RowKit
open Go.ChangeMaps (open_string shut_string)
set_option linter.unusedVariables false

theorem own : ownKnob Try.prog.godebug = none := by kernel_rfl
theorem laidOut : laidOutB Try.prog = true := by kernel_rfl

def hv (n : Nat) : Nat := if n ≤ 57 then n - 48 else if 97 ≤ n then n - 87 else n - 55
def isHex (n : Nat) : Prop := (48 ≤ n ∧ n ≤ 57) ∨ (97 ≤ n ∧ n ≤ 102) ∨ (65 ≤ n ∧ n ≤ 70)
def hexStep (a : Nat) (c : UInt8) : Nat := a * 16 % 4294967296 + hv c.toNat
def hexTo (l : List UInt8) : Nat := l.foldl hexStep 0
theorem hv_lt (n : Nat) (h : isHex n) : hv n < 16 := by unfold isHex at h; unfold hv; split <;> (try split) <;> omega
theorem hexStep_lt (a : Nat) (c : UInt8) (h : isHex c.toNat) : hexStep a c < 4294967296 := by
  have := hv_lt _ h
  unfold hexStep
  omega
theorem take_snoc (s : ByteArray) (k : Nat) (h : k < s.size) : s.data.toList.take (k + 1) = s.data.toList.take k ++ [s[k]] := by
  rw [List.take_succ_eq_append_getElem (by simpa using h)]; rfl
theorem hexTo_snoc (l : List UInt8) (c : UInt8) : hexTo (l ++ [c]) = hexStep (hexTo l) c := by simp [hexTo, List.foldl_append]
theorem or_dig (a d : Nat) (hd : d < 16) : bits BinOp.or IntKind.u32 ((a : Int) * 16 % 4294967296) (d : Int) = ((a * 16 % 4294967296 + d : Nat) : Int) := by
  have e : ((a : Int) * 16 % 4294967296) = ((a * 16 % 4294967296 : Nat) : Int) := by omega
  have h : (a * 16 % 4294967296) ||| d = a * 16 % 4294967296 + d := by
    have := Nat.two_pow_add_eq_or_of_lt (i := 4) (b := d) (by omega) (a % 268435456)
    rw [show 2 ^ 4 * (a % 268435456) = a * 16 % 4294967296 by omega] at this
    exact this.symm
  rw [e, u32_or_nat _ _ (by omega) (by omega), h]
theorem ret2 {A B : Int} {b : Bool} (h : A = B) : Ending.returned (.tuple #[.int .u32 A, .bool b]) = .returned (.tuple #[.int .u32 B, .bool b]) := by rw [h]

set_option maxRecDepth 100000 in
set_option maxHeartbeats 1000000 in
theorem parseHex_any (s : ByteArray) (w : World) (hh : ∀ k (h : k < s.size), isHex (s[k]'h).toNat) :
    Calls Try.prog 35 #[.string s] w fun e w' => e = .returned (.tuple #[.int .u32 (hexTo s.data.toList), .bool true]) ∧ ∃ pos, w' = w.iter s pos := by
  have HH := Lib.hid hh
  clear hh
  go_enter Try.func35, Try.ntmps35
  go_wp2
  go_loopw [4] (fun n w' => ∃ (pos : Nat), pos ≤ s.size ∧ w' = w.iter s pos ∧ n = .int .u32 (hexTo (s.data.toList.take pos)) ∧ hexTo (s.data.toList.take pos) < 4294967296) (fun _ w' => s.size - w'.iterPos w.heap.size)
  case atStart => exact ⟨0, by omega, rfl, rfl, by simp [hexTo]⟩
  case round =>
    obtain ⟨pos, hpos, rfl, rfl, hA⟩ := hrel
    by_cases hp : pos < s.size
    · have hx := HH.out pos hp
      have hb : (s[pos]'hp).toNat < 128 := by unfold isHex at hx; omega
      have hnx : ∀ ty, (Instr.next (.pointer (some ⟨w.heap.size, 0, none⟩)) true ty).run Try.prog (w.iter s pos) = _ := fun ty => run_next_ascii w s pos ty hp hb
      have HS : Hid (hexTo (s.data.toList.take (pos + 1)) = hexTo (s.data.toList.take pos) * 16 % 4294967296 + hv (s[pos]'hp).toNat) := by
        rw [take_snoc s pos hp, hexTo_snoc]; rfl
      have HB : hv (s[pos]'hp).toNat < 16 := hv_lt _ hx
      generalize hexTo (s.data.toList.take pos) = A at *
      generalize (s[pos]'hp).toNat = n at *
      have HN := Lib.hid hx
      clear hx
      rcases HN.out with ⟨c1, c2⟩ | ⟨c1, c2⟩ | ⟨c1, c2⟩
      · have e := or_dig A (n - 48) (by omega)
        rw [show (((n - 48 : Nat) : Int)) = (n : Int) - 48 by omega] at e
        have HV : Hid (hv n = n - 48) := by unfold hv; rw [if_pos c2]; exact rfl
        clear HB hb
        have d1 : (48 : Int) ≤ n := by omega
        have d2 : (n : Int) ≤ 57 := by omega
        go_wp2
        go_roundw
        case rel => exact ⟨pos + 1, by omega, rfl, by rw [HS.out, HV.out]; exact congrArg (Value.int .u32) (by omega), by rw [HS.out, HV.out]; omega⟩
        case measure => simp; omega
      · have e := or_dig A (n - 87) (by omega)
        rw [show (((n - 87 : Nat) : Int)) = (n : Int) - 87 by omega] at e
        have HV : Hid (hv n = n - 87) := by unfold hv; rw [if_neg (by omega), if_pos c1]; exact rfl
        clear HB hb
        have d1 : (97 : Int) ≤ n := by omega
        have d2 : (n : Int) ≤ 102 := by omega
        go_wp2
        go_roundw
        case rel => exact ⟨pos + 1, by omega, rfl, by rw [HS.out, HV.out]; exact congrArg (Value.int .u32) (by omega), by rw [HS.out, HV.out]; omega⟩
        case measure => simp; omega
      · have e := or_dig A (n - 55) (by omega)
        rw [show (((n - 55 : Nat) : Int)) = (n : Int) - 55 by omega] at e
        have HV : Hid (hv n = n - 55) := by unfold hv; rw [if_neg (by omega), if_neg (by omega)]; exact rfl
        clear HB hb
        have d1 : (65 : Int) ≤ n := by omega
        have d2 : (n : Int) ≤ 70 := by omega
        go_wp2
        go_roundw
        case rel => exact ⟨pos + 1, by omega, rfl, by rw [HS.out, HV.out]; exact congrArg (Value.int .u32) (by omega), by rw [HS.out, HV.out]; omega⟩
        case measure => simp; omega
    · have hnx : ∀ ty, (Instr.next (.pointer (some ⟨w.heap.size, 0, none⟩)) true ty).run Try.prog (w.iter s pos) = _ := fun ty => run_next_end w s pos ty hp
      go_wp2
      go_ret2
      refine ⟨ret2 ?_, _, rfl⟩
      rw [List.take_of_length_le (by simp; omega)]

theorem ret_int {k : IntKind} {a b : Int} (h : a = b) : Ending.returned (.int k a) = .returned (.int k b) := by rw [h]
def nibN (v i : Nat) : Nat := v / 16 ^ i % 16
theorem nibN_lt (v i : Nat) : nibN v i < 16 := Nat.mod_lt _ (by decide)
set_option maxRecDepth 100000 in
set_option maxHeartbeats 1000000 in
theorem nib_any (v : Nat) (x : Int) (hv : (v : Int) < 4294967296) (h0 : 0 ≤ x) (hx : x ≤ 7) (w : World) :
    Calls Try.prog 18 #[.int .u32 v, .int .i64 x] w fun e w' => e = .returned (.int .u32 (nibN v x.toNat)) ∧ w = w' := by
  obtain ⟨i, rfl⟩ := Int.eq_ofNat_of_zero_le h0
  rw [Int.toNat_natCast]
  go_enter Try.func18, Try.ntmps18
  go_wp2
  go_loop [0, 5] (fun x k => ∃ j : Nat, j ≤ i ∧ k = .int .i64 j ∧ x = .int .u32 (v / 16 ^ j : Nat)) (fun _ k => i - (intOf k).toNat)
  case atStart => exact ⟨0, Nat.zero_le _, rfl, by simp⟩
  case round =>
    obtain ⟨j, hj, rfl, rfl⟩ := hrel
    have hb : v / 16 ^ j ≤ v := Nat.div_le_self _ _
    have HS : Hid (v / 16 ^ (j + 1) = v / 16 ^ j / 16) := by rw [Nat.pow_succ, Nat.div_div_eq_div_mul]; rfl
    have HI : Hid (j = i → v / 16 ^ j % 16 = nibN v i) := by intro h; rw [h]; rfl
    generalize v / 16 ^ j = x at *
    by_cases hlt : j < i
    · go_wp2
      go_round
      case rel => exact ⟨j + 1, by omega, by go_num, by rw [HS.out]; exact congrArg (Value.int .u32) (by omega)⟩
      case measure => simp [intOf]; omega
    · go_wp2
      go_ret
      refine ⟨ret_int ?_, rfl⟩
      rw [← HI.out (by omega)]
      omega

theorem zz_any (s : ByteArray) (w : World) (hh : ∀ k (h : k < s.size), isHex (s[k]'h).toNat) :
    Calls Try.prog 19 #[.string s] w fun e w' => e = .returned (.tuple #[.int .u32 (hexTo s.data.toList), .bool true]) ∧ ∃ pos, w' = w.iter s pos := by
  have HH := Lib.hid hh
  clear hh
  go_enter Try.func19, Try.ntmps19
  go_wp2_with fail
  refine (parseHex_any s _ HH.out).mono ?_
  rintro e w' ⟨rfl, pos, rfl⟩
  go_wp2
  go_ret2
  exact ⟨rfl, pos, rfl⟩

def dgN (up : Bool) (d : Nat) : Nat := if d < 10 then 48 + d else if up then 55 + d else 87 + d
def digs (v : Nat) (up : Bool) : Nat → List UInt8
  | 0 => []
  | j + 1 => digs v up j ++ [UInt8.ofNat (dgN up (nibN v (7 - j)))]
theorem info5 : (Try.prog.info? 5).map (fun i => (i.zero, i.size, i.bytes)) = some (some (.int .u8 0), 1, 1) := by kernel_rfl
theorem idxU (d : Nat) (h : d < 16) (w : World) : (Instr.index 9 (.string { data := #[48, 49, 50, 51, 52, 53, 54, 55, 56, 57, 65, 66, 67, 68, 69, 70] }) (.int .u32 d)).run Try.prog w = .ok (.int .u8 (dgN true d)) w := by
  have : d = 0 ∨ d = 1 ∨ d = 2 ∨ d = 3 ∨ d = 4 ∨ d = 5 ∨ d = 6 ∨ d = 7 ∨ d = 8 ∨ d = 9 ∨ d = 10 ∨ d = 11 ∨ d = 12 ∨ d = 13 ∨ d = 14 ∨ d = 15 := by omega
  rcases this with rfl | rfl | rfl | rfl | rfl | rfl | rfl | rfl | rfl | rfl | rfl | rfl | rfl | rfl | rfl | rfl <;> rfl
theorem idxL (d : Nat) (h : d < 16) (w : World) : (Instr.index 9 (.string { data := #[48, 49, 50, 51, 52, 53, 54, 55, 56, 57, 97, 98, 99, 100, 101, 102] }) (.int .u32 d)).run Try.prog w = .ok (.int .u8 (dgN false d)) w := by
  have : d = 0 ∨ d = 1 ∨ d = 2 ∨ d = 3 ∨ d = 4 ∨ d = 5 ∨ d = 6 ∨ d = 7 ∨ d = 8 ∨ d = 9 ∨ d = 10 ∨ d = 11 ∨ d = 12 ∨ d = 13 ∨ d = 14 ∨ d = 15 := by omega
  rcases this with rfl | rfl | rfl | rfl | rfl | rfl | rfl | rfl | rfl | rfl | rfl | rfl | rfl | rfl | rfl | rfl <;> rfl

theorem digs_length (v : Nat) (up : Bool) : ∀ j, (digs v up j).length = j
  | 0 => rfl
  | j + 1 => by simp [digs, digs_length v up j]
def bufS (p v : Nat) (up : Bool) (j : Nat) : List UInt8 := List.replicate p 48 ++ digs v up j
theorem bufS_length (p v : Nat) (up : Bool) (j : Nat) : (bufS p v up j).length = p + j := by simp [bufS, digs_length]
theorem dgN_lt (up : Bool) (d : Nat) (h : d < 16) : dgN up d < 256 := by unfold dgN; split <;> (try split) <;> omega
theorem bufS_snoc (p v : Nat) (up : Bool) (j : Nat) : Lib.byteCells (bufS p v up (j + 1)) = Lib.byteCells (bufS p v up j) ++ [Value.int .u8 (dgN up (nibN v (7 - j)))] := by
  have h := dgN_lt up _ (nibN_lt v (7 - j))
  simp only [bufS, digs, Lib.byteCells, List.map_append, List.map_cons, List.map_nil, List.append_assoc]
  simp [Nat.mod_eq_of_lt h]
def bufZ (k : Nat) : List UInt8 := List.replicate k 48
theorem bufZ_snoc (k : Nat) : Lib.byteCells (bufZ (k + 1)) = Lib.byteCells (bufZ k) ++ [Value.int .u8 48] := by
  simp [bufZ, Lib.byteCells, List.replicate_succ']
theorem cell_one (w : World) (x : Value) (t : TypeId) : ∀ j u, [x][j]? = some u → (w.alloc (.cells #[x] t)).cell? ((⟨w.heap.size, 0, none⟩ : Addr).add j) = some u := by
  intro j u' hj
  match j, hj with
  | 0, hj => simp at hj; subst hj; simp [Addr.add]
theorem one_one (n : Int) : ∀ u ∈ [Value.int .u8 n], u.oneCell' = true := by intro u' hu'; simp at hu'; subst hu'; rfl
theorem hv_dg (up : Bool) (d : Nat) (h : d < 16) : hv (dgN up d) = d := by
  unfold hv dgN
  cases up <;> simp <;> repeat' split
  all_goals omega
theorem isHex_dg (up : Bool) (d : Nat) (h : d < 16) : isHex (dgN up d) := by
  unfold isHex dgN
  cases up <;> simp <;> repeat' split
  all_goals omega
theorem hexTo_zeros (p : Nat) (l : List UInt8) : hexTo (List.replicate p 48 ++ l) = hexTo l := by
  unfold hexTo
  rw [List.foldl_append]
  congr 1
  induction p with
  | zero => rfl
  | succ p ih => rw [List.replicate_succ, List.foldl_cons]; exact ih
theorem hexTo_digs (v : Nat) (up : Bool) (hv' : v < 4294967296) : ∀ j, j ≤ 8 → hexTo (digs v up j) = v / 16 ^ (8 - j)
  | 0, _ => by
    show 0 = v / 16 ^ 8
    omega
  | j + 1, hj => by
    have ih := hexTo_digs v up hv' j (by omega)
    have hd := nibN_lt v (7 - j)
    rw [digs, hexTo_snoc, ih, hexStep]
    have e : (UInt8.ofNat (dgN up (nibN v (7 - j)))).toNat = dgN up (nibN v (7 - j)) := by
      have := dgN_lt up _ hd
      simp; omega
    rw [e, hv_dg _ _ hd, nibN]
    have e1 : 8 - j = (7 - j) + 1 := by omega
    have e2 : 8 - (j + 1) = 7 - j := by omega
    rw [e1, e2, Nat.pow_succ, ← Nat.div_div_eq_div_mul]
    have : v / 16 ^ (7 - j) ≤ v := Nat.div_le_self _ _
    omega
theorem hexTo_buf (p v : Nat) (up : Bool) (h : v < 4294967296) : hexTo (bufS p v up 8) = v := by
  rw [bufS, hexTo_zeros, hexTo_digs v up h 8 (Nat.le_refl _)]
  simp
theorem isHex_digs (v : Nat) (up : Bool) : ∀ j, ∀ c ∈ digs v up j, isHex c.toNat
  | 0 => by simp [digs]
  | j + 1 => by
    intro c hc
    rw [digs, List.mem_append] at hc
    rcases hc with hc | hc
    · exact isHex_digs v up j c hc
    · simp at hc
      subst hc
      have hd := nibN_lt v (7 - j)
      have := dgN_lt up _ hd
      have e : (UInt8.ofNat (dgN up (nibN v (7 - j)))).toNat = dgN up (nibN v (7 - j)) := by simp; omega
      rw [e]
      exact isHex_dg _ _ hd
theorem isHex_buf (p v : Nat) (up : Bool) (j : Nat) : ∀ k (h : k < (⟨(bufS p v up j).toArray⟩ : ByteArray).size), isHex ((⟨(bufS p v up j).toArray⟩ : ByteArray)[k]'h).toNat := by
  intro k h
  have hk : k < (bufS p v up j).length := h
  have hm : (bufS p v up j)[k] ∈ List.replicate p 48 ++ digs v up j := List.getElem_mem hk
  have e : ((⟨(bufS p v up j).toArray⟩ : ByteArray)[k]'h) = (bufS p v up j)[k] := by rfl
  rw [e]
  rw [List.mem_append] at hm
  rcases hm with hm | hm
  · have := List.eq_of_mem_replicate hm
    rw [show (bufS p v up j)[k] = 48 from this]
    exact .inl ⟨by decide, by decide⟩
  · exact isHex_digs v up j _ hm

set_option maxRecDepth 100000 in
set_option maxHeartbeats 4000000 in
/-- THE WALK -/
theorem walk (a0 : Int) (a1 : Bool) (a2 : Int) (w : World) (w0 : (Lit.int .u32 a0).wf = true) (w2 : (Lit.int .u8 a2).wf = true) :
    Calls Try.prog 6 #[.int .u32 a0, .bool a1, .int .u8 a2] w fun e w' => e = .returned (.bool true) ∧ Below w.heap.size w w' := by
  have q0 : 0 ≤ a0 ∧ a0 ≤ 4294967295 := by simpa [Lit.wf, IntKind.min, IntKind.max, IntKind.bits, IntKind.signed] using w0
  have q2 : 0 ≤ a2 ∧ a2 ≤ 255 := by simpa [Lit.wf, IntKind.min, IntKind.max, IntKind.bits, IntKind.signed] using w2
  obtain ⟨v, rfl⟩ := Int.eq_ofNat_of_zero_le q0.1
  obtain ⟨p, rfl⟩ := Int.eq_ofNat_of_zero_le q2.1
  have h0 : (v : Int) < 4294967296 := by omega
  have h2 := q2.2
  clear w0 w2 q0 q2
  obtain ⟨i0, hi, hz0, hz1, hz2⟩ := info_parts info5
  go_enter Try.func6, Try.ntmps6
  go_wp2_with (at_make; refine wpList_make_own _ rfl _ _ 33 rfl w.heap.size 5 i0 (.int .u8 0) 1 Try.underlying33 hi hz0 hz1 .i64 .i64 _ (p + 8) rfl rfl ?c1 ?c2 ?c3 (Nat.le_refl _) ?_)
  case c1 => simp
  case c2 => rw [hz2]; omega
  case c3 => unfold maxLen; omega
  intro w1 hown1 hg1
  have hb1 : Below w.heap.size w w1 := (Below.refl _ _).grown hg1 (Nat.le_refl _) (fun k hk => by simp at hk)
  clear hg1
  go_wp2
  go_loopw [8, 9] (fun b i wr => ∃ k : Nat, k ≤ p ∧ i = .int .i64 k ∧ wr.ownsRow w.heap.size 5 1 b k (Lib.byteCells (bufZ k)) ∧ Below w.heap.size w wr) (fun _ i _ => p - (intOf i).toNat)
  case atStart => exact ⟨0, Nat.zero_le _, rfl, hown1, hb1⟩
  case round =>
    clear hown1 hb1
    obtain ⟨k, hk, rfl, hown, hbel⟩ := hrel
    have hsz := hbel.size
    by_cases hlt : k < p
    · go_wp2_with (at_builtin; refine wpList_append_own _ rfl _ _ 33 rfl w.heap.size 5 i0 (.int .u8 0) 1 1 Try.underlying33 hi hz0 hz1 hz2 rfl (by decide) _ _ _ rfl (hown.alloc _) ⟨wr.heap.size, 0, none⟩ 1 1 [Value.int .u8 48] rfl rfl (cell_one _ _ _) (one_one _) ?c1 ?c2 ?c3 ?_)
      case c1 => unfold maxLen; omega
      case c2 => omega
      case c3 => simp; omega
      intro v' w2 hown2 hgrow _
      have hb2 : Below w.heap.size w w2 := (hbel.alloc (by omega) _).grown hgrow (by simp; omega) (fun k hk => (hown.lt k hk).1)
      rw [← bufZ_snoc] at hown2
      clear hgrow hown hbel
      go_wp2
      go_roundw
      case rel => exact ⟨k + 1, by omega, by go_num, hown2, hb2⟩
      case measure => simp [intOf]; omega
    · obtain rfl : k = p := by omega
      have hown' : wr.ownsRow w.heap.size 5 1 u8 (k + 0) (Lib.byteCells (bufS k v a1 0)) := by simpa [bufS, digs, bufZ] using hown
      clear hown
      obtain ⟨wo, rfl⟩ : ∃ wo : World, wo = wr := ⟨_, rfl⟩
      go_wp2
      go_loopw [8, 10] (fun b i wr => ∃ (j : Nat) (x : Int), x ≤ 7 ∧ -1 ≤ x ∧ Hid ((j : Int) + x = 7) ∧ i = .int .i64 x ∧ wr.ownsRow w.heap.size 5 1 b (k + j) (Lib.byteCells (bufS k v a1 j)) ∧ Below w.heap.size w wr) (fun _ i _ => (intOf i + 1).toNat)
      case atStart => exact ⟨0, 7, by omega, by omega, Lib.hid rfl, rfl, hown', hbel⟩
      case round =>
        clear hown' hbel
        obtain ⟨j, x, hx7, hx1, HJ, rfl, hown, hbel⟩ := hrel
        have hsz := hbel.size
        by_cases hlt : 0 ≤ x
        · have hj8 : j ≤ 7 := by have := HJ.out; omega
          go_wp2_with fail
          refine (nib_any v _ h0 (by omega) (by omega) _).mono ?_
          rintro e w' ⟨rfl, rfl⟩
          rw [show x.toNat = 7 - j by have := HJ.out; omega]
          have hd := nibN_lt v (7 - j)
          have hs := bufS_snoc k v a1 j
          generalize nibN v (7 - j) = d at *
          have HS := Lib.hid hs
          clear hs
          cases a1
          · have hix := idxL d hd
            go_wp2_with (at_builtin; refine wpList_append_own _ rfl _ _ 33 rfl w.heap.size 5 i0 (.int .u8 0) 1 1 Try.underlying33 hi hz0 hz1 hz2 rfl (by decide) _ _ _ rfl (hown.alloc _) ⟨wr.heap.size, 0, none⟩ 1 1 [Value.int .u8 (dgN false d)] rfl rfl (cell_one _ _ _) (one_one _) ?c1 ?c2 ?c3 ?_)
            case c1 => unfold maxLen; omega
            case c2 => omega
            case c3 => simp; omega
            intro v' w2 hown2 hgrow _
            have hb2 : Below w.heap.size w w2 := (hbel.alloc (by omega) _).grown hgrow (by simp; omega) (fun k hk => (hown.lt k hk).1)
            rw [← HS.out] at hown2
            clear hgrow hown hbel
            go_wp2
            go_roundw
            case rel => exact ⟨j + 1, x - 1, by omega, by omega, Lib.hid (by have := HJ.out; omega), rfl, hown2, hb2⟩
            case measure => simp [intOf]; omega
          · have hix := idxU d hd
            go_wp2_with (at_builtin; refine wpList_append_own _ rfl _ _ 33 rfl w.heap.size 5 i0 (.int .u8 0) 1 1 Try.underlying33 hi hz0 hz1 hz2 rfl (by decide) _ _ _ rfl (hown.alloc _) ⟨wr.heap.size, 0, none⟩ 1 1 [Value.int .u8 (dgN true d)] rfl rfl (cell_one _ _ _) (one_one _) ?c1 ?c2 ?c3 ?_)
            case c1 => unfold maxLen; omega
            case c2 => omega
            case c3 => simp; omega
            intro v' w2 hown2 hgrow _
            have hb2 : Below w.heap.size w w2 := (hbel.alloc (by omega) _).grown hgrow (by simp; omega) (fun k hk => (hown.lt k hk).1)
            rw [← HS.out] at hown2
            clear hgrow hown hbel
            go_wp2
            go_roundw
            case rel => exact ⟨j + 1, x - 1, by omega, by omega, Lib.hid (by have := HJ.out; omega), rfl, hown2, hb2⟩
            case measure => simp [intOf]; omega
        · obtain rfl : j = 8 := by have := HJ.out; omega
          have hlen := bufS_length k v a1 8
          have hhex := isHex_buf k v a1 8
          have hfin := hexTo_buf k v a1 (by omega)
          rw [← hlen] at hown
          generalize bufS k v a1 8 = l at *
          have HF := Lib.hid hfin
          have HH := Lib.hid hhex
          have hpos : 0 < l.length := by omega
          clear hfin hhex hlen
          rcases hown.2 with ⟨-, h0⟩ | ⟨g, cap, cur, rfl, -, -, -, -, -, -⟩
          · omega
          · have hcv := run_convert_bytes_back (P := Try.prog) wr 33 9 5 ⟨g, 0, none⟩ cap l Try.underlying33 Try.underlying5 Try.underlying9 (fun j hj => hown.cells (g := g) rfl j _ (by simp [Lib.byteCells, hj]))
            go_wp2_with (go_at_call 19; refine (zz_any _ _ HH.out).mono ?_; rintro e w' ⟨rfl, pos, rfl⟩; refine Hid.out ?_)
            refine Lib.hid ?_
            have hf2 : (((hexTo l : Nat) : Int) == (v : Int)) = true := by rw [HF.out]; simp
            go_wp2
            go_ret
            exact ⟨rfl, hbel.alloc (by omega) _⟩

set_option maxRecDepth 100000 in
theorem lifted (os : Os) (started : os.Started) (H : Type) (enc : TypeId × Value → H) :
    ReturnsInHanded {} Try.checked os 6 .any (Rows.fnParseHexReadsFormattedWordSpec.pre6 enc Try.prog Try.f6 Rows.fnParseHexReadsFormattedWordRow.domain false) (Rows.fnParseHexReadsFormattedWordSpec.post enc Try.prog Try.f6 false true false false) := by
  refine returnsInHanded_of_change (C := Try.checked) own started (by kernel_rfl) Try.func6
    (ChangeSpec.witness6 (enc := enc) (C := Try.checked) false ⟨#[], #[.int .u32 0, .bool false, .int .u8 0], []⟩ 8 (by kernel_rfl) (by kernel_rfl) (by kernel_rfl) (by kernel_rfl)) ?_
  intro W base args ds gs before hval0 hW hcnd _
  have hval : ∀ (j : Nat) t v, Try.f6.params[j]? = some t → args[j]? = some v → Value.okWide Try.prog W .any base t v := hval0
  have hW' := hW
  obtain ⟨p, q, hA0, hV, rfl, hfz, hnd⟩ := hW
  have hA : DataW.TrodAll enc Try.prog W 0 (fun _ => true) true Try.f6.params.toList args.toList ds p := hA0
  rw [Try.params6] at hA hval
  obtain ⟨v0, vs0, d0, ds0, p0, q0, hargs, rfl, rfl, h0, r0⟩ := trodAll_cons hA
  obtain ⟨v1, vs1, d1, ds1, p1, q1, rfl, rfl, rfl, h1, r1⟩ := trodAll_cons r0
  obtain ⟨v2, vs2, d2, ds2, p2, q2, rfl, rfl, rfl, h2, r2⟩ := trodAll_cons r1
  obtain ⟨rfl, rfl, rfl⟩ := trodAll_nil r2
  obtain rfl : args = #[v0, v1, v2] := by cases args; simp_all
  obtain ⟨rfl, rfl⟩ := trodVars_none hV
  obtain ⟨a0, rfl, rfl, rfl, w0⟩ := open_int Try.underlying22 (hval 0 22 v0 rfl rfl) h0
  obtain ⟨a1, rfl, rfl, rfl⟩ := open_bool Try.underlying4 (hval 1 4 v1 rfl rfl) h1
  obtain ⟨a2, rfl, rfl, rfl, w2⟩ := open_int Try.underlying5 (hval 2 5 v2 rfl rfl) h2
  clear hA0 hval0
  refine (walk a0 a1 a2 W w0 w2).mono fun e W' ⟨he, bel⟩ => ?_
  subst he
  exact ⟨_, rfl, _, _, _, [], _, [], hW', trodAll_mk1 (shut_bool Try.underlying4 _), (trodAll_cons_mk (shut_int Try.underlying22 w0) (trodAll_cons_mk (shut_bool Try.underlying4 a1) (trodAll_cons_mk (shut_int Try.underlying5 w2) trodAll_mk0))), rfl, bel.frame _, fun h => by cases h⟩

theorem over : Rows.fnParseHexReadsFormattedWordRow.holds Try.pinned (OpenSpec.ofChange Rows.fnParseHexReadsFormattedWordSpec) :=
  OpenClaim.holds_of_wide 6 Try.f6 rfl rfl rfl rfl rfl rfl rfl ⟨rfl, rfl, rfl, rfl, rfl⟩ rfl rfl rfl rfl rfl (by kernel_rfl) Try.func6 (by kernel_rfl)
    (of_decide_eq_true (by kernel_rfl)) (by unfold Func.isWrapper; first | (rw [if_pos (by decide +kernel)]; kernel_rfl) | (rw [if_neg (by decide +kernel)]; exact ⟨rfl, rfl⟩))
    (fun os started H enc _ => lifted os started H enc)

/-- THE STATEMENT -/
theorem proved : Rows.FnParseHexReadsFormattedWordSaid := over
#print axioms proved
end Go.Proofs.Ytfbmomnfbkdbbaa.fnParseHexReadsFormattedWord
