/-
  plainDecimal.
-/
import Derived.Test.YtfhkkpfkkhpohaaFmtPa
import Derived.Test.YtfhkkpfkkhpohaaFmtSw
namespace Go.Proofs.YtfhkkpfkkhpohaaFmt.Sd
open Go.ChangeShapes Go.WideShapes Go.ChangeAt Go.RowKit Rg
set_option linter.unusedVariables false
theorem own_form {w : World} {B : Nat} {e : TypeId} {s n : Nat} {v : Value} {xs : List Value} (h : w.ownsRow B e s v n xs) : ∃ a c, v = .slice a n c := by
  rcases h.2 with ⟨rfl, rfl⟩ | ⟨g, cap, cur, rfl, _⟩ <;> exact ⟨_, _, rfl⟩
theorem own_DS {w : World} {B : Nat} {e : TypeId} {a : Option Addr} {c : Nat} {A : List UInt8} (h : w.ownsRow B e 1 (.slice a A.length c) A.length (Lib.byteCells A)) : DS w a A := by
  intro i hi
  rcases h.2 with ⟨h1, h0⟩ | ⟨g, cap, cur, hv, _⟩
  · omega
  · injection hv with h1 h2 h3
    subst h1
    refine ⟨g, 0, rfl, ?_⟩
    have hc := h.cells (g := g) rfl i (.int .u8 ((atU A i).toNat : Int)) (by
      rw [Lib.byteCells, List.getElem?_map, List.getElem?_eq_getElem hi]
      simp only [Option.map_some, atU, List.getD_eq_getElem?_getD, List.getElem?_eq_getElem hi, Option.getD_some])
    rw [add_none] at hc
    exact hc
theorem byte_snoc (A : List UInt8) (b : UInt8) : Lib.byteCells (A ++ [b]) = Lib.byteCells A ++ [.int .u8 (b.toNat : Int)] := by simp [Lib.byteCells]
theorem cell_one (w : World) (x : Value) (t : TypeId) : ∀ j u, [x][j]? = some u → (w.alloc (.cells #[x] t)).cell? ((⟨w.heap.size, 0, none⟩ : Addr).add j) = some u := by
  intro j u' hj
  match j, hj with
  | 0, hj => simp at hj; subst hj; simp [Addr.add]
theorem one_one (n : Int) : ∀ u ∈ [Value.int .u8 n], u.oneCell' = true := by intro u' hu'; simp at hu'; subst hu'; rfl
def sgV (s : ByteArray) : ByteArray := match s.data.toList with
  | [] => ⟨#[]⟩
  | b :: _ => if b = 43 then ⟨#[43]⟩ else if b = 45 then ⟨#[45]⟩ else ⟨#[]⟩
def sgP (s : ByteArray) : Bool := decide (0 < (sgV s).size)
theorem sgV_cases (s : ByteArray) : (sgV s = ⟨#[]⟩ ∧ sgP s = false) ∨ (sgP s = true ∧ 0 < s.size ∧ s.extract 0 1 = sgV s ∧ (sgV s = ⟨#[45]⟩ ∨ sgV s = ⟨#[43]⟩)) := by
  unfold sgP sgV
  cases h : s.data.toList with
  | nil => exact .inl ⟨rfl, rfl⟩
  | cons b r =>
    have hp : 0 < s.size := by rw [← ba_len, h]; simp
    have he : (s.extract 0 1).data.toList = [b] := by rw [ext_take, h]; rfl
    by_cases h1 : b = 43
    · subst h1; exact .inr ⟨rfl, hp, ba_ext he, .inr rfl⟩
    · by_cases h2 : b = 45
      · subst h2; exact .inr ⟨rfl, hp, ba_ext he, .inl rfl⟩
      · simp only [if_neg h1, if_neg h2]; exact .inl ⟨trivial, rfl⟩
theorem sgP_nil {s : ByteArray} (h : s.data.toList = []) : sgP s = false := by unfold sgP sgV; rw [h]; rfl
theorem sgP_cons {s : ByteArray} {b : UInt8} {r : List UInt8} (h : s.data.toList = b :: r) : sgP s = (b == 43 || b == 45) := by
  unfold sgP sgV
  rw [h]
  by_cases h1 : b = 43
  · subst h1; rfl
  · by_cases h2 : b = 45
    · subst h2; rfl
    · simp only [if_neg h1, if_neg h2, beq_eq_false_iff_ne.2 h1, beq_eq_false_iff_ne.2 h2]; rfl
def pV (I : List UInt8) (dot : Bool) : Int := if dot then I.length else -1
def PdP (s : ByteArray) (w : World) (e : Ending) (w' : World) : Prop :=
  (e = .returned (.tuple #[.string ⟨#[]⟩, .slice none 0 0, .int .i64 0, .bool false]) ∧ Below w.heap.size w w') ∨
  ∃ (sg : ByteArray) (I Fr : List UInt8) (dot : Bool) (a : Option Addr) (c : Nat), e = .returned (.tuple #[.string sg, .slice a (I ++ Fr).length c, .int .i64 I.length, .bool true]) ∧ DS w' a (I ++ Fr) ∧ s.data.toList = sg.data.toList ++ bodyL I Fr dot ∧
    (sg = ⟨#[]⟩ ∨ sg = ⟨#[45]⟩ ∨ sg = ⟨#[43]⟩) ∧ (∀ b ∈ I, isDg b = true) ∧ (∀ b ∈ Fr, isDg b = true) ∧ (dot = false → Fr = []) ∧ Below w.heap.size w w'
theorem pd_no {s : ByteArray} {w w' : World} (h : Below w.heap.size w w') : PdP s w (.returned (.tuple #[.string ⟨#[]⟩, .slice none 0 0, .int .i64 0, .bool false])) w' := .inl ⟨rfl, h⟩
set_option maxRecDepth 100000 in
set_option maxHeartbeats 4000000 in
theorem pd_any (s : ByteArray) (w : World) (hs : (s.size : Int) ≤ 1048576) :
    Calls Tryf.prog 5 #[.string s] w (PdP s w) := by
  obtain ⟨i0, hi, hz0, hz1, hz2⟩ := info_parts infoU8
  have HI := Lib.hid (And.intro hi (And.intro hz0 (And.intro hz1 hz2)))
  clear hi hz0 hz1 hz2
  have HV := Lib.hid (sgV_cases s)
  go_enter Tryf.func5, Tryf.ntmps5
  go_upto_region 3 with fail
  go_cut [23] (fun s23 wc => s23 = .bool (sgP s) ∧ wc = w)
  case first =>
    cases hl : s.data.toList with
    | nil =>
      have e0 : s.size = 0 := by rw [← ba_len, hl]; rfl
      have HX := Lib.hid (sgP_nil hl)
      have d0 : ¬ 0 < s.size := by omega
      go_wp2_with fail
      go_meet
      exact ⟨congrArg Value.bool HX.out.symm, rfl⟩
    | cons b r =>
      obtain ⟨hp, hh⟩ := ba_cons hl
      have q0 : (0 : Int) < (s.size : Int) := by omega
      by_cases h1 : b = 43
      · have HX := Lib.hid (show sgP s = true by rw [sgP_cons hl, h1]; rfl)
        have q1 : (((s[0]'hp).toNat : Int) == 43) = true := by rw [hh, h1]; rfl
        clear hl hh
        go_wp2_with fail
        go_meet
        exact ⟨congrArg Value.bool HX.out.symm, rfl⟩
      · have q1 : (((s[0]'hp).toNat : Int) == 43) = false := by
          rw [hh]
          have : ¬ b.toNat = 43 := fun e => h1 (UInt8.toNat_inj.1 (by simpa using e))
          simp; omega
        by_cases h2 : b = 45
        · have HX := Lib.hid (show sgP s = true by rw [sgP_cons hl, h2]; rfl)
          have q2 : (((s[0]'hp).toNat : Int) == 45) = true := by rw [hh, h2]; rfl
          clear hl hh
          go_wp2_with fail
          go_meet
          exact ⟨congrArg Value.bool HX.out.symm, rfl⟩
        · have HX := Lib.hid (show sgP s = false by rw [sgP_cons hl, beq_eq_false_iff_ne.2 h1, beq_eq_false_iff_ne.2 h2]; rfl)
          have q2 : (((s[0]'hp).toNat : Int) == 45) = false := by
            rw [hh]
            have : ¬ b.toNat = 45 := fun e => h2 (UInt8.toNat_inj.1 (by simpa using e))
            simp; omega
          clear hl hh
          go_wp2_with fail
          go_meet
          exact ⟨congrArg Value.bool HX.out.symm, rfl⟩
  case rest =>
    obtain ⟨rfl, rfl⟩ := hcut
    go_upto_if 23 with fail
    go_cut [6, 7] (fun s6 s7 wx => ∃ (k : Nat) (sg : ByteArray), s6 = .int .i64 k ∧ s7 = .string sg ∧ k ≤ s.size ∧ Hid (s.data.toList.take k = sg.data.toList) ∧ Hid (sg = ⟨#[]⟩ ∨ sg = ⟨#[45]⟩ ∨ sg = ⟨#[43]⟩) ∧ wx = wc)
    case first =>
      rcases HV.out with ⟨h1, h2⟩ | ⟨h2, hp, h3, h4⟩
      · rw [h2]
        clear h1
        go_wp2_with fail
        go_meet
        exact ⟨0, _, rfl, rfl, by omega, Lib.hid (by simp), Lib.hid (.inl rfl), rfl⟩
      · have H3 := Lib.hid h3
        have H4 := Lib.hid h4
        have q0 : (1 : Int) ≤ s.size := by omega
        rw [h2]
        clear h3 h4
        go_wp2_with fail
        go_meet
        exact ⟨1, _, rfl, rfl, by omega, Lib.hid (by rw [ext_take]), Lib.hid (by rw [H3.out]; rcases H4.out with h | h; exact .inr (.inl h); exact .inr (.inr h)), rfl⟩
    case rest =>
      clear HV
      obtain ⟨k0, sg, rfl, rfl, hk0, HT, HSG, rfl⟩ := hcut
      obtain ⟨hi, hz0, hz1, hz2⟩ := HI.out
      go_wp2_with (at_make; refine wpList_make_own _ rfl _ _ 23 rfl wc.heap.size 5 i0 (.int .u8 0) 1 Tryf.underlying23 hi hz0 hz1 .i64 .i64 _ s.size rfl rfl ?c1 ?c2 ?c3 (Nat.le_refl _) ?_)
      case c1 => simp
      case c2 => rw [hz2]; omega
      case c3 => unfold maxLen; omega
      intro w1 hown1 hg1
      have hb1 : Below wc.heap.size wc w1 := (Below.refl _ _).grown hg1 (Nat.le_refl _) (fun k hk => by simp at hk)
      have HO := Lib.hid hown1
      have HB := Lib.hid hb1
      clear hg1 hown1 hb1 hi hz0 hz1 hz2
      go_wp2_with fail
      go_loopw [6, 8, 9] (fun s6 s8 s9 wr => ∃ (k N : Nat) (I Fr : List UInt8) (dot : Bool) (v : Value), s6 = .int .i64 k ∧ s8 = v ∧ s9 = .int .i64 (pV I dot) ∧ k ≤ s.size ∧ N ≤ k ∧ Hid (N = (I ++ Fr).length) ∧ Hid (s.data.toList.take k = sg.data.toList ++ bodyL I Fr dot) ∧ Hid ((∀ b ∈ I, isDg b = true) ∧ (∀ b ∈ Fr, isDg b = true) ∧ (dot = false → Fr = [])) ∧ Hid (wr.ownsRow wc.heap.size 5 1 v N (Lib.byteCells (I ++ Fr))) ∧ Hid (Below wc.heap.size wc wr)) (fun s6 _ _ _ => s.size - (intOf s6).toNat)
      case atStart => exact ⟨k0, 0, [], [], false, _, rfl, rfl, rfl, hk0, by omega, Lib.hid rfl, Lib.hid (by rw [HT.out]; simp [bodyL]), Lib.hid ⟨by simp, by simp, fun _ => rfl⟩, HO, HB⟩
      case round =>
        clear HO HB HT
        obtain ⟨k, N, I, Fr, dot, v, rfl, rfl, rfl, hk, hkl, HN, HT, HDG, HO, HB⟩ := hrel
        by_cases hlt : k < s.size
        · have HT1 : Hid (s.data.toList.take (k + 1) = sg.data.toList ++ bodyL I Fr dot ++ [s[k]]) := Lib.hid (by
            rw [← HT.out, List.take_succ_eq_append_getElem (by simpa using hlt)]; rfl)
          obtain ⟨va, vc, rfl⟩ := own_form HO.out
          have hsz := HB.out.size
          by_cases h46 : s[k].toNat = 46
          · have e46 : s[k] = 46 := UInt8.toNat_inj.1 (by simpa using h46)
            have b46 : ((s[k].toNat : Int) == 46) = true := by simp [h46]
            cases dot with
            | true =>
              have hx : pV I true = I.length := rfl
              have q0 : (0 : Int) ≤ I.length := by omega
              clear h46 e46
              go_wp2_with fail
              refine bodyPost_ret (v := .tuple #[.string ⟨#[]⟩, .slice none 0 0, .int .i64 0, .bool false]) (by simp [results, Tryf.results5, go_sem]) rfl (pd_no HB.out)
            | false =>
              have hx : pV I false = -1 := rfl
              have hf := HDG.out.2.2 rfl
              subst hf
              have HE := Lib.hid e46
              have HRel : Hid (s.data.toList.take (k + 1) = sg.data.toList ++ bodyL I [] true) := Lib.hid (by rw [HT1.out, HE.out]; simp [bodyL])
              clear h46 e46 HT1 HE
              go_wp2_with fail
              go_roundw
              case rel => exact ⟨k + 1, N, I, [], true, _, by go_num, rfl, by have := HN.out; simp at this; simp [pV, this], by omega, by omega, HN, HRel, Lib.hid ⟨HDG.out.1, HDG.out.2.1, fun h => by cases h⟩, HO, HB⟩
              case measure => simp [intOf]; omega
          · have b46 : ((s[k].toNat : Int) == 46) = false := by simp; omega
            by_cases hd : 48 ≤ s[k].toNat ∧ s[k].toNat ≤ 57
            · have d1 : ¬ ((s[k].toNat : Int) < 48) := by omega
              have d2 : ¬ ((57 : Int) < (s[k].toNat : Int)) := by omega
              have HDG1 : Hid (isDg s[k] = true) := Lib.hid (by simp [isDg, hd])
              obtain ⟨hi, hz0, hz1, hz2⟩ := HI.out
              clear hd h46
              go_wp2_with (at_builtin; refine wpList_append_own _ rfl _ _ 23 rfl wc.heap.size 5 i0 (.int .u8 0) 1 1 Tryf.underlying23 hi hz0 hz1 hz2 rfl (by decide) _ _ _ rfl (HO.out.alloc _) ⟨wr.heap.size, 0, none⟩ 1 1 [Value.int .u8 (s[k].toNat : Int)] rfl rfl (cell_one _ _ _) (one_one _) ?c1 ?c2 ?c3 ?_)
              case c1 => unfold maxLen; omega
              case c2 => omega
              case c3 => first | omega | (simp; omega)
              intro v' w2 hown2 hgrow _
              have hb2 : Below wc.heap.size wc w2 := (HB.out.alloc (by omega) _).grown hgrow (by simp; omega) (fun k hk => (HO.out.lt k hk).1)
              rw [← byte_snoc] at hown2
              have HO2 := Lib.hid hown2
              have HB2 := Lib.hid hb2
              clear hown2 hb2 hgrow hi hz0 hz1 hz2
              go_wp2_with fail
              go_roundw
              case rel =>
                cases dot with
                | true => exact ⟨k + 1, N + 1, I, Fr ++ [s[k]], true, _, by go_num, rfl, rfl, by omega, by omega, Lib.hid (by rw [HN.out]; simp; omega), Lib.hid (by rw [HT1.out]; simp [bodyL]), Lib.hid ⟨HDG.out.1, fun b hb => (List.mem_append.1 hb).elim (HDG.out.2.1 b) (fun h => by rw [List.mem_singleton.1 h]; exact HDG1.out), fun h => by cases h⟩, Lib.hid (by rw [← List.append_assoc]; exact HO2.out), HB2⟩
                | false =>
                  have hf := HDG.out.2.2 rfl
                  subst hf
                  exact ⟨k + 1, N + 1, I ++ [s[k]], [], false, _, by go_num, rfl, rfl, by omega, by omega, Lib.hid (by rw [HN.out]; simp), Lib.hid (by rw [HT1.out]; simp [bodyL]), Lib.hid ⟨fun b hb => (List.mem_append.1 hb).elim (HDG.out.1 b) (fun h => by rw [List.mem_singleton.1 h]; exact HDG1.out), by simp, fun _ => rfl⟩, Lib.hid (by have := HO2.out; simpa using this), HB2⟩
              case measure => simp [intOf]; omega
            · by_cases h48 : s[k].toNat < 48
              · have d1 : ((s[k].toNat : Int) < 48) := by omega
                clear hd h46
                go_wp2_with fail
                refine bodyPost_ret (v := .tuple #[.string ⟨#[]⟩, .slice none 0 0, .int .i64 0, .bool false]) (by simp [results, Tryf.results5, go_sem]) rfl (pd_no HB.out)
              · have d1 : ¬ ((s[k].toNat : Int) < 48) := by omega
                have d2 : ((57 : Int) < (s[k].toNat : Int)) := by omega
                clear hd h46
                go_wp2_with fail
                refine bodyPost_ret (v := .tuple #[.string ⟨#[]⟩, .slice none 0 0, .int .i64 0, .bool false]) (by simp [results, Tryf.results5, go_sem]) rfl (pd_no HB.out)
        · obtain rfl : k = s.size := by omega
          obtain ⟨va, vc, rfl⟩ := own_form HO.out
          have HT1 : Hid (s.data.toList = sg.data.toList ++ bodyL I Fr dot) := Lib.hid (by rw [← HT.out, List.take_of_length_le (by rw [ba_len]; exact Nat.le_refl _)])
          have HDS : Hid (DS wr va (I ++ Fr)) := Lib.hid (own_DS (by rw [← HN.out]; exact HO.out))
          by_cases hN0 : N = 0
          · subst hN0
            go_wp2_with fail
            refine bodyPost_ret (v := .tuple #[.string ⟨#[]⟩, .slice none 0 0, .int .i64 0, .bool false]) (by simp [results, Tryf.results5, go_sem]) rfl (pd_no HB.out)
          · have b0 : ((N : Int) == 0) = false := beq_eq_false_iff_ne.2 (by omega)
            cases dot with
            | true =>
              have hx : pV I true = I.length := rfl
              have q0 : ¬ ((I.length : Int) < 0) := by omega
              go_wp2_with fail
              refine bodyPost_ret (v := .tuple #[.string sg, .slice va N vc, .int .i64 I.length, .bool true]) (by simp [results, Tryf.results5, go_sem]) rfl ?_
              exact .inr ⟨sg, I, Fr, true, va, vc, by rw [HN.out], HDS.out, HT1.out, HSG.out, HDG.out.1, HDG.out.2.1, HDG.out.2.2, HB.out⟩
            | false =>
              have hx : pV I false = -1 := rfl
              have hf := HDG.out.2.2 rfl
              subst hf
              go_wp2_with fail
              refine bodyPost_ret (v := .tuple #[.string sg, .slice va N vc, .int .i64 N, .bool true]) (by simp [results, Tryf.results5, go_sem]) rfl ?_
              exact .inr ⟨sg, I, [], false, va, vc, by rw [HN.out]; simp, HDS.out, HT1.out, HSG.out, HDG.out.1, HDG.out.2.1, fun _ => rfl, HB.out⟩
end Go.Proofs.YtfhkkpfkkhpohaaFmt.Sd
