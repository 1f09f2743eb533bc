/-
  shiftDot: the walk.
-/
import Derived.Test.YtfhkkpfkkhpohaaFmtSh
import Derived.Deep.QuietTactic
import Derived.BigQuiet
import Derived.WalkSpells
namespace Go.Proofs.YtfhkkpfkkhpohaaFmt.Sd
open Go.ChangeShapes Go.WideShapes Go.ChangeAt Go.RowKit Go.Kit Rg
open Go.Extern.Stop Go.Stop Go.Extern
set_option linter.unusedVariables false
def ShP (s : List UInt8) (w : World) (e : Ending) (w' : World) : Prop := ∃ r : ByteArray, e = .returned (.tuple #[.string r, .bool true]) ∧ r.data.toList = s ∧ Below w.heap.size w w'
/-- the world behind the head: nothing of the old world has changed -/
def Wd (w wc : World) : Prop := Below w.heap.size w wc
theorem ext_at (u : ByteArray) (k : Nat) (h : k < u.size) : u.data.toList[k]? = some u[k] := by rw [List.getElem?_eq_getElem (by simpa using h)]; rfl
def ixV (I : List UInt8) (dot : Bool) : Int := if dot then I.length else -1
theorem ix_any (u : ByteArray) (I Fr : List UInt8) (dot : Bool) (w : World) (hu : u.data.toList = bodyL I Fr dot) (hI : ∀ b ∈ I, isDg b = true) :
    Calls Tryf.prog 18 #[.string u, .int .u8 46] w fun e w' => e = .returned (.int .i64 (ixV I dot)) ∧ w = w' := by
  refine (Tryf.strings_IndexByte u 46 w).mono fun e w' ⟨he, hw⟩ => ⟨?_, hw.symm⟩
  rw [he, hu]
  unfold bodyL ixV
  cases dot with
  | false => rw [if_neg (by simp), if_neg (by simp), List.append_nil]; exact congrArg (fun x => Ending.returned (.int .i64 x)) (index_no I hI)
  | true => rw [if_pos rfl, if_pos rfl]; exact congrArg (fun x => Ending.returned (.int .i64 x)) (index_dg I Fr hI)
def shfin (u : List UInt8) (D : Int) : List UInt8 :=
  if (u.length : Int) ≤ D then u ++ zeros (D - u.length).toNat
  else if D < 0 then 46 :: (zeros (-D).toNat ++ u)
  else u.take D.toNat ++ 46 :: u.drop D.toNat
theorem shf_fin {A : List UInt8} {d D : Int} {l u : List UInt8} (h : lead A d = (l, D)) (hu : u = l.take (tl l D l.length)) : shf A d = shfin u D := by
  unfold shf shfin
  simp only [h]
  rw [← hu]
theorem tellA (F : Interp) (a b c : ByteArray) (ha : (a.size : Int) ≤ 3000000) (hb : (b.size : Int) ≤ 3000000) (hc : (c.size : Int) ≤ 3000000) :
    (FmtStop.textOf (F.told "fmt.Sprintf" [[37, 115, 37, 115, 37, 115], shape9, FmtStop.pack a.data.toList, shape9, FmtStop.pack b.data.toList, shape9, FmtStop.pack c.data.toList] 0)).data.toList = a.data.toList ++ (b.data.toList ++ c.data.toList) := by
  have h1 : a.data.toList.length ≤ 3000000 := by rw [ba_len]; omega
  have h2 : b.data.toList.length ≤ 3000000 := by rw [ba_len]; omega
  have h3 : c.data.toList.length ≤ 3000000 := by rw [ba_len]; omega
  exact told_list F (textA _ _ _ (by omega) (by omega) (by omega)) (by rw [List.length_append, List.length_append]; omega)
theorem tellB (F : Interp) (a b c : List UInt8) (h1 : a.length ≤ 3000000) (h2 : b.length ≤ 3000000) (h3 : c.length ≤ 3000000) :
    (FmtStop.textOf (F.told "fmt.Sprintf" [[37, 115, 37, 115, 46, 37, 115], shape9, FmtStop.pack a, shape9, FmtStop.pack b, shape9, FmtStop.pack c] 0)).data.toList = a ++ (b ++ 46 :: c) :=
  told_list F (textB _ _ _ (by omega) (by omega) (by omega)) (by rw [List.length_append, List.length_append, List.length_cons]; omega)
attribute [local go_sem] call16 fguard fmA1 fmA2 fmB1 fmB2 op9_115
def strLen : Value → Nat
  | .string s => s.size
  | _ => 0
def sgnB (sg : ByteArray) : Bool := decide (0 < sg.size)
theorem ba_cons {t : ByteArray} {b : UInt8} {r : List UInt8} (h : t.data.toList = b :: r) : ∃ hp : 0 < t.size, t[0]'hp = b := by
  have hp : 0 < t.size := by rw [← ba_len, h]; simp
  refine ⟨hp, ?_⟩
  have e := ext_at t 0 hp
  rw [h] at e
  simpa using e.symm
set_option maxRecDepth 100000 in
set_option maxHeartbeats 4000000 in
theorem shift_any (F : Interp) (t : ByteArray) (sg : ByteArray) (I Fr : List UInt8) (dot : Bool) (off : Int) (w : World) (hF : F.told.answers w.tape)
    (ht : t.data.toList = sg.data.toList ++ bodyL I Fr dot) (hsg : sg = ⟨#[]⟩ ∨ sg = ⟨#[45]⟩ ∨ sg = ⟨#[43]⟩) (hI : ∀ b ∈ I, isDg b = true) (hFr : ∀ b ∈ Fr, isDg b = true) (hd : dot = false → Fr = []) (hz : (t.size : Int) ≤ 1048577) (ho1 : -3 ≤ off) (ho2 : off ≤ 3) :
    Calls Tryf.prog 14 #[.string t, .int .i64 off] w (ShP (sg.data.toList ++ shf (I ++ Fr) (I.length + off)) w) := by
  have hpl : ∀ b ∈ t.data.toList, plainB b := by
    intro b hb
    rw [ht] at hb
    rcases List.mem_append.1 hb with h | h
    · rcases hsg with rfl | rfl | rfl <;> simp at h <;> subst h <;> simp [plainB]
    · unfold bodyL at h
      rcases List.mem_append.1 h with h | h
      · exact .inr (.inr (.inr (hI b h)))
      · cases dot with
        | false => simp at h
        | true =>
          simp at h
          rcases h with rfl | h
          · exact .inl rfl
          · exact .inr (.inr (.inr (hFr b h)))
  have HPL := Lib.hid hpl
  have HT := Lib.hid ht
  have HI := Lib.hid hI
  have HFr := Lib.hid hFr
  have HD := Lib.hid hd
  have HFw := Lib.hid hF
  clear hpl ht hI hFr hd hF
  go_enter Tryf.func14, Tryf.ntmps14
  go_upto_region 4 with (first | (go_at_call 17; refine (ca_any _ _ (by omega) HPL.out).mono ?_; rintro e w1 ⟨rfl, hb⟩))
  have HB := Lib.hid hb
  clear hb
  go_cut [23] (fun s23 wc => s23 = .bool (sgnB sg) ∧ Hid (Below w.heap.size w wc))
  case first =>
    have hx : Value.bool (sgnB sg) = .bool (sgnB sg) := rfl
    clear hx
    rcases hsg with rfl | rfl | rfl
    · cases hbl : bodyL I Fr dot with
      | nil =>
        have e0 : t.size = 0 := by rw [← ba_len, HT.out, hbl]; rfl
        have HX := Lib.hid hbl
        clear hbl
        have d0 : ¬ 0 < t.size := by omega
        go_wp2_with fail
        go_meet
        exact ⟨rfl, HB⟩
      | cons b r =>
        have hb := head_body HI.out hbl
        obtain ⟨hp, hh⟩ := ba_cons (t := t) (b := b) (r := r) (by rw [HT.out, hbl]; rfl)
        have q0 : (0 : Int) < (t.size : Int) := by omega
        have q1 : (((t[0]'hp).toNat : Int) == 45) = false := by
          rw [hh]
          have : ¬ b.toNat = 45 := fun e => hb.1 (UInt8.toNat_inj.1 (by simpa using e))
          simp; omega
        have q2 : (((t[0]'hp).toNat : Int) == 43) = false := by
          rw [hh]
          have : ¬ b.toNat = 43 := fun e => hb.2 (UInt8.toNat_inj.1 (by simpa using e))
          simp; omega
        clear hbl hh hb
        go_wp2_with fail
        go_meet
        exact ⟨rfl, HB⟩
    · obtain ⟨hp, hh⟩ := ba_cons (t := t) (b := 45) (r := bodyL I Fr dot) HT.out
      have q0 : (0 : Int) < (t.size : Int) := by omega
      have q1 : (((t[0]'hp).toNat : Int) == 45) = true := by rw [hh]; rfl
      clear hh
      go_wp2_with fail
      go_meet
      exact ⟨rfl, HB⟩
    · obtain ⟨hp, hh⟩ := ba_cons (t := t) (b := 43) (r := bodyL I Fr dot) HT.out
      have q0 : (0 : Int) < (t.size : Int) := by omega
      have q1 : (((t[0]'hp).toNat : Int) == 45) = false := by rw [hh]; rfl
      have q2 : (((t[0]'hp).toNat : Int) == 43) = true := by rw [hh]; rfl
      clear hh
      go_wp2_with fail
      go_meet
      exact ⟨rfl, HB⟩
  case rest =>
    clear HB
    obtain ⟨rfl, HB⟩ := hcut
    go_upto_if 23 with (fail)
    go_cut [0, 6] (fun s0 s6 wc => ∃ u : ByteArray, s0 = .string u ∧ s6 = .string sg ∧ (u.size : Int) ≤ 1048577 ∧ Hid (u.data.toList = bodyL I Fr dot) ∧ Hid (Below w.heap.size w wc))
    case first =>
      rcases hsg with rfl | rfl | rfl
      · have hx : sgnB ⟨#[]⟩ = false := rfl
        go_wp2_with fail
        go_meet
        exact ⟨_, rfl, rfl, hz, Lib.hid HT.out, HB⟩
      · have hx : sgnB ⟨#[45]⟩ = true := rfl
        obtain ⟨hp, hh⟩ := ba_cons (t := t) (b := 45) (r := bodyL I Fr dot) HT.out
        have e1 : (t.extract 0 1) = ⟨#[45]⟩ := ba_ext (by rw [ext_take, HT.out]; rfl)
        have HE := Lib.hid e1
        clear e1 hh
        go_wp2_with fail
        go_meet
        exact ⟨_, rfl, congrArg Value.string HE.out, by rw [← ba_len, ext_drop, List.length_drop, ba_len]; omega, Lib.hid (by rw [ext_drop, HT.out]; rfl), HB⟩
      · have hx : sgnB ⟨#[43]⟩ = true := rfl
        obtain ⟨hp, hh⟩ := ba_cons (t := t) (b := 43) (r := bodyL I Fr dot) HT.out
        have e1 : (t.extract 0 1) = ⟨#[43]⟩ := ba_ext (by rw [ext_take, HT.out]; rfl)
        have HE := Lib.hid e1
        clear e1 hh
        go_wp2_with fail
        go_meet
        exact ⟨_, rfl, congrArg Value.string HE.out, by rw [← ba_len, ext_drop, List.length_drop, ba_len]; omega, Lib.hid (by rw [ext_drop, HT.out]; rfl), HB⟩
    case rest =>
      clear HB HPL
      obtain ⟨u, rfl, rfl, hu, HU, HB⟩ := hcut
      have HUS := Lib.hid (show (u.size : Int) = (bodyL I Fr dot).length by rw [← HU.out, ba_len])
      go_upto_if 31 with (first | (go_at_call 18; refine (ix_any _ _ _ _ _ HU.out HI.out).mono ?_; rintro e w1 ⟨rfl, rfl⟩))
      go_cut [0, 7] (fun s0 s7 wc => ∃ (v : ByteArray) (d : Int), s0 = .string v ∧ s7 = .int .i64 d ∧ 0 ≤ d ∧ d ≤ 1048577 ∧ Hid (d = I.length) ∧ (v.size : Int) ≤ 1048577 ∧ Hid (v.data.toList = I ++ Fr) ∧ Hid (Below w.heap.size w wc))
      case first =>
        cases dot with
        | false =>
          have hx : ixV I false = -1 := rfl
          have e1 : u.data.toList = I ++ Fr := by rw [HU.out, HD.out rfl, bodyL]; simp
          have e2 : (u.size : Int) = I.length := by rw [HUS.out, bodyL]; simp
          have HE := Lib.hid (And.intro e1 e2)
          clear e1 e2
          go_wp2_with fail
          go_meet
          exact ⟨_, _, rfl, rfl, by omega, by omega, Lib.hid HE.out.2, by omega, Lib.hid HE.out.1, HB⟩
        | true =>
          have hx : ixV I true = I.length := rfl
          have e1 : u.data.toList = I ++ 46 :: Fr := by rw [HU.out, bodyL]; simp
          have e2 : (u.size : Int) = I.length + 1 + Fr.length := by rw [HUS.out, bodyL]; simp; omega
          have q0 : ((I.length : Int) == -1) = false := beq_eq_false_iff_ne.2 (by omega)
          have q1 : (I.length : Int) + 1 ≤ u.size := by omega
          have q2 : (I.length : Int) ≤ u.size := by omega
          have HE := Lib.hid (And.intro e1 e2)
          have hs1 : ((u.extract 0 I.length).size : Int) = I.length := by rw [← ba_len, ext_take, List.length_take, ba_len]; omega
          have hs2 : ((u.extract (I.length + 1) u.size).size : Int) = u.size - (I.length + 1) := by rw [← ba_len, ext_drop, List.length_drop, ba_len]; omega
          clear e1 e2
          go_wp2_with fail
          go_quiet (fail)
          go_wp2_with fail
          go_meet
          exact ⟨_, _, rfl, rfl, by omega, by omega, Lib.hid rfl, by rw [ByteArray.size_append]; omega, Lib.hid (by
            rw [ByteArray.data_append, Array.toList_append, ext_take, ext_drop, HE.out.1, List.take_append, List.drop_append]
            simp), Lib.hid (below_drewN HB.out _)⟩
      case rest =>
        clear HB HU HUS hu
        obtain ⟨v, d, rfl, rfl, hd0, hd1, HDL, hv, HV, HB⟩ := hcut
        have hdo1 : -3 ≤ d + off := by omega
        have hdo2 : d + off ≤ 1048580 := by omega
        obtain ⟨D, hD⟩ : ∃ D, D = d + off := ⟨_, rfl⟩
        have HDD := Lib.hid hD
        clear hD
        go_upto_block 0 with (fail)
        rw [← HDD.out]
        have hdo3 : -3 ≤ D := by have := HDD.out; omega
        have hdo4 : D ≤ 1048580 := by have := HDD.out; omega
        clear hdo1 hdo2
        go_cut [0, 7] (fun s0 s7 wc => ∃ (v : ByteArray) (D : Int), s0 = .string v ∧ s7 = .int .i64 D ∧ -3 ≤ D ∧ D ≤ 1048580 ∧ (v.size : Int) ≤ 1048577 ∧ Hid (lead (I ++ Fr) (I.length + off) = (v.data.toList, D)) ∧ Hid (Below w.heap.size w wc))
        case first =>
          go_wp2_with fail
          go_loop [0, 7] (fun s0 s7 => ∃ (x : ByteArray) (E : Int), s0 = .string x ∧ s7 = .int .i64 E ∧ -3 ≤ E ∧ E ≤ 1048580 ∧ (x.size : Int) ≤ 1048577 ∧ Hid (lead (I ++ Fr) (I.length + off) = lead x.data.toList E)) (fun s0 _ => strLen s0)
          case atStart => exact ⟨v, D, rfl, rfl, hdo3, hdo4, hv, Lib.hid (by rw [HV.out, HDD.out, HDL.out])⟩
          case round =>
            clear hdo3 hdo4
            obtain ⟨x, E, rfl, rfl, hE0, hE1, hx, HR⟩ := hrel
            by_cases hp : 0 < x.size
            · have HX : Hid (x.data.toList = x[0] :: x.data.toList.drop 1) := Lib.hid (by have := drop_at x 0 hp; simpa using this)
              by_cases hE : 0 < E
              · by_cases hc : (x[0]'hp).toNat = 48
                · have HN : Hid (lead (I ++ Fr) (I.length + off) = lead (x.extract 1 x.size).data.toList (E - 1)) := Lib.hid (by
                    rw [HR.out, ext_drop]
                    conv => lhs; rw [HX.out]
                    rw [lead, if_pos ⟨hE, UInt8.toNat_inj.1 (by simpa using hc)⟩])
                  have hb : (((x[0]'hp).toNat : Int) == 48) = true := by simp [hc]
                  have hx2 : ((x.extract 1 x.size).size : Int) = x.size - 1 := by rw [← ba_len, ext_drop, List.length_drop, ba_len]; omega
                  clear hc
                  go_wp2_with fail
                  go_round
                  case rel => exact ⟨_, _, rfl, rfl, by omega, by omega, by omega, HN⟩
                  case measure => simp [strLen]; omega
                · have HN : Hid (lead (I ++ Fr) (I.length + off) = (x.data.toList, E)) := Lib.hid (by
                    rw [HR.out]
                    conv => lhs; rw [HX.out]
                    rw [lead, if_neg (fun c => hc (by rw [c.2]; rfl)), ← HX.out])
                  have hb : (((x[0]'hp).toNat : Int) == 48) = false := by simp; omega
                  clear hc
                  go_wp2_with fail
                  go_meet
                  exact ⟨_, _, rfl, rfl, hE0, hE1, hx, HN, HB⟩
              · have HN : Hid (lead (I ++ Fr) (I.length + off) = (x.data.toList, E)) := Lib.hid (by rw [HR.out]; exact lead_neg _ _ (by omega))
                go_wp2_with fail
                go_meet
                exact ⟨_, _, rfl, rfl, hE0, hE1, hx, HN, HB⟩
            · have e0 : x.size = 0 := by omega
              have HN : Hid (lead (I ++ Fr) (I.length + off) = (x.data.toList, E)) := Lib.hid (by rw [HR.out, ba_nil e0]; rfl)
              go_wp2_with fail
              go_meet
              exact ⟨_, _, rfl, rfl, hE0, hE1, hx, HN, HB⟩
        case rest =>
          clear HB HDD hdo3 hdo4 HV hv
          obtain ⟨v, D, rfl, rfl, hdo3, hdo4, hv, HL, HB⟩ := hcut
          go_upto_block 2 with (fail)
          go_cut [0] (fun s0 wc => ∃ u : ByteArray, s0 = .string u ∧ (u.size : Int) ≤ 1048577 ∧ Hid (u.data.toList = v.data.toList.take (tl v.data.toList D v.data.toList.length)) ∧ Hid (Below w.heap.size w wc))
          case first =>
            go_wp2_with fail
            go_loop [0] (fun s0 => ∃ u : ByteArray, s0 = .string u ∧ u.size ≤ v.size ∧ Hid (u.data.toList = v.data.toList.take u.size) ∧ Hid (tl v.data.toList D v.data.toList.length = tl v.data.toList D u.size)) (fun s0 => strLen s0)
            case atStart => exact ⟨v, rfl, Nat.le_refl _, Lib.hid (by rw [List.take_of_length_le (by rw [ba_len]; exact Nat.le_refl _)]), Lib.hid (by rw [ba_len])⟩
            case round =>
              obtain ⟨u, rfl, huv, HU, HR⟩ := hrel
              by_cases hp : 0 < u.size
              · obtain ⟨k, hk⟩ : ∃ k, u.size = k + 1 := ⟨u.size - 1, by omega⟩
                have hku : k < u.size := by omega
                have HK : Hid (v.data.toList[k]? = some (u[k]'hku)) := Lib.hid (by
                  have e := ext_at u k hku
                  rw [HU.out, List.getElem?_take_of_lt hku] at e
                  exact e)
                rw [hk] at huv
                have HR2 : Hid (tl v.data.toList D v.data.toList.length = tl v.data.toList D (k + 1)) := Lib.hid (by rw [HR.out, hk])
                have HU2 : Hid (u.data.toList = v.data.toList.take (k + 1)) := Lib.hid (by rw [HU.out, hk])
                clear HR HU
                by_cases hD : D < ((k + 1 : Nat) : Int)
                · by_cases hc : (u[k]'hku).toNat = 48
                  · have e2 : (u.extract 0 k).size = k := by rw [← ba_len, ext_take, List.length_take, ba_len]; omega
                    have HN : Hid (tl v.data.toList D v.data.toList.length = tl v.data.toList D (u.extract 0 k).size) := Lib.hid (by
                      rw [HR2.out, e2, tl, if_pos ⟨hD, by rw [HK.out]; exact congrArg some (UInt8.toNat_inj.1 (by simpa using hc))⟩])
                    have HN2 : Hid ((u.extract 0 k).data.toList = v.data.toList.take (u.extract 0 k).size) := Lib.hid (by
                      rw [e2, ext_take, HU2.out, List.take_take]; congr 1; omega)
                    have hb : (((u[k]'hku).toNat : Int) == 48) = true := by simp [hc]
                    have hD2 : D < (k : Int) + 1 := by omega
                    have e3 : (u.extract 0 k).size ≤ v.size := by omega
                    have e4 : (u.extract 0 k).size < u.size := by omega
                    have HE3 := Lib.hid (And.intro e3 e4)
                    clear hc hD e2 e3 e4
                    go_wp2_with fail
                    go_round
                    case rel => exact ⟨_, rfl, HE3.out.1, HN2, HN⟩
                    case measure => exact HE3.out.2
                  · have HN : Hid (u.data.toList = v.data.toList.take (tl v.data.toList D v.data.toList.length)) := Lib.hid (by
                      rw [HR2.out, tl, if_neg (fun c => hc (by have := c.2; rw [HK.out] at this; injection this with this; rw [this]; rfl))]; exact HU2.out)
                    have hb : (((u[k]'hku).toNat : Int) == 48) = false := by simp; omega
                    have hD2 : D < (k : Int) + 1 := by omega
                    clear hc hD
                    go_wp2_with fail
                    go_meet
                    exact ⟨_, rfl, by omega, HN, HB⟩
                · have HN : Hid (u.data.toList = v.data.toList.take (tl v.data.toList D v.data.toList.length)) := Lib.hid (by
                    rw [HR2.out, tl, if_neg (fun c => hD c.1)]; exact HU2.out)
                  have hD2 : ¬ (D < (k : Int) + 1) := by omega
                  clear hD
                  go_wp2_with fail
                  go_meet
                  exact ⟨_, rfl, by omega, HN, HB⟩
              · have e0 : u.size = 0 := by omega
                have HN : Hid (u.data.toList = v.data.toList.take (tl v.data.toList D v.data.toList.length)) := Lib.hid (by rw [HR.out, e0]; exact ba_nil e0)
                clear HR HU
                go_wp2_with fail
                go_meet
                exact ⟨_, rfl, by omega, HN, HB⟩
          case rest =>
            clear HB
            obtain ⟨u, rfl, hu, HU, HB⟩ := hcut
            have HS : Hid (shf (I ++ Fr) (I.length + off) = shfin u.data.toList D) := Lib.hid (shf_fin HL.out HU.out)
            have HFc := Lib.hid (show F.told.answers wc.tape by rw [HB.out.tape]; exact HFw.out)
            by_cases hA : (u.size : Int) ≤ D
            · clear HFw HU HL
              go_upto_region 19 with (first | (go_at_call 19; refine (rep_any _ _ (by omega) (by omega)).mono ?_; rintro e w2 ⟨rfl, hb2⟩))
              have HB2 := Lib.hid (HB.out.trans (hb2.mono HB.out.size))
              have hF' := answers_open (show F.told.answers w2.tape by rw [hb2.tape]; exact HFc.out)
              clear hb2 HB HFc
              go_wp2_with fail
              go_ret2
              refine ⟨_, rfl, ?_, ((HB2.out.alloc HB2.out.size _).drew)⟩
              have hl3 : (sg.size : Int) ≤ 3000000 := by rcases hsg with rfl | rfl | rfl <;> decide
              have e1 : shfin u.data.toList D = u.data.toList ++ zeros (D - u.size).toNat := by rw [shfin, ba_len, if_pos hA]
              rw [HS.out, e1]
              refine (tellA F _ _ _ hl3 (by omega) (by rw [zeroB_size]; omega)).trans ?_
              rw [zeroB_list, show D.toNat - u.size = (D - u.size).toNat by omega]
            · by_cases hB : D < 0
              · clear HFw HU HL
                have hzz := zeroB_size
                go_upto_region 23 with (first | (go_at_call 19; refine (rep_any _ _ (by omega) (by omega)).mono ?_; rintro e w2 ⟨rfl, hb2⟩))
                have HB2 := Lib.hid (HB.out.trans (hb2.mono HB.out.size))
                have hF' := answers_open (show F.told.answers w2.tape by rw [hb2.tape]; exact HFc.out)
                clear hb2 HB HFc
                obtain ⟨y, hy⟩ : ∃ y, zeroB (-D).toNat ++ u = y := ⟨_, rfl⟩
                have HY := Lib.hid (show y.data.toList = zeros (-D).toNat ++ u.data.toList by rw [← hy, ByteArray.data_append, Array.toList_append, zeroB_list])
                have HYS : (y.size : Int) ≤ 1048590 := by rw [← hy, ByteArray.size_append, hzz]; omega
                rw [hy]
                clear hy hzz
                go_still_tail 10, (by kernel_rfl)
                change wpList _ _ _ _ _ _
                go_wp2_with fail
                go_ret2
                refine ⟨_, rfl, ?_, ((HB2.out.drew.alloc (by simpa using HB2.out.size) _).drew)⟩
                have hl3 : sg.data.toList.length ≤ 3000000 := by rcases hsg with rfl | rfl | rfl <;> decide
                have e1 : shfin u.data.toList D = 46 :: (zeros (-D).toNat ++ u.data.toList) := by rw [shfin, ba_len, if_neg (by omega), if_pos hB]
                rw [HS.out, e1]
                refine (tellB F _ _ _ hl3 (by simp) (by rw [ba_len]; omega)).trans ?_
                rw [HY.out]; rfl
              · obtain ⟨n, rfl⟩ := Int.eq_ofNat_of_zero_le (show 0 ≤ D by omega)
                clear HFw HU HL
                go_upto_region 23 with fail
                have hF' := answers_open HFc.out
                clear HFc
                have q0 : (0 : Int) ≤ n := by omega
                have q1 : (n : Int) ≤ u.size := by omega
                go_still_tail 10, (by kernel_rfl)
                change wpList _ _ _ _ _ _
                go_wp2_with fail
                go_ret2
                refine ⟨_, rfl, ?_, ((HB.out.drew.alloc (by simpa using HB.out.size) _).drew)⟩
                have hl3 : sg.data.toList.length ≤ 3000000 := by rcases hsg with rfl | rfl | rfl <;> decide
                have e1 : shfin u.data.toList n = u.data.toList.take n ++ 46 :: u.data.toList.drop n := by rw [shfin, ba_len, if_neg (by omega), if_neg (by omega)]; rfl
                have hlu : u.data.toList.length ≤ 3000000 := by rw [ba_len]; omega
                rw [HS.out, e1]
                refine (tellB F _ _ _ hl3 (by rw [List.length_take]; omega) (by rw [List.length_take, List.length_drop]; omega)).trans ?_
                rw [List.take_of_length_le (show (u.data.toList.drop n).length ≤ u.size - n by rw [List.length_drop, ba_len]; omega)]
end Go.Proofs.YtfhkkpfkkhpohaaFmt.Sd
