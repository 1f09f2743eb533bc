/-
  zzSign, zzPercentOver100.
-/
import Derived.Test.YtfhkkpfkkhpohabFmtZp
import Derived.Lib.Strings
import Derived.Deep.DeepCutAuto
import Derived.Deep.CutBlock
import Derived.Deep.LoopGhost
namespace Go.Proofs.YtfhkkpfkkhpohabFmt.Sd
open Go.ChangeShapes Go.WideShapes Go.ChangeAt Go.RowKit Rg
set_option linter.unusedVariables false
theorem tl_nil {b : ByteArray} (h : b.toList = []) : b.data.toList = [] := by rw [← Lib.toList_data]; exact h
theorem tl_ne {b : ByteArray} (h : b.toList.isEmpty = false) : b.data.toList ≠ [] := by rw [← Lib.toList_data]; intro e; rw [e] at h; cases h
def sgB (x : Int) : ByteArray := if x % 3 = 1 then ⟨#[45]⟩ else if x % 3 = 2 then ⟨#[43]⟩ else ⟨#[]⟩
set_option maxRecDepth 100000 in
theorem sign_any (x : Int) (w : World) (h0 : 0 ≤ x) (h1 : x ≤ 255) :
    Calls Tryf.prog 6 #[.int .u8 x] w fun e w' => e = .returned (.string (sgB x)) ∧ w = w' := by
  have hc : x % 3 = 0 ∨ x % 3 = 1 ∨ x % 3 = 2 := by omega
  rcases hc with h | h | h
  · rw [show sgB x = ⟨#[]⟩ by unfold sgB; rw [if_neg (by omega), if_neg (by omega)]]
    go_enter Tryf.func6, Tryf.ntmps6
    go_wp2
    go_ret
    exact ⟨rfl, rfl⟩
  · rw [show sgB x = ⟨#[45]⟩ by unfold sgB; rw [if_pos h]]
    go_enter Tryf.func6, Tryf.ntmps6
    go_wp2
    go_ret
    exact ⟨rfl, rfl⟩
  · rw [show sgB x = ⟨#[43]⟩ by unfold sgB; rw [if_neg (by omega), if_pos h]]
    go_enter Tryf.func6, Tryf.ntmps6
    go_wp2
    go_ret
    exact ⟨rfl, rfl⟩
/-- what the model's text is made of -/
def pq (I : List UInt8) : Int := (I.length : Int) - 2
def ip0 (I F : List UInt8) : List UInt8 := if 0 < pq I then (I ++ F).take (pq I).toNat else []
def fp0 (I F : List UInt8) : List UInt8 := if 0 < pq I then (I ++ F).drop (pq I).toNat else if pq I < 0 then zeros (-(pq I)).toNat ++ (I ++ F) else I ++ F
def pfin (q : Int) (ip fp : List UInt8) : List UInt8 := if ip = [] ∧ fp = [] then (if q < 0 then 46 :: zeros (-q).toNat else []) else if fp = [] then ip else ip ++ 46 :: fp
theorem po_eq (I F : List UInt8) : po I F = pfin (pq I) (dz (ip0 I F)) ((fp0 I F).take (tl (fp0 I F) (-1) (fp0 I F).length)) := rfl
def PoP (sg I F : ByteArray) (w : World) (e : Ending) (w' : World) : Prop := ∃ r : ByteArray, e = .returned (.string r) ∧ r.data.toList = sg.data.toList ++ po I.data.toList F.data.toList ∧ Below w.heap.size w w'
set_option maxRecDepth 100000 in
set_option maxHeartbeats 4000000 in
theorem po_any (sg I F : ByteArray) (w : World) (hsg : sg.size ≤ 1) (hI : (I.size : Int) ≤ 65536) (hF : (F.size : Int) ≤ 65536) :
    Calls Tryf.prog 8 #[.string sg, .string I, .string F] w (PoP sg I F w) := by
  have hsz : ((I ++ F).size : Int) = I.size + F.size := by simp
  have hzz := zeroB_size
  have HI : Hid (I.data.toList.length = I.size) := Lib.hid (ba_len I)
  have hq : ∃ q : Int, q = (I.size : Int) - 2 := ⟨_, rfl⟩
  have HA : Hid ((I ++ F).data.toList = I.data.toList ++ F.data.toList) := Lib.hid (by simp)
  have HQ : Hid (pq I.data.toList = (I.size : Int) - 2) := Lib.hid (by unfold pq; rw [HI.out])
  clear hq
  go_enter Tryf.func8, Tryf.ntmps8
  go_upto_if 21 with (fail)
  go_cut [8, 9, 10] (fun s8 s9 s10 wc => ∃ (q : Int) (ip fp : ByteArray), s8 = .int .i64 q ∧ s9 = .string ip ∧ s10 = .string fp ∧ Hid (q = pq I.data.toList) ∧ -2 ≤ q ∧ q ≤ 65534 ∧ (ip.size : Int) ≤ 131072 ∧ (fp.size : Int) ≤ 131074 ∧ Hid (ip.data.toList = ip0 I.data.toList F.data.toList) ∧ Hid (fp.data.toList = fp0 I.data.toList F.data.toList) ∧ Hid (Below w.heap.size w wc))
  case first =>
    go_wp2_with (first | (go_at_call 10; refine (zeros_any _ _ (by omega) (by omega)).mono ?_; rintro e w1 ⟨rfl, hb⟩))
    · go_meet
      have h0 : 0 < pq I.data.toList := by rw [HQ.out]; omega
      exact ⟨_, _, _, rfl, rfl, rfl, Lib.hid HQ.out.symm, by omega, by omega, by simp; omega, by simp; omega, Lib.hid (by rw [ip0, if_pos h0, ext_take, HA.out, HQ.out]; congr 1; omega), Lib.hid (by
        rw [fp0, if_pos h0]
        have e := ext_drop (I ++ F) (I.size - 2)
        rw [ByteArray.size_append] at e
        rw [e, HA.out, HQ.out]; congr 1; omega), Lib.hid (Below.refl _ _)⟩
    · go_meet
      have h0 : ¬ 0 < pq I.data.toList := by rw [HQ.out]; omega
      have h1 : pq I.data.toList < 0 := by rw [HQ.out]; omega
      exact ⟨_, _, _, rfl, rfl, rfl, Lib.hid HQ.out.symm, by omega, by omega, by decide, by rw [ByteArray.size_append, hzz]; omega, Lib.hid (by rw [ip0, if_neg h0]), Lib.hid (by
        rw [fp0, if_neg h0, if_pos h1, ByteArray.data_append, Array.toList_append, HA.out, HQ.out]; rfl), Lib.hid hb⟩
    · go_meet
      have h0 : ¬ 0 < pq I.data.toList := by rw [HQ.out]; omega
      have h1 : ¬ pq I.data.toList < 0 := by rw [HQ.out]; omega
      exact ⟨_, _, _, rfl, rfl, rfl, Lib.hid HQ.out.symm, by omega, by omega, by decide, by omega, Lib.hid (by rw [ip0, if_neg h0]), Lib.hid (by
        rw [fp0, if_neg h0, if_neg h1]; exact HA.out), Lib.hid (Below.refl _ _)⟩
  case rest =>
    clear hsz hzz HI HA HQ
    obtain ⟨q, ip, fp, rfl, rfl, rfl, HQ, hq0, hq1, hip, hfp, HIP, HFP, HB⟩ := hcut
    go_upto_block 0 with (fail)
    go_cut [11] (fun s11 wx => ∃ k : Nat, k ≤ ip.size ∧ s11 = .int .i64 k ∧ Hid (dz ip.data.toList = ip.data.toList.drop k) ∧ Hid (Below w.heap.size w wx))
    case first =>
      go_wp2_with fail
      go_loop [11] (fun i => ∃ k : Nat, k ≤ ip.size ∧ i = .int .i64 k ∧ Hid (dz (ip.data.toList.drop k) = dz ip.data.toList)) (fun i => ip.size - (intOf i).toNat)
      case atStart => exact ⟨0, Nat.zero_le _, rfl, Lib.hid rfl⟩
      case round =>
        obtain ⟨k, hk, rfl, HR⟩ := hrel
        by_cases hc : ∃ h : k < ip.size, ip[k].toNat = 48
        · obtain ⟨hlt, hz⟩ := hc
          have HN : Hid (dz (ip.data.toList.drop (k + 1)) = dz ip.data.toList) := Lib.hid (by rw [← HR.out, drop_at ip k hlt, dz, if_pos (UInt8.toNat_inj.1 (by simpa using hz))])
          have hb : ((ip[k].toNat : Int) == 48) = true := by simp [hz]
          clear hz
          go_wp2_with fail
          go_round
          case rel => exact ⟨k + 1, by omega, by go_num, HN⟩
          case measure => simp [intOf]; omega
        · have HN : Hid (dz ip.data.toList = ip.data.toList.drop k) := Lib.hid (by
            rw [← HR.out]
            by_cases hlt : k < ip.size
            · rw [drop_at ip k hlt, dz, if_neg (fun e => hc ⟨hlt, by rw [e]; rfl⟩)]
            · rw [drop_end ip k hlt, dz])
          by_cases hlt : k < ip.size
          · have hb : ((ip[k].toNat : Int) == 48) = false := by
              have : ¬ ip[k].toNat = 48 := fun e => hc ⟨hlt, e⟩
              simp; omega
            clear hc HR
            go_wp2_with fail
            go_meet
            exact ⟨k, by omega, rfl, HN, HB⟩
          · clear hc HR
            have hkl : decide ((k : Int) < (ip.size : Int)) = false := by simp; omega
            go_wp2_with fail
            go_meet
            exact ⟨k, by omega, rfl, HN, HB⟩
    case rest =>
      clear HB
      obtain ⟨k, hk, rfl, HD, HB⟩ := hcut
      go_upto_block 2 with (fail)
      go_cut [12] (fun s12 wx => ∃ e : Nat, e ≤ fp.size ∧ s12 = .int .i64 e ∧ Hid (tl fp.data.toList (-1) fp.data.toList.length = e) ∧ Hid (Below w.heap.size w wx))
      case first =>
        go_wp2_with fail
        go_loop [12] (fun i => ∃ k : Nat, k ≤ fp.size ∧ i = .int .i64 k ∧ Hid (tl fp.data.toList (-1) fp.data.toList.length = tl fp.data.toList (-1) k)) (fun i => (intOf i).toNat)
        case atStart => exact ⟨fp.size, Nat.le_refl _, rfl, Lib.hid (by rw [ba_len])⟩
        case round =>
          obtain ⟨k, hk, rfl, HR⟩ := hrel
          cases k with
          | zero =>
            have hkl : decide ((0 : Int) < ((0 : Nat) : Int)) = false := by decide
            go_wp2_with fail
            go_meet
            exact ⟨0, by omega, rfl, Lib.hid HR.out, HB⟩
          | succ k =>
            have hlt : k < fp.size := by omega
            have e1 : fp.data.toList[k]? = some fp[k] := by rw [List.getElem?_eq_getElem (by simpa using hlt)]; rfl
            by_cases hz : fp[k].toNat = 48
            · have HN : Hid (tl fp.data.toList (-1) fp.data.toList.length = tl fp.data.toList (-1) k) := Lib.hid (by
                rw [HR.out, tl, if_pos ⟨by omega, by rw [e1]; exact congrArg some (UInt8.toNat_inj.1 (by simpa using hz))⟩])
              have hb : ((fp[k].toNat : Int) == 48) = true := by simp [hz]
              clear hz HR e1
              go_wp2_with fail
              go_round
              case rel => exact ⟨k, by omega, by go_num, HN⟩
              case measure => simp [intOf]
            · have HN : Hid (tl fp.data.toList (-1) fp.data.toList.length = k + 1) := Lib.hid (by
                rw [HR.out, tl, if_neg (fun c => hz (by have := c.2; rw [e1] at this; injection this with this; rw [this]; rfl))])
              have hb : ((fp[k].toNat : Int) == 48) = false := by simp; omega
              clear hz HR e1
              go_wp2_with fail
              go_meet
              exact ⟨k + 1, by omega, by go_num, HN, HB⟩
      case rest =>
        clear HB
        obtain ⟨e, he, rfl, HE, HB⟩ := hcut
        have HD2 : Hid ((ip.extract k ip.size).data.toList = dz (ip0 I.data.toList F.data.toList)) := Lib.hid (by rw [ext_drop, ← HIP.out]; exact HD.out.symm)
        have HF2 : Hid ((fp.extract 0 e).data.toList = (fp0 I.data.toList F.data.toList).take (tl (fp0 I.data.toList F.data.toList) (-1) (fp0 I.data.toList F.data.toList).length)) := Lib.hid (by rw [ext_take, ← HFP.out, HE.out])
        have s1 : ((ip.extract k ip.size).size : Int) ≤ 131072 := by rw [← ba_len, ext_drop, List.length_drop, ba_len]; omega
        have s2 : ((fp.extract 0 e).size : Int) ≤ 131074 := by rw [← ba_len, ext_take, List.length_take, ba_len]; omega
        clear HD HE HIP HFP
        go_upto_region 18 with (fail)
        generalize ip.extract k ip.size = ipd at *
        generalize fp.extract 0 e = fpd at *
        have hzz := zeroB_size
        have HP : Hid (∀ A B, ipd.data.toList = A → fpd.data.toList = B → po I.data.toList F.data.toList = pfin q A B) := Lib.hid (fun A B h1 h2 => by rw [po_eq, ← HD2.out, ← HF2.out, h1, h2, HQ.out])
        clear HD2 HF2
        go_wp2_with (first | (go_at_call 10; refine (zeros_any _ _ (by omega) (by omega)).mono ?_; rintro e w1 ⟨rfl, hb⟩))
        · go_ret
          refine ⟨_, rfl, ?_, HB.out.trans (hb.mono HB.out.size)⟩
          rw [HP.out [] [] (tl_nil (by assumption)) (tl_nil (List.isEmpty_iff.1 (by assumption)))]
          simp [pfin, zeroB_list]
          omega
        · go_ret
          refine ⟨_, rfl, ?_, HB.out⟩
          rw [HP.out [] [] (tl_nil (by assumption)) (tl_nil (List.isEmpty_iff.1 (by assumption)))]
          simp [pfin]
          omega
        · go_ret
          refine ⟨_, rfl, ?_, HB.out⟩
          have hne : fpd.data.toList ≠ [] := tl_ne (by assumption)
          have hn := tl_nil (b := ipd) (by assumption)
          rw [HP.out _ _ rfl rfl]
          simp only [pfin, hne, hn, and_false, if_false]
          simp [hn]
        · go_ret
          refine ⟨_, rfl, ?_, HB.out⟩
          have hn : ipd.data.toList ≠ [] := by rw [← Lib.toList_data]; assumption
          have hne := tl_nil (b := fpd) (List.isEmpty_iff.1 (by assumption))
          rw [HP.out _ _ rfl rfl]
          simp only [pfin, hne, hn, and_true, if_false, if_true]
          simp
        · go_ret
          refine ⟨_, rfl, ?_, HB.out⟩
          have hn : ipd.data.toList ≠ [] := by rw [← Lib.toList_data]; assumption
          have hne : fpd.data.toList ≠ [] := tl_ne (by assumption)
          rw [HP.out _ _ rfl rfl]
          simp only [pfin, hne, hn, and_false, if_false]
          simp
end Go.Proofs.YtfhkkpfkkhpohabFmt.Sd
