/-
  TokensEqualIgnoringWhitespace; zzSameTok, zzExpand, zzMinimal, zzCheckList.
-/
import Derived.Test.YtmaljklijpoojaaDoorCb
import Derived.Deep.MidRow
import Derived.Deep.DeepCutAuto
namespace Go.Proofs.YtmaljklijpoojaaDoor.Co
open Go.ChangeShapes Go.WideShapes Go.ChangeAt Go.RowKit Rg Quad
set_option linter.unusedVariables false
set_option linter.unusedSimpArgs false
theorem cells7 {w : World} {g o : Nat} {x : TY} (h : w.rangeAt g o (tyR x)) : w.cell? ⟨g, o, none⟩ = some (.pointer none) ∧ w.cell? ⟨g, o + 1, none⟩ = some (.string (tT x.1)) ∧ w.cell? ⟨g, o + 2, none⟩ = some (.int .i32 0) ∧ w.cell? ⟨g, o + 3, none⟩ = some (.int .u32 0) ∧
    w.cell? ⟨g, o + 4, none⟩ = some (.int .u16 0) ∧ w.cell? ⟨g, o + 5, none⟩ = some (.int .u8 (tK x.1)) ∧ w.cell? ⟨g, o + 6, none⟩ = some (.int .u8 x.2) :=
  ⟨h 0 _ rfl, h 1 _ rfl, h 2 _ rfl, h 3 _ rfl, h 4 _ rfl, h 5 _ rfl, h 6 _ rfl⟩
def TeP (na nb : Nat) (X Y : Nat → TY) (w : World) (e : Ending) (w' : World) : Prop := ∃ r : Bool, e = .returned (.bool r) ∧ (r = true ↔ na = nb ∧ ∀ i, i < na → (X i).1 = (Y i).1) ∧ Below w.heap.size w w'
set_option maxRecDepth 100000 in
set_option maxHeartbeats 4000000 in
theorem te_any (ga gb na nb ca cb : Nat) (X Y : Nat → TY) (w : World) (hx : ∀ i, i < na → 0 ≤ (X i).1 ∧ (X i).1 < 8) (hy : ∀ i, i < nb → 0 ≤ (Y i).1 ∧ (Y i).1 < 8) (h1 : TR w ga na X) (h2 : TR w gb nb Y) (n1 : na ≤ 9) (n2 : nb ≤ 9) :
    Calls Tryd.prog 28 #[.slice (some ⟨ga, 0, none⟩) na ca, .slice (some ⟨gb, 0, none⟩) nb cb] w (TeP na nb X Y w) := by
  have H1 := Lib.hid h1
  have H2 := Lib.hid h2
  have HX := Lib.hid hx
  have HY := Lib.hid hy
  obtain ⟨du, hu, hu2⟩ := tyTok
  have HU := Lib.hid hu
  clear h1 h2 hx hy hu
  by_cases hn : na = nb
  case neg =>
    have hnb : ((na : Int) == nb) = false := beq_eq_false_iff_ne.mpr (by omega)
    go_enter Tryd.func28, Tryd.ntmps28
    go_wp2_with fail
    go_ret
    exact ⟨false, rfl, ⟨fun h => (by cases h), fun h => absurd h.1 hn⟩, Below.refl _ _⟩
  subst hn
  go_enter Tryd.func28, Tryd.ntmps28
  go_wp2_with fail
  go_loopw [14] (fun i wr => ∃ k : Nat, k ≤ na ∧ i = .int .i64 k ∧ Hid (Below w.heap.size w wr ∧ ∀ j, j < k → (X j).1 = (Y j).1)) (fun i _ => na - (intOf i).toNat)
  case atStart => exact ⟨0, Nat.zero_le _, rfl, Lib.hid ⟨Below.refl _ _, fun j hj => by omega⟩⟩
  case round =>
    obtain ⟨k, hk, rfl, HT⟩ := hrel
    by_cases hlt : k < na
    · have q0 : (0 : Int) ≤ k := by omega
      have q1 : (k : Int) < na := by omega
      have HRX := Lib.hid (show wr.rangeAt ga (k * 7) [.pointer none, .string (tT (X k).1), .int .i32 0, .int .u32 0, .int .u16 0, .int .u8 (tK (X k).1), .int .u8 (X k).2] from H1.out.keep HT.out.1 k hlt)
      go_upto_region 6 with (first | (refine wpList_load_mid rfl 39 _ rfl ga (k * 7) rfl _ du HRX.out HU.out hu2 szTok ?_))
      have hbA : Below wr.heap.size wr (wr.alloc (.cells (tyR (X k)).toArray 39)) := (Below.refl _ _).alloc (Nat.le_refl _) _
      have hrA : (wr.alloc (.cells (tyR (X k)).toArray 39)).rangeAt wr.heap.size 0 (tyR (X k)) := rg_new wr (tyR (X k)).toArray 39
      obtain ⟨gq, hg⟩ : ∃ q, wr.heap.size = q := ⟨_, rfl⟩
      rw [hg] at hrA
      obtain ⟨wA, hwA⟩ : ∃ w', wr.alloc (.cells (tyR (X k)).toArray 39) = w' := ⟨_, rfl⟩
      have hwA2 := hwA
      unfold tyR at hwA2
      rw [hwA] at hbA hrA
      rw [hwA2, hg]
      have HBA := Lib.hid (HT.out.1.trans (hbA.mono HT.out.1.size))
      have hy := H2.out.keep HBA.out k hlt
      obtain ⟨a0, a1, a2, a3, a4, a5, a6⟩ := cells7 hrA
      obtain ⟨b0, b1, b2, b3, b4, b5, b6⟩ := cells7 hy
      simp only [Nat.zero_add] at a0 a1 a2 a3 a4 a5 a6
      have HJ := Lib.hid HT.out.2
      clear hy hrA hbA hwA hwA2 hg HT HRX
      go_still_tail 5, (by kernel_rfl)
      change wpList _ _ _ _ _ _
      go_wp2_with fail
      refine (eqt_any _ _ _ _ _ _ _ _ _ _ _ _ _).mono ?_
      rintro e w2 ⟨rfl, hb⟩
      have HB2 := Lib.hid (HBA.out.trans (((below_drewN (Below.refl wA.heap.size wA) 1).trans hb).mono HBA.out.size))
      clear hb a0 a1 a2 a3 a4 a5 a6 b0 b1 b2 b3 b4 b5 b6 HBA
      rw [eq_code (HX.out k hlt) (HY.out k hlt)]
      by_cases he : (X k).1 = (Y k).1
      · rw [decide_eq_true he]
        have HJ2 : Hid (∀ j, j < k + 1 → (X j).1 = (Y j).1) := Lib.hid fun j hj => by
          by_cases e : j = k
          · subst e; exact he
          · exact HJ.out j (by omega)
        clear he HJ
        go_wp2_with fail
        exact ⟨⟨k + 1, by omega, by go_num, Lib.hid ⟨HB2.out, HJ2.out⟩⟩, by simp [intOf]; omega⟩
      · rw [decide_eq_false he]
        have HE : Hid (¬ ∀ i, i < na → (X i).1 = (Y i).1) := Lib.hid fun h => he (h k hlt)
        clear he HJ
        go_wp2_with fail
        go_ret
        exact ⟨false, rfl, ⟨fun h => (by cases h), fun h => absurd h.2 HE.out⟩, HB2.out⟩
    · obtain rfl : k = na := by omega
      go_wp2_with fail
      go_ret
      exact ⟨true, rfl, ⟨fun _ => ⟨rfl, HT.out.2⟩, fun _ => rfl⟩, HT.out.1⟩
/-- zzSameTok: the codes alike -/
def sm (x : TY) (c : Int) : Bool := decide (tK x.1 = tK (c % 8)) && ((tT x.1).toList == (tT (c % 8)).toList)
theorem sm_code {x : TY} {c : Int} (hx : 0 ≤ x.1 ∧ x.1 < 8) (hc : 0 ≤ c ∧ c < 8) : sm x c = decide (x.1 = c) := by
  have h := eq_code hx hc
  unfold eqT at h
  rw [← h]
  unfold sm
  rw [Int.emod_eq_of_lt hc.1 hc.2]
  by_cases e : tK x.1 = tK c
  · by_cases e2 : (tT x.1).toList = (tT c).toList
    · simp [e, e2]
    · simp [e, e2]
  · simp [e]
set_option maxRecDepth 100000 in
set_option maxHeartbeats 2000000 in
theorem st_any (x : TY) (c : Int) (w : World) (h0 : 0 ≤ c) (h1 : c ≤ 255) : Calls Tryd.prog 15 #[tyV x, .int .u8 c] w fun e w' => e = .returned (.bool (sm x c)) ∧ Below w.heap.size w w' := by
  unfold tyV sm
  have hz := fun W => zt_any c W h0 h1
  unfold tyV at hz
  generalize tK (c % 8) = k2 at *
  generalize tT (c % 8) = t2 at *
  generalize tK x.1 = k1 at *
  generalize tT x.1 = t1 at *
  obtain ⟨x1, s1⟩ := x
  dsimp only
  have HZ := Lib.hid hz
  clear hz
  obtain ⟨v, hv⟩ : ∃ v, (decide (k1 = k2) && (t1.toList == t2.toList)) = v := ⟨_, rfl⟩
  rw [hv]
  go_enter Tryd.func15, Tryd.ntmps15
  go_wp2_with fail
  have hbA : Below w.heap.size w (w.alloc (.cells #[.pointer none, .string t1, .int .i32 0, .int .u32 0, .int .u16 0, .int .u8 k1, .int .u8 s1] 39)) := (Below.refl _ _).alloc (Nat.le_refl _) _
  have hrA : (w.alloc (.cells #[.pointer none, .string t1, .int .i32 0, .int .u32 0, .int .u16 0, .int .u8 k1, .int .u8 s1] 39)).rangeAt w.heap.size 0 [.pointer none, .string t1, .int .i32 0, .int .u32 0, .int .u16 0, .int .u8 k1, .int .u8 s1] := rg_new w _ _
  obtain ⟨gq, hg⟩ : ∃ q, w.heap.size = q := ⟨_, rfl⟩
  rw [hg] at hrA
  generalize w.alloc (.cells #[.pointer none, .string t1, .int .i32 0, .int .u32 0, .int .u16 0, .int .u8 k1, .int .u8 s1] 39) = wA at *
  refine (HZ.out _).mono ?_
  rintro e w1 ⟨rfl, hb⟩
  dsimp only
  try rw [hg]
  have hr := rg_keep hb hrA
  have c1 := hr 1 _ rfl
  have c5 := hr 5 _ rfl
  simp only [Nat.zero_add] at c1 c5
  have d1 := alloc_cell c1
  have d5 := alloc_cell c5
  clear c1 c5
  have HB := Lib.hid (hbA.trans (hb.mono hbA.size))
  have hlt : gq < w1.heap.size := rg_lt hr (by simp)
  have hne : ¬ gq = w1.heap.size := by omega
  have hne2 : ¬ w1.heap.size = gq := by omega
  have HBX := fun o => HB.out.alloc (o := o) (by have := HB.out.size; omega)
  have HBX2 := Lib.hid HBX
  clear hb hr hrA hbA hlt hg HB HBX
  by_cases hk : k1 = k2
  · subst hk
    rcases Bool.eq_false_or_eq_true (t1.toList == t2.toList) with g | g
    · have HV := Lib.hid (show v = true by rw [← hv, g]; simp)
      clear hv
      go_wp2_with fail
      go_ret
      exact ⟨by rw [HV.out]; rfl, HBX2.out _⟩
    · have HV := Lib.hid (show v = false by rw [← hv, g]; simp)
      clear hv
      go_wp2_with fail
      go_ret
      exact ⟨by rw [HV.out]; rfl, HBX2.out _⟩
  · have HV := Lib.hid (show v = false by rw [← hv, decide_eq_false hk]; rfl)
    have hk2 : (k1 == k2) = false := beq_eq_false_iff_ne.mpr hk
    clear hk hv
    go_wp2_with fail
    go_ret
    exact ⟨by rw [HV.out]; rfl, HBX2.out _⟩
end Go.Proofs.YtmaljklijpoojaaDoor.Co
