/-
  compactRules' way out where a corner is unsafe (for law 55).
-/
import Derived.Test.YtmaljklijpoojaaDoorCs
namespace Go.Proofs.YtmaljklijpoojaaDoor.Co
open Go.ChangeShapes Go.WideShapes Go.ChangeAt Go.RowKit Rg Quad
set_option linter.unusedVariables false
set_option linter.unusedSimpArgs false
theorem cgR_one (c : CN) : (cgR c).toArray.all (·.oneCell') = true := by simp [cgR, cgG, Value.oneCell']
def KU (a b : Int) (g t : Nat) (w0 w : World) : Prop := w.cell? ⟨g, 14, none⟩ = some (.string ⟨#[]⟩) ∧ w.cell? ⟨g, 15, none⟩ = some (.int .u8 a) ∧ w.cell? ⟨t, 14, none⟩ = some (.string ⟨#[]⟩) ∧ w.cell? ⟨t, 15, none⟩ = some (.int .u8 b) ∧ w0.heap.size ≤ w.heap.size ∧ Below w0.heap.size w0 w
theorem KU.keep {a b : Int} {g t : Nat} {w0 w w' : World} (h : KU a b g t w0 w) (hb : Below w.heap.size w w') : KU a b g t w0 w' :=
  ⟨later hb h.1, later hb h.2.1, later hb h.2.2.1, later hb h.2.2.2.1, Nat.le_trans h.2.2.2.2.1 hb.size, h.2.2.2.2.2.trans (hb.mono h.2.2.2.2.1)⟩
set_option maxRecDepth 100000 in
set_option maxHeartbeats 4000000 in
theorem cu_any (t : Nat) (r : Value) (n1 n2 : Int) (mf imp : Bool) (χ : Nat → CN) (w : World) (hT : TG χ imp t w) (hk : ∀ i, i < 4 → ¬ (χ i).k1 = 0) (hs : ∀ i, i < 4 → (χ i).st = 0 ∨ (χ i).st = 2) (hu : ∃ i, i < 4 ∧ (χ i).st = 2) :
    Calls Tryd.prog 23 #[.pointer (some ⟨t, 0, none⟩), r, .agg #[.int .i32 n1, .int .i32 n2], .bool mf] w fun e w' => e = .returned (.tuple #[]) ∧ Below w.heap.size w w' := by
  have hb : Below w.heap.size w (w.alloc (.cells #[.int .i32 n1, .int .i32 n2] 42)) := (Below.refl _ _).alloc (Nat.le_refl _) _
  have hT1 := hT.keep hb
  have k0 := hT1.1 0 (by omega) 5 _ rfl
  have k1 := hT1.1 1 (by omega) 5 _ rfl
  have k2 := hT1.1 2 (by omega) 5 _ rfl
  have k3 := hT1.1 3 (by omega) 5 _ rfl
  simp only [Nat.reduceMul, Nat.reduceAdd, Nat.zero_add, Nat.zero_mul] at k0 k1 k2 k3
  have x0 : ((χ 0).k1 == 0) = false := beq_eq_false_iff_ne.mpr (hk 0 (by omega))
  have x1 : ((χ 1).k1 == 0) = false := beq_eq_false_iff_ne.mpr (hk 1 (by omega))
  have x2 : ((χ 2).k1 == 0) = false := beq_eq_false_iff_ne.mpr (hk 2 (by omega))
  have x3 : ((χ 3).k1 == 0) = false := beq_eq_false_iff_ne.mpr (hk 3 (by omega))
  have HH := Lib.hid (And.intro hs hu)
  have HB := Lib.hid hb
  have HT := Lib.hid hT1
  generalize (χ 0).k1 = y0 at *
  generalize (χ 1).k1 = y1 at *
  generalize (χ 2).k1 = y2 at *
  generalize (χ 3).k1 = y3 at *
  clear hT hT1 hk hs hu hb
  go_enter Tryd.func23, Tryd.ntmps23
  go_upto_region 1 with fail
  generalize World.alloc w _ = w1 at *
  go_upto_block 0 with fail
  clear k0 k1 k2 k3 x0 x1 x2 x3
  go_wp2_with fail
  go_loopw [65] (fun iv wr => ∃ j : Nat, j ≤ 3 ∧ iv = .int .i64 j ∧ Hid (∀ i, i ≤ j → 0 < j → (χ i).st = 0) ∧ Hid (TG χ imp t wr ∧ Below w.heap.size w wr)) (fun iv _ => 3 - (intOf iv).toNat)
  case atStart => exact ⟨0, by omega, rfl, Lib.hid (fun i hi h => absurd h (by omega)), Lib.hid ⟨HT.out, HB.out⟩⟩
  case round =>
    clear HT HB
    obtain ⟨j, hj, rfl, HZ, HT⟩ := hrel
    by_cases hlt : j < 3
    case neg =>
      exfalso
      obtain ⟨i, hi, h2⟩ := HH.out.2
      have := HZ.out i (by omega) (by omega)
      omega
    have q0 : (0 : Int) ≤ j := by omega
    have q3 : (j : Int) < 3 := by omega
    obtain ⟨c, hc⟩ : ∃ c, cgR (χ (j + 1)) = c := ⟨_, rfl⟩
    obtain ⟨sa, hsa⟩ : ∃ s, (χ (j + 1)).st = s := ⟨_, rfl⟩
    obtain ⟨sb, hsb⟩ : ∃ s, (χ 0).st = s := ⟨_, rfl⟩
    have hr := HT.out.1.1 (j + 1) (by omega)
    rw [show (j + 1) * 18 = 18 + j * 18 by omega, hc] at hr
    have l0 : c.length = 18 := by rw [← hc]; rfl
    have l1 : c.toArray.all (·.oneCell') = true := by rw [← hc]; exact cgR_one _
    have l2 : c[14]? = some (.string ⟨#[]⟩) := by rw [← hc]; rfl
    have l3 : c[15]? = some (.int .u8 sa) := by rw [← hc, ← hsa]; rfl
    have hsz : (Tryd.prog.info? 66).map (·.size) = some c.length := by rw [l0]; exact szCn
    have hsz2 : (Tryd.prog.info? 66).map (·.size) = some c.toArray.size := by rw [List.size_toArray]; exact hsz
    obtain ⟨du, hdu, hu2⟩ := tyCn
    have HL := Lib.hid (And.intro l0 l1)
    have HSZ2 := Lib.hid hsz2
    have HRR := Lib.hid hr
    have HSZ := Lib.hid hsz
    have HU := Lib.hid hdu
    clear hc hr hsz hdu hsz2 l0 l1
    go_upto_region 6 with (first | (refine wpList_load_mid rfl 66 _ rfl t (18 + j * 18) rfl c du HRR.out HU.out hu2 HSZ.out ?_) | (refine wpList_store_mid rfl 66 _ _ rfl wr.heap.size 0 c.toArray rfl rfl (th_new wr _ _ (by rw [List.size_toArray, HL.out.1]; rfl)) HSZ2.out HL.out.2 ?_))
    change Code.wp _ _ _ (Act.mk _ _) _
    generalize hw2 : World.setCells (World.alloc wr _) _ 0 c = w2
    have hr2 : w2.rangeAt wr.heap.size 0 c := by rw [← hw2]; exact World.rangeAt_setCells_same _ _ _ _ (th_new wr _ _ (by rw [HL.out.1]; rfl))
    have hb2 : Below wr.heap.size wr w2 := by rw [← hw2]; exact below_setCells (Nat.le_refl _) _ _ ((Below.refl _ _).alloc (Nat.le_refl _) _)
    clear hw2
    have HT2 : Hid (TG χ imp t w2 ∧ Below w.heap.size w w2) := Lib.hid ⟨HT.out.1.keep hb2, HT.out.2.trans (hb2.mono HT.out.2.size)⟩
    have t0 := HT2.out.1.1 0 (by omega) 14 _ rfl
    have t1 := HT2.out.1.1 0 (by omega) 15 _ rfl
    have t2 := hr2 14 _ l2
    have t3 := hr2 15 _ l3
    rw [hsb] at t1
    simp only [Nat.zero_add, Nat.zero_mul] at t0 t1 t2 t3
    generalize wr.heap.size = g at *
    have HK := Lib.hid (show KU sa sb g t w2 w2 from ⟨t2, t3, t0, t1, Nat.le_refl _, Below.refl _ _⟩)
    have HIS := Lib.hid fun W => isw2 sa sb (by rw [← hsa]; exact HH.out.1 (j + 1) (by omega)) (by rw [← hsb]; exact HH.out.1 0 (by omega)) W
    obtain ⟨q, hq⟩ : ∃ q, decide (sa = 0 ∧ sb = 0) = q := ⟨_, rfl⟩
    rw [hq] at HIS
    have HSS := Lib.hid (And.intro hsa (And.intro hsb hq))
    clear hr2 hb2 t0 t1 t2 t3 HRR HL HSZ HSZ2 HU HT l2 l3 hsa hsb hq
    go_region_held3 (fun w' => w'.cell? ⟨g, 14, none⟩ = some (.string ⟨#[]⟩) ∧ w'.cell? ⟨g, 15, none⟩ = some (.int .u8 sa) ∧ w'.cell? ⟨t, 14, none⟩ = some (.string ⟨#[]⟩) ∧ w'.cell? ⟨t, 15, none⟩ = some (.int .u8 sb) ∧ w2.heap.size ≤ w'.heap.size ∧ Below w2.heap.size w2 w')
      (first | exact HK.out.keep (Below.refl _ _).drew | (refine KU.keep ?_ ‹Below _ _ _›; assumption))
      (first | (go_at_call 29; refine (HIS.out _).mono ?_; rintro e w' ⟨rfl, hb⟩))
    rename_i hH
    have HT3 : Hid (TG χ imp t _ ∧ Below w.heap.size w _) := Lib.hid ⟨HT2.out.1.keep hH.2.2.2.2.2, HT2.out.2.trans (hH.2.2.2.2.2.mono HT2.out.2.size)⟩
    clear hH HK HT2 HIS
    cases q with
    | true =>
      have hz : sa = 0 ∧ sb = 0 := of_decide_eq_true HSS.out.2.2
      have HN : Hid (∀ i, i ≤ j + 1 → 0 < j + 1 → (χ i).st = 0) := Lib.hid (fun i hi _ => by
        by_cases e : i = j + 1
        · rw [e, HSS.out.1]; exact hz.1
        · by_cases e0 : i = 0
          · rw [e0, HSS.out.2.1]; exact hz.2
          · exact HZ.out i (by omega) (by omega))
      clear hz HZ HSS
      go_wp2_with fail
      exact ⟨⟨j + 1, by omega, by go_num, HN, HT3⟩, by simp [intOf]; omega⟩
    | false =>
      clear HZ HSS
      go_wp2_with fail
      (try simp only [Exit.inBlock, Exit.then])
      refine bodyPost_ret (results_none rfl _ _ _) rfl ?_
      exact ⟨rfl, HT3.out.2⟩
end Go.Proofs.YtmaljklijpoojaaDoor.Co
