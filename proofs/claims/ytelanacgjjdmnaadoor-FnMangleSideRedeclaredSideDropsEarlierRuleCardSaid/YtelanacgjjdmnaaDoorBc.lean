/-
  updateSide.
-/
import Derived.Test.YtelanacgjjdmnaaDoorBb
import Derived.StillTailTactics
namespace Go.Proofs.YtelanacgjjdmnaaDoor.Bx
open Go.ChangeShapes Go.WideShapes Go.ChangeAt Go.RowKit Rg
set_option linter.unusedVariables false
set_option linter.unusedSimpArgs false
theorem szRu : (Tryd.prog.info? 45).map (·.size) = some 2 := by kernel_rfl
theorem ruZ_one : (#[Value.nilIface, .int .i32 0].all (·.oneCell')) = true := by simp [Value.oneCell']
theorem tySd : ∃ d, Tryd.prog.underlying 56 = some d ∧ d.isRow = true := ⟨_, Tryd.underlying56, rfl⟩
theorem szSd : (Tryd.prog.info? 56).map (·.size) = some 11 := by kernel_rfl
theorem sdG_one (t : ByteArray) (l k st : Int) (i : Nat) (s : Bool) : (sdG t l k st i s).toArray.all (·.oneCell') = true := by simp [sdG, Value.oneCell']
theorem BB.sets {kt : ByteArray} {aa imp : Bool} {key : Int} {σ : Nat → SD} {b : Nat} {w : World} (h : BB kt aa imp key σ b w) {g : Nat} (hg : b ≠ g) (o : Nat) (vs : List Value) : BB kt aa imp key σ b (w.setCells g o vs) := by
  obtain ⟨h1, h2, h3, h4, h5, h6⟩ := h
  exact ⟨cell_sets h1 (.inl hg), fun i hi => World.rangeAt_setCells_apart (h2 i hi) _ _ _ (.inl hg), cell_sets h3 (.inl hg), cell_sets h4 (.inl hg), cell_sets h5 (.inl hg), World.there_setCells h6 _ _ _⟩
theorem cells11 {w : World} {g : Nat} {t : ByteArray} {l k st : Int} {i : Nat} {s : Bool} (h : w.rangeAt g 0 (sdG t l k st i s)) : w.cell? ⟨g, 0, none⟩ = some (.pointer none) ∧ w.cell? ⟨g, 1, none⟩ = some (.string t) ∧ w.cell? ⟨g, 2, none⟩ = some (.int .i32 l) ∧ w.cell? ⟨g, 3, none⟩ = some (.int .u32 0) ∧ w.cell? ⟨g, 4, none⟩ = some (.int .u16 0) ∧ w.cell? ⟨g, 5, none⟩ = some (.int .u8 k) ∧ w.cell? ⟨g, 6, none⟩ = some (.int .u8 0) ∧
    w.cell? ⟨g, 7, none⟩ = some (.string ⟨#[]⟩) ∧ w.cell? ⟨g, 8, none⟩ = some (.int .u8 st) ∧ w.cell? ⟨g, 9, none⟩ = some (.int .u32 (i : Int)) ∧ w.cell? ⟨g, 10, none⟩ = some (.bool s) := by
  have c0 := h 0 _ rfl
  have c1 := h 1 _ rfl
  have c2 := h 2 _ rfl
  have c3 := h 3 _ rfl
  have c4 := h 4 _ rfl
  have c5 := h 5 _ rfl
  have c6 := h 6 _ rfl
  have c7 := h 7 _ rfl
  have c8 := h 8 _ rfl
  have c9 := h 9 _ rfl
  have c10 := h 10 _ rfl
  simp only [Nat.zero_add] at c0 c1 c2 c3 c4 c5 c6 c7 c8 c9 c10
  exact ⟨c0, c1, c2, c3, c4, c5, c6, c7, c8, c9, c10⟩
/-- what updateSide does to the world -/
def UsP (b r side : Nat) (σ : Nat → SD) (x : SD) (w w' : World) : Prop :=
  ∃ wA, Below w.heap.size w wA ∧ w' = ((if (σ side).k ≠ 0 ∧ (σ side).st = 0 ∧ x.st = 0 then wA.setCells r ((σ side).i * 2) [.nilIface, .int .i32 0] else wA).drewN 1).setCells b (1 + side * 11) (sdR x)
set_option maxRecDepth 100000 in
set_option maxHeartbeats 4000000 in
theorem us_any (b r n c side : Nat) (kt : ByteArray) (aa imp : Bool) (key : Int) (σ : Nat → SD) (t : ByteArray) (l k st : Int) (i : Nat) (w : World) (hB : BB kt aa imp key σ b w) (hth : w.there r 0 (n * 2)) (hbr : b ≠ r) (hs : side < 4) (hn : 0 < n)
    (ho : (σ side).k ≠ 0 → (σ side).s = true ∧ (σ side).i < n) :
    Calls Tryd.prog 16 #[.pointer (some ⟨b, 0, none⟩), .slice (some ⟨r, 0, none⟩) n c, .int .i64 (side : Int), .agg (sdG t l k st i true).toArray] w fun e w' => e = .returned (.tuple #[]) ∧ UsP b r side σ ⟨t, l, k, st, i, true⟩ w w' := by
  have hrl : r < w.heap.size := th_lt hth (by omega)
  have hbl := hB.lt
  unfold UsP
  obtain ⟨co, hco⟩ : ∃ co, sdR (σ side) = co := ⟨_, rfl⟩
  have l0 : co.length = 11 := by rw [← hco]; rfl
  have l1 : co.toArray.all (·.oneCell') = true := by rw [← hco]; exact sdG_one _ _ _ _ _ _
  have l5 : co[5]? = some (.int .u8 (σ side).k) := by rw [← hco]; rfl
  have l8 : co[8]? = some (.int .u8 (σ side).st) := by rw [← hco]; rfl
  have l9 : co[9]? = some (.int .u32 ((σ side).i : Int)) := by rw [← hco]; rfl
  have l10 : co[10]? = some (.bool (σ side).s) := by rw [← hco]; rfl
  have hb1 : Below w.heap.size w (w.alloc (.cells (sdG t l k st i true).toArray 56)) := (Below.refl _ _).alloc (Nat.le_refl _) _
  have hN : (w.alloc (.cells (sdG t l k st i true).toArray 56)).rangeAt w.heap.size 0 (sdG t l k st i true) := rg_new w (sdG t l k st i true).toArray 56
  have hB1 := hB.keep hb1
  have hco1 := hB1.2.1 side hs
  rw [hco] at hco1
  have hth1 := th_keep hb1 hth
  have hsz : (Tryd.prog.info? 56).map (·.size) = some co.length := by rw [l0]; exact szSd
  have hsz2 : (Tryd.prog.info? 56).map (·.size) = some co.toArray.size := by rw [List.size_toArray]; exact hsz
  obtain ⟨du, hu, hu2⟩ := tySd
  obtain ⟨ko, hko⟩ : ∃ x, (σ side).k = x := ⟨_, rfl⟩
  obtain ⟨so, hso⟩ : ∃ x, (σ side).st = x := ⟨_, rfl⟩
  obtain ⟨io, hio⟩ : ∃ x, (σ side).i = x := ⟨_, rfl⟩
  obtain ⟨bo, hbo⟩ : ∃ x, (σ side).s = x := ⟨_, rfl⟩
  rw [hko] at ho l5 ⊢
  rw [hso] at l8 ⊢
  rw [hio] at ho l9 ⊢
  rw [hbo] at ho l10
  have HN1 := Lib.hid hN
  have HB1 := Lib.hid hB1
  have HCO := Lib.hid hco1
  have HTH1 := Lib.hid hth1
  have HSZ := Lib.hid hsz
  have HSZ2 := Lib.hid hsz2
  have HU := Lib.hid hu
  have HL := Lib.hid (And.intro l0 l1)
  have HC := Lib.hid (And.intro l5 (And.intro l8 (And.intro l9 l10)))
  have HBW := Lib.hid hb1
  have HR := Lib.hid (And.intro hbr (And.intro hrl hbl))
  have HO := Lib.hid ho
  have p0 : (0 : Int) ≤ side := by omega
  have p1 : (side : Int) < 4 := by omega
  clear hN hB1 hco1 hth1 hsz hsz2 hu l0 l1 l5 l8 l9 l10 hb1 hbr hrl hbl ho hB hth hco hko hso hio hbo
  unfold sdG at HN1 HB1 HCO HTH1 HBW ⊢
  go_enter Tryd.func16, Tryd.ntmps16
  go_upto_region 1 with fail
  generalize hw1 : World.alloc w _ = w1 at *
  clear hw1
  go_upto_region 2 with (first | (refine wpList_load_mid rfl 56 _ rfl b (1 + side * 11) rfl co du HCO.out HU.out hu2 HSZ.out ?_) | (refine wpList_store_mid rfl 56 _ _ rfl w1.heap.size 0 co.toArray rfl rfl (th_new w1 _ _ (by rw [List.size_toArray, HL.out.1]; rfl)) HSZ2.out HL.out.2 ?_))
  change Code.wp _ _ _ (Act.mk _ _) _
  generalize hw2 : World.setCells (World.alloc w1 _) _ 0 co = w2
  have hr2 : w2.rangeAt w1.heap.size 0 co := by rw [← hw2]; exact World.rangeAt_setCells_same _ _ _ _ (th_new w1 _ _ (by rw [HL.out.1]; rfl))
  have hb2 : Below w1.heap.size w1 w2 := by rw [← hw2]; exact below_setCells (Nat.le_refl _) _ _ ((Below.refl _ _).alloc (Nat.le_refl _) _)
  clear hw2
  have d5 := hr2 5 _ HC.out.1
  have d8 := hr2 8 _ HC.out.2.1
  have d9 := hr2 9 _ HC.out.2.2.1
  have d10 := hr2 10 _ HC.out.2.2.2
  rw [Nat.zero_add] at d5 d8 d9 d10
  have hsz12 : w.heap.size ≤ w1.heap.size := HBW.out.size
  have HB2 := Lib.hid (HB1.out.keep hb2)
  have HTH := Lib.hid (th_keep hb2 HTH1.out)
  have HB0 := Lib.hid (HBW.out.trans (hb2.mono hsz12))
  have HN : Hid (w2.rangeAt w.heap.size 0 (sdG t l k st i true)) := Lib.hid (rg_keep hb2 HN1.out)
  obtain ⟨m0, m1, m2, m3, m4, m5, m6, m7, m8, m9, m10⟩ := cells11 HN.out
  clear m0 m1 m2 m3 m4 m5 m6 m7 m9
  generalize w1.heap.size = og at *
  clear hr2 hb2 HB1 HCO HTH1 HBW HN1 HSZ HSZ2 HU HL HC hsz12
  by_cases g0 : ko = 0
  · have hno : ¬ (ko ≠ 0 ∧ so = 0 ∧ st = 0) := fun h => h.1 g0
    subst g0
    go_upto_region 4 with fail
    have HBB := HB2
    have HNB := HN
    obtain ⟨n0, n1, n2, n3, n4, n5, n6, n7, n8, n9, n10⟩ := cells11 HNB.out
    have HTB := Lib.hid (th_sub (o' := 1 + side * 11) (m := 11) HBB.out.2.2.2.2.2 (by omega) (by omega))
    go_still_tail 6, (by kernel_rfl)
    change wpList _ _ _ _ _ _
    go_wp2_with (first | (refine wpList_store_mid rfl 56 _ _ rfl b (1 + side * 11) (sdG t l k st i true).toArray rfl rfl HTB.out szSd (sdG_one _ _ _ _ _ _) ?_))
    (try simp only [Exit.inBlock, Exit.then])
    refine bodyPost_end (results_none rfl _ _ _) rfl ?_
    exact ⟨rfl, w2, HB0.out, by first | rfl | (rw [if_neg hno]; rfl)⟩
  obtain ⟨rfl, hio⟩ := HO.out g0
  have x0 : (ko == 0) = false := beq_eq_false_iff_ne.mpr g0
  by_cases g1 : so = 0
  case neg =>
    have hno : ¬ (ko ≠ 0 ∧ so = 0 ∧ st = 0) := fun h => g1 h.2.1
    have x1 : (so == 0) = false := beq_eq_false_iff_ne.mpr g1
    go_upto_region 4 with fail
    have HBB := HB2
    have HNB := HN
    obtain ⟨n0, n1, n2, n3, n4, n5, n6, n7, n8, n9, n10⟩ := cells11 HNB.out
    have HTB := Lib.hid (th_sub (o' := 1 + side * 11) (m := 11) HBB.out.2.2.2.2.2 (by omega) (by omega))
    go_still_tail 6, (by kernel_rfl)
    change wpList _ _ _ _ _ _
    go_wp2_with (first | (refine wpList_store_mid rfl 56 _ _ rfl b (1 + side * 11) (sdG t l k st i true).toArray rfl rfl HTB.out szSd (sdG_one _ _ _ _ _ _) ?_))
    (try simp only [Exit.inBlock, Exit.then])
    refine bodyPost_end (results_none rfl _ _ _) rfl ?_
    exact ⟨rfl, w2, HB0.out, by first | rfl | (rw [if_neg hno]; rfl)⟩
  by_cases g2 : st = 0
  case neg =>
    have hno : ¬ (ko ≠ 0 ∧ so = 0 ∧ st = 0) := fun h => g2 h.2.2
    have x1 : (so == 0) = true := by rw [beq_iff_eq]; exact g1
    have x2 : (st == 0) = false := beq_eq_false_iff_ne.mpr g2
    go_upto_region 4 with fail
    have HBB := HB2
    have HNB := HN
    obtain ⟨n0, n1, n2, n3, n4, n5, n6, n7, n8, n9, n10⟩ := cells11 HNB.out
    have HTB := Lib.hid (th_sub (o' := 1 + side * 11) (m := 11) HBB.out.2.2.2.2.2 (by omega) (by omega))
    go_still_tail 6, (by kernel_rfl)
    change wpList _ _ _ _ _ _
    go_wp2_with (first | (refine wpList_store_mid rfl 56 _ _ rfl b (1 + side * 11) (sdG t l k st i true).toArray rfl rfl HTB.out szSd (sdG_one _ _ _ _ _ _) ?_))
    (try simp only [Exit.inBlock, Exit.then])
    refine bodyPost_end (results_none rfl _ _ _) rfl ?_
    exact ⟨rfl, w2, HB0.out, by first | rfl | (rw [if_neg hno]; rfl)⟩
  subst g1
  subst g2
  have p2 : (0 : Int) ≤ io := by omega
  have p3 : (io : Int) < n := by omega
  have HRT := Lib.hid (th_sub (o' := io * 2) (m := 2) HTH.out (by omega) (by omega))
  go_upto_region 4 with (first | (refine wpList_store_mid rfl 45 _ _ rfl r (io * 2) #[.nilIface, .int .i32 0] rfl rfl HRT.out szRu ruZ_one ?_))
  change Code.wp _ _ _ (Act.mk _ _) _
  change Code.wp _ _ _ _ (World.setCells w2 r (io * 2) [.nilIface, .int .i32 0])
  have HBB := Lib.hid (HB2.out.sets HR.out.1 (io * 2) [.nilIface, .int .i32 0])
  have HNB := Lib.hid (World.rangeAt_setCells_apart HN.out r (io * 2) [.nilIface, .int .i32 0] (.inl (by have := HR.out.2.1; omega)))
  generalize hw3 : World.setCells w2 r (io * 2) [.nilIface, .int .i32 0] = w3 at *
  obtain ⟨n0, n1, n2, n3, n4, n5, n6, n7, n8, n9, n10⟩ := cells11 HNB.out
  have HTB := Lib.hid (th_sub (o' := 1 + side * 11) (m := 11) HBB.out.2.2.2.2.2 (by omega) (by omega))
  go_still_tail 6, (by kernel_rfl)
  change wpList _ _ _ _ _ _
  go_wp2_with (first | (refine wpList_store_mid rfl 56 _ _ rfl b (1 + side * 11) (sdG t l k 0 i true).toArray rfl rfl HTB.out szSd (sdG_one _ _ _ _ _ _) ?_))
  (try simp only [Exit.inBlock, Exit.then])
  refine bodyPost_end (results_none rfl _ _ _) rfl ?_
  exact ⟨rfl, w2, HB0.out, by first | (rw [← hw3]; rfl) | (rw [if_pos ⟨g0, rfl, rfl⟩, hw3]; rfl)⟩
end Go.Proofs.YtelanacgjjdmnaaDoor.Bx
