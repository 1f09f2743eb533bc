/-
  IsNumeric, includeUnitOf, TurnLengthIntoNumberIfZero on the alphabet; updateCorner where the corner is empty.
-/
import Derived.Test.YtmaljklijpoojaaDoorCs
import Derived.Deep.RegionWith
namespace Go.Proofs.YtmaljklijpoojaaDoor.Co
open Go.ChangeShapes Go.WideShapes Go.ChangeAt Go.RowKit Rg Quad
set_option linter.unusedVariables false
set_option linter.unusedSimpArgs false
theorem m8 {c : Int} (h : 0 ≤ c ∧ c < 8) : c = 0 ∨ c = 1 ∨ c = 2 ∨ c = 3 ∨ c = 4 ∨ c = 5 ∨ c = 6 ∨ c = 7 := by omega
def cS (c : Int) : Int := if c = 5 then 2 else 0
set_option maxRecDepth 100000 in
set_option maxHeartbeats 1000000 in
theorem nu_any (c : Int) (hc : 0 ≤ c ∧ c < 8) (w : World) : Calls Tryd.prog 18 #[.int .u8 (tK c)] w fun e w' => e = .returned (.bool (decide (c ≤ 5))) ∧ w' = w := by
  have h := m8 hc
  clear hc
  rcases h with rfl | rfl | rfl | rfl | rfl | rfl | rfl | rfl
  all_goals
    unfold tK
    go_enter Tryd.func18, Tryd.ntmps18
    go_wp2_with fail
    go_ret
    exact ⟨rfl, rfl⟩
def IuP (u : Nat) (c : Int) (w w' : World) : Prop := ∃ wA, Below w.heap.size w wA ∧ w' = if c = 5 then wA.setCell ⟨u, 1, none⟩ (.int .u8 2) else wA
set_option maxRecDepth 100000 in
set_option maxHeartbeats 1000000 in
theorem iu_any (u : Nat) (c : Int) (v0 : Value) (w : World) (hc : 0 ≤ c ∧ c ≤ 5) (hu : w.cell? ⟨u, 1, none⟩ = some v0) (hf : w.frozen? ⟨u, 1, none⟩ = false) :
    Calls Tryd.prog 19 #[.pointer (some ⟨u, 0, none⟩), .agg #[.pointer none, .string (tT c), .int .i32 0, .int .u32 0, .int .u16 0, .int .u8 (tK c), .int .u8 0]] w fun e w' => e = .returned (.tuple #[]) ∧ IuP u c w w' := by
  have ha : ∀ o, (w.alloc o).cell? ⟨u, 1, none⟩ = some v0 := fun o => alloc_cell hu o
  have hfa : ∀ o, (w.alloc o).frozen? ⟨u, 1, none⟩ = false := fun o => by
    have : (w.alloc o).frozen? ⟨u, 1, none⟩ = w.frozen? ⟨u, 1, none⟩ := ((Below.refl w.heap.size w).alloc (Nat.le_refl _) o).frozen (p := ⟨u, 1, none⟩) (World.block_lt_of_cell? w _ hu)
    rw [this]; exact hf
  have h : c = 0 ∨ c = 1 ∨ c = 2 ∨ c = 3 ∨ c = 4 ∨ c = 5 := by omega
  clear hu hf hc
  rcases h with rfl | rfl | rfl | rfl | rfl | rfl
  all_goals
    unfold tT tK
    go_enter Tryd.func19, Tryd.ntmps19
    go_wp2_with fail
    (try simp only [Exit.inBlock, Exit.then])
    first
    | (refine bodyPost_ret (results_none rfl _ _ _) rfl ?_; exact ⟨rfl, _, (Below.refl _ _).alloc (Nat.le_refl _) _, by first | rfl | (rw [if_neg (by decide)])⟩)
    | (refine bodyPost_end (results_none rfl _ _ _) rfl ?_; exact ⟨rfl, _, (Below.refl _ _).alloc (Nat.le_refl _) _, by first | rfl | (rw [if_pos rfl])⟩)
set_option maxRecDepth 100000 in
set_option maxHeartbeats 1000000 in
theorem tl_any (tb : Nat) (c : Int) (w : World) (hc : 0 ≤ c ∧ c < 8) (hk : w.cell? ⟨tb, 5, none⟩ = some (.int .u8 (tK c))) : Calls Tryd.prog 20 #[.pointer (some ⟨tb, 0, none⟩)] w fun e w' => e = .returned (.bool false) ∧ w' = w := by
  have hx : (tK c == 26) = false := by rcases m8 hc with rfl | rfl | rfl | rfl | rfl | rfl | rfl | rfl <;> rfl
  clear hc
  generalize tK c = y at *
  go_enter Tryd.func20, Tryd.ntmps20
  go_wp2_with fail
  go_ret
  exact ⟨rfl, rfl⟩
theorem cells18 {w : World} {g : Nat} {t1 t2 : ByteArray} {k1 k2 st : Int} {x : Nat} {sg : Bool} (h : w.rangeAt g 0 (cgG t1 k1 t2 k2 st x sg)) : w.cell? ⟨g, 0, none⟩ = some (.pointer none) ∧ w.cell? ⟨g, 1, none⟩ = some (.string t1) ∧ w.cell? ⟨g, 2, none⟩ = some (.int .i32 0) ∧ w.cell? ⟨g, 3, none⟩ = some (.int .u32 0) ∧ w.cell? ⟨g, 4, none⟩ = some (.int .u16 0) ∧ w.cell? ⟨g, 5, none⟩ = some (.int .u8 k1) ∧ w.cell? ⟨g, 6, none⟩ = some (.int .u8 0) ∧ w.cell? ⟨g, 7, none⟩ = some (.pointer none) ∧ w.cell? ⟨g, 8, none⟩ = some (.string t2) ∧ w.cell? ⟨g, 9, none⟩ = some (.int .i32 0) ∧ w.cell? ⟨g, 10, none⟩ = some (.int .u32 0) ∧ w.cell? ⟨g, 11, none⟩ = some (.int .u16 0) ∧ w.cell? ⟨g, 12, none⟩ = some (.int .u8 k2) ∧ w.cell? ⟨g, 13, none⟩ = some (.int .u8 0) ∧ w.cell? ⟨g, 14, none⟩ = some (.string ⟨#[]⟩) ∧ w.cell? ⟨g, 15, none⟩ = some (.int .u8 st) ∧ w.cell? ⟨g, 16, none⟩ = some (.int .u32 (x : Int)) ∧ w.cell? ⟨g, 17, none⟩ = some (.bool sg) := by
  refine ⟨by have := h 0 _ rfl; rwa [Nat.zero_add] at this, by have := h 1 _ rfl; rwa [Nat.zero_add] at this, by have := h 2 _ rfl; rwa [Nat.zero_add] at this, by have := h 3 _ rfl; rwa [Nat.zero_add] at this, by have := h 4 _ rfl; rwa [Nat.zero_add] at this, by have := h 5 _ rfl; rwa [Nat.zero_add] at this, by have := h 6 _ rfl; rwa [Nat.zero_add] at this, by have := h 7 _ rfl; rwa [Nat.zero_add] at this, by have := h 8 _ rfl; rwa [Nat.zero_add] at this, by have := h 9 _ rfl; rwa [Nat.zero_add] at this, by have := h 10 _ rfl; rwa [Nat.zero_add] at this, by have := h 11 _ rfl; rwa [Nat.zero_add] at this, by have := h 12 _ rfl; rwa [Nat.zero_add] at this, by have := h 13 _ rfl; rwa [Nat.zero_add] at this, by have := h 14 _ rfl; rwa [Nat.zero_add] at this, by have := h 15 _ rfl; rwa [Nat.zero_add] at this, by have := h 16 _ rfl; rwa [Nat.zero_add] at this, by have := h 17 _ rfl; rwa [Nat.zero_add] at this⟩
theorem cgG_one (t1 : ByteArray) (k1 : Int) (t2 : ByteArray) (k2 st : Int) (x : Nat) (sg : Bool) : (cgG t1 k1 t2 k2 st x sg).toArray.all (·.oneCell') = true := by simp [cgG, Value.oneCell']
/-- what updateCorner does to the world -/
def UcP (t side : Nat) (c : CN) (w w' : World) : Prop := ∃ wA, Below w.heap.size w wA ∧ w' = (wA.drewN 1).setCells t (side * 18) (cgR c)
set_option maxRecDepth 100000 in
set_option maxHeartbeats 4000000 in
theorem uc_any (t side : Nat) (r : Value) (imp : Bool) (χ : Nat → CN) (t1 : ByteArray) (k1 : Int) (t2 : ByteArray) (k2 st : Int) (x : Nat) (w : World) (hT : TG χ imp t w) (hs : side < 4) (ho : (χ side).k1 = 0) :
    Calls Tryd.prog 22 #[.pointer (some ⟨t, 0, none⟩), r, .int .i64 (side : Int), .agg (cgG t1 k1 t2 k2 st x true).toArray] w fun e w' => e = .returned (.tuple #[]) ∧ UcP t side ⟨t1, k1, t2, k2, st, x, true⟩ w w' := by
  unfold UcP
  obtain ⟨co, hco⟩ : ∃ co, cgR (χ side) = co := ⟨_, rfl⟩
  have l0 : co.length = 18 := by rw [← hco]; rfl
  have l1 : co.toArray.all (·.oneCell') = true := by rw [← hco]; exact cgG_one _ _ _ _ _ _ _
  have l5 : co[5]? = some (.int .u8 0) := by rw [← hco, ← ho]; rfl
  have hb1 : Below w.heap.size w (w.alloc (.cells (cgG t1 k1 t2 k2 st x true).toArray 66)) := (Below.refl _ _).alloc (Nat.le_refl _) _
  have hN : (w.alloc (.cells (cgG t1 k1 t2 k2 st x true).toArray 66)).rangeAt w.heap.size 0 (cgG t1 k1 t2 k2 st x true) := rg_new w (cgG t1 k1 t2 k2 st x true).toArray 66
  have hB1 := hT.keep hb1
  have hco1 := hB1.1 side hs
  rw [hco] at hco1
  have hsz : (Tryd.prog.info? 66).map (·.size) = some co.length := by rw [l0]; exact szCn
  have hsz2 : (Tryd.prog.info? 66).map (·.size) = some co.toArray.size := by rw [List.size_toArray]; exact hsz
  obtain ⟨du, hu, hu2⟩ := tyCn
  have HN1 := Lib.hid hN
  have HB1 := Lib.hid hB1
  have HCO := Lib.hid hco1
  have HSZ := Lib.hid hsz
  have HSZ2 := Lib.hid hsz2
  have HU := Lib.hid hu
  have HL := Lib.hid (And.intro l0 l1)
  have HC := Lib.hid l5
  have HBW := Lib.hid hb1
  have p0 : (0 : Int) ≤ side := by omega
  have p1 : (side : Int) < 4 := by omega
  clear hN hB1 hco1 hsz hsz2 hu l0 l1 l5 hb1 hT hco ho
  unfold cgG at HN1 HB1 HCO HBW ⊢
  go_enter Tryd.func22, Tryd.ntmps22
  go_upto_region 1 with fail
  generalize hw1 : World.alloc w _ = w1 at *
  clear hw1
  go_upto_region 2 with (first | (refine wpList_load_mid rfl 66 _ rfl t (side * 18) rfl co du HCO.out HU.out hu2 HSZ.out ?_) | (refine wpList_store_mid rfl 66 _ _ rfl w1.heap.size 0 co.toArray rfl rfl (th_new w1 _ _ (by rw [List.size_toArray, HL.out.1]; rfl)) HSZ2.out HL.out.2 ?_))
  change Code.wp _ _ _ (Act.mk _ _) _
  generalize hw2 : World.setCells (World.alloc w1 _) _ 0 co = w2
  have hr2 : w2.rangeAt w1.heap.size 0 co := by rw [← hw2]; exact World.rangeAt_setCells_same _ _ _ _ (th_new w1 _ _ (by rw [HL.out.1]; rfl))
  have hb2 : Below w1.heap.size w1 w2 := by rw [← hw2]; exact below_setCells (Nat.le_refl _) _ _ ((Below.refl _ _).alloc (Nat.le_refl _) _)
  clear hw2
  have d5 := hr2 5 _ HC.out
  rw [Nat.zero_add] at d5
  have hsz12 : w.heap.size ≤ w1.heap.size := HBW.out.size
  have HB2 := Lib.hid (HB1.out.keep hb2)
  have HB0 := Lib.hid (HBW.out.trans (hb2.mono hsz12))
  have HN : Hid (w2.rangeAt w.heap.size 0 (cgG t1 k1 t2 k2 st x true)) := Lib.hid (rg_keep hb2 HN1.out)
  generalize w1.heap.size = og at *
  clear hr2 hb2 HB1 HCO HBW HN1 HSZ HSZ2 HU HL HC hsz12
  go_upto_region 4 with fail
  clear d5
  obtain ⟨n0, n1, n2, n3, n4, n5, n6, n7, n8, n9, n10, n11, n12, n13, n14, n15, n16, n17⟩ := cells18 HN.out
  have HTB := Lib.hid (th_sub (o' := side * 18) (m := 18) HB2.out.2.2 (by omega) (by omega))
  go_still_tail 6, (by kernel_rfl)
  change wpList _ _ _ _ _ _
  go_wp2_with (first | (refine wpList_store_mid rfl 66 _ _ rfl t (side * 18) (cgG t1 k1 t2 k2 st x true).toArray rfl rfl HTB.out szCn (cgG_one _ _ _ _ _ _ _) ?_))
  (try simp only [Exit.inBlock, Exit.then])
  refine bodyPost_end (results_none rfl _ _ _) rfl ?_
  exact ⟨rfl, w2, HB0.out, rfl⟩
end Go.Proofs.YtmaljklijpoojaaDoor.Co
