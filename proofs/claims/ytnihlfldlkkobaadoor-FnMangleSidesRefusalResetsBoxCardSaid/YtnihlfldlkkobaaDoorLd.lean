/-
  The small functions under mangleSides at '1%'; expandTokenQuad at one '1%' and at a refused list; updateSide at an empty side.
-/
import Derived.Test.YtnihlfldlkkobaaDoorLa
import Derived.StillTailTactics
namespace Go.Proofs.YtnihlfldlkkobaaDoor.Bx
open Go.ChangeShapes Go.WideShapes Go.ChangeAt Go.RowKit Rg Quad
set_option linter.unusedVariables false
set_option linter.unusedSimpArgs false
set_option maxRecDepth 100000 in
set_option maxHeartbeats 1000000 in
theorem nu_any (y : Int) (c : Bool) (hc : c = true ↔ y = 30 ∨ y = 34 ∨ y = 26) (w : World) : Calls Tryd.prog 21 #[.int .u8 y] w fun e w' => e = .returned (.bool c) ∧ w' = w := by
  by_cases h0 : y = 30
  · have e : c = true := hc.2 (.inl h0)
    have x0 : (y == 30) = true := by rw [h0]; rfl
    clear h0 hc
    subst e
    go_enter Tryd.func21, Tryd.ntmps21
    go_wp2_with fail
    go_ret
    exact ⟨rfl, rfl⟩
  have x0 : (y == 30) = false := beq_eq_false_iff_ne.mpr h0
  by_cases h1 : y = 34
  · have e : c = true := hc.2 (.inr (.inl h1))
    have x1 : (y == 34) = true := by rw [h1]; rfl
    clear h0 h1 hc
    subst e
    go_enter Tryd.func21, Tryd.ntmps21
    go_wp2_with fail
    go_ret
    exact ⟨rfl, rfl⟩
  have x1 : (y == 34) = false := beq_eq_false_iff_ne.mpr h1
  have x2 : (y == 26) = c := by
    by_cases h2 : y = 26
    · rw [hc.2 (.inr (.inr h2)), h2]; rfl
    · have : c = false := by
        cases c with
        | false => rfl
        | true => rcases hc.1 rfl with h | h | h; exact absurd h h0; exact absurd h h1; exact absurd h h2
      rw [this]
      exact beq_eq_false_iff_ne.mpr h2
  clear h0 h1 hc
  go_enter Tryd.func21, Tryd.ntmps21
  go_wp2_with fail
  go_ret
  exact ⟨rfl, rfl⟩
theorem nu1 (w : World) : Calls Tryd.prog 21 #[.int .u8 (tK 0)] w fun e w' => e = .returned (.bool true) ∧ w' = w := nu_any (tK 0) true ⟨fun _ => .inr (.inl rfl), fun _ => rfl⟩ w
set_option maxRecDepth 100000 in
set_option maxHeartbeats 1000000 in
theorem iu1 (u : Nat) (w : World) : Calls Tryd.prog 22 #[.pointer (some ⟨u, 0, none⟩), .agg #[.pointer none, .string (tT 0), .int .i32 0, .int .u32 0, .int .u16 0, .int .u8 (tK 0), .int .u8 0]] w fun e w' => e = .returned (.tuple #[]) ∧ Below w.heap.size w w' := by
  unfold tT tK
  go_enter Tryd.func22, Tryd.ntmps22
  go_wp2_with fail
  (try simp only [Exit.inBlock, Exit.then])
  refine bodyPost_ret (results_none rfl _ _ _) rfl ?_
  exact ⟨rfl, (Below.refl _ _).alloc (Nat.le_refl _) _⟩
set_option maxRecDepth 100000 in
set_option maxHeartbeats 1000000 in
theorem tl1 (tb : Nat) (w : World) (hk : w.cell? ⟨tb, 5, none⟩ = some (.int .u8 (tK 0))) : Calls Tryd.prog 23 #[.pointer (some ⟨tb, 0, none⟩)] w fun e w' => e = .returned (.bool false) ∧ w' = w := by
  have hx : (tK 0 == 26) = false := rfl
  generalize tK 0 = y at *
  go_enter Tryd.func23, Tryd.ntmps23
  go_wp2_with fail
  go_ret
  exact ⟨rfl, rfl⟩
theorem cells11 {w : World} {g : Nat} {t : ByteArray} {l k st : Int} {i : Nat} {s : Bool} (h : w.rangeAt g 0 (sdG t l k st i s)) : w.cell? ⟨g, 0, none⟩ = some (.pointer none) ∧ w.cell? ⟨g, 1, none⟩ = some (.string t) ∧ w.cell? ⟨g, 2, none⟩ = some (.int .i32 l) ∧ w.cell? ⟨g, 3, none⟩ = some (.int .u32 0) ∧ w.cell? ⟨g, 4, none⟩ = some (.int .u16 0) ∧ w.cell? ⟨g, 5, none⟩ = some (.int .u8 k) ∧ w.cell? ⟨g, 6, none⟩ = some (.int .u8 0) ∧
    w.cell? ⟨g, 7, none⟩ = some (.string ⟨#[]⟩) ∧ w.cell? ⟨g, 8, none⟩ = some (.int .u8 st) ∧ w.cell? ⟨g, 9, none⟩ = some (.int .u32 (i : Int)) ∧ w.cell? ⟨g, 10, none⟩ = some (.bool s) := by
  have c0 := h 0 _ rfl
  have c1 := h 1 _ rfl
  have c2 := h 2 _ rfl
  have c3 := h 3 _ rfl
  have c4 := h 4 _ rfl
  have c5 := h 5 _ rfl
  have c6 := h 6 _ rfl
  have c7 := h 7 _ rfl
  have c8 := h 8 _ rfl
  have c9 := h 9 _ rfl
  have c10 := h 10 _ rfl
  simp only [Nat.zero_add] at c0 c1 c2 c3 c4 c5 c6 c7 c8 c9 c10
  exact ⟨c0, c1, c2, c3, c4, c5, c6, c7, c8, c9, c10⟩
/-- what updateSide does to the world where the side was empty -/
def UlP (b side : Nat) (x : SD) (w w' : World) : Prop := ∃ wA, Below w.heap.size w wA ∧ w' = (wA.drewN 1).setCells b (1 + side * 11) (sdR x)
set_option maxRecDepth 100000 in
set_option maxHeartbeats 4000000 in
theorem ul_any (b side : Nat) (r : Value) (kt : ByteArray) (aa imp : Bool) (key : Int) (σ : Nat → SD) (t : ByteArray) (l k st : Int) (i : Nat) (w : World) (hB : BB kt aa imp key σ b w) (hs : side < 4) (ho : (σ side).k = 0) :
    Calls Tryd.prog 24 #[.pointer (some ⟨b, 0, none⟩), r, .int .i64 (side : Int), .agg (sdG t l k st i false).toArray] w fun e w' => e = .returned (.tuple #[]) ∧ UlP b side ⟨t, l, k, st, i, false⟩ w w' := by
  unfold UlP
  obtain ⟨co, hco⟩ : ∃ co, sdR (σ side) = co := ⟨_, rfl⟩
  have l0 : co.length = 11 := by rw [← hco]; rfl
  have l1 : co.toArray.all (·.oneCell') = true := by rw [← hco]; exact sdG_one _ _ _ _ _ _
  have l5 : co[5]? = some (.int .u8 0) := by rw [← hco, ← ho]; rfl
  have hb1 : Below w.heap.size w (w.alloc (.cells (sdG t l k st i false).toArray 67)) := (Below.refl _ _).alloc (Nat.le_refl _) _
  have hN : (w.alloc (.cells (sdG t l k st i false).toArray 67)).rangeAt w.heap.size 0 (sdG t l k st i false) := rg_new w (sdG t l k st i false).toArray 67
  have hB1 := hB.keep hb1
  have hco1 := hB1.2.1 side hs
  rw [hco] at hco1
  have hsz : (Tryd.prog.info? 67).map (·.size) = some co.length := by rw [l0]; exact szSd
  have hsz2 : (Tryd.prog.info? 67).map (·.size) = some co.toArray.size := by rw [List.size_toArray]; exact hsz
  obtain ⟨du, hu, hu2⟩ := tySd
  have HN1 := Lib.hid hN
  have HB1 := Lib.hid hB1
  have HCO := Lib.hid hco1
  have HSZ := Lib.hid hsz
  have HSZ2 := Lib.hid hsz2
  have HU := Lib.hid hu
  have HL := Lib.hid (And.intro l0 l1)
  have HC := Lib.hid l5
  have HBW := Lib.hid hb1
  have p0 : (0 : Int) ≤ side := by omega
  have p1 : (side : Int) < 4 := by omega
  clear hN hB1 hco1 hsz hsz2 hu l0 l1 l5 hb1 hB hco ho
  unfold sdG at HN1 HB1 HCO HBW ⊢
  go_enter Tryd.func24, Tryd.ntmps24
  go_upto_region 1 with fail
  generalize hw1 : World.alloc w _ = w1 at *
  clear hw1
  go_upto_region 2 with (first | (refine wpList_load_mid rfl 67 _ rfl b (1 + side * 11) rfl co du HCO.out HU.out hu2 HSZ.out ?_) | (refine wpList_store_mid rfl 67 _ _ rfl w1.heap.size 0 co.toArray rfl rfl (th_new w1 _ _ (by rw [List.size_toArray, HL.out.1]; rfl)) HSZ2.out HL.out.2 ?_))
  change Code.wp _ _ _ (Act.mk _ _) _
  generalize hw2 : World.setCells (World.alloc w1 _) _ 0 co = w2
  have hr2 : w2.rangeAt w1.heap.size 0 co := by rw [← hw2]; exact World.rangeAt_setCells_same _ _ _ _ (th_new w1 _ _ (by rw [HL.out.1]; rfl))
  have hb2 : Below w1.heap.size w1 w2 := by rw [← hw2]; exact below_setCells (Nat.le_refl _) _ _ ((Below.refl _ _).alloc (Nat.le_refl _) _)
  clear hw2
  have d5 := hr2 5 _ HC.out
  rw [Nat.zero_add] at d5
  have hsz12 : w.heap.size ≤ w1.heap.size := HBW.out.size
  have HB2 := Lib.hid (HB1.out.keep hb2)
  have HB0 := Lib.hid (HBW.out.trans (hb2.mono hsz12))
  have HN : Hid (w2.rangeAt w.heap.size 0 (sdG t l k st i false)) := Lib.hid (rg_keep hb2 HN1.out)
  generalize w1.heap.size = og at *
  clear hr2 hb2 HB1 HCO HBW HN1 HSZ HSZ2 HU HL HC hsz12
  go_upto_region 4 with fail
  clear d5
  obtain ⟨n0, n1, n2, n3, n4, n5, n6, n7, n8, n9, n10⟩ := cells11 HN.out
  have HTB := Lib.hid (th_sub (o' := 1 + side * 11) (m := 11) HB2.out.2.2.2.2.2 (by omega) (by omega))
  go_still_tail 6, (by kernel_rfl)
  change wpList _ _ _ _ _ _
  go_wp2_with (first | (refine wpList_store_mid rfl 67 _ _ rfl b (1 + side * 11) (sdG t l k st i false).toArray rfl rfl HTB.out szSd (sdG_one _ _ _ _ _ _) ?_))
  (try simp only [Exit.inBlock, Exit.then])
  refine bodyPost_end (results_none rfl _ _ _) rfl ?_
  exact ⟨rfl, w2, HB0.out, rfl⟩
/-- four tokens '1%' -/
def q28 : List Value := tyR (0, 0) ++ (tyR (0, 0) ++ (tyR (0, 0) ++ tyR (0, 0)))
theorem tyQt : ∃ d, Tryd.prog.underlying 74 = some d ∧ d.isRow = true := ⟨_, Tryd.underlying74, rfl⟩
theorem szQt : (Tryd.prog.info? 74).map (·.size) = some 28 := by kernel_rfl
def z28 : List Value := [.pointer none, .string ⟨#[]⟩, .int .i32 0, .int .u32 0, .int .u16 0, .int .u8 0, .int .u8 0, .pointer none, .string ⟨#[]⟩, .int .i32 0, .int .u32 0, .int .u16 0, .int .u8 0, .int .u8 0, .pointer none, .string ⟨#[]⟩, .int .i32 0, .int .u32 0, .int .u16 0, .int .u8 0, .int .u8 0, .pointer none, .string ⟨#[]⟩, .int .i32 0, .int .u32 0, .int .u16 0, .int .u8 0, .int .u8 0]
theorem z28_len : z28.length = 28 := rfl
theorem run_al28 (w : World) : (Instr.alloc 74 true (.tuple #[])).run Tryd.prog w = .ok (.pointer (some ⟨w.heap.size, 0, none⟩)) (w.alloc (.cells z28.toArray 74)) := by kernel_rfl
theorem wpl_alloc {P : Program} {ops : Array Oper} {rest : List Oper} {o : Oper} {a : Act} {w : World} {Q : Exit → Act → World → Prop} (hg : o.guard = none) (t : TypeId) (ho : o.op = .alloc t) (r : Value) (w' : World) (hrun : (Instr.alloc t true (.tuple #[])).run P w = .ok r w') (h : wpList P ops Q rest (a.put o.dst r) w') : wpList P ops Q (o :: rest) a w := by
  refine wpList_plain hg fun _ hK => ?_
  unfold Oper.wp execOp
  simp only [ho, Sem.run_bind, hrun, Result.andThen_ok]
  exact hK _ _ h
/-- a token of a list that came in -/
def tkG (t : ByteArray) (k : Int) : List Value := [.pointer none, .string t, .int .i32 0, .int .u32 0, .int .u16 0, .int .u8 k, .int .u8 0]
def TL (w : World) (g m : Nat) (T : Nat → ByteArray) (K : Nat → Int) : Prop := ∀ j, j < m → w.rangeAt g (j * 7) (tkG (T j) (K j))
theorem TL.keep {w w' : World} {g m : Nat} {T : Nat → ByteArray} {K : Nat → Int} (h : TL w g m T K) (hb : Below w.heap.size w w') : TL w' g m T K := fun j hj => rg_keep hb (h j hj)
def auto_ : ByteArray := ⟨#[97, 117, 116, 111]⟩
def aI (aa : Bool) : ByteArray := if aa then auto_ else ⟨#[]⟩
def good (aa : Bool) (T : Nat → ByteArray) (K : Nat → Int) (i : Nat) : Prop := K i = 30 ∨ K i = 34 ∨ K i = 26 ∨ (K i = 29 ∧ aa = true ∧ (T i).toList = auto_.toList)
def refused (aa : Bool) (m : Nat) (T : Nat → ByteArray) (K : Nat → Int) : Prop := m < 1 ∨ 4 < m ∨ ∃ i, i < m ∧ ¬ good aa T K i
end Go.Proofs.YtnihlfldlkkobaaDoor.Bx
