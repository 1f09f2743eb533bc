/-
  A tracker of four corners, any; compactRules' way out where a corner is empty (for law 55).
-/
import Derived.Test.YtmaljklijpoojaaDoorCk
namespace Go.Proofs.YtmaljklijpoojaaDoor.Co
open Go.ChangeShapes Go.WideShapes Go.ChangeAt Go.RowKit Rg Quad
set_option linter.unusedVariables false
set_option linter.unusedSimpArgs false
/-- a corner: texts, kinds, safety, rule, alone -/
structure CN where
  t1 : ByteArray
  k1 : Int
  t2 : ByteArray
  k2 : Int
  st : Int
  x : Nat
  sg : Bool
def cgG (t1 : ByteArray) (k1 : Int) (t2 : ByteArray) (k2 st : Int) (x : Nat) (sg : Bool) : List Value := [.pointer none, .string t1, .int .i32 0, .int .u32 0, .int .u16 0, .int .u8 k1, .int .u8 0, .pointer none, .string t2, .int .i32 0, .int .u32 0, .int .u16 0, .int .u8 k2, .int .u8 0, .string ⟨#[]⟩, .int .u8 st, .int .u32 (x : Int), .bool sg]
def cgR (c : CN) : List Value := cgG c.t1 c.k1 c.t2 c.k2 c.st c.x c.sg
def n0 : CN := ⟨⟨#[]⟩, 0, ⟨#[]⟩, 0, 0, 0, false⟩
/-- the tracker in block t -/
def TG (χ : Nat → CN) (imp : Bool) (t : Nat) (w : World) : Prop := (∀ i, i < 4 → w.rangeAt t (i * 18) (cgR (χ i))) ∧ w.cell? ⟨t, 72, none⟩ = some (.bool imp) ∧ w.there t 0 73
theorem TG.keep {χ : Nat → CN} {imp : Bool} {t : Nat} {w w' : World} (h : TG χ imp t w) (hb : Below w.heap.size w w') : TG χ imp t w' := ⟨fun i hi => rg_keep hb (h.1 i hi), later hb h.2.1, th_keep hb h.2.2⟩
theorem cgR_len (c : CN) : (cgR c).length = 18 := rfl
def upN (χ : Nat → CN) (i : Nat) (c : CN) (j : Nat) : CN := if j = i then c else χ j
theorem TG.put {χ : Nat → CN} {imp : Bool} {t : Nat} {w : World} (h : TG χ imp t w) {i : Nat} (hi : i < 4) (c : CN) : TG (upN χ i c) imp t (w.setCells t (i * 18) (cgR c)) := by
  obtain ⟨h1, h2, h3⟩ := h
  refine ⟨fun j hj => ?_, ?_, World.there_setCells h3 _ _ _⟩
  · unfold upN
    by_cases e : j = i
    · subst e
      rw [if_pos rfl]
      exact World.rangeAt_setCells_same _ _ _ _ (th_sub h3 (by omega) (by rw [cgR_len]; omega))
    · rw [if_neg e]
      refine World.rangeAt_setCells_apart (h1 j hj) _ _ _ (.inr ?_)
      rw [cgR_len, cgR_len]
      omega
  · have h4 : w.rangeAt t 72 [.bool imp] := fun j v hv => by
      rcases j with _ | j
      · simp only [List.getElem?_cons_zero, Option.some.injEq] at hv; subst hv; exact h2
      · simp at hv
    exact World.rangeAt_setCells_apart h4 t (i * 18) (cgR c) (.inr (.inr (by rw [cgR_len]; omega))) 0 _ rfl
set_option maxRecDepth 100000 in
set_option maxHeartbeats 2000000 in
theorem ce_any (t : Nat) (r : Value) (n1 n2 : Int) (mf imp : Bool) (χ : Nat → CN) (w : World) (hT : TG χ imp t w) (hz : ∃ i, i < 4 ∧ (χ i).k1 = 0) :
    Calls Tryd.prog 23 #[.pointer (some ⟨t, 0, none⟩), r, .agg #[.int .i32 n1, .int .i32 n2], .bool mf] w fun e w' => e = .returned (.tuple #[]) ∧ Below w.heap.size w w' := by
  have hb : Below w.heap.size w (w.alloc (.cells #[.int .i32 n1, .int .i32 n2] 42)) := (Below.refl _ _).alloc (Nat.le_refl _) _
  have hT1 := hT.keep hb
  have k0 := hT1.1 0 (by omega) 5 _ rfl
  have k1 := hT1.1 1 (by omega) 5 _ rfl
  have k2 := hT1.1 2 (by omega) 5 _ rfl
  have k3 := hT1.1 3 (by omega) 5 _ rfl
  simp only [Nat.reduceMul, Nat.reduceAdd, Nat.zero_add, Nat.zero_mul] at k0 k1 k2 k3
  have hz4 : (χ 0).k1 = 0 ∨ (χ 1).k1 = 0 ∨ (χ 2).k1 = 0 ∨ (χ 3).k1 = 0 := by
    obtain ⟨i, hi, h⟩ := hz
    have c : i = 0 ∨ i = 1 ∨ i = 2 ∨ i = 3 := by omega
    rcases c with rfl | rfl | rfl | rfl
    · exact .inl h
    · exact .inr (.inl h)
    · exact .inr (.inr (.inl h))
    · exact .inr (.inr (.inr h))
  generalize (χ 0).k1 = y0 at *
  generalize (χ 1).k1 = y1 at *
  generalize (χ 2).k1 = y2 at *
  generalize (χ 3).k1 = y3 at *
  have HB := Lib.hid hb
  clear hT hT1 hz hb
  go_enter Tryd.func23, Tryd.ntmps23
  go_upto_region 1 with fail
  generalize World.alloc w _ = w1 at *
  by_cases h0 : y0 = 0
  · subst h0
    clear hz4
    go_wp2_with fail
    (try simp only [Exit.inBlock, Exit.then])
    refine bodyPost_ret (results_none rfl _ _ _) rfl ?_
    exact ⟨rfl, HB.out⟩
  have x0 : (y0 == 0) = false := beq_eq_false_iff_ne.mpr h0
  by_cases h1 : y1 = 0
  · subst h1
    clear hz4
    go_wp2_with fail
    (try simp only [Exit.inBlock, Exit.then])
    refine bodyPost_ret (results_none rfl _ _ _) rfl ?_
    exact ⟨rfl, HB.out⟩
  have x1 : (y1 == 0) = false := beq_eq_false_iff_ne.mpr h1
  by_cases h2 : y2 = 0
  · subst h2
    clear hz4
    go_wp2_with fail
    (try simp only [Exit.inBlock, Exit.then])
    refine bodyPost_ret (results_none rfl _ _ _) rfl ?_
    exact ⟨rfl, HB.out⟩
  have x2 : (y2 == 0) = false := beq_eq_false_iff_ne.mpr h2
  have h3 : y3 = 0 := by omega
  subst h3
  clear hz4
  go_wp2_with fail
  (try simp only [Exit.inBlock, Exit.then])
  refine bodyPost_ret (results_none rfl _ _ _) rfl ?_
  exact ⟨rfl, HB.out⟩
set_option maxRecDepth 100000 in
set_option maxHeartbeats 1000000 in
theorem isw2 (a b : Int) (ha : a = 0 ∨ a = 2) (hb : b = 0 ∨ b = 2) (w : World) : Calls Tryd.prog 29 #[.agg #[.string ⟨#[]⟩, .int .u8 a], .agg #[.string ⟨#[]⟩, .int .u8 b]] w fun e w' => e = .returned (.bool (decide (a = 0 ∧ b = 0))) ∧ Below w.heap.size w w' := by
  rcases ha with rfl | rfl <;> rcases hb with rfl | rfl
  all_goals
    go_enter Tryd.func29, Tryd.ntmps29
    go_wp2_with fail
    go_ret
    exact ⟨rfl, ((Below.refl _ _).alloc (Nat.le_refl _) _).alloc (by simp) _⟩
end Go.Proofs.YtmaljklijpoojaaDoor.Co
