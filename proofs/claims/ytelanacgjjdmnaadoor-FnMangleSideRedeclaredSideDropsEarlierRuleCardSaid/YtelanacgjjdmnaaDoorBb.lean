/-
  IsNumeric, includeUnitOf, TurnLengthIntoNumberIfZero, EqualFold on equal words, compactRules' early way out.
-/
import Derived.Test.YtelanacgjjdmnaaDoorBa
import Derived.Deep.RegionWith
import Derived.Deep.RegionHeld3
import Derived.Deep.DeepCutAuto
import Derived.Deep.CutBlock
import Derived.ScopeJumps
namespace Go.Proofs.YtelanacgjjdmnaaDoor.Bx
open Go.ChangeShapes Go.WideShapes Go.ChangeAt Go.RowKit Rg
set_option linter.unusedVariables false
set_option linter.unusedSimpArgs false
set_option maxRecDepth 100000 in
set_option maxHeartbeats 1000000 in
theorem nm_any (c : Int) (hc : 0 ≤ c ∧ c ≤ 4) (w : World) : Calls Tryd.prog 12 #[.int .u8 (cK c)] w fun e w' => e = .returned (.bool (decide (c ≠ 3))) ∧ w' = w := by
  have h : c = 0 ∨ c = 1 ∨ c = 2 ∨ c = 3 ∨ c = 4 := by omega
  clear hc
  rcases h with rfl | rfl | rfl | rfl | rfl
  all_goals
    unfold cK
    go_enter Tryd.func12, Tryd.ntmps12
    go_wp2_with fail
    go_ret
    exact ⟨rfl, rfl⟩
def IuP (u : Nat) (c : Int) (w w' : World) : Prop := ∃ wA, Below w.heap.size w wA ∧ w' = if c = 4 then wA.setCell ⟨u, 1, none⟩ (.int .u8 2) else wA
set_option maxRecDepth 100000 in
set_option maxHeartbeats 1000000 in
theorem iu_any (u : Nat) (c l : Int) (v0 : Value) (w : World) (hc : c = 0 ∨ c = 1 ∨ c = 2 ∨ c = 4) (hu : w.cell? ⟨u, 1, none⟩ = some v0) (hf : w.frozen? ⟨u, 1, none⟩ = false) :
    Calls Tryd.prog 14 #[.pointer (some ⟨u, 0, none⟩), .agg (tkR c l).toArray] w fun e w' => e = .returned (.tuple #[]) ∧ IuP u c w w' := by
  have ha : ∀ o, (w.alloc o).cell? ⟨u, 1, none⟩ = some v0 := fun o => alloc_cell hu o
  have hfa : ∀ o, (w.alloc o).frozen? ⟨u, 1, none⟩ = false := fun o => by
    have : (w.alloc o).frozen? ⟨u, 1, none⟩ = w.frozen? ⟨u, 1, none⟩ := ((Below.refl w.heap.size w).alloc (Nat.le_refl _) o).frozen (p := ⟨u, 1, none⟩) (World.block_lt_of_cell? w _ hu)
    rw [this]; exact hf
  clear hu hf
  rcases hc with rfl | rfl | rfl | rfl
  all_goals
    unfold tkR cT cK
    go_enter Tryd.func14, Tryd.ntmps14
    go_wp2_with fail
    (try simp only [Exit.inBlock, Exit.then])
    first
    | (refine bodyPost_ret (results_none rfl _ _ _) rfl ?_; exact ⟨rfl, _, (Below.refl _ _).alloc (Nat.le_refl _) _, by first | rfl | (rw [if_neg (by decide)])⟩)
    | (refine bodyPost_end (results_none rfl _ _ _) rfl ?_; exact ⟨rfl, _, (Below.refl _ _).alloc (Nat.le_refl _) _, by first | rfl | (rw [if_pos rfl])⟩)
set_option maxRecDepth 100000 in
set_option maxHeartbeats 1000000 in
theorem tl_any (tb : Nat) (c : Int) (w : World) (hc : 0 ≤ c ∧ c ≤ 4) (hk : w.cell? ⟨tb, 5, none⟩ = some (.int .u8 (cK c))) : Calls Tryd.prog 15 #[.pointer (some ⟨tb, 0, none⟩)] w fun e w' => e = .returned (.bool false) ∧ w' = w := by
  have hx : (cK c == 26) = false := by
    have h : c = 0 ∨ c = 1 ∨ c = 2 ∨ c = 3 ∨ c = 4 := by omega
    rcases h with rfl | rfl | rfl | rfl | rfl <;> rfl
  clear hc
  generalize cK c = y at *
  go_enter Tryd.func15, Tryd.ntmps15
  go_wp2_with fail
  go_ret
  exact ⟨rfl, rfl⟩
set_option maxRecDepth 100000 in
set_option maxHeartbeats 1000000 in
theorem ce_any (b : Nat) (r : Value) (n1 n2 : Int) (mf : Bool) (kt : ByteArray) (aa imp : Bool) (key : Int) (σ : Nat → SD) (w : World) (hB : BB kt aa imp key σ b w) (hk : ¬ key = 0) (hz : ∃ i, i < 4 ∧ (σ i).k = 0) :
    Calls Tryd.prog 17 #[.pointer (some ⟨b, 0, none⟩), r, .agg #[.int .i32 n1, .int .i32 n2], .bool mf] w fun e w' => e = .returned (.tuple #[]) ∧ Below w.heap.size w w' := by
  have hb : Below w.heap.size w (w.alloc (.cells #[.int .i32 n1, .int .i32 n2] 39)) := (Below.refl _ _).alloc (Nat.le_refl _) _
  have hB1 := hB.keep hb
  have e47 := hB1.2.2.2.2.1
  have k0 := hB1.2.1 0 (by omega) 5 _ rfl
  have k1 := hB1.2.1 1 (by omega) 5 _ rfl
  have k2 := hB1.2.1 2 (by omega) 5 _ rfl
  have k3 := hB1.2.1 3 (by omega) 5 _ rfl
  simp only [Nat.reduceMul, Nat.reduceAdd] at k0 k1 k2 k3
  have hkb : (key == 0) = false := beq_eq_false_iff_ne.mpr hk
  have hz4 : (σ 0).k = 0 ∨ (σ 1).k = 0 ∨ (σ 2).k = 0 ∨ (σ 3).k = 0 := by
    obtain ⟨i, hi, h⟩ := hz
    have c : i = 0 ∨ i = 1 ∨ i = 2 ∨ i = 3 := by omega
    rcases c with rfl | rfl | rfl | rfl
    · exact .inl h
    · exact .inr (.inl h)
    · exact .inr (.inr (.inl h))
    · exact .inr (.inr (.inr h))
  generalize (σ 0).k = y0 at *
  generalize (σ 1).k = y1 at *
  generalize (σ 2).k = y2 at *
  generalize (σ 3).k = y3 at *
  have HB := Lib.hid hb
  clear hB hB1 hz hk hb
  go_enter Tryd.func17, Tryd.ntmps17
  go_upto_region 1 with fail
  generalize World.alloc w _ = w1 at *
  by_cases h0 : y0 = 0
  · subst h0
    clear hz4
    go_wp2_with fail
    (try simp only [Exit.inBlock, Exit.then])
    refine bodyPost_ret (results_none rfl _ _ _) rfl ?_
    exact ⟨rfl, HB.out⟩
  have x0 : (y0 == 0) = false := beq_eq_false_iff_ne.mpr h0
  by_cases h1 : y1 = 0
  · subst h1
    clear hz4
    go_wp2_with fail
    (try simp only [Exit.inBlock, Exit.then])
    refine bodyPost_ret (results_none rfl _ _ _) rfl ?_
    exact ⟨rfl, HB.out⟩
  have x1 : (y1 == 0) = false := beq_eq_false_iff_ne.mpr h1
  by_cases h2 : y2 = 0
  · subst h2
    clear hz4
    go_wp2_with fail
    (try simp only [Exit.inBlock, Exit.then])
    refine bodyPost_ret (results_none rfl _ _ _) rfl ?_
    exact ⟨rfl, HB.out⟩
  have x2 : (y2 == 0) = false := beq_eq_false_iff_ne.mpr h2
  have h3 : y3 = 0 := by omega
  subst h3
  clear hz4
  go_wp2_with fail
  (try simp only [Exit.inBlock, Exit.then])
  refine bodyPost_ret (results_none rfl _ _ _) rfl ?_
  exact ⟨rfl, HB.out⟩
set_option maxRecDepth 100000 in
set_option maxHeartbeats 1000000 in
theorem ef_auto (w : World) : Calls Tryd.prog 13 #[.string ⟨#[97, 117, 116, 111]⟩, .string ⟨#[97, 117, 116, 111]⟩] w fun e w' => e = .returned (.bool true) ∧ w' = w := by
  go_enter Tryd.func13, Tryd.ntmps13
  go_wp2_with fail
  refine wp_scope_jumps 0 (fun _ _ => False) (fun _ _ => 0) rfl ?first ?pass
  case pass => exact fun _ _ h => h.elim
  case first =>
    go_wp2_with fail
    go_loop [5] (fun s5 => ∃ k : Nat, k ≤ 4 ∧ s5 = .int .i64 (k : Int)) (fun s5 => (4 - intOf s5).toNat)
    case atStart => exact ⟨0, by omega, rfl⟩
    case round =>
      obtain ⟨k, hk, rfl⟩ := hrel
      have c : k = 4 ∨ k = 0 ∨ k = 1 ∨ k = 2 ∨ k = 3 := by omega
      clear hk
      rcases c with rfl | rfl | rfl | rfl | rfl
      · go_wp2_with fail
        simp only [Exit.jump]
        go_ret
        exact ⟨rfl, rfl⟩
      · go_wp2_with fail
        exact ⟨⟨1, by omega, by go_num⟩, by simp [intOf]⟩
      · go_wp2_with fail
        exact ⟨⟨2, by omega, by go_num⟩, by simp [intOf]⟩
      · go_wp2_with fail
        exact ⟨⟨3, by omega, by go_num⟩, by simp [intOf]⟩
      · go_wp2_with fail
        exact ⟨⟨4, by omega, by go_num⟩, by simp [intOf]⟩
end Go.Proofs.YtelanacgjjdmnaaDoor.Bx
