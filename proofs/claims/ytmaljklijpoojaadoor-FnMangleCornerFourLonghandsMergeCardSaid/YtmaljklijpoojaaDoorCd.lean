/-
  zzExpand, zzMinimal, zzCheckList, zzCheckValue.
-/
import Derived.Test.YtmaljklijpoojaaDoorCc
import Derived.Deep.CutBlock
import Derived.Deep.RegionWith
import Derived.Deep.RegionHeld3
namespace Go.Proofs.YtmaljklijpoojaaDoor.Co
open Go.ChangeShapes Go.WideShapes Go.ChangeAt Go.RowKit Rg Quad
set_option linter.unusedVariables false
set_option linter.unusedSimpArgs false
theorem tyA4 : ∃ d, Tryd.prog.underlying 22 = some d ∧ d.isRow = true := ⟨_, Tryd.underlying22, rfl⟩
theorem szA4 : (Tryd.prog.info? 22).map (·.size) = some 4 := by kernel_rfl
/-- an array of four bytes -/
def a4 (q : Nat → Int) : List Value := [.int .u8 (q 0), .int .u8 (q 1), .int .u8 (q 2), .int .u8 (q 3)]
/-- what a prefix of k expands to -/
def exq (q : Nat → Int) (k j : Nat) : Int := if j < k then q j else if j = 3 then (if 1 < k then q 1 else q 0) else q 0
set_option maxRecDepth 100000 in
set_option maxHeartbeats 1000000 in
theorem ex_1 (q : Nat → Int) (g : Nat) (w : World) (h : w.rangeAt g 0 (a4 q)) : Calls Tryd.prog 24 #[.slice (some ⟨g, 0, none⟩) 1 4] w fun e w' => e = .returned (.agg (a4 (exq q 1)).toArray) ∧ Below w.heap.size w w' := by
  have c0 := h 0 _ rfl
  have c1 := h 1 _ rfl
  have c2 := h 2 _ rfl
  have c3 := h 3 _ rfl
  simp only [Nat.zero_add] at c0 c1 c2 c3
  have hlt : g < w.heap.size := rg_lt h (by simp [a4])
  have d0 := alloc_cell c0
  have d1 := alloc_cell c1
  have d2 := alloc_cell c2
  have d3 := alloc_cell c3
  have e0 := fun o => alloc_cell (d0 o)
  have e1 := fun o => alloc_cell (d1 o)
  have e2 := fun o => alloc_cell (d2 o)
  have e3 := fun o => alloc_cell (d3 o)
  have n1 : ¬ g = w.heap.size := by omega
  have n2 : ¬ w.heap.size = g := by omega
  have n3 : ¬ g = w.heap.size + 1 := by omega
  have n4 : ¬ w.heap.size + 1 = g := by omega
  clear h d0 d1 d2 d3
  go_enter Tryd.func24, Tryd.ntmps24
  go_wp2_with fail
  have hr : ((w.alloc (.cells (a4 (exq q 1)).toArray 22)).alloc (.cells (a4 (exq q 1)).toArray 22)).rangeAt w.heap.size 0 (a4 (exq q 1)) := rg_keep ((Below.refl _ _).alloc (Nat.le_refl _) _) (rg_new w (a4 (exq q 1)).toArray 22)
  obtain ⟨du, hu, hu2⟩ := tyA4
  exact bodyPost_ret (results_cell_mid rfl _ _ w.heap.size 0 (a4 (exq q 1)) du rfl hr hu hu2 szA4) rfl ⟨rfl, ((Below.refl _ _).alloc (Nat.le_refl _) _).alloc (by simp) _⟩
set_option maxRecDepth 100000 in
set_option maxHeartbeats 1000000 in
theorem ex_2 (q : Nat → Int) (g : Nat) (w : World) (h : w.rangeAt g 0 (a4 q)) : Calls Tryd.prog 24 #[.slice (some ⟨g, 0, none⟩) 2 4] w fun e w' => e = .returned (.agg (a4 (exq q 2)).toArray) ∧ Below w.heap.size w w' := by
  have c0 := h 0 _ rfl
  have c1 := h 1 _ rfl
  have c2 := h 2 _ rfl
  have c3 := h 3 _ rfl
  simp only [Nat.zero_add] at c0 c1 c2 c3
  have hlt : g < w.heap.size := rg_lt h (by simp [a4])
  have d0 := alloc_cell c0
  have d1 := alloc_cell c1
  have d2 := alloc_cell c2
  have d3 := alloc_cell c3
  have e0 := fun o => alloc_cell (d0 o)
  have e1 := fun o => alloc_cell (d1 o)
  have e2 := fun o => alloc_cell (d2 o)
  have e3 := fun o => alloc_cell (d3 o)
  have n1 : ¬ g = w.heap.size := by omega
  have n2 : ¬ w.heap.size = g := by omega
  have n3 : ¬ g = w.heap.size + 1 := by omega
  have n4 : ¬ w.heap.size + 1 = g := by omega
  clear h d0 d1 d2 d3
  go_enter Tryd.func24, Tryd.ntmps24
  go_wp2_with fail
  have hr : ((w.alloc (.cells (a4 (exq q 2)).toArray 22)).alloc (.cells (a4 (exq q 2)).toArray 22)).rangeAt w.heap.size 0 (a4 (exq q 2)) := rg_keep ((Below.refl _ _).alloc (Nat.le_refl _) _) (rg_new w (a4 (exq q 2)).toArray 22)
  obtain ⟨du, hu, hu2⟩ := tyA4
  exact bodyPost_ret (results_cell_mid rfl _ _ w.heap.size 0 (a4 (exq q 2)) du rfl hr hu hu2 szA4) rfl ⟨rfl, ((Below.refl _ _).alloc (Nat.le_refl _) _).alloc (by simp) _⟩
set_option maxRecDepth 100000 in
set_option maxHeartbeats 1000000 in
theorem ex_3 (q : Nat → Int) (g : Nat) (w : World) (h : w.rangeAt g 0 (a4 q)) : Calls Tryd.prog 24 #[.slice (some ⟨g, 0, none⟩) 3 4] w fun e w' => e = .returned (.agg (a4 (exq q 3)).toArray) ∧ Below w.heap.size w w' := by
  have c0 := h 0 _ rfl
  have c1 := h 1 _ rfl
  have c2 := h 2 _ rfl
  have c3 := h 3 _ rfl
  simp only [Nat.zero_add] at c0 c1 c2 c3
  have hlt : g < w.heap.size := rg_lt h (by simp [a4])
  have d0 := alloc_cell c0
  have d1 := alloc_cell c1
  have d2 := alloc_cell c2
  have d3 := alloc_cell c3
  have e0 := fun o => alloc_cell (d0 o)
  have e1 := fun o => alloc_cell (d1 o)
  have e2 := fun o => alloc_cell (d2 o)
  have e3 := fun o => alloc_cell (d3 o)
  have n1 : ¬ g = w.heap.size := by omega
  have n2 : ¬ w.heap.size = g := by omega
  have n3 : ¬ g = w.heap.size + 1 := by omega
  have n4 : ¬ w.heap.size + 1 = g := by omega
  clear h d0 d1 d2 d3
  go_enter Tryd.func24, Tryd.ntmps24
  go_wp2_with fail
  have hr : ((w.alloc (.cells (a4 (exq q 3)).toArray 22)).alloc (.cells (a4 (exq q 3)).toArray 22)).rangeAt w.heap.size 0 (a4 (exq q 3)) := rg_keep ((Below.refl _ _).alloc (Nat.le_refl _) _) (rg_new w (a4 (exq q 3)).toArray 22)
  obtain ⟨du, hu, hu2⟩ := tyA4
  exact bodyPost_ret (results_cell_mid rfl _ _ w.heap.size 0 (a4 (exq q 3)) du rfl hr hu hu2 szA4) rfl ⟨rfl, ((Below.refl _ _).alloc (Nat.le_refl _) _).alloc (by simp) _⟩
def qeq (x y : Nat → Int) : Bool := decide (x 0 = y 0 ∧ x 1 = y 1 ∧ x 2 = y 2 ∧ x 3 = y 3)
theorem und44 : Tryd.prog.underlying 22 = some (.array 4 5) := by kernel_rfl
theorem und21 : Tryd.prog.underlying 5 = some (.int .u8) := by kernel_rfl
theorem cells21 : Tryd.prog.cellsOf 5 = 1 := by kernel_rfl
theorem a4_at (q : Nat → Int) {i : Nat} (h : i < 4) : (a4 q)[i]? = some (.int .u8 (q i)) := by
  have : i = 0 ∨ i = 1 ∨ i = 2 ∨ i = 3 := by omega
  rcases this with rfl | rfl | rfl | rfl <;> rfl
theorem part_a4 (h : Nat → Int) (i : Nat) (hi : i < 4) (w : World) : (part 5 (a4 h).toArray i).run Tryd.prog w = .ok (.int .u8 (h i)) w := by
  exact run_part_plain w (P := Tryd.prog) (by kernel_rfl) (by rw [List.getElem?_toArray]; exact a4_at h hi)
theorem items_a4 (x y : Nat → Int) (w : World) : ∀ is : List Nat, (∀ i ∈ is, i < 4) → (Op.eqItems 9999 5 1 (a4 x).toArray (a4 y).toArray is).run Tryd.prog w = .ok (is.all fun i => x i == y i) w
  | [], _ => by simp [Op.eqItems]
  | i :: is, hi => by
    have h1 := part_a4 x i (hi i (by simp)) w
    have h3 := part_a4 y i (hi i (by simp)) w
    have h2 := items_a4 x y w is (fun j hj => hi j (by simp [hj]))
    simp only [Op.eqItems, Sem.run_bind, Nat.mul_one, h1, h3, Result.andThen_ok, run_equalIn_int (P := Tryd.prog) w 9998 5 .u8 .u8 (x i) (y i) und21, List.all_cons]
    cases (x i == y i)
    · simp [Sem.run]
    · simp only [Bool.not_true, Bool.false_eq_true, if_false, h2, Bool.true_and]
theorem eq_a4 (x y : Nat → Int) (W : World) : (binOp .eql 22 (.agg (a4 x).toArray) (.agg (a4 y).toArray)).run Tryd.prog W = .ok (.bool (qeq x y)) W := by
  unfold qeq
  obtain ⟨i, hi⟩ : ∃ i, Tryd.prog.info? 5 = some i := Option.isSome_iff_exists.1 (by kernel_rfl)
  rw [run_eql_struct, run_equalIn_array W 9999 _ _ und44 hi, cells21, items_a4 x y W _ (fun j hj => List.mem_range.1 hj)]
  have : ((List.range 4).all fun i => x i == y i) = decide (x 0 = y 0 ∧ x 1 = y 1 ∧ x 2 = y 2 ∧ x 3 = y 3) := by
    rw [Bool.eq_iff_iff]
    simp [List.range, List.range.loop]
  rw [this]
  rfl
abbrev M4 (q : Nat → Int) (g : Nat) (w0 w : World) : Prop := w.cell? ⟨g, 0, none⟩ = some (.int .u8 (q 0)) ∧ w.cell? ⟨g, 1, none⟩ = some (.int .u8 (q 1)) ∧ w.cell? ⟨g, 2, none⟩ = some (.int .u8 (q 2)) ∧ w.cell? ⟨g, 3, none⟩ = some (.int .u8 (q 3)) ∧ w0.heap.size ≤ w.heap.size ∧ Below w0.heap.size w0 w
theorem M4.keep {q : Nat → Int} {g : Nat} {w0 w w' : World} (h : M4 q g w0 w) (hb : Below w.heap.size w w') : M4 q g w0 w' :=
  ⟨later hb h.1, later hb h.2.1, later hb h.2.2.1, later hb h.2.2.2.1, Nat.le_trans h.2.2.2.2.1 hb.size, h.2.2.2.2.2.trans (hb.mono h.2.2.2.2.1)⟩
theorem M4.drew {q : Nat → Int} {g : Nat} {w0 w : World} (h : M4 q g w0 w) : M4 q g w0 w.drew := h.keep (Below.refl _ _).drew
theorem M4.rg {q : Nat → Int} {g : Nat} {w0 w : World} (h : M4 q g w0 w) : w.rangeAt g 0 (a4 q) := fun j v hv => by
  rw [Nat.zero_add]
  have hj : j < 4 := (List.getElem?_eq_some_iff.1 hv).1
  rw [a4_at q hj] at hv
  obtain rfl := Option.some.inj hv
  have : j = 0 ∨ j = 1 ∨ j = 2 ∨ j = 3 := by omega
  rcases this with rfl | rfl | rfl | rfl
  · exact h.1
  · exact h.2.1
  · exact h.2.2.1
  · exact h.2.2.2.1
theorem M4.of {q : Nat → Int} {g : Nat} {w0 w : World} (h : w.rangeAt g 0 (a4 q)) (h1 : w0.heap.size ≤ w.heap.size) (h2 : Below w0.heap.size w0 w) : M4 q g w0 w := by
  have c0 := h 0 _ rfl
  have c1 := h 1 _ rfl
  have c2 := h 2 _ rfl
  have c3 := h 3 _ rfl
  simp only [Nat.zero_add] at c0 c1 c2 c3
  exact ⟨c0, c1, c2, c3, h1, h2⟩
theorem mN_qeq (q : Nat → Int) : mN q = if qeq (exq q 1) q then 1 else if qeq (exq q 2) q then 2 else if qeq (exq q 3) q then 3 else 4 := by
  unfold mN qeq
  simp only [decide_eq_true_eq]
  have e1 : (exq q 1 0 = q 0 ∧ exq q 1 1 = q 1 ∧ exq q 1 2 = q 2 ∧ exq q 1 3 = q 3) ↔ (q 0 = q 1 ∧ q 0 = q 2 ∧ q 0 = q 3) := by
    show (q 0 = q 0 ∧ q 0 = q 1 ∧ q 0 = q 2 ∧ q 0 = q 3) ↔ _
    simp
  have e2 : (exq q 2 0 = q 0 ∧ exq q 2 1 = q 1 ∧ exq q 2 2 = q 2 ∧ exq q 2 3 = q 3) ↔ (q 0 = q 2 ∧ q 1 = q 3) := by
    show (q 0 = q 0 ∧ q 1 = q 1 ∧ q 0 = q 2 ∧ q 1 = q 3) ↔ _
    simp
  have e3 : (exq q 3 0 = q 0 ∧ exq q 3 1 = q 1 ∧ exq q 3 2 = q 2 ∧ exq q 3 3 = q 3) ↔ (q 1 = q 3) := by
    show (q 0 = q 0 ∧ q 1 = q 1 ∧ q 2 = q 2 ∧ q 1 = q 3) ↔ _
    simp
  simp only [e1, e2, e3]
  split <;> (try split) <;> (try split) <;> (try split) <;> (try split) <;> (try split) <;> omega
set_option maxRecDepth 100000 in
set_option maxHeartbeats 4000000 in
theorem mn_any (q : Nat → Int) (w : World) : Calls Tryd.prog 16 #[.agg (a4 q).toArray] w fun e w' => e = .returned (.int .i64 (mN q)) ∧ Below w.heap.size w w' := by
  rw [mN_qeq]
  have hE := fun k W => eq_a4 (exq q k) q W
  have hE1 := hE 1
  have hE2 := hE 2
  have hE3 := hE 3
  clear hE
  obtain ⟨v1, hv1⟩ : ∃ v, qeq (exq q 1) q = v := ⟨_, rfl⟩
  obtain ⟨v2, hv2⟩ : ∃ v, qeq (exq q 2) q = v := ⟨_, rfl⟩
  obtain ⟨v3, hv3⟩ : ∃ v, qeq (exq q 3) q = v := ⟨_, rfl⟩
  rw [hv1] at hE1 ⊢
  rw [hv2] at hE2 ⊢
  rw [hv3] at hE3 ⊢
  clear hv1 hv2 hv3
  have hr : (w.alloc (.cells (a4 q).toArray 22)).rangeAt w.heap.size 0 (a4 q) := rg_new w (a4 q).toArray 22
  have hb : Below w.heap.size w (w.alloc (.cells (a4 q).toArray 22)) := (Below.refl _ _).alloc (Nat.le_refl _) _
  obtain ⟨g, hg⟩ : ∃ g, w.heap.size = g := ⟨_, rfl⟩
  rw [hg] at hr
  have hX1 := fun (W : World) (h : M4 q g w W) => ex_1 q g W h.rg
  have hX2 := fun (W : World) (h : M4 q g w W) => ex_2 q g W h.rg
  have hX3 := fun (W : World) (h : M4 q g w W) => ex_3 q g W h.rg
  have hS0 := M4.of (w0 := w) hr (by simp) hb
  clear hr hb
  unfold a4 at hE1 hE2 hE3 hX1 hX2 hX3 hS0
  have HS0 := Lib.hid hS0
  have HX1 := Lib.hid hX1
  have HX2 := Lib.hid hX2
  have HX3 := Lib.hid hX3
  clear hX1 hX2 hX3 hS0
  unfold a4
  go_enter Tryd.func16, Tryd.ntmps16
  go_upto_block 0 with fail
  try rw [hg]
  generalize w.alloc (.cells #[.int .u8 (q 0), .int .u8 (q 1), .int .u8 (q 2), .int .u8 (q 3)] 22) = w1 at *
  go_wp2_with fail
  go_loopw [3] (fun iv wr => ∃ k : Nat, 1 ≤ k ∧ k ≤ 4 ∧ iv = .int .i64 k ∧ Hid (M4 q g w wr) ∧ Hid ((1 < k → v1 = false) ∧ (2 < k → v2 = false) ∧ (3 < k → v3 = false))) (fun iv _ => 4 - (intOf iv).toNat)
  case atStart => exact ⟨1, by omega, by omega, rfl, HS0, Lib.hid ⟨fun h => by omega, fun h => by omega, fun h => by omega⟩⟩
  case round =>
    clear HS0
    obtain ⟨k, hk1, hk2, rfl, HS, HV⟩ := hrel
    have hk : k = 1 ∨ k = 2 ∨ k = 3 ∨ k = 4 := by omega
    clear hk1 hk2
    rcases hk with rfl | rfl | rfl | rfl
    · go_upto_region 4 with fail
      go_region_held3 (fun w' => w'.cell? ⟨g, 0, none⟩ = some (.int .u8 (q 0)) ∧ w'.cell? ⟨g, 1, none⟩ = some (.int .u8 (q 1)) ∧ w'.cell? ⟨g, 2, none⟩ = some (.int .u8 (q 2)) ∧ w'.cell? ⟨g, 3, none⟩ = some (.int .u8 (q 3)) ∧ w.heap.size ≤ w'.heap.size ∧ Below w.heap.size w w')
        (first | exact HS.out.drew | (refine M4.keep ?_ ‹Below _ _ _›; assumption))
        (first | (go_at_call 24; refine (HX1.out _ (by assumption)).mono ?_; rintro e w' ⟨rfl, hb⟩))
      rename_i hH
      have HS := Lib.hid (show M4 q g w _ from hH)
      clear hH
      have h12 := HV.out
      cases v1
      · go_wp2_with fail
        refine ⟨⟨2, by omega, by omega, rfl, HS, Lib.hid ⟨fun h => (by first | rfl | trivial), fun h => by omega, fun h => by omega⟩⟩, by simp [intOf]⟩
      · go_wp2_with fail
        go_ret
        exact ⟨by simp, by have := HS.out.2.2.2.2.2; rwa [hg] at this⟩
    · go_upto_region 4 with fail
      go_region_held3 (fun w' => w'.cell? ⟨g, 0, none⟩ = some (.int .u8 (q 0)) ∧ w'.cell? ⟨g, 1, none⟩ = some (.int .u8 (q 1)) ∧ w'.cell? ⟨g, 2, none⟩ = some (.int .u8 (q 2)) ∧ w'.cell? ⟨g, 3, none⟩ = some (.int .u8 (q 3)) ∧ w.heap.size ≤ w'.heap.size ∧ Below w.heap.size w w')
        (first | exact HS.out.drew | (refine M4.keep ?_ ‹Below _ _ _›; assumption))
        (first | (go_at_call 24; refine (HX2.out _ (by assumption)).mono ?_; rintro e w' ⟨rfl, hb⟩))
      rename_i hH
      have HS := Lib.hid (show M4 q g w _ from hH)
      clear hH
      have h12 := HV.out
      cases v2
      · go_wp2_with fail
        refine ⟨⟨3, by omega, by omega, rfl, HS, Lib.hid ⟨fun h => h12.1 (by omega), fun h => (by first | rfl | trivial), fun h => by omega⟩⟩, by simp [intOf]⟩
      · go_wp2_with fail
        go_ret
        exact ⟨by simp [h12.1 (by omega)], by have := HS.out.2.2.2.2.2; rwa [hg] at this⟩
    · go_upto_region 4 with fail
      go_region_held3 (fun w' => w'.cell? ⟨g, 0, none⟩ = some (.int .u8 (q 0)) ∧ w'.cell? ⟨g, 1, none⟩ = some (.int .u8 (q 1)) ∧ w'.cell? ⟨g, 2, none⟩ = some (.int .u8 (q 2)) ∧ w'.cell? ⟨g, 3, none⟩ = some (.int .u8 (q 3)) ∧ w.heap.size ≤ w'.heap.size ∧ Below w.heap.size w w')
        (first | exact HS.out.drew | (refine M4.keep ?_ ‹Below _ _ _›; assumption))
        (first | (go_at_call 24; refine (HX3.out _ (by assumption)).mono ?_; rintro e w' ⟨rfl, hb⟩))
      rename_i hH
      have HS := Lib.hid (show M4 q g w _ from hH)
      clear hH
      have h12 := HV.out
      cases v3
      · go_wp2_with fail
        refine ⟨⟨4, by omega, by omega, rfl, HS, Lib.hid ⟨fun h => h12.1 (by omega), fun h => h12.2.1 (by omega), fun h => (by first | rfl | trivial)⟩⟩, by simp [intOf]⟩
      · go_wp2_with fail
        go_ret
        exact ⟨by simp [h12.1 (by omega), h12.2.1 (by omega)], by have := HS.out.2.2.2.2.2; rwa [hg] at this⟩
    · have h12 := HV.out
      have hv1 : v1 = false := h12.1 (by omega)
      have hv2 : v2 = false := h12.2.1 (by omega)
      have hv3 : v3 = false := h12.2.2 (by omega)
      subst hv1 hv2 hv3
      clear h12 HV
      go_wp2_with fail
      all_goals go_ret
      all_goals exact ⟨rfl, by have := HS.out.2.2.2.2.2; rwa [hg] at this⟩
end Go.Proofs.YtmaljklijpoojaaDoor.Co
