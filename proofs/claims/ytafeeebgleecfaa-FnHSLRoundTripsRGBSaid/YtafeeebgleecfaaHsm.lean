/-
  rgb_to_hsl: every way through it, told by the numbers that it reckons.
-/
import Derived.Test.YtafeeebgleecfaaPd
namespace Go.Proofs.Ytafeeebgleecfaa.Mat
open Go.ChangeShapes Go.WideShapes Go.ChangeAt Go.RowKit
open FL Pl
set_option linter.unusedVariables false
attribute [local go_sem] run_store_float
set_option maxRecDepth 100000 in
set_option maxHeartbeats 4000000 in
theorem hsl_red1 (r g b mx mn sm li d lO sO base : Nat) (w : World) (H : Hid (base = w.heap.size)) (Hmx : Hid (maxW (maxW r g) b = mx)) (Hmn : Hid (minW (minW r g) b = mn)) (Hsm : Hid (Ieee.double.add mn mx = some sm)) (Hli : Hid (Ieee.double.div sm 4611686018427387904 = some li)) (Hd : Hid (Ieee.double.sub mx mn = some d)) (HlO : Hid (Ieee.double.mul li 4636737291354636288 = some lO)) (nl om dv p q h0 h t sat : Nat) (Hq5 : Hid (eqB d 0 = false)) (Hnl : Hid (flip li = nl)) (Hom : Hid (Ieee.double.add nl 4607182418800017408 = some om)) (Hdv : Hid (minW li om = dv)) (Hq7 : Hid (eqB dv 0 = false)) (Ht : Hid (Ieee.double.sub mx li = some t)) (Hsat : Hid (Ieee.double.div t dv = some sat)) (HsO : Hid (Ieee.double.mul sat 4636737291354636288 = some sO)) (Hq10 : Hid (eqB mx r = true)) (Hp : Hid (Ieee.double.sub g b = some p)) (Hq : Hid (Ieee.double.div p d = some q)) (Hq12 : Hid (ltB g b = false)) (Hh0 : Hid (q = h0)) (Hh : Hid (Ieee.double.mul q 4633641066610819072 = some h)) :
    Calls Try.prog 50 #[.agg #[.float .f64 r], .agg #[.float .f64 g], .agg #[.float .f64 b]] w fun e w' => e = .returned (.tuple #[.agg #[.float .f64 h], .agg #[.float .f64 sO], .agg #[.float .f64 lO]]) ∧ Below base w w' := by
  go_enter Try.func50, Try.ntmps50
  go_upto_region 1 with fail
  generalize hW : World.alloc _ _ = W at *
  have hS : Bx base w [(w.heap.size + 1 + 1 + 1 + 1 + 1, 0), (w.heap.size + 1 + 1 + 1 + 1, 0), (w.heap.size + 1 + 1 + 1, 0), (w.heap.size + 1 + 1, b), (w.heap.size + 1, g), (w.heap.size, r)] W := by
    subst hW
    have := (((((((Bx.start w).alloc r 41).alloc g 41).alloc b 41).alloc 0 41).alloc 0 41).alloc 0 41)
    rw [H.out]
    simpa using this
  have hA : Apart base [(w.heap.size + 1 + 1 + 1 + 1 + 1, 0), (w.heap.size + 1 + 1 + 1 + 1, 0), (w.heap.size + 1 + 1 + 1, 0), (w.heap.size + 1 + 1, b), (w.heap.size + 1, g), (w.heap.size, r)] := by
    rw [H.out]
    simp [Apart]; try omega
  have HS := Lib.hid (And.intro hS hA)
  clear hS hA hW H
  generalize w.heap.size + 1 + 1 + 1 + 1 + 1 = g8 at *
  generalize w.heap.size + 1 + 1 + 1 + 1 = g7 at *
  generalize w.heap.size + 1 + 1 + 1 = g6 at *
  generalize w.heap.size + 1 + 1 = g5 at *
  generalize w.heap.size + 1 = g4 at *
  generalize hgg : w.heap.size = g3 at *
  clear hgg
  have c_g3 : W.cell? ⟨g3, 0, none⟩ = some (.float .f64 r) := (HS.out.1.cell 5 (by simp)).1
  have c_g4 : W.cell? ⟨g4, 0, none⟩ = some (.float .f64 g) := (HS.out.1.cell 4 (by simp)).1
  have c_g5 : W.cell? ⟨g5, 0, none⟩ = some (.float .f64 b) := (HS.out.1.cell 3 (by simp)).1
  go_wp2_with fail
  refine (Max3_as r g b mx Hmx.out _).mono ?_
  rintro e w1 ⟨rfl, hb⟩
  have hS := HS.out.1.keep hb
  have hA := HS.out.2
  clear HS hb c_g3 c_g4 c_g5
  replace hA := hA.alloc hS mx
  replace hS := hS.alloc mx 41
  have HS := Lib.hid (And.intro hS hA)
  clear hS hA
  go_upto_region 2 with fail
  generalize World.alloc _ _ = W at *
  generalize w1.heap.size = g9 at *
  clear w1
  have c_g3 : W.cell? ⟨g3, 0, none⟩ = some (.float .f64 r) := (HS.out.1.cell 6 (by simp)).1
  have c_g4 : W.cell? ⟨g4, 0, none⟩ = some (.float .f64 g) := (HS.out.1.cell 5 (by simp)).1
  have c_g5 : W.cell? ⟨g5, 0, none⟩ = some (.float .f64 b) := (HS.out.1.cell 4 (by simp)).1
  go_wp2_with fail
  refine (Min3_as r g b mn Hmn.out _).mono ?_
  rintro e w1 ⟨rfl, hb⟩
  have hS := HS.out.1.keep hb
  have hA := HS.out.2
  clear HS hb c_g3 c_g4 c_g5
  replace hA := hA.alloc hS mn
  replace hS := hS.alloc mn 41
  have HS := Lib.hid (And.intro hS hA)
  clear hS hA
  go_upto_region 3 with fail
  generalize World.alloc _ _ = W at *
  generalize w1.heap.size = g10 at *
  clear w1
  refine wp_region_plan 10 (by kernel_rfl) (by kernel_rfl) (PI base w [(g10, mn), (g9, mx), (g8, 0), (g7, 0), (g6, 0), (g5, b), (g4, g), (g3, r)] [some 24, some 25, some 26, some 27, some 28, some 29, some 30, some 11, some 12, some 13] [7, 8, 9] (fun i => [.float .f64 9221120237041090561, .agg #[.float .f64 9221120237041090561], .agg #[.float .f64 0], .agg #[.float .f64 mn], .agg #[.float .f64 mx], .agg #[.float .f64 sm], .agg #[.float .f64 li], .bool false, .bool false, .bool false].getD i (.bool false)) _) (PI.start HS.out.1) ?_ ?_
  · intro i o b' a' w' hi ho hb he hI
    rcases (by omega : i = 0 ∨ i = 1 ∨ i = 2 ∨ i = 3 ∨ i = 4 ∨ i = 5 ∨ i = 6 ∨ i = 7 ∨ i = 8 ∨ i = 9) with rfl | rfl | rfl | rfl | rfl | rfl | rfl | rfl | rfl | rfl
    · obtain rfl := Option.some.inj ho
      refine hI.stepCall hb rfl rfl rfl (op_call _ _ 70 Try.f70 _ _ _ rfl Try.func70 (by kernel_rfl) (by kernel_rfl)) ?_
      have hm : Array.map a'.eval #[] = #[] := by simp
      rw [hm]
      exact NaN_any _
    · obtain rfl := Option.some.inj ho
      have e0 := hI.new 0 (edge he 0 (by kernel_rfl)) rfl rfl rfl (by show 24 < 91; decide)
      refine hI.stepCall hb rfl rfl rfl (op_call _ _ 42 Try.f42 _ _ _ rfl Try.func42 (by kernel_rfl) (by kernel_rfl)) ?_
      have hm : Array.map a'.eval #[.tmp 24] = #[.float .f64 9221120237041090561] := by simp [e0]
      rw [hm]
      exact NewF64_any _ _
    · obtain rfl := Option.some.inj ho
      refine hI.stepCall hb rfl rfl rfl (op_call _ _ 42 Try.f42 _ _ _ rfl Try.func42 (by kernel_rfl) (by kernel_rfl)) ?_
      have hm : Array.map a'.eval #[.const ((Value.float FloatKind.f64 0))] = #[(Value.float FloatKind.f64 0)] := by simp [ev_const]
      rw [hm]
      exact NewF64_any _ _
    · obtain rfl := Option.some.inj ho
      exact hI.stepQuiet hb rfl rfl rfl (op_load _ _ _ g10 mn _ rfl ((hI.old rfl).trans rfl) (hI.bx.cell 0 (by simp)).1)
    · obtain rfl := Option.some.inj ho
      exact hI.stepQuiet hb rfl rfl rfl (op_load _ _ _ g9 mx _ rfl ((hI.old rfl).trans rfl) (hI.bx.cell 1 (by simp)).1)
    · obtain rfl := Option.some.inj ho
      have e0 := hI.new 3 (edge he 3 (by kernel_rfl)) rfl rfl rfl (by show 27 < 91; decide)
      have e1 := hI.new 4 (edge he 4 (by kernel_rfl)) rfl rfl rfl (by show 28 < 91; decide)
      refine hI.stepCall hb rfl rfl rfl (op_call _ _ 61 Try.f61 _ _ _ rfl Try.func61 (by kernel_rfl) (by kernel_rfl)) ?_
      have hm : Array.map a'.eval #[.tmp 27, .tmp 28] = #[.agg #[.float .f64 mn], .agg #[.float .f64 mx]] := by simp [e0, e1]
      rw [hm]
      exact Add_any mn mx sm Hsm.out _
    · obtain rfl := Option.some.inj ho
      have e0 := hI.new 5 (edge he 5 (by kernel_rfl)) rfl rfl rfl (by show 29 < 91; decide)
      refine hI.stepCall hb rfl rfl rfl (op_call _ _ 58 Try.f58 _ _ _ rfl Try.func58 (by kernel_rfl) (by kernel_rfl)) ?_
      have hm : Array.map a'.eval #[.tmp 29, .const ((Value.float FloatKind.f64 4611686018427387904))] = #[.agg #[.float .f64 sm], (Value.float FloatKind.f64 4611686018427387904)] := by simp [e0, ev_const]
      rw [hm]
      exact DivConst_any sm 4611686018427387904 li Hli.out _
    · obtain rfl := Option.some.inj ho
      exact hI.stepAlloc 41 hb rfl rfl rfl rfl (op_alloc _ _ _ rfl)
    · obtain rfl := Option.some.inj ho
      exact hI.stepAlloc 41 hb rfl rfl rfl rfl (op_alloc _ _ _ rfl)
    · obtain rfl := Option.some.inj ho
      exact hI.stepAlloc 41 hb rfl rfl rfl rfl (op_alloc _ _ _ rfl)
  · intro b' a' w1 hb hI
    obtain ⟨ρ, rfl, hS, hC, hN⟩ := hI
    have hA := HS.out.2
    clear HS
    have p0 := hb 0 (by decide)
    have p1 := hb 1 (by decide)
    have p2 := hb 2 (by decide)
    have p3 := hb 3 (by decide)
    have p4 := hb 4 (by decide)
    have p5 := hb 5 (by decide)
    have p6 := hb 6 (by decide)
    have p7 := hb 7 (by decide)
    have p8 := hb 8 (by decide)
    have p9 := hb 9 (by decide)
    obtain ⟨c7, f7, l7, n7⟩ := hC 7 (by simp) p7
    obtain ⟨c8, f8, l8, n8⟩ := hC 8 (by simp) p8
    obtain ⟨c9, f9, l9, n9⟩ := hC 9 (by simp) p9
    have d7_8 := hN 7 (by simp) 8 (by simp) p7 p8 (by decide)
    have d7_9 := hN 7 (by simp) 9 (by simp) p7 p9 (by decide)
    have d8_9 := hN 8 (by simp) 9 (by simp) p8 p9 (by decide)
    have v0 : vals [7, 8, 9] (fun i => [.float .f64 9221120237041090561, .agg #[.float .f64 9221120237041090561], .agg #[.float .f64 0], .agg #[.float .f64 mn], .agg #[.float .f64 mx], .agg #[.float .f64 sm], .agg #[.float .f64 li], .bool false, .bool false, .bool false].getD i (.bool false)) ρ 0 = .float .f64 9221120237041090561 := rfl
    have v1 : vals [7, 8, 9] (fun i => [.float .f64 9221120237041090561, .agg #[.float .f64 9221120237041090561], .agg #[.float .f64 0], .agg #[.float .f64 mn], .agg #[.float .f64 mx], .agg #[.float .f64 sm], .agg #[.float .f64 li], .bool false, .bool false, .bool false].getD i (.bool false)) ρ 1 = .agg #[.float .f64 9221120237041090561] := rfl
    have v2 : vals [7, 8, 9] (fun i => [.float .f64 9221120237041090561, .agg #[.float .f64 9221120237041090561], .agg #[.float .f64 0], .agg #[.float .f64 mn], .agg #[.float .f64 mx], .agg #[.float .f64 sm], .agg #[.float .f64 li], .bool false, .bool false, .bool false].getD i (.bool false)) ρ 2 = .agg #[.float .f64 0] := rfl
    have v3 : vals [7, 8, 9] (fun i => [.float .f64 9221120237041090561, .agg #[.float .f64 9221120237041090561], .agg #[.float .f64 0], .agg #[.float .f64 mn], .agg #[.float .f64 mx], .agg #[.float .f64 sm], .agg #[.float .f64 li], .bool false, .bool false, .bool false].getD i (.bool false)) ρ 3 = .agg #[.float .f64 mn] := rfl
    have v4 : vals [7, 8, 9] (fun i => [.float .f64 9221120237041090561, .agg #[.float .f64 9221120237041090561], .agg #[.float .f64 0], .agg #[.float .f64 mn], .agg #[.float .f64 mx], .agg #[.float .f64 sm], .agg #[.float .f64 li], .bool false, .bool false, .bool false].getD i (.bool false)) ρ 4 = .agg #[.float .f64 mx] := rfl
    have v5 : vals [7, 8, 9] (fun i => [.float .f64 9221120237041090561, .agg #[.float .f64 9221120237041090561], .agg #[.float .f64 0], .agg #[.float .f64 mn], .agg #[.float .f64 mx], .agg #[.float .f64 sm], .agg #[.float .f64 li], .bool false, .bool false, .bool false].getD i (.bool false)) ρ 5 = .agg #[.float .f64 sm] := rfl
    have v6 : vals [7, 8, 9] (fun i => [.float .f64 9221120237041090561, .agg #[.float .f64 9221120237041090561], .agg #[.float .f64 0], .agg #[.float .f64 mn], .agg #[.float .f64 mx], .agg #[.float .f64 sm], .agg #[.float .f64 li], .bool false, .bool false, .bool false].getD i (.bool false)) ρ 6 = .agg #[.float .f64 li] := rfl
    have v7 : vals [7, 8, 9] (fun i => [.float .f64 9221120237041090561, .agg #[.float .f64 9221120237041090561], .agg #[.float .f64 0], .agg #[.float .f64 mn], .agg #[.float .f64 mx], .agg #[.float .f64 sm], .agg #[.float .f64 li], .bool false, .bool false, .bool false].getD i (.bool false)) ρ 7 = .pointer (some ⟨(ρ 7), 0, none⟩) := rfl
    have v8 : vals [7, 8, 9] (fun i => [.float .f64 9221120237041090561, .agg #[.float .f64 9221120237041090561], .agg #[.float .f64 0], .agg #[.float .f64 mn], .agg #[.float .f64 mx], .agg #[.float .f64 sm], .agg #[.float .f64 li], .bool false, .bool false, .bool false].getD i (.bool false)) ρ 8 = .pointer (some ⟨(ρ 8), 0, none⟩) := rfl
    have v9 : vals [7, 8, 9] (fun i => [.float .f64 9221120237041090561, .agg #[.float .f64 9221120237041090561], .agg #[.float .f64 0], .agg #[.float .f64 mn], .agg #[.float .f64 mx], .agg #[.float .f64 sm], .agg #[.float .f64 li], .bool false, .bool false, .bool false].getD i (.bool false)) ρ 9 = .pointer (some ⟨(ρ 9), 0, none⟩) := rfl
    simp only [puts, Nat.zero_add, p0, p1, p2, p3, p4, p5, p6, p7, p8, p9, v0, v1, v2, v3, v4, v5, v6, v7, v8, v9, if_true, List.drop_succ_cons, List.drop_zero, Nat.reduceAdd]
    clear hb hC hN p0 p1 p2 p3 p4 p5 p6 p7 p8 p9 v0 v1 v2 v3 v4 v5 v6 v7 v8 v9
    generalize ρ 7 = g11 at *
    replace hA : Apart base ((g11, 0) :: [(g10, mn), (g9, mx), (g8, 0), (g7, 0), (g6, 0), (g5, b), (g4, g), (g3, r)]) := ⟨l7, n7, hA⟩
    replace hS : Bx base w ((g11, 0) :: [(g10, mn), (g9, mx), (g8, 0), (g7, 0), (g6, 0), (g5, b), (g4, g), (g3, r)]) w1 := ⟨c7, f7, hS⟩
    generalize ρ 8 = g12 at *
    replace hA : Apart base ((g12, 0) :: [(g11, 0), (g10, mn), (g9, mx), (g8, 0), (g7, 0), (g6, 0), (g5, b), (g4, g), (g3, r)]) := ⟨l8, (off_cons d7_8 n8), hA⟩
    replace hS : Bx base w ((g12, 0) :: [(g11, 0), (g10, mn), (g9, mx), (g8, 0), (g7, 0), (g6, 0), (g5, b), (g4, g), (g3, r)]) w1 := ⟨c8, f8, hS⟩
    generalize ρ 9 = g13 at *
    replace hA : Apart base ((g13, 0) :: [(g12, 0), (g11, 0), (g10, mn), (g9, mx), (g8, 0), (g7, 0), (g6, 0), (g5, b), (g4, g), (g3, r)]) := ⟨l9, (off_cons d8_9 (off_cons d7_9 n9)), hA⟩
    replace hS : Bx base w ((g13, 0) :: [(g12, 0), (g11, 0), (g10, mn), (g9, mx), (g8, 0), (g7, 0), (g6, 0), (g5, b), (g4, g), (g3, r)]) w1 := ⟨c9, f9, hS⟩
    clear c7 f7 l7 n7 c8 f8 l8 n8 c9 f9 l9 n9 d7_8 d7_9 d8_9
    clear ρ b'
    have s0 : (w1).cell? ⟨g11, 0, none⟩ = some (.float .f64 0) := (hS.cell 2 (by simp)).1
    have t0 : (w1).frozen? ⟨g11, 0, none⟩ = false := (hS.cell 2 (by simp)).2
    replace hS : Bx base w [(g13, 0), (g12, 0), (g11, 9221120237041090561), (g10, mn), (g9, mx), (g8, 0), (g7, 0), (g6, 0), (g5, b), (g4, g), (g3, r)] ((w1).setCell ⟨g11, 0, none⟩ (.float .f64 9221120237041090561)) := hS.set 9221120237041090561 hA 2 (by simp)
    replace hA : Apart base [(g13, 0), (g12, 0), (g11, 9221120237041090561), (g10, mn), (g9, mx), (g8, 0), (g7, 0), (g6, 0), (g5, b), (g4, g), (g3, r)] := Apart.of_fst (by rfl) hA
    have s1 : ((w1).setCell ⟨g11, 0, none⟩ (.float .f64 9221120237041090561)).cell? ⟨g12, 0, none⟩ = some (.float .f64 0) := (hS.cell 1 (by simp)).1
    have t1 : ((w1).setCell ⟨g11, 0, none⟩ (.float .f64 9221120237041090561)).frozen? ⟨g12, 0, none⟩ = false := (hS.cell 1 (by simp)).2
    replace hS : Bx base w [(g13, 0), (g12, 0), (g11, 9221120237041090561), (g10, mn), (g9, mx), (g8, 0), (g7, 0), (g6, 0), (g5, b), (g4, g), (g3, r)] (((w1).setCell ⟨g11, 0, none⟩ (.float .f64 9221120237041090561)).setCell ⟨g12, 0, none⟩ (.float .f64 0)) := hS.set 0 hA 1 (by simp)
    replace hA : Apart base [(g13, 0), (g12, 0), (g11, 9221120237041090561), (g10, mn), (g9, mx), (g8, 0), (g7, 0), (g6, 0), (g5, b), (g4, g), (g3, r)] := Apart.of_fst (by rfl) hA
    have s2 : (((w1).setCell ⟨g11, 0, none⟩ (.float .f64 9221120237041090561)).setCell ⟨g12, 0, none⟩ (.float .f64 0)).cell? ⟨g13, 0, none⟩ = some (.float .f64 0) := (hS.cell 0 (by simp)).1
    have t2 : (((w1).setCell ⟨g11, 0, none⟩ (.float .f64 9221120237041090561)).setCell ⟨g12, 0, none⟩ (.float .f64 0)).frozen? ⟨g13, 0, none⟩ = false := (hS.cell 0 (by simp)).2
    replace hS : Bx base w [(g13, li), (g12, 0), (g11, 9221120237041090561), (g10, mn), (g9, mx), (g8, 0), (g7, 0), (g6, 0), (g5, b), (g4, g), (g3, r)] ((((w1).setCell ⟨g11, 0, none⟩ (.float .f64 9221120237041090561)).setCell ⟨g12, 0, none⟩ (.float .f64 0)).setCell ⟨g13, 0, none⟩ (.float .f64 li)) := hS.set li hA 0 (by simp)
    replace hA : Apart base [(g13, li), (g12, 0), (g11, 9221120237041090561), (g10, mn), (g9, mx), (g8, 0), (g7, 0), (g6, 0), (g5, b), (g4, g), (g3, r)] := Apart.of_fst (by rfl) hA
    have HS := Lib.hid (And.intro hS hA)
    clear hS hA
    go_upto_region 4 with fail
    clear s0 t0 s1 t1 s2 t2
    generalize World.setCell _ _ _ = W at *
    clear w1
    have c_g9 : W.cell? ⟨g9, 0, none⟩ = some (.float .f64 mx) := (HS.out.1.cell 4 (by simp)).1
    have c_g10 : W.cell? ⟨g10, 0, none⟩ = some (.float .f64 mn) := (HS.out.1.cell 3 (by simp)).1
    go_wp2_with fail
    refine (Sub_any mx mn d Hd.out _).mono ?_
    rintro e w1 ⟨rfl, hb⟩
    have hS := HS.out.1.keep hb
    have hA := HS.out.2
    clear HS hb c_g9 c_g10
    replace hA := hA.alloc hS d
    replace hS := hS.alloc d 41
    have HS := Lib.hid (And.intro hS hA)
    clear hS hA
    go_upto_region 5 with fail
    generalize World.alloc _ _ = W at *
    generalize w1.heap.size = g14 at *
    clear w1
    have q5 : (FloatKind.f64.format.order d 0 != some .eq) = true := neq_ok Hq5.out
    have c_g14 : W.cell? ⟨g14, 0, none⟩ = some (.float .f64 d) := (HS.out.1.cell 0 (by simp)).1
    go_wp2_with fail
    refine (Value_any d _).mono ?_
    rintro e w1 ⟨rfl, hb⟩
    have hS := HS.out.1.keep hb
    have hA := HS.out.2
    clear HS hb c_g14
    have HS := Lib.hid (And.intro hS hA)
    clear hS hA
    go_upto_region 6 with fail
    generalize w1 = W at *
    clear q5
    refine wp_region_plan 6 (by kernel_rfl) (by kernel_rfl) (PI base w [(g14, d), (g13, li), (g12, 0), (g11, 9221120237041090561), (g10, mn), (g9, mx), (g8, 0), (g7, 0), (g6, 0), (g5, b), (g4, g), (g3, r)] [some 37, some 38, some 39, some 40, some 41, some 15] [5] (fun i => [.agg #[.float .f64 li], .agg #[.float .f64 li], .agg #[.float .f64 nl], .agg #[.float .f64 om], .agg #[.float .f64 dv], .bool false].getD i (.bool false)) _) (PI.start HS.out.1) ?_ ?_
    · intro i o b' a' w' hi ho hb he hI
      rcases (by omega : i = 0 ∨ i = 1 ∨ i = 2 ∨ i = 3 ∨ i = 4 ∨ i = 5) with rfl | rfl | rfl | rfl | rfl | rfl
      · obtain rfl := Option.some.inj ho
        exact hI.stepQuiet hb rfl rfl rfl (op_load _ _ _ g13 li _ rfl ((hI.old rfl).trans rfl) (hI.bx.cell 1 (by simp)).1)
      · obtain rfl := Option.some.inj ho
        exact hI.stepQuiet hb rfl rfl rfl (op_load _ _ _ g13 li _ rfl ((hI.old rfl).trans rfl) (hI.bx.cell 1 (by simp)).1)
      · obtain rfl := Option.some.inj ho
        have e0 := hI.new 1 (edge he 1 (by kernel_rfl)) rfl rfl rfl (by show 38 < 91; decide)
        refine hI.stepCall hb rfl rfl rfl (op_call _ _ 72 Try.f72 _ _ _ rfl Try.func72 (by kernel_rfl) (by kernel_rfl)) ?_
        have hm : Array.map a'.eval #[.tmp 38] = #[.agg #[.float .f64 li]] := by simp [e0]
        rw [hm]
        exact Neg_as li nl Hnl.out _
      · obtain rfl := Option.some.inj ho
        have e0 := hI.new 2 (edge he 2 (by kernel_rfl)) rfl rfl rfl (by show 39 < 91; decide)
        refine hI.stepCall hb rfl rfl rfl (op_call _ _ 59 Try.f59 _ _ _ rfl Try.func59 (by kernel_rfl) (by kernel_rfl)) ?_
        have hm : Array.map a'.eval #[.tmp 39, .const ((Value.float FloatKind.f64 4607182418800017408))] = #[.agg #[.float .f64 nl], (Value.float FloatKind.f64 4607182418800017408)] := by simp [e0, ev_const]
        rw [hm]
        exact AddConst_any nl 4607182418800017408 om Hom.out _
      · obtain rfl := Option.some.inj ho
        have e0 := hI.new 0 (edge he 0 (by kernel_rfl)) rfl rfl rfl (by show 37 < 91; decide)
        have e1 := hI.new 3 (edge he 3 (by kernel_rfl)) rfl rfl rfl (by show 40 < 91; decide)
        refine hI.stepCall hb rfl rfl rfl (op_call _ _ 71 Try.f71 _ _ _ rfl Try.func71 (by kernel_rfl) (by kernel_rfl)) ?_
        have hm : Array.map a'.eval #[.tmp 37, .tmp 40] = #[.agg #[.float .f64 li], .agg #[.float .f64 om]] := by simp [e0, e1]
        rw [hm]
        exact Min2_as li om dv Hdv.out _
      · obtain rfl := Option.some.inj ho
        exact hI.stepAlloc 41 hb rfl rfl rfl rfl (op_alloc _ _ _ rfl)
    · intro b' a' w1 hb hI
      obtain ⟨ρ, rfl, hS, hC, hN⟩ := hI
      have hA := HS.out.2
      clear HS
      have p0 := hb 0 (by decide)
      have p1 := hb 1 (by decide)
      have p2 := hb 2 (by decide)
      have p3 := hb 3 (by decide)
      have p4 := hb 4 (by decide)
      have p5 := hb 5 (by decide)
      obtain ⟨c5, f5, l5, n5⟩ := hC 5 (by simp) p5
      have v0 : vals [5] (fun i => [.agg #[.float .f64 li], .agg #[.float .f64 li], .agg #[.float .f64 nl], .agg #[.float .f64 om], .agg #[.float .f64 dv], .bool false].getD i (.bool false)) ρ 0 = .agg #[.float .f64 li] := rfl
      have v1 : vals [5] (fun i => [.agg #[.float .f64 li], .agg #[.float .f64 li], .agg #[.float .f64 nl], .agg #[.float .f64 om], .agg #[.float .f64 dv], .bool false].getD i (.bool false)) ρ 1 = .agg #[.float .f64 li] := rfl
      have v2 : vals [5] (fun i => [.agg #[.float .f64 li], .agg #[.float .f64 li], .agg #[.float .f64 nl], .agg #[.float .f64 om], .agg #[.float .f64 dv], .bool false].getD i (.bool false)) ρ 2 = .agg #[.float .f64 nl] := rfl
      have v3 : vals [5] (fun i => [.agg #[.float .f64 li], .agg #[.float .f64 li], .agg #[.float .f64 nl], .agg #[.float .f64 om], .agg #[.float .f64 dv], .bool false].getD i (.bool false)) ρ 3 = .agg #[.float .f64 om] := rfl
      have v4 : vals [5] (fun i => [.agg #[.float .f64 li], .agg #[.float .f64 li], .agg #[.float .f64 nl], .agg #[.float .f64 om], .agg #[.float .f64 dv], .bool false].getD i (.bool false)) ρ 4 = .agg #[.float .f64 dv] := rfl
      have v5 : vals [5] (fun i => [.agg #[.float .f64 li], .agg #[.float .f64 li], .agg #[.float .f64 nl], .agg #[.float .f64 om], .agg #[.float .f64 dv], .bool false].getD i (.bool false)) ρ 5 = .pointer (some ⟨(ρ 5), 0, none⟩) := rfl
      simp only [puts, Nat.zero_add, p0, p1, p2, p3, p4, p5, v0, v1, v2, v3, v4, v5, if_true, List.drop_succ_cons, List.drop_zero, Nat.reduceAdd]
      clear hb hC hN p0 p1 p2 p3 p4 p5 v0 v1 v2 v3 v4 v5
      generalize ρ 5 = g15 at *
      replace hA : Apart base ((g15, 0) :: [(g14, d), (g13, li), (g12, 0), (g11, 9221120237041090561), (g10, mn), (g9, mx), (g8, 0), (g7, 0), (g6, 0), (g5, b), (g4, g), (g3, r)]) := ⟨l5, n5, hA⟩
      replace hS : Bx base w ((g15, 0) :: [(g14, d), (g13, li), (g12, 0), (g11, 9221120237041090561), (g10, mn), (g9, mx), (g8, 0), (g7, 0), (g6, 0), (g5, b), (g4, g), (g3, r)]) w1 := ⟨c5, f5, hS⟩
      clear c5 f5 l5 n5 
      clear ρ b'
      have s0 : (w1).cell? ⟨g15, 0, none⟩ = some (.float .f64 0) := (hS.cell 0 (by simp)).1
      have t0 : (w1).frozen? ⟨g15, 0, none⟩ = false := (hS.cell 0 (by simp)).2
      replace hS : Bx base w [(g15, dv), (g14, d), (g13, li), (g12, 0), (g11, 9221120237041090561), (g10, mn), (g9, mx), (g8, 0), (g7, 0), (g6, 0), (g5, b), (g4, g), (g3, r)] ((w1).setCell ⟨g15, 0, none⟩ (.float .f64 dv)) := hS.set dv hA 0 (by simp)
      replace hA : Apart base [(g15, dv), (g14, d), (g13, li), (g12, 0), (g11, 9221120237041090561), (g10, mn), (g9, mx), (g8, 0), (g7, 0), (g6, 0), (g5, b), (g4, g), (g3, r)] := Apart.of_fst (by rfl) hA
      have HS := Lib.hid (And.intro hS hA)
      clear hS hA
      go_upto_region 7 with fail
      clear s0 t0
      generalize World.setCell _ _ _ = W at *
      clear w1
      have q7 : (FloatKind.f64.format.order dv 0 != some .eq) = true := neq_ok Hq7.out
      have c_g15 : W.cell? ⟨g15, 0, none⟩ = some (.float .f64 dv) := (HS.out.1.cell 0 (by simp)).1
      go_wp2_with fail
      refine (Value_any dv _).mono ?_
      rintro e w1 ⟨rfl, hb⟩
      have hS := HS.out.1.keep hb
      have hA := HS.out.2
      clear HS hb c_g15
      have HS := Lib.hid (And.intro hS hA)
      clear hS hA
      go_upto_region 8 with fail
      generalize w1 = W at *
      clear q7
      refine wp_region_plan 5 (by kernel_rfl) (by kernel_rfl) (PI base w [(g15, dv), (g14, d), (g13, li), (g12, 0), (g11, 9221120237041090561), (g10, mn), (g9, mx), (g8, 0), (g7, 0), (g6, 0), (g5, b), (g4, g), (g3, r)] [some 45, some 46, some 47, some 48, some 49] [] (fun i => [.agg #[.float .f64 mx], .agg #[.float .f64 li], .agg #[.float .f64 t], .agg #[.float .f64 dv], .agg #[.float .f64 sat]].getD i (.bool false)) _) (PI.start HS.out.1) ?_ ?_
      · intro i o b' a' w' hi ho hb he hI
        rcases (by omega : i = 0 ∨ i = 1 ∨ i = 2 ∨ i = 3 ∨ i = 4) with rfl | rfl | rfl | rfl | rfl
        · obtain rfl := Option.some.inj ho
          exact hI.stepQuiet hb rfl rfl rfl (op_load _ _ _ g9 mx _ rfl ((hI.old rfl).trans rfl) (hI.bx.cell 6 (by simp)).1)
        · obtain rfl := Option.some.inj ho
          exact hI.stepQuiet hb rfl rfl rfl (op_load _ _ _ g13 li _ rfl ((hI.old rfl).trans rfl) (hI.bx.cell 2 (by simp)).1)
        · obtain rfl := Option.some.inj ho
          have e0 := hI.new 0 (edge he 0 (by kernel_rfl)) rfl rfl rfl (by show 45 < 91; decide)
          have e1 := hI.new 1 (edge he 1 (by kernel_rfl)) rfl rfl rfl (by show 46 < 91; decide)
          refine hI.stepCall hb rfl rfl rfl (op_call _ _ 62 Try.f62 _ _ _ rfl Try.func62 (by kernel_rfl) (by kernel_rfl)) ?_
          have hm : Array.map a'.eval #[.tmp 45, .tmp 46] = #[.agg #[.float .f64 mx], .agg #[.float .f64 li]] := by simp [e0, e1]
          rw [hm]
          exact Sub_any mx li t Ht.out _
        · obtain rfl := Option.some.inj ho
          exact hI.stepQuiet hb rfl rfl rfl (op_load _ _ _ g15 dv _ rfl ((hI.old rfl).trans rfl) (hI.bx.cell 0 (by simp)).1)
        · obtain rfl := Option.some.inj ho
          have e0 := hI.new 2 (edge he 2 (by kernel_rfl)) rfl rfl rfl (by show 47 < 91; decide)
          have e1 := hI.new 3 (edge he 3 (by kernel_rfl)) rfl rfl rfl (by show 48 < 91; decide)
          refine hI.stepCall hb rfl rfl rfl (op_call _ _ 73 Try.f73 _ _ _ rfl Try.func73 (by kernel_rfl) (by kernel_rfl)) ?_
          have hm : Array.map a'.eval #[.tmp 47, .tmp 48] = #[.agg #[.float .f64 t], .agg #[.float .f64 dv]] := by simp [e0, e1]
          rw [hm]
          exact Div_any t dv sat Hsat.out _
      · intro b' a' w1 hb hI
        obtain ⟨ρ, rfl, hS, hC, hN⟩ := hI
        have hA := HS.out.2
        clear HS
        have p0 := hb 0 (by decide)
        have p1 := hb 1 (by decide)
        have p2 := hb 2 (by decide)
        have p3 := hb 3 (by decide)
        have p4 := hb 4 (by decide)
        have v0 : vals [] (fun i => [.agg #[.float .f64 mx], .agg #[.float .f64 li], .agg #[.float .f64 t], .agg #[.float .f64 dv], .agg #[.float .f64 sat]].getD i (.bool false)) ρ 0 = .agg #[.float .f64 mx] := rfl
        have v1 : vals [] (fun i => [.agg #[.float .f64 mx], .agg #[.float .f64 li], .agg #[.float .f64 t], .agg #[.float .f64 dv], .agg #[.float .f64 sat]].getD i (.bool false)) ρ 1 = .agg #[.float .f64 li] := rfl
        have v2 : vals [] (fun i => [.agg #[.float .f64 mx], .agg #[.float .f64 li], .agg #[.float .f64 t], .agg #[.float .f64 dv], .agg #[.float .f64 sat]].getD i (.bool false)) ρ 2 = .agg #[.float .f64 t] := rfl
        have v3 : vals [] (fun i => [.agg #[.float .f64 mx], .agg #[.float .f64 li], .agg #[.float .f64 t], .agg #[.float .f64 dv], .agg #[.float .f64 sat]].getD i (.bool false)) ρ 3 = .agg #[.float .f64 dv] := rfl
        have v4 : vals [] (fun i => [.agg #[.float .f64 mx], .agg #[.float .f64 li], .agg #[.float .f64 t], .agg #[.float .f64 dv], .agg #[.float .f64 sat]].getD i (.bool false)) ρ 4 = .agg #[.float .f64 sat] := rfl
        simp only [puts, Nat.zero_add, p0, p1, p2, p3, p4, v0, v1, v2, v3, v4, if_true, List.drop_succ_cons, List.drop_zero, Nat.reduceAdd]
        clear hb hC hN p0 p1 p2 p3 p4 v0 v1 v2 v3 v4
        clear ρ b'
        have s0 : (w1).cell? ⟨g12, 0, none⟩ = some (.float .f64 0) := (hS.cell 3 (by simp)).1
        have t0 : (w1).frozen? ⟨g12, 0, none⟩ = false := (hS.cell 3 (by simp)).2
        replace hS : Bx base w [(g15, dv), (g14, d), (g13, li), (g12, sat), (g11, 9221120237041090561), (g10, mn), (g9, mx), (g8, 0), (g7, 0), (g6, 0), (g5, b), (g4, g), (g3, r)] ((w1).setCell ⟨g12, 0, none⟩ (.float .f64 sat)) := hS.set sat hA 3 (by simp)
        replace hA : Apart base [(g15, dv), (g14, d), (g13, li), (g12, sat), (g11, 9221120237041090561), (g10, mn), (g9, mx), (g8, 0), (g7, 0), (g6, 0), (g5, b), (g4, g), (g3, r)] := Apart.of_fst (by rfl) hA
        have HS := Lib.hid (And.intro hS hA)
        clear hS hA
        go_upto_region 9 with fail
        clear s0 t0
        generalize World.setCell _ _ _ = W at *
        clear w1
        have c_g9 : W.cell? ⟨g9, 0, none⟩ = some (.float .f64 mx) := (HS.out.1.cell 6 (by simp)).1
        go_upto_region 10 with fail
        clear c_g9
        have q10 := fun w => run_eql_f64 mx r true w Hq10.out
        have c_g3 : W.cell? ⟨g3, 0, none⟩ = some (.float .f64 r) := (HS.out.1.cell 12 (by simp)).1
        go_upto_region 11 with fail
        clear c_g3
        clear q10
        refine wp_region_plan 5 (by kernel_rfl) (by kernel_rfl) (PI base w [(g15, dv), (g14, d), (g13, li), (g12, sat), (g11, 9221120237041090561), (g10, mn), (g9, mx), (g8, 0), (g7, 0), (g6, 0), (g5, b), (g4, g), (g3, r)] [some 54, some 55, some 56, some 57, some 58] [] (fun i => [.agg #[.float .f64 g], .agg #[.float .f64 b], .agg #[.float .f64 p], .agg #[.float .f64 d], .agg #[.float .f64 q]].getD i (.bool false)) _) (PI.start HS.out.1) ?_ ?_
        · intro i o b' a' w' hi ho hb he hI
          rcases (by omega : i = 0 ∨ i = 1 ∨ i = 2 ∨ i = 3 ∨ i = 4) with rfl | rfl | rfl | rfl | rfl
          · obtain rfl := Option.some.inj ho
            exact hI.stepQuiet hb rfl rfl rfl (op_load _ _ _ g4 g _ rfl ((hI.old rfl).trans rfl) (hI.bx.cell 11 (by simp)).1)
          · obtain rfl := Option.some.inj ho
            exact hI.stepQuiet hb rfl rfl rfl (op_load _ _ _ g5 b _ rfl ((hI.old rfl).trans rfl) (hI.bx.cell 10 (by simp)).1)
          · obtain rfl := Option.some.inj ho
            have e0 := hI.new 0 (edge he 0 (by kernel_rfl)) rfl rfl rfl (by show 54 < 91; decide)
            have e1 := hI.new 1 (edge he 1 (by kernel_rfl)) rfl rfl rfl (by show 55 < 91; decide)
            refine hI.stepCall hb rfl rfl rfl (op_call _ _ 62 Try.f62 _ _ _ rfl Try.func62 (by kernel_rfl) (by kernel_rfl)) ?_
            have hm : Array.map a'.eval #[.tmp 54, .tmp 55] = #[.agg #[.float .f64 g], .agg #[.float .f64 b]] := by simp [e0, e1]
            rw [hm]
            exact Sub_any g b p Hp.out _
          · obtain rfl := Option.some.inj ho
            exact hI.stepQuiet hb rfl rfl rfl (op_load _ _ _ g14 d _ rfl ((hI.old rfl).trans rfl) (hI.bx.cell 1 (by simp)).1)
          · obtain rfl := Option.some.inj ho
            have e0 := hI.new 2 (edge he 2 (by kernel_rfl)) rfl rfl rfl (by show 56 < 91; decide)
            have e1 := hI.new 3 (edge he 3 (by kernel_rfl)) rfl rfl rfl (by show 57 < 91; decide)
            refine hI.stepCall hb rfl rfl rfl (op_call _ _ 73 Try.f73 _ _ _ rfl Try.func73 (by kernel_rfl) (by kernel_rfl)) ?_
            have hm : Array.map a'.eval #[.tmp 56, .tmp 57] = #[.agg #[.float .f64 p], .agg #[.float .f64 d]] := by simp [e0, e1]
            rw [hm]
            exact Div_any p d q Hq.out _
        · intro b' a' w1 hb hI
          obtain ⟨ρ, rfl, hS, hC, hN⟩ := hI
          have hA := HS.out.2
          clear HS
          have p0 := hb 0 (by decide)
          have p1 := hb 1 (by decide)
          have p2 := hb 2 (by decide)
          have p3 := hb 3 (by decide)
          have p4 := hb 4 (by decide)
          have v0 : vals [] (fun i => [.agg #[.float .f64 g], .agg #[.float .f64 b], .agg #[.float .f64 p], .agg #[.float .f64 d], .agg #[.float .f64 q]].getD i (.bool false)) ρ 0 = .agg #[.float .f64 g] := rfl
          have v1 : vals [] (fun i => [.agg #[.float .f64 g], .agg #[.float .f64 b], .agg #[.float .f64 p], .agg #[.float .f64 d], .agg #[.float .f64 q]].getD i (.bool false)) ρ 1 = .agg #[.float .f64 b] := rfl
          have v2 : vals [] (fun i => [.agg #[.float .f64 g], .agg #[.float .f64 b], .agg #[.float .f64 p], .agg #[.float .f64 d], .agg #[.float .f64 q]].getD i (.bool false)) ρ 2 = .agg #[.float .f64 p] := rfl
          have v3 : vals [] (fun i => [.agg #[.float .f64 g], .agg #[.float .f64 b], .agg #[.float .f64 p], .agg #[.float .f64 d], .agg #[.float .f64 q]].getD i (.bool false)) ρ 3 = .agg #[.float .f64 d] := rfl
          have v4 : vals [] (fun i => [.agg #[.float .f64 g], .agg #[.float .f64 b], .agg #[.float .f64 p], .agg #[.float .f64 d], .agg #[.float .f64 q]].getD i (.bool false)) ρ 4 = .agg #[.float .f64 q] := rfl
          simp only [puts, Nat.zero_add, p0, p1, p2, p3, p4, v0, v1, v2, v3, v4, if_true, List.drop_succ_cons, List.drop_zero, Nat.reduceAdd]
          clear hb hC hN p0 p1 p2 p3 p4 v0 v1 v2 v3 v4
          clear ρ b'
          have s0 : (w1).cell? ⟨g11, 0, none⟩ = some (.float .f64 9221120237041090561) := (hS.cell 4 (by simp)).1
          have t0 : (w1).frozen? ⟨g11, 0, none⟩ = false := (hS.cell 4 (by simp)).2
          replace hS : Bx base w [(g15, dv), (g14, d), (g13, li), (g12, sat), (g11, q), (g10, mn), (g9, mx), (g8, 0), (g7, 0), (g6, 0), (g5, b), (g4, g), (g3, r)] ((w1).setCell ⟨g11, 0, none⟩ (.float .f64 q)) := hS.set q hA 4 (by simp)
          replace hA : Apart base [(g15, dv), (g14, d), (g13, li), (g12, sat), (g11, q), (g10, mn), (g9, mx), (g8, 0), (g7, 0), (g6, 0), (g5, b), (g4, g), (g3, r)] := Apart.of_fst (by rfl) hA
          have HS := Lib.hid (And.intro hS hA)
          clear hS hA
          go_upto_region 12 with fail
          clear s0 t0
          generalize World.setCell _ _ _ = W at *
          clear w1
          have q12 : (FloatKind.f64.format.order g b == some .lt) = false := Hq12.out
          refine wp_region_plan 4 (by kernel_rfl) (by kernel_rfl) (PI base w [(g15, dv), (g14, d), (g13, li), (g12, sat), (g11, q), (g10, mn), (g9, mx), (g8, 0), (g7, 0), (g6, 0), (g5, b), (g4, g), (g3, r)] [some 59, some 60, some 61, some 62] [] (fun i => [.agg #[.float .f64 g], .float .f64 g, .agg #[.float .f64 b], .float .f64 b].getD i (.bool false)) _) (PI.start HS.out.1) ?_ ?_
          · intro i o b' a' w' hi ho hb he hI
            rcases (by omega : i = 0 ∨ i = 1 ∨ i = 2 ∨ i = 3) with rfl | rfl | rfl | rfl
            · obtain rfl := Option.some.inj ho
              exact hI.stepQuiet hb rfl rfl rfl (op_load _ _ _ g4 g _ rfl ((hI.old rfl).trans rfl) (hI.bx.cell 11 (by simp)).1)
            · obtain rfl := Option.some.inj ho
              have e0 := hI.new 0 (edge he 0 (by kernel_rfl)) rfl rfl rfl (by show 59 < 91; decide)
              refine hI.stepCall hb rfl rfl rfl (op_call _ _ 43 Try.f43 _ _ _ rfl Try.func43 (by kernel_rfl) (by kernel_rfl)) ?_
              have hm : Array.map a'.eval #[.tmp 59] = #[.agg #[.float .f64 g]] := by simp [e0]
              rw [hm]
              exact Value_any g _
            · obtain rfl := Option.some.inj ho
              exact hI.stepQuiet hb rfl rfl rfl (op_load _ _ _ g5 b _ rfl ((hI.old rfl).trans rfl) (hI.bx.cell 10 (by simp)).1)
            · obtain rfl := Option.some.inj ho
              have e0 := hI.new 2 (edge he 2 (by kernel_rfl)) rfl rfl rfl (by show 61 < 91; decide)
              refine hI.stepCall hb rfl rfl rfl (op_call _ _ 43 Try.f43 _ _ _ rfl Try.func43 (by kernel_rfl) (by kernel_rfl)) ?_
              have hm : Array.map a'.eval #[.tmp 61] = #[.agg #[.float .f64 b]] := by simp [e0]
              rw [hm]
              exact Value_any b _
          · intro b' a' w1 hb hI
            obtain ⟨ρ, rfl, hS, hC, hN⟩ := hI
            have hA := HS.out.2
            clear HS
            have p0 := hb 0 (by decide)
            have p1 := hb 1 (by decide)
            have p2 := hb 2 (by decide)
            have p3 := hb 3 (by decide)
            have v0 : vals [] (fun i => [.agg #[.float .f64 g], .float .f64 g, .agg #[.float .f64 b], .float .f64 b].getD i (.bool false)) ρ 0 = .agg #[.float .f64 g] := rfl
            have v1 : vals [] (fun i => [.agg #[.float .f64 g], .float .f64 g, .agg #[.float .f64 b], .float .f64 b].getD i (.bool false)) ρ 1 = .float .f64 g := rfl
            have v2 : vals [] (fun i => [.agg #[.float .f64 g], .float .f64 g, .agg #[.float .f64 b], .float .f64 b].getD i (.bool false)) ρ 2 = .agg #[.float .f64 b] := rfl
            have v3 : vals [] (fun i => [.agg #[.float .f64 g], .float .f64 g, .agg #[.float .f64 b], .float .f64 b].getD i (.bool false)) ρ 3 = .float .f64 b := rfl
            simp only [puts, Nat.zero_add, p0, p1, p2, p3, v0, v1, v2, v3, if_true, List.drop_succ_cons, List.drop_zero, Nat.reduceAdd]
            clear hb hC hN p0 p1 p2 p3 v0 v1 v2 v3
            clear ρ b'
            have HS := Lib.hid (And.intro hS hA)
            clear hS hA
            go_upto_region 18 with fail
            generalize w1 = W at *
            clear q12
            have c_g11 : W.cell? ⟨g11, 0, none⟩ = some (.float .f64 q) := (HS.out.1.cell 4 (by simp)).1
            go_wp2_with fail
            refine (MulConst_any q 4633641066610819072 h Hh.out _).mono ?_
            rintro e w1 ⟨rfl, hb⟩
            have hS := HS.out.1.keep hb
            have hA := HS.out.2
            clear HS hb c_g11
            have s0 : (w1).cell? ⟨g11, 0, none⟩ = some (.float .f64 q) := (hS.cell 4 (by simp)).1
            have t0 : (w1).frozen? ⟨g11, 0, none⟩ = false := (hS.cell 4 (by simp)).2
            replace hS : Bx base w [(g15, dv), (g14, d), (g13, li), (g12, sat), (g11, h), (g10, mn), (g9, mx), (g8, 0), (g7, 0), (g6, 0), (g5, b), (g4, g), (g3, r)] ((w1).setCell ⟨g11, 0, none⟩ (.float .f64 h)) := hS.set h hA 4 (by simp)
            replace hA : Apart base [(g15, dv), (g14, d), (g13, li), (g12, sat), (g11, h), (g10, mn), (g9, mx), (g8, 0), (g7, 0), (g6, 0), (g5, b), (g4, g), (g3, r)] := Apart.of_fst (by rfl) hA
            have HS := Lib.hid (And.intro hS hA)
            clear hS hA
            go_upto_region 19 with fail
            clear s0 t0
            generalize World.setCell _ _ _ = W at *
            clear w1
            refine wp_region_plan 5 (by kernel_rfl) (by kernel_rfl) (PI base w [(g15, dv), (g14, d), (g13, li), (g12, sat), (g11, h), (g10, mn), (g9, mx), (g8, 0), (g7, 0), (g6, 0), (g5, b), (g4, g), (g3, r)] [some 86, some 87, some 88, some 89, some 90] [] (fun i => [.agg #[.float .f64 h], .agg #[.float .f64 sat], .agg #[.float .f64 sO], .agg #[.float .f64 li], .agg #[.float .f64 lO]].getD i (.bool false)) _) (PI.start HS.out.1) ?_ ?_
            · intro i o b' a' w' hi ho hb he hI
              rcases (by omega : i = 0 ∨ i = 1 ∨ i = 2 ∨ i = 3 ∨ i = 4) with rfl | rfl | rfl | rfl | rfl
              · obtain rfl := Option.some.inj ho
                exact hI.stepQuiet hb rfl rfl rfl (op_load _ _ _ g11 h _ rfl ((hI.old rfl).trans rfl) (hI.bx.cell 4 (by simp)).1)
              · obtain rfl := Option.some.inj ho
                exact hI.stepQuiet hb rfl rfl rfl (op_load _ _ _ g12 sat _ rfl ((hI.old rfl).trans rfl) (hI.bx.cell 3 (by simp)).1)
              · obtain rfl := Option.some.inj ho
                have e0 := hI.new 1 (edge he 1 (by kernel_rfl)) rfl rfl rfl (by show 87 < 91; decide)
                refine hI.stepCall hb rfl rfl rfl (op_call _ _ 63 Try.f63 _ _ _ rfl Try.func63 (by kernel_rfl) (by kernel_rfl)) ?_
                have hm : Array.map a'.eval #[.tmp 87, .const ((Value.float FloatKind.f64 4636737291354636288))] = #[.agg #[.float .f64 sat], (Value.float FloatKind.f64 4636737291354636288)] := by simp [e0, ev_const]
                rw [hm]
                exact MulConst_any sat 4636737291354636288 sO HsO.out _
              · obtain rfl := Option.some.inj ho
                exact hI.stepQuiet hb rfl rfl rfl (op_load _ _ _ g13 li _ rfl ((hI.old rfl).trans rfl) (hI.bx.cell 2 (by simp)).1)
              · obtain rfl := Option.some.inj ho
                have e0 := hI.new 3 (edge he 3 (by kernel_rfl)) rfl rfl rfl (by show 89 < 91; decide)
                refine hI.stepCall hb rfl rfl rfl (op_call _ _ 63 Try.f63 _ _ _ rfl Try.func63 (by kernel_rfl) (by kernel_rfl)) ?_
                have hm : Array.map a'.eval #[.tmp 89, .const ((Value.float FloatKind.f64 4636737291354636288))] = #[.agg #[.float .f64 li], (Value.float FloatKind.f64 4636737291354636288)] := by simp [e0, ev_const]
                rw [hm]
                exact MulConst_any li 4636737291354636288 lO HlO.out _
            · intro b' a' w1 hb hI
              obtain ⟨ρ, rfl, hS, hC, hN⟩ := hI
              have hA := HS.out.2
              clear HS
              have p0 := hb 0 (by decide)
              have p1 := hb 1 (by decide)
              have p2 := hb 2 (by decide)
              have p3 := hb 3 (by decide)
              have p4 := hb 4 (by decide)
              have v0 : vals [] (fun i => [.agg #[.float .f64 h], .agg #[.float .f64 sat], .agg #[.float .f64 sO], .agg #[.float .f64 li], .agg #[.float .f64 lO]].getD i (.bool false)) ρ 0 = .agg #[.float .f64 h] := rfl
              have v1 : vals [] (fun i => [.agg #[.float .f64 h], .agg #[.float .f64 sat], .agg #[.float .f64 sO], .agg #[.float .f64 li], .agg #[.float .f64 lO]].getD i (.bool false)) ρ 1 = .agg #[.float .f64 sat] := rfl
              have v2 : vals [] (fun i => [.agg #[.float .f64 h], .agg #[.float .f64 sat], .agg #[.float .f64 sO], .agg #[.float .f64 li], .agg #[.float .f64 lO]].getD i (.bool false)) ρ 2 = .agg #[.float .f64 sO] := rfl
              have v3 : vals [] (fun i => [.agg #[.float .f64 h], .agg #[.float .f64 sat], .agg #[.float .f64 sO], .agg #[.float .f64 li], .agg #[.float .f64 lO]].getD i (.bool false)) ρ 3 = .agg #[.float .f64 li] := rfl
              have v4 : vals [] (fun i => [.agg #[.float .f64 h], .agg #[.float .f64 sat], .agg #[.float .f64 sO], .agg #[.float .f64 li], .agg #[.float .f64 lO]].getD i (.bool false)) ρ 4 = .agg #[.float .f64 lO] := rfl
              simp only [puts, Nat.zero_add, p0, p1, p2, p3, p4, v0, v1, v2, v3, v4, if_true, List.drop_succ_cons, List.drop_zero, Nat.reduceAdd]
              clear hb hC hN p0 p1 p2 p3 p4 v0 v1 v2 v3 v4
              clear ρ b'
              have s0 : (w1).cell? ⟨g6, 0, none⟩ = some (.float .f64 0) := (hS.cell 9 (by simp)).1
              have t0 : (w1).frozen? ⟨g6, 0, none⟩ = false := (hS.cell 9 (by simp)).2
              replace hS : Bx base w [(g15, dv), (g14, d), (g13, li), (g12, sat), (g11, h), (g10, mn), (g9, mx), (g8, 0), (g7, 0), (g6, h), (g5, b), (g4, g), (g3, r)] ((w1).setCell ⟨g6, 0, none⟩ (.float .f64 h)) := hS.set h hA 9 (by simp)
              replace hA : Apart base [(g15, dv), (g14, d), (g13, li), (g12, sat), (g11, h), (g10, mn), (g9, mx), (g8, 0), (g7, 0), (g6, h), (g5, b), (g4, g), (g3, r)] := Apart.of_fst (by rfl) hA
              have s1 : ((w1).setCell ⟨g6, 0, none⟩ (.float .f64 h)).cell? ⟨g7, 0, none⟩ = some (.float .f64 0) := (hS.cell 8 (by simp)).1
              have t1 : ((w1).setCell ⟨g6, 0, none⟩ (.float .f64 h)).frozen? ⟨g7, 0, none⟩ = false := (hS.cell 8 (by simp)).2
              replace hS : Bx base w [(g15, dv), (g14, d), (g13, li), (g12, sat), (g11, h), (g10, mn), (g9, mx), (g8, 0), (g7, sO), (g6, h), (g5, b), (g4, g), (g3, r)] (((w1).setCell ⟨g6, 0, none⟩ (.float .f64 h)).setCell ⟨g7, 0, none⟩ (.float .f64 sO)) := hS.set sO hA 8 (by simp)
              replace hA : Apart base [(g15, dv), (g14, d), (g13, li), (g12, sat), (g11, h), (g10, mn), (g9, mx), (g8, 0), (g7, sO), (g6, h), (g5, b), (g4, g), (g3, r)] := Apart.of_fst (by rfl) hA
              have s2 : (((w1).setCell ⟨g6, 0, none⟩ (.float .f64 h)).setCell ⟨g7, 0, none⟩ (.float .f64 sO)).cell? ⟨g8, 0, none⟩ = some (.float .f64 0) := (hS.cell 7 (by simp)).1
              have t2 : (((w1).setCell ⟨g6, 0, none⟩ (.float .f64 h)).setCell ⟨g7, 0, none⟩ (.float .f64 sO)).frozen? ⟨g8, 0, none⟩ = false := (hS.cell 7 (by simp)).2
              replace hS : Bx base w [(g15, dv), (g14, d), (g13, li), (g12, sat), (g11, h), (g10, mn), (g9, mx), (g8, lO), (g7, sO), (g6, h), (g5, b), (g4, g), (g3, r)] ((((w1).setCell ⟨g6, 0, none⟩ (.float .f64 h)).setCell ⟨g7, 0, none⟩ (.float .f64 sO)).setCell ⟨g8, 0, none⟩ (.float .f64 lO)) := hS.set lO hA 7 (by simp)
              replace hA : Apart base [(g15, dv), (g14, d), (g13, li), (g12, sat), (g11, h), (g10, mn), (g9, mx), (g8, lO), (g7, sO), (g6, h), (g5, b), (g4, g), (g3, r)] := Apart.of_fst (by rfl) hA
              have HS := Lib.hid (And.intro hS hA)
              clear hS hA
              go_wp2_with fail
              clear s0 t0 s1 t1 s2 t2
              generalize World.setCell _ _ _ = W at *
              clear w1
              have c_g6 : W.cell? ⟨g6, 0, none⟩ = some (.float .f64 h) := (HS.out.1.cell 9 (by simp)).1
              have c_g7 : W.cell? ⟨g7, 0, none⟩ = some (.float .f64 sO) := (HS.out.1.cell 8 (by simp)).1
              have c_g8 : W.cell? ⟨g8, 0, none⟩ = some (.float .f64 lO) := (HS.out.1.cell 7 (by simp)).1
              refine bodyPost_ret (v := .tuple #[.agg #[.float .f64 h], .agg #[.float .f64 sO], .agg #[.float .f64 lO]]) (by simp [results, Try.results50, go_sem, c_g6, c_g7, c_g8]) rfl ⟨rfl, HS.out.1.below.2⟩
set_option maxRecDepth 100000 in
set_option maxHeartbeats 4000000 in
theorem hsl_redb1 (r g b mx mn sm li d lO sO base : Nat) (w : World) (H : Hid (base = w.heap.size)) (Hmx : Hid (maxW (maxW r g) b = mx)) (Hmn : Hid (minW (minW r g) b = mn)) (Hsm : Hid (Ieee.double.add mn mx = some sm)) (Hli : Hid (Ieee.double.div sm 4611686018427387904 = some li)) (Hd : Hid (Ieee.double.sub mx mn = some d)) (HlO : Hid (Ieee.double.mul li 4636737291354636288 = some lO)) (nl om dv p q h0 h t sat : Nat) (Hq5 : Hid (eqB d 0 = false)) (Hnl : Hid (flip li = nl)) (Hom : Hid (Ieee.double.add nl 4607182418800017408 = some om)) (Hdv : Hid (minW li om = dv)) (Hq7 : Hid (eqB dv 0 = false)) (Ht : Hid (Ieee.double.sub mx li = some t)) (Hsat : Hid (Ieee.double.div t dv = some sat)) (HsO : Hid (Ieee.double.mul sat 4636737291354636288 = some sO)) (Hq10 : Hid (eqB mx r = true)) (Hp : Hid (Ieee.double.sub g b = some p)) (Hq : Hid (Ieee.double.div p d = some q)) (Hq12 : Hid (ltB g b = true)) (Hh0 : Hid (Ieee.double.add q 4618441417868443648 = some h0)) (Hh : Hid (Ieee.double.mul h0 4633641066610819072 = some h)) :
    Calls Try.prog 50 #[.agg #[.float .f64 r], .agg #[.float .f64 g], .agg #[.float .f64 b]] w fun e w' => e = .returned (.tuple #[.agg #[.float .f64 h], .agg #[.float .f64 sO], .agg #[.float .f64 lO]]) ∧ Below base w w' := by
  go_enter Try.func50, Try.ntmps50
  go_upto_region 1 with fail
  generalize hW : World.alloc _ _ = W at *
  have hS : Bx base w [(w.heap.size + 1 + 1 + 1 + 1 + 1, 0), (w.heap.size + 1 + 1 + 1 + 1, 0), (w.heap.size + 1 + 1 + 1, 0), (w.heap.size + 1 + 1, b), (w.heap.size + 1, g), (w.heap.size, r)] W := by
    subst hW
    have := (((((((Bx.start w).alloc r 41).alloc g 41).alloc b 41).alloc 0 41).alloc 0 41).alloc 0 41)
    rw [H.out]
    simpa using this
  have hA : Apart base [(w.heap.size + 1 + 1 + 1 + 1 + 1, 0), (w.heap.size + 1 + 1 + 1 + 1, 0), (w.heap.size + 1 + 1 + 1, 0), (w.heap.size + 1 + 1, b), (w.heap.size + 1, g), (w.heap.size, r)] := by
    rw [H.out]
    simp [Apart]; try omega
  have HS := Lib.hid (And.intro hS hA)
  clear hS hA hW H
  generalize w.heap.size + 1 + 1 + 1 + 1 + 1 = g8 at *
  generalize w.heap.size + 1 + 1 + 1 + 1 = g7 at *
  generalize w.heap.size + 1 + 1 + 1 = g6 at *
  generalize w.heap.size + 1 + 1 = g5 at *
  generalize w.heap.size + 1 = g4 at *
  generalize hgg : w.heap.size = g3 at *
  clear hgg
  have c_g3 : W.cell? ⟨g3, 0, none⟩ = some (.float .f64 r) := (HS.out.1.cell 5 (by simp)).1
  have c_g4 : W.cell? ⟨g4, 0, none⟩ = some (.float .f64 g) := (HS.out.1.cell 4 (by simp)).1
  have c_g5 : W.cell? ⟨g5, 0, none⟩ = some (.float .f64 b) := (HS.out.1.cell 3 (by simp)).1
  go_wp2_with fail
  refine (Max3_as r g b mx Hmx.out _).mono ?_
  rintro e w1 ⟨rfl, hb⟩
  have hS := HS.out.1.keep hb
  have hA := HS.out.2
  clear HS hb c_g3 c_g4 c_g5
  replace hA := hA.alloc hS mx
  replace hS := hS.alloc mx 41
  have HS := Lib.hid (And.intro hS hA)
  clear hS hA
  go_upto_region 2 with fail
  generalize World.alloc _ _ = W at *
  generalize w1.heap.size = g9 at *
  clear w1
  have c_g3 : W.cell? ⟨g3, 0, none⟩ = some (.float .f64 r) := (HS.out.1.cell 6 (by simp)).1
  have c_g4 : W.cell? ⟨g4, 0, none⟩ = some (.float .f64 g) := (HS.out.1.cell 5 (by simp)).1
  have c_g5 : W.cell? ⟨g5, 0, none⟩ = some (.float .f64 b) := (HS.out.1.cell 4 (by simp)).1
  go_wp2_with fail
  refine (Min3_as r g b mn Hmn.out _).mono ?_
  rintro e w1 ⟨rfl, hb⟩
  have hS := HS.out.1.keep hb
  have hA := HS.out.2
  clear HS hb c_g3 c_g4 c_g5
  replace hA := hA.alloc hS mn
  replace hS := hS.alloc mn 41
  have HS := Lib.hid (And.intro hS hA)
  clear hS hA
  go_upto_region 3 with fail
  generalize World.alloc _ _ = W at *
  generalize w1.heap.size = g10 at *
  clear w1
  refine wp_region_plan 10 (by kernel_rfl) (by kernel_rfl) (PI base w [(g10, mn), (g9, mx), (g8, 0), (g7, 0), (g6, 0), (g5, b), (g4, g), (g3, r)] [some 24, some 25, some 26, some 27, some 28, some 29, some 30, some 11, some 12, some 13] [7, 8, 9] (fun i => [.float .f64 9221120237041090561, .agg #[.float .f64 9221120237041090561], .agg #[.float .f64 0], .agg #[.float .f64 mn], .agg #[.float .f64 mx], .agg #[.float .f64 sm], .agg #[.float .f64 li], .bool false, .bool false, .bool false].getD i (.bool false)) _) (PI.start HS.out.1) ?_ ?_
  · intro i o b' a' w' hi ho hb he hI
    rcases (by omega : i = 0 ∨ i = 1 ∨ i = 2 ∨ i = 3 ∨ i = 4 ∨ i = 5 ∨ i = 6 ∨ i = 7 ∨ i = 8 ∨ i = 9) with rfl | rfl | rfl | rfl | rfl | rfl | rfl | rfl | rfl | rfl
    · obtain rfl := Option.some.inj ho
      refine hI.stepCall hb rfl rfl rfl (op_call _ _ 70 Try.f70 _ _ _ rfl Try.func70 (by kernel_rfl) (by kernel_rfl)) ?_
      have hm : Array.map a'.eval #[] = #[] := by simp
      rw [hm]
      exact NaN_any _
    · obtain rfl := Option.some.inj ho
      have e0 := hI.new 0 (edge he 0 (by kernel_rfl)) rfl rfl rfl (by show 24 < 91; decide)
      refine hI.stepCall hb rfl rfl rfl (op_call _ _ 42 Try.f42 _ _ _ rfl Try.func42 (by kernel_rfl) (by kernel_rfl)) ?_
      have hm : Array.map a'.eval #[.tmp 24] = #[.float .f64 9221120237041090561] := by simp [e0]
      rw [hm]
      exact NewF64_any _ _
    · obtain rfl := Option.some.inj ho
      refine hI.stepCall hb rfl rfl rfl (op_call _ _ 42 Try.f42 _ _ _ rfl Try.func42 (by kernel_rfl) (by kernel_rfl)) ?_
      have hm : Array.map a'.eval #[.const ((Value.float FloatKind.f64 0))] = #[(Value.float FloatKind.f64 0)] := by simp [ev_const]
      rw [hm]
      exact NewF64_any _ _
    · obtain rfl := Option.some.inj ho
      exact hI.stepQuiet hb rfl rfl rfl (op_load _ _ _ g10 mn _ rfl ((hI.old rfl).trans rfl) (hI.bx.cell 0 (by simp)).1)
    · obtain rfl := Option.some.inj ho
      exact hI.stepQuiet hb rfl rfl rfl (op_load _ _ _ g9 mx _ rfl ((hI.old rfl).trans rfl) (hI.bx.cell 1 (by simp)).1)
    · obtain rfl := Option.some.inj ho
      have e0 := hI.new 3 (edge he 3 (by kernel_rfl)) rfl rfl rfl (by show 27 < 91; decide)
      have e1 := hI.new 4 (edge he 4 (by kernel_rfl)) rfl rfl rfl (by show 28 < 91; decide)
      refine hI.stepCall hb rfl rfl rfl (op_call _ _ 61 Try.f61 _ _ _ rfl Try.func61 (by kernel_rfl) (by kernel_rfl)) ?_
      have hm : Array.map a'.eval #[.tmp 27, .tmp 28] = #[.agg #[.float .f64 mn], .agg #[.float .f64 mx]] := by simp [e0, e1]
      rw [hm]
      exact Add_any mn mx sm Hsm.out _
    · obtain rfl := Option.some.inj ho
      have e0 := hI.new 5 (edge he 5 (by kernel_rfl)) rfl rfl rfl (by show 29 < 91; decide)
      refine hI.stepCall hb rfl rfl rfl (op_call _ _ 58 Try.f58 _ _ _ rfl Try.func58 (by kernel_rfl) (by kernel_rfl)) ?_
      have hm : Array.map a'.eval #[.tmp 29, .const ((Value.float FloatKind.f64 4611686018427387904))] = #[.agg #[.float .f64 sm], (Value.float FloatKind.f64 4611686018427387904)] := by simp [e0, ev_const]
      rw [hm]
      exact DivConst_any sm 4611686018427387904 li Hli.out _
    · obtain rfl := Option.some.inj ho
      exact hI.stepAlloc 41 hb rfl rfl rfl rfl (op_alloc _ _ _ rfl)
    · obtain rfl := Option.some.inj ho
      exact hI.stepAlloc 41 hb rfl rfl rfl rfl (op_alloc _ _ _ rfl)
    · obtain rfl := Option.some.inj ho
      exact hI.stepAlloc 41 hb rfl rfl rfl rfl (op_alloc _ _ _ rfl)
  · intro b' a' w1 hb hI
    obtain ⟨ρ, rfl, hS, hC, hN⟩ := hI
    have hA := HS.out.2
    clear HS
    have p0 := hb 0 (by decide)
    have p1 := hb 1 (by decide)
    have p2 := hb 2 (by decide)
    have p3 := hb 3 (by decide)
    have p4 := hb 4 (by decide)
    have p5 := hb 5 (by decide)
    have p6 := hb 6 (by decide)
    have p7 := hb 7 (by decide)
    have p8 := hb 8 (by decide)
    have p9 := hb 9 (by decide)
    obtain ⟨c7, f7, l7, n7⟩ := hC 7 (by simp) p7
    obtain ⟨c8, f8, l8, n8⟩ := hC 8 (by simp) p8
    obtain ⟨c9, f9, l9, n9⟩ := hC 9 (by simp) p9
    have d7_8 := hN 7 (by simp) 8 (by simp) p7 p8 (by decide)
    have d7_9 := hN 7 (by simp) 9 (by simp) p7 p9 (by decide)
    have d8_9 := hN 8 (by simp) 9 (by simp) p8 p9 (by decide)
    have v0 : vals [7, 8, 9] (fun i => [.float .f64 9221120237041090561, .agg #[.float .f64 9221120237041090561], .agg #[.float .f64 0], .agg #[.float .f64 mn], .agg #[.float .f64 mx], .agg #[.float .f64 sm], .agg #[.float .f64 li], .bool false, .bool false, .bool false].getD i (.bool false)) ρ 0 = .float .f64 9221120237041090561 := rfl
    have v1 : vals [7, 8, 9] (fun i => [.float .f64 9221120237041090561, .agg #[.float .f64 9221120237041090561], .agg #[.float .f64 0], .agg #[.float .f64 mn], .agg #[.float .f64 mx], .agg #[.float .f64 sm], .agg #[.float .f64 li], .bool false, .bool false, .bool false].getD i (.bool false)) ρ 1 = .agg #[.float .f64 9221120237041090561] := rfl
    have v2 : vals [7, 8, 9] (fun i => [.float .f64 9221120237041090561, .agg #[.float .f64 9221120237041090561], .agg #[.float .f64 0], .agg #[.float .f64 mn], .agg #[.float .f64 mx], .agg #[.float .f64 sm], .agg #[.float .f64 li], .bool false, .bool false, .bool false].getD i (.bool false)) ρ 2 = .agg #[.float .f64 0] := rfl
    have v3 : vals [7, 8, 9] (fun i => [.float .f64 9221120237041090561, .agg #[.float .f64 9221120237041090561], .agg #[.float .f64 0], .agg #[.float .f64 mn], .agg #[.float .f64 mx], .agg #[.float .f64 sm], .agg #[.float .f64 li], .bool false, .bool false, .bool false].getD i (.bool false)) ρ 3 = .agg #[.float .f64 mn] := rfl
    have v4 : vals [7, 8, 9] (fun i => [.float .f64 9221120237041090561, .agg #[.float .f64 9221120237041090561], .agg #[.float .f64 0], .agg #[.float .f64 mn], .agg #[.float .f64 mx], .agg #[.float .f64 sm], .agg #[.float .f64 li], .bool false, .bool false, .bool false].getD i (.bool false)) ρ 4 = .agg #[.float .f64 mx] := rfl
    have v5 : vals [7, 8, 9] (fun i => [.float .f64 9221120237041090561, .agg #[.float .f64 9221120237041090561], .agg #[.float .f64 0], .agg #[.float .f64 mn], .agg #[.float .f64 mx], .agg #[.float .f64 sm], .agg #[.float .f64 li], .bool false, .bool false, .bool false].getD i (.bool false)) ρ 5 = .agg #[.float .f64 sm] := rfl
    have v6 : vals [7, 8, 9] (fun i => [.float .f64 9221120237041090561, .agg #[.float .f64 9221120237041090561], .agg #[.float .f64 0], .agg #[.float .f64 mn], .agg #[.float .f64 mx], .agg #[.float .f64 sm], .agg #[.float .f64 li], .bool false, .bool false, .bool false].getD i (.bool false)) ρ 6 = .agg #[.float .f64 li] := rfl
    have v7 : vals [7, 8, 9] (fun i => [.float .f64 9221120237041090561, .agg #[.float .f64 9221120237041090561], .agg #[.float .f64 0], .agg #[.float .f64 mn], .agg #[.float .f64 mx], .agg #[.float .f64 sm], .agg #[.float .f64 li], .bool false, .bool false, .bool false].getD i (.bool false)) ρ 7 = .pointer (some ⟨(ρ 7), 0, none⟩) := rfl
    have v8 : vals [7, 8, 9] (fun i => [.float .f64 9221120237041090561, .agg #[.float .f64 9221120237041090561], .agg #[.float .f64 0], .agg #[.float .f64 mn], .agg #[.float .f64 mx], .agg #[.float .f64 sm], .agg #[.float .f64 li], .bool false, .bool false, .bool false].getD i (.bool false)) ρ 8 = .pointer (some ⟨(ρ 8), 0, none⟩) := rfl
    have v9 : vals [7, 8, 9] (fun i => [.float .f64 9221120237041090561, .agg #[.float .f64 9221120237041090561], .agg #[.float .f64 0], .agg #[.float .f64 mn], .agg #[.float .f64 mx], .agg #[.float .f64 sm], .agg #[.float .f64 li], .bool false, .bool false, .bool false].getD i (.bool false)) ρ 9 = .pointer (some ⟨(ρ 9), 0, none⟩) := rfl
    simp only [puts, Nat.zero_add, p0, p1, p2, p3, p4, p5, p6, p7, p8, p9, v0, v1, v2, v3, v4, v5, v6, v7, v8, v9, if_true, List.drop_succ_cons, List.drop_zero, Nat.reduceAdd]
    clear hb hC hN p0 p1 p2 p3 p4 p5 p6 p7 p8 p9 v0 v1 v2 v3 v4 v5 v6 v7 v8 v9
    generalize ρ 7 = g11 at *
    replace hA : Apart base ((g11, 0) :: [(g10, mn), (g9, mx), (g8, 0), (g7, 0), (g6, 0), (g5, b), (g4, g), (g3, r)]) := ⟨l7, n7, hA⟩
    replace hS : Bx base w ((g11, 0) :: [(g10, mn), (g9, mx), (g8, 0), (g7, 0), (g6, 0), (g5, b), (g4, g), (g3, r)]) w1 := ⟨c7, f7, hS⟩
    generalize ρ 8 = g12 at *
    replace hA : Apart base ((g12, 0) :: [(g11, 0), (g10, mn), (g9, mx), (g8, 0), (g7, 0), (g6, 0), (g5, b), (g4, g), (g3, r)]) := ⟨l8, (off_cons d7_8 n8), hA⟩
    replace hS : Bx base w ((g12, 0) :: [(g11, 0), (g10, mn), (g9, mx), (g8, 0), (g7, 0), (g6, 0), (g5, b), (g4, g), (g3, r)]) w1 := ⟨c8, f8, hS⟩
    generalize ρ 9 = g13 at *
    replace hA : Apart base ((g13, 0) :: [(g12, 0), (g11, 0), (g10, mn), (g9, mx), (g8, 0), (g7, 0), (g6, 0), (g5, b), (g4, g), (g3, r)]) := ⟨l9, (off_cons d8_9 (off_cons d7_9 n9)), hA⟩
    replace hS : Bx base w ((g13, 0) :: [(g12, 0), (g11, 0), (g10, mn), (g9, mx), (g8, 0), (g7, 0), (g6, 0), (g5, b), (g4, g), (g3, r)]) w1 := ⟨c9, f9, hS⟩
    clear c7 f7 l7 n7 c8 f8 l8 n8 c9 f9 l9 n9 d7_8 d7_9 d8_9
    clear ρ b'
    have s0 : (w1).cell? ⟨g11, 0, none⟩ = some (.float .f64 0) := (hS.cell 2 (by simp)).1
    have t0 : (w1).frozen? ⟨g11, 0, none⟩ = false := (hS.cell 2 (by simp)).2
    replace hS : Bx base w [(g13, 0), (g12, 0), (g11, 9221120237041090561), (g10, mn), (g9, mx), (g8, 0), (g7, 0), (g6, 0), (g5, b), (g4, g), (g3, r)] ((w1).setCell ⟨g11, 0, none⟩ (.float .f64 9221120237041090561)) := hS.set 9221120237041090561 hA 2 (by simp)
    replace hA : Apart base [(g13, 0), (g12, 0), (g11, 9221120237041090561), (g10, mn), (g9, mx), (g8, 0), (g7, 0), (g6, 0), (g5, b), (g4, g), (g3, r)] := Apart.of_fst (by rfl) hA
    have s1 : ((w1).setCell ⟨g11, 0, none⟩ (.float .f64 9221120237041090561)).cell? ⟨g12, 0, none⟩ = some (.float .f64 0) := (hS.cell 1 (by simp)).1
    have t1 : ((w1).setCell ⟨g11, 0, none⟩ (.float .f64 9221120237041090561)).frozen? ⟨g12, 0, none⟩ = false := (hS.cell 1 (by simp)).2
    replace hS : Bx base w [(g13, 0), (g12, 0), (g11, 9221120237041090561), (g10, mn), (g9, mx), (g8, 0), (g7, 0), (g6, 0), (g5, b), (g4, g), (g3, r)] (((w1).setCell ⟨g11, 0, none⟩ (.float .f64 9221120237041090561)).setCell ⟨g12, 0, none⟩ (.float .f64 0)) := hS.set 0 hA 1 (by simp)
    replace hA : Apart base [(g13, 0), (g12, 0), (g11, 9221120237041090561), (g10, mn), (g9, mx), (g8, 0), (g7, 0), (g6, 0), (g5, b), (g4, g), (g3, r)] := Apart.of_fst (by rfl) hA
    have s2 : (((w1).setCell ⟨g11, 0, none⟩ (.float .f64 9221120237041090561)).setCell ⟨g12, 0, none⟩ (.float .f64 0)).cell? ⟨g13, 0, none⟩ = some (.float .f64 0) := (hS.cell 0 (by simp)).1
    have t2 : (((w1).setCell ⟨g11, 0, none⟩ (.float .f64 9221120237041090561)).setCell ⟨g12, 0, none⟩ (.float .f64 0)).frozen? ⟨g13, 0, none⟩ = false := (hS.cell 0 (by simp)).2
    replace hS : Bx base w [(g13, li), (g12, 0), (g11, 9221120237041090561), (g10, mn), (g9, mx), (g8, 0), (g7, 0), (g6, 0), (g5, b), (g4, g), (g3, r)] ((((w1).setCell ⟨g11, 0, none⟩ (.float .f64 9221120237041090561)).setCell ⟨g12, 0, none⟩ (.float .f64 0)).setCell ⟨g13, 0, none⟩ (.float .f64 li)) := hS.set li hA 0 (by simp)
    replace hA : Apart base [(g13, li), (g12, 0), (g11, 9221120237041090561), (g10, mn), (g9, mx), (g8, 0), (g7, 0), (g6, 0), (g5, b), (g4, g), (g3, r)] := Apart.of_fst (by rfl) hA
    have HS := Lib.hid (And.intro hS hA)
    clear hS hA
    go_upto_region 4 with fail
    clear s0 t0 s1 t1 s2 t2
    generalize World.setCell _ _ _ = W at *
    clear w1
    have c_g9 : W.cell? ⟨g9, 0, none⟩ = some (.float .f64 mx) := (HS.out.1.cell 4 (by simp)).1
    have c_g10 : W.cell? ⟨g10, 0, none⟩ = some (.float .f64 mn) := (HS.out.1.cell 3 (by simp)).1
    go_wp2_with fail
    refine (Sub_any mx mn d Hd.out _).mono ?_
    rintro e w1 ⟨rfl, hb⟩
    have hS := HS.out.1.keep hb
    have hA := HS.out.2
    clear HS hb c_g9 c_g10
    replace hA := hA.alloc hS d
    replace hS := hS.alloc d 41
    have HS := Lib.hid (And.intro hS hA)
    clear hS hA
    go_upto_region 5 with fail
    generalize World.alloc _ _ = W at *
    generalize w1.heap.size = g14 at *
    clear w1
    have q5 : (FloatKind.f64.format.order d 0 != some .eq) = true := neq_ok Hq5.out
    have c_g14 : W.cell? ⟨g14, 0, none⟩ = some (.float .f64 d) := (HS.out.1.cell 0 (by simp)).1
    go_wp2_with fail
    refine (Value_any d _).mono ?_
    rintro e w1 ⟨rfl, hb⟩
    have hS := HS.out.1.keep hb
    have hA := HS.out.2
    clear HS hb c_g14
    have HS := Lib.hid (And.intro hS hA)
    clear hS hA
    go_upto_region 6 with fail
    generalize w1 = W at *
    clear q5
    refine wp_region_plan 6 (by kernel_rfl) (by kernel_rfl) (PI base w [(g14, d), (g13, li), (g12, 0), (g11, 9221120237041090561), (g10, mn), (g9, mx), (g8, 0), (g7, 0), (g6, 0), (g5, b), (g4, g), (g3, r)] [some 37, some 38, some 39, some 40, some 41, some 15] [5] (fun i => [.agg #[.float .f64 li], .agg #[.float .f64 li], .agg #[.float .f64 nl], .agg #[.float .f64 om], .agg #[.float .f64 dv], .bool false].getD i (.bool false)) _) (PI.start HS.out.1) ?_ ?_
    · intro i o b' a' w' hi ho hb he hI
      rcases (by omega : i = 0 ∨ i = 1 ∨ i = 2 ∨ i = 3 ∨ i = 4 ∨ i = 5) with rfl | rfl | rfl | rfl | rfl | rfl
      · obtain rfl := Option.some.inj ho
        exact hI.stepQuiet hb rfl rfl rfl (op_load _ _ _ g13 li _ rfl ((hI.old rfl).trans rfl) (hI.bx.cell 1 (by simp)).1)
      · obtain rfl := Option.some.inj ho
        exact hI.stepQuiet hb rfl rfl rfl (op_load _ _ _ g13 li _ rfl ((hI.old rfl).trans rfl) (hI.bx.cell 1 (by simp)).1)
      · obtain rfl := Option.some.inj ho
        have e0 := hI.new 1 (edge he 1 (by kernel_rfl)) rfl rfl rfl (by show 38 < 91; decide)
        refine hI.stepCall hb rfl rfl rfl (op_call _ _ 72 Try.f72 _ _ _ rfl Try.func72 (by kernel_rfl) (by kernel_rfl)) ?_
        have hm : Array.map a'.eval #[.tmp 38] = #[.agg #[.float .f64 li]] := by simp [e0]
        rw [hm]
        exact Neg_as li nl Hnl.out _
      · obtain rfl := Option.some.inj ho
        have e0 := hI.new 2 (edge he 2 (by kernel_rfl)) rfl rfl rfl (by show 39 < 91; decide)
        refine hI.stepCall hb rfl rfl rfl (op_call _ _ 59 Try.f59 _ _ _ rfl Try.func59 (by kernel_rfl) (by kernel_rfl)) ?_
        have hm : Array.map a'.eval #[.tmp 39, .const ((Value.float FloatKind.f64 4607182418800017408))] = #[.agg #[.float .f64 nl], (Value.float FloatKind.f64 4607182418800017408)] := by simp [e0, ev_const]
        rw [hm]
        exact AddConst_any nl 4607182418800017408 om Hom.out _
      · obtain rfl := Option.some.inj ho
        have e0 := hI.new 0 (edge he 0 (by kernel_rfl)) rfl rfl rfl (by show 37 < 91; decide)
        have e1 := hI.new 3 (edge he 3 (by kernel_rfl)) rfl rfl rfl (by show 40 < 91; decide)
        refine hI.stepCall hb rfl rfl rfl (op_call _ _ 71 Try.f71 _ _ _ rfl Try.func71 (by kernel_rfl) (by kernel_rfl)) ?_
        have hm : Array.map a'.eval #[.tmp 37, .tmp 40] = #[.agg #[.float .f64 li], .agg #[.float .f64 om]] := by simp [e0, e1]
        rw [hm]
        exact Min2_as li om dv Hdv.out _
      · obtain rfl := Option.some.inj ho
        exact hI.stepAlloc 41 hb rfl rfl rfl rfl (op_alloc _ _ _ rfl)
    · intro b' a' w1 hb hI
      obtain ⟨ρ, rfl, hS, hC, hN⟩ := hI
      have hA := HS.out.2
      clear HS
      have p0 := hb 0 (by decide)
      have p1 := hb 1 (by decide)
      have p2 := hb 2 (by decide)
      have p3 := hb 3 (by decide)
      have p4 := hb 4 (by decide)
      have p5 := hb 5 (by decide)
      obtain ⟨c5, f5, l5, n5⟩ := hC 5 (by simp) p5
      have v0 : vals [5] (fun i => [.agg #[.float .f64 li], .agg #[.float .f64 li], .agg #[.float .f64 nl], .agg #[.float .f64 om], .agg #[.float .f64 dv], .bool false].getD i (.bool false)) ρ 0 = .agg #[.float .f64 li] := rfl
      have v1 : vals [5] (fun i => [.agg #[.float .f64 li], .agg #[.float .f64 li], .agg #[.float .f64 nl], .agg #[.float .f64 om], .agg #[.float .f64 dv], .bool false].getD i (.bool false)) ρ 1 = .agg #[.float .f64 li] := rfl
      have v2 : vals [5] (fun i => [.agg #[.float .f64 li], .agg #[.float .f64 li], .agg #[.float .f64 nl], .agg #[.float .f64 om], .agg #[.float .f64 dv], .bool false].getD i (.bool false)) ρ 2 = .agg #[.float .f64 nl] := rfl
      have v3 : vals [5] (fun i => [.agg #[.float .f64 li], .agg #[.float .f64 li], .agg #[.float .f64 nl], .agg #[.float .f64 om], .agg #[.float .f64 dv], .bool false].getD i (.bool false)) ρ 3 = .agg #[.float .f64 om] := rfl
      have v4 : vals [5] (fun i => [.agg #[.float .f64 li], .agg #[.float .f64 li], .agg #[.float .f64 nl], .agg #[.float .f64 om], .agg #[.float .f64 dv], .bool false].getD i (.bool false)) ρ 4 = .agg #[.float .f64 dv] := rfl
      have v5 : vals [5] (fun i => [.agg #[.float .f64 li], .agg #[.float .f64 li], .agg #[.float .f64 nl], .agg #[.float .f64 om], .agg #[.float .f64 dv], .bool false].getD i (.bool false)) ρ 5 = .pointer (some ⟨(ρ 5), 0, none⟩) := rfl
      simp only [puts, Nat.zero_add, p0, p1, p2, p3, p4, p5, v0, v1, v2, v3, v4, v5, if_true, List.drop_succ_cons, List.drop_zero, Nat.reduceAdd]
      clear hb hC hN p0 p1 p2 p3 p4 p5 v0 v1 v2 v3 v4 v5
      generalize ρ 5 = g15 at *
      replace hA : Apart base ((g15, 0) :: [(g14, d), (g13, li), (g12, 0), (g11, 9221120237041090561), (g10, mn), (g9, mx), (g8, 0), (g7, 0), (g6, 0), (g5, b), (g4, g), (g3, r)]) := ⟨l5, n5, hA⟩
      replace hS : Bx base w ((g15, 0) :: [(g14, d), (g13, li), (g12, 0), (g11, 9221120237041090561), (g10, mn), (g9, mx), (g8, 0), (g7, 0), (g6, 0), (g5, b), (g4, g), (g3, r)]) w1 := ⟨c5, f5, hS⟩
      clear c5 f5 l5 n5 
      clear ρ b'
      have s0 : (w1).cell? ⟨g15, 0, none⟩ = some (.float .f64 0) := (hS.cell 0 (by simp)).1
      have t0 : (w1).frozen? ⟨g15, 0, none⟩ = false := (hS.cell 0 (by simp)).2
      replace hS : Bx base w [(g15, dv), (g14, d), (g13, li), (g12, 0), (g11, 9221120237041090561), (g10, mn), (g9, mx), (g8, 0), (g7, 0), (g6, 0), (g5, b), (g4, g), (g3, r)] ((w1).setCell ⟨g15, 0, none⟩ (.float .f64 dv)) := hS.set dv hA 0 (by simp)
      replace hA : Apart base [(g15, dv), (g14, d), (g13, li), (g12, 0), (g11, 9221120237041090561), (g10, mn), (g9, mx), (g8, 0), (g7, 0), (g6, 0), (g5, b), (g4, g), (g3, r)] := Apart.of_fst (by rfl) hA
      have HS := Lib.hid (And.intro hS hA)
      clear hS hA
      go_upto_region 7 with fail
      clear s0 t0
      generalize World.setCell _ _ _ = W at *
      clear w1
      have q7 : (FloatKind.f64.format.order dv 0 != some .eq) = true := neq_ok Hq7.out
      have c_g15 : W.cell? ⟨g15, 0, none⟩ = some (.float .f64 dv) := (HS.out.1.cell 0 (by simp)).1
      go_wp2_with fail
      refine (Value_any dv _).mono ?_
      rintro e w1 ⟨rfl, hb⟩
      have hS := HS.out.1.keep hb
      have hA := HS.out.2
      clear HS hb c_g15
      have HS := Lib.hid (And.intro hS hA)
      clear hS hA
      go_upto_region 8 with fail
      generalize w1 = W at *
      clear q7
      refine wp_region_plan 5 (by kernel_rfl) (by kernel_rfl) (PI base w [(g15, dv), (g14, d), (g13, li), (g12, 0), (g11, 9221120237041090561), (g10, mn), (g9, mx), (g8, 0), (g7, 0), (g6, 0), (g5, b), (g4, g), (g3, r)] [some 45, some 46, some 47, some 48, some 49] [] (fun i => [.agg #[.float .f64 mx], .agg #[.float .f64 li], .agg #[.float .f64 t], .agg #[.float .f64 dv], .agg #[.float .f64 sat]].getD i (.bool false)) _) (PI.start HS.out.1) ?_ ?_
      · intro i o b' a' w' hi ho hb he hI
        rcases (by omega : i = 0 ∨ i = 1 ∨ i = 2 ∨ i = 3 ∨ i = 4) with rfl | rfl | rfl | rfl | rfl
        · obtain rfl := Option.some.inj ho
          exact hI.stepQuiet hb rfl rfl rfl (op_load _ _ _ g9 mx _ rfl ((hI.old rfl).trans rfl) (hI.bx.cell 6 (by simp)).1)
        · obtain rfl := Option.some.inj ho
          exact hI.stepQuiet hb rfl rfl rfl (op_load _ _ _ g13 li _ rfl ((hI.old rfl).trans rfl) (hI.bx.cell 2 (by simp)).1)
        · obtain rfl := Option.some.inj ho
          have e0 := hI.new 0 (edge he 0 (by kernel_rfl)) rfl rfl rfl (by show 45 < 91; decide)
          have e1 := hI.new 1 (edge he 1 (by kernel_rfl)) rfl rfl rfl (by show 46 < 91; decide)
          refine hI.stepCall hb rfl rfl rfl (op_call _ _ 62 Try.f62 _ _ _ rfl Try.func62 (by kernel_rfl) (by kernel_rfl)) ?_
          have hm : Array.map a'.eval #[.tmp 45, .tmp 46] = #[.agg #[.float .f64 mx], .agg #[.float .f64 li]] := by simp [e0, e1]
          rw [hm]
          exact Sub_any mx li t Ht.out _
        · obtain rfl := Option.some.inj ho
          exact hI.stepQuiet hb rfl rfl rfl (op_load _ _ _ g15 dv _ rfl ((hI.old rfl).trans rfl) (hI.bx.cell 0 (by simp)).1)
        · obtain rfl := Option.some.inj ho
          have e0 := hI.new 2 (edge he 2 (by kernel_rfl)) rfl rfl rfl (by show 47 < 91; decide)
          have e1 := hI.new 3 (edge he 3 (by kernel_rfl)) rfl rfl rfl (by show 48 < 91; decide)
          refine hI.stepCall hb rfl rfl rfl (op_call _ _ 73 Try.f73 _ _ _ rfl Try.func73 (by kernel_rfl) (by kernel_rfl)) ?_
          have hm : Array.map a'.eval #[.tmp 47, .tmp 48] = #[.agg #[.float .f64 t], .agg #[.float .f64 dv]] := by simp [e0, e1]
          rw [hm]
          exact Div_any t dv sat Hsat.out _
      · intro b' a' w1 hb hI
        obtain ⟨ρ, rfl, hS, hC, hN⟩ := hI
        have hA := HS.out.2
        clear HS
        have p0 := hb 0 (by decide)
        have p1 := hb 1 (by decide)
        have p2 := hb 2 (by decide)
        have p3 := hb 3 (by decide)
        have p4 := hb 4 (by decide)
        have v0 : vals [] (fun i => [.agg #[.float .f64 mx], .agg #[.float .f64 li], .agg #[.float .f64 t], .agg #[.float .f64 dv], .agg #[.float .f64 sat]].getD i (.bool false)) ρ 0 = .agg #[.float .f64 mx] := rfl
        have v1 : vals [] (fun i => [.agg #[.float .f64 mx], .agg #[.float .f64 li], .agg #[.float .f64 t], .agg #[.float .f64 dv], .agg #[.float .f64 sat]].getD i (.bool false)) ρ 1 = .agg #[.float .f64 li] := rfl
        have v2 : vals [] (fun i => [.agg #[.float .f64 mx], .agg #[.float .f64 li], .agg #[.float .f64 t], .agg #[.float .f64 dv], .agg #[.float .f64 sat]].getD i (.bool false)) ρ 2 = .agg #[.float .f64 t] := rfl
        have v3 : vals [] (fun i => [.agg #[.float .f64 mx], .agg #[.float .f64 li], .agg #[.float .f64 t], .agg #[.float .f64 dv], .agg #[.float .f64 sat]].getD i (.bool false)) ρ 3 = .agg #[.float .f64 dv] := rfl
        have v4 : vals [] (fun i => [.agg #[.float .f64 mx], .agg #[.float .f64 li], .agg #[.float .f64 t], .agg #[.float .f64 dv], .agg #[.float .f64 sat]].getD i (.bool false)) ρ 4 = .agg #[.float .f64 sat] := rfl
        simp only [puts, Nat.zero_add, p0, p1, p2, p3, p4, v0, v1, v2, v3, v4, if_true, List.drop_succ_cons, List.drop_zero, Nat.reduceAdd]
        clear hb hC hN p0 p1 p2 p3 p4 v0 v1 v2 v3 v4
        clear ρ b'
        have s0 : (w1).cell? ⟨g12, 0, none⟩ = some (.float .f64 0) := (hS.cell 3 (by simp)).1
        have t0 : (w1).frozen? ⟨g12, 0, none⟩ = false := (hS.cell 3 (by simp)).2
        replace hS : Bx base w [(g15, dv), (g14, d), (g13, li), (g12, sat), (g11, 9221120237041090561), (g10, mn), (g9, mx), (g8, 0), (g7, 0), (g6, 0), (g5, b), (g4, g), (g3, r)] ((w1).setCell ⟨g12, 0, none⟩ (.float .f64 sat)) := hS.set sat hA 3 (by simp)
        replace hA : Apart base [(g15, dv), (g14, d), (g13, li), (g12, sat), (g11, 9221120237041090561), (g10, mn), (g9, mx), (g8, 0), (g7, 0), (g6, 0), (g5, b), (g4, g), (g3, r)] := Apart.of_fst (by rfl) hA
        have HS := Lib.hid (And.intro hS hA)
        clear hS hA
        go_upto_region 9 with fail
        clear s0 t0
        generalize World.setCell _ _ _ = W at *
        clear w1
        have c_g9 : W.cell? ⟨g9, 0, none⟩ = some (.float .f64 mx) := (HS.out.1.cell 6 (by simp)).1
        go_upto_region 10 with fail
        clear c_g9
        have q10 := fun w => run_eql_f64 mx r true w Hq10.out
        have c_g3 : W.cell? ⟨g3, 0, none⟩ = some (.float .f64 r) := (HS.out.1.cell 12 (by simp)).1
        go_upto_region 11 with fail
        clear c_g3
        clear q10
        refine wp_region_plan 5 (by kernel_rfl) (by kernel_rfl) (PI base w [(g15, dv), (g14, d), (g13, li), (g12, sat), (g11, 9221120237041090561), (g10, mn), (g9, mx), (g8, 0), (g7, 0), (g6, 0), (g5, b), (g4, g), (g3, r)] [some 54, some 55, some 56, some 57, some 58] [] (fun i => [.agg #[.float .f64 g], .agg #[.float .f64 b], .agg #[.float .f64 p], .agg #[.float .f64 d], .agg #[.float .f64 q]].getD i (.bool false)) _) (PI.start HS.out.1) ?_ ?_
        · intro i o b' a' w' hi ho hb he hI
          rcases (by omega : i = 0 ∨ i = 1 ∨ i = 2 ∨ i = 3 ∨ i = 4) with rfl | rfl | rfl | rfl | rfl
          · obtain rfl := Option.some.inj ho
            exact hI.stepQuiet hb rfl rfl rfl (op_load _ _ _ g4 g _ rfl ((hI.old rfl).trans rfl) (hI.bx.cell 11 (by simp)).1)
          · obtain rfl := Option.some.inj ho
            exact hI.stepQuiet hb rfl rfl rfl (op_load _ _ _ g5 b _ rfl ((hI.old rfl).trans rfl) (hI.bx.cell 10 (by simp)).1)
          · obtain rfl := Option.some.inj ho
            have e0 := hI.new 0 (edge he 0 (by kernel_rfl)) rfl rfl rfl (by show 54 < 91; decide)
            have e1 := hI.new 1 (edge he 1 (by kernel_rfl)) rfl rfl rfl (by show 55 < 91; decide)
            refine hI.stepCall hb rfl rfl rfl (op_call _ _ 62 Try.f62 _ _ _ rfl Try.func62 (by kernel_rfl) (by kernel_rfl)) ?_
            have hm : Array.map a'.eval #[.tmp 54, .tmp 55] = #[.agg #[.float .f64 g], .agg #[.float .f64 b]] := by simp [e0, e1]
            rw [hm]
            exact Sub_any g b p Hp.out _
          · obtain rfl := Option.some.inj ho
            exact hI.stepQuiet hb rfl rfl rfl (op_load _ _ _ g14 d _ rfl ((hI.old rfl).trans rfl) (hI.bx.cell 1 (by simp)).1)
          · obtain rfl := Option.some.inj ho
            have e0 := hI.new 2 (edge he 2 (by kernel_rfl)) rfl rfl rfl (by show 56 < 91; decide)
            have e1 := hI.new 3 (edge he 3 (by kernel_rfl)) rfl rfl rfl (by show 57 < 91; decide)
            refine hI.stepCall hb rfl rfl rfl (op_call _ _ 73 Try.f73 _ _ _ rfl Try.func73 (by kernel_rfl) (by kernel_rfl)) ?_
            have hm : Array.map a'.eval #[.tmp 56, .tmp 57] = #[.agg #[.float .f64 p], .agg #[.float .f64 d]] := by simp [e0, e1]
            rw [hm]
            exact Div_any p d q Hq.out _
        · intro b' a' w1 hb hI
          obtain ⟨ρ, rfl, hS, hC, hN⟩ := hI
          have hA := HS.out.2
          clear HS
          have p0 := hb 0 (by decide)
          have p1 := hb 1 (by decide)
          have p2 := hb 2 (by decide)
          have p3 := hb 3 (by decide)
          have p4 := hb 4 (by decide)
          have v0 : vals [] (fun i => [.agg #[.float .f64 g], .agg #[.float .f64 b], .agg #[.float .f64 p], .agg #[.float .f64 d], .agg #[.float .f64 q]].getD i (.bool false)) ρ 0 = .agg #[.float .f64 g] := rfl
          have v1 : vals [] (fun i => [.agg #[.float .f64 g], .agg #[.float .f64 b], .agg #[.float .f64 p], .agg #[.float .f64 d], .agg #[.float .f64 q]].getD i (.bool false)) ρ 1 = .agg #[.float .f64 b] := rfl
          have v2 : vals [] (fun i => [.agg #[.float .f64 g], .agg #[.float .f64 b], .agg #[.float .f64 p], .agg #[.float .f64 d], .agg #[.float .f64 q]].getD i (.bool false)) ρ 2 = .agg #[.float .f64 p] := rfl
          have v3 : vals [] (fun i => [.agg #[.float .f64 g], .agg #[.float .f64 b], .agg #[.float .f64 p], .agg #[.float .f64 d], .agg #[.float .f64 q]].getD i (.bool false)) ρ 3 = .agg #[.float .f64 d] := rfl
          have v4 : vals [] (fun i => [.agg #[.float .f64 g], .agg #[.float .f64 b], .agg #[.float .f64 p], .agg #[.float .f64 d], .agg #[.float .f64 q]].getD i (.bool false)) ρ 4 = .agg #[.float .f64 q] := rfl
          simp only [puts, Nat.zero_add, p0, p1, p2, p3, p4, v0, v1, v2, v3, v4, if_true, List.drop_succ_cons, List.drop_zero, Nat.reduceAdd]
          clear hb hC hN p0 p1 p2 p3 p4 v0 v1 v2 v3 v4
          clear ρ b'
          have s0 : (w1).cell? ⟨g11, 0, none⟩ = some (.float .f64 9221120237041090561) := (hS.cell 4 (by simp)).1
          have t0 : (w1).frozen? ⟨g11, 0, none⟩ = false := (hS.cell 4 (by simp)).2
          replace hS : Bx base w [(g15, dv), (g14, d), (g13, li), (g12, sat), (g11, q), (g10, mn), (g9, mx), (g8, 0), (g7, 0), (g6, 0), (g5, b), (g4, g), (g3, r)] ((w1).setCell ⟨g11, 0, none⟩ (.float .f64 q)) := hS.set q hA 4 (by simp)
          replace hA : Apart base [(g15, dv), (g14, d), (g13, li), (g12, sat), (g11, q), (g10, mn), (g9, mx), (g8, 0), (g7, 0), (g6, 0), (g5, b), (g4, g), (g3, r)] := Apart.of_fst (by rfl) hA
          have HS := Lib.hid (And.intro hS hA)
          clear hS hA
          go_upto_region 12 with fail
          clear s0 t0
          generalize World.setCell _ _ _ = W at *
          clear w1
          have q12 : (FloatKind.f64.format.order g b == some .lt) = true := Hq12.out
          refine wp_region_plan 4 (by kernel_rfl) (by kernel_rfl) (PI base w [(g15, dv), (g14, d), (g13, li), (g12, sat), (g11, q), (g10, mn), (g9, mx), (g8, 0), (g7, 0), (g6, 0), (g5, b), (g4, g), (g3, r)] [some 59, some 60, some 61, some 62] [] (fun i => [.agg #[.float .f64 g], .float .f64 g, .agg #[.float .f64 b], .float .f64 b].getD i (.bool false)) _) (PI.start HS.out.1) ?_ ?_
          · intro i o b' a' w' hi ho hb he hI
            rcases (by omega : i = 0 ∨ i = 1 ∨ i = 2 ∨ i = 3) with rfl | rfl | rfl | rfl
            · obtain rfl := Option.some.inj ho
              exact hI.stepQuiet hb rfl rfl rfl (op_load _ _ _ g4 g _ rfl ((hI.old rfl).trans rfl) (hI.bx.cell 11 (by simp)).1)
            · obtain rfl := Option.some.inj ho
              have e0 := hI.new 0 (edge he 0 (by kernel_rfl)) rfl rfl rfl (by show 59 < 91; decide)
              refine hI.stepCall hb rfl rfl rfl (op_call _ _ 43 Try.f43 _ _ _ rfl Try.func43 (by kernel_rfl) (by kernel_rfl)) ?_
              have hm : Array.map a'.eval #[.tmp 59] = #[.agg #[.float .f64 g]] := by simp [e0]
              rw [hm]
              exact Value_any g _
            · obtain rfl := Option.some.inj ho
              exact hI.stepQuiet hb rfl rfl rfl (op_load _ _ _ g5 b _ rfl ((hI.old rfl).trans rfl) (hI.bx.cell 10 (by simp)).1)
            · obtain rfl := Option.some.inj ho
              have e0 := hI.new 2 (edge he 2 (by kernel_rfl)) rfl rfl rfl (by show 61 < 91; decide)
              refine hI.stepCall hb rfl rfl rfl (op_call _ _ 43 Try.f43 _ _ _ rfl Try.func43 (by kernel_rfl) (by kernel_rfl)) ?_
              have hm : Array.map a'.eval #[.tmp 61] = #[.agg #[.float .f64 b]] := by simp [e0]
              rw [hm]
              exact Value_any b _
          · intro b' a' w1 hb hI
            obtain ⟨ρ, rfl, hS, hC, hN⟩ := hI
            have hA := HS.out.2
            clear HS
            have p0 := hb 0 (by decide)
            have p1 := hb 1 (by decide)
            have p2 := hb 2 (by decide)
            have p3 := hb 3 (by decide)
            have v0 : vals [] (fun i => [.agg #[.float .f64 g], .float .f64 g, .agg #[.float .f64 b], .float .f64 b].getD i (.bool false)) ρ 0 = .agg #[.float .f64 g] := rfl
            have v1 : vals [] (fun i => [.agg #[.float .f64 g], .float .f64 g, .agg #[.float .f64 b], .float .f64 b].getD i (.bool false)) ρ 1 = .float .f64 g := rfl
            have v2 : vals [] (fun i => [.agg #[.float .f64 g], .float .f64 g, .agg #[.float .f64 b], .float .f64 b].getD i (.bool false)) ρ 2 = .agg #[.float .f64 b] := rfl
            have v3 : vals [] (fun i => [.agg #[.float .f64 g], .float .f64 g, .agg #[.float .f64 b], .float .f64 b].getD i (.bool false)) ρ 3 = .float .f64 b := rfl
            simp only [puts, Nat.zero_add, p0, p1, p2, p3, v0, v1, v2, v3, if_true, List.drop_succ_cons, List.drop_zero, Nat.reduceAdd]
            clear hb hC hN p0 p1 p2 p3 v0 v1 v2 v3
            clear ρ b'
            have HS := Lib.hid (And.intro hS hA)
            clear hS hA
            go_upto_region 13 with fail
            generalize w1 = W at *
            clear q12
            have c_g11 : W.cell? ⟨g11, 0, none⟩ = some (.float .f64 q) := (HS.out.1.cell 4 (by simp)).1
            go_wp2_with fail
            refine (AddConst_any q 4618441417868443648 h0 Hh0.out _).mono ?_
            rintro e w1 ⟨rfl, hb⟩
            have hS := HS.out.1.keep hb
            have hA := HS.out.2
            clear HS hb c_g11
            have s0 : (w1).cell? ⟨g11, 0, none⟩ = some (.float .f64 q) := (hS.cell 4 (by simp)).1
            have t0 : (w1).frozen? ⟨g11, 0, none⟩ = false := (hS.cell 4 (by simp)).2
            replace hS : Bx base w [(g15, dv), (g14, d), (g13, li), (g12, sat), (g11, h0), (g10, mn), (g9, mx), (g8, 0), (g7, 0), (g6, 0), (g5, b), (g4, g), (g3, r)] ((w1).setCell ⟨g11, 0, none⟩ (.float .f64 h0)) := hS.set h0 hA 4 (by simp)
            replace hA : Apart base [(g15, dv), (g14, d), (g13, li), (g12, sat), (g11, h0), (g10, mn), (g9, mx), (g8, 0), (g7, 0), (g6, 0), (g5, b), (g4, g), (g3, r)] := Apart.of_fst (by rfl) hA
            have HS := Lib.hid (And.intro hS hA)
            clear hS hA
            go_upto_region 18 with fail
            clear s0 t0
            generalize World.setCell _ _ _ = W at *
            clear w1
            have c_g11 : W.cell? ⟨g11, 0, none⟩ = some (.float .f64 h0) := (HS.out.1.cell 4 (by simp)).1
            go_wp2_with fail
            refine (MulConst_any h0 4633641066610819072 h Hh.out _).mono ?_
            rintro e w1 ⟨rfl, hb⟩
            have hS := HS.out.1.keep hb
            have hA := HS.out.2
            clear HS hb c_g11
            have s0 : (w1).cell? ⟨g11, 0, none⟩ = some (.float .f64 h0) := (hS.cell 4 (by simp)).1
            have t0 : (w1).frozen? ⟨g11, 0, none⟩ = false := (hS.cell 4 (by simp)).2
            replace hS : Bx base w [(g15, dv), (g14, d), (g13, li), (g12, sat), (g11, h), (g10, mn), (g9, mx), (g8, 0), (g7, 0), (g6, 0), (g5, b), (g4, g), (g3, r)] ((w1).setCell ⟨g11, 0, none⟩ (.float .f64 h)) := hS.set h hA 4 (by simp)
            replace hA : Apart base [(g15, dv), (g14, d), (g13, li), (g12, sat), (g11, h), (g10, mn), (g9, mx), (g8, 0), (g7, 0), (g6, 0), (g5, b), (g4, g), (g3, r)] := Apart.of_fst (by rfl) hA
            have HS := Lib.hid (And.intro hS hA)
            clear hS hA
            go_upto_region 19 with fail
            clear s0 t0
            generalize World.setCell _ _ _ = W at *
            clear w1
            refine wp_region_plan 5 (by kernel_rfl) (by kernel_rfl) (PI base w [(g15, dv), (g14, d), (g13, li), (g12, sat), (g11, h), (g10, mn), (g9, mx), (g8, 0), (g7, 0), (g6, 0), (g5, b), (g4, g), (g3, r)] [some 86, some 87, some 88, some 89, some 90] [] (fun i => [.agg #[.float .f64 h], .agg #[.float .f64 sat], .agg #[.float .f64 sO], .agg #[.float .f64 li], .agg #[.float .f64 lO]].getD i (.bool false)) _) (PI.start HS.out.1) ?_ ?_
            · intro i o b' a' w' hi ho hb he hI
              rcases (by omega : i = 0 ∨ i = 1 ∨ i = 2 ∨ i = 3 ∨ i = 4) with rfl | rfl | rfl | rfl | rfl
              · obtain rfl := Option.some.inj ho
                exact hI.stepQuiet hb rfl rfl rfl (op_load _ _ _ g11 h _ rfl ((hI.old rfl).trans rfl) (hI.bx.cell 4 (by simp)).1)
              · obtain rfl := Option.some.inj ho
                exact hI.stepQuiet hb rfl rfl rfl (op_load _ _ _ g12 sat _ rfl ((hI.old rfl).trans rfl) (hI.bx.cell 3 (by simp)).1)
              · obtain rfl := Option.some.inj ho
                have e0 := hI.new 1 (edge he 1 (by kernel_rfl)) rfl rfl rfl (by show 87 < 91; decide)
                refine hI.stepCall hb rfl rfl rfl (op_call _ _ 63 Try.f63 _ _ _ rfl Try.func63 (by kernel_rfl) (by kernel_rfl)) ?_
                have hm : Array.map a'.eval #[.tmp 87, .const ((Value.float FloatKind.f64 4636737291354636288))] = #[.agg #[.float .f64 sat], (Value.float FloatKind.f64 4636737291354636288)] := by simp [e0, ev_const]
                rw [hm]
                exact MulConst_any sat 4636737291354636288 sO HsO.out _
              · obtain rfl := Option.some.inj ho
                exact hI.stepQuiet hb rfl rfl rfl (op_load _ _ _ g13 li _ rfl ((hI.old rfl).trans rfl) (hI.bx.cell 2 (by simp)).1)
              · obtain rfl := Option.some.inj ho
                have e0 := hI.new 3 (edge he 3 (by kernel_rfl)) rfl rfl rfl (by show 89 < 91; decide)
                refine hI.stepCall hb rfl rfl rfl (op_call _ _ 63 Try.f63 _ _ _ rfl Try.func63 (by kernel_rfl) (by kernel_rfl)) ?_
                have hm : Array.map a'.eval #[.tmp 89, .const ((Value.float FloatKind.f64 4636737291354636288))] = #[.agg #[.float .f64 li], (Value.float FloatKind.f64 4636737291354636288)] := by simp [e0, ev_const]
                rw [hm]
                exact MulConst_any li 4636737291354636288 lO HlO.out _
            · intro b' a' w1 hb hI
              obtain ⟨ρ, rfl, hS, hC, hN⟩ := hI
              have hA := HS.out.2
              clear HS
              have p0 := hb 0 (by decide)
              have p1 := hb 1 (by decide)
              have p2 := hb 2 (by decide)
              have p3 := hb 3 (by decide)
              have p4 := hb 4 (by decide)
              have v0 : vals [] (fun i => [.agg #[.float .f64 h], .agg #[.float .f64 sat], .agg #[.float .f64 sO], .agg #[.float .f64 li], .agg #[.float .f64 lO]].getD i (.bool false)) ρ 0 = .agg #[.float .f64 h] := rfl
              have v1 : vals [] (fun i => [.agg #[.float .f64 h], .agg #[.float .f64 sat], .agg #[.float .f64 sO], .agg #[.float .f64 li], .agg #[.float .f64 lO]].getD i (.bool false)) ρ 1 = .agg #[.float .f64 sat] := rfl
              have v2 : vals [] (fun i => [.agg #[.float .f64 h], .agg #[.float .f64 sat], .agg #[.float .f64 sO], .agg #[.float .f64 li], .agg #[.float .f64 lO]].getD i (.bool false)) ρ 2 = .agg #[.float .f64 sO] := rfl
              have v3 : vals [] (fun i => [.agg #[.float .f64 h], .agg #[.float .f64 sat], .agg #[.float .f64 sO], .agg #[.float .f64 li], .agg #[.float .f64 lO]].getD i (.bool false)) ρ 3 = .agg #[.float .f64 li] := rfl
              have v4 : vals [] (fun i => [.agg #[.float .f64 h], .agg #[.float .f64 sat], .agg #[.float .f64 sO], .agg #[.float .f64 li], .agg #[.float .f64 lO]].getD i (.bool false)) ρ 4 = .agg #[.float .f64 lO] := rfl
              simp only [puts, Nat.zero_add, p0, p1, p2, p3, p4, v0, v1, v2, v3, v4, if_true, List.drop_succ_cons, List.drop_zero, Nat.reduceAdd]
              clear hb hC hN p0 p1 p2 p3 p4 v0 v1 v2 v3 v4
              clear ρ b'
              have s0 : (w1).cell? ⟨g6, 0, none⟩ = some (.float .f64 0) := (hS.cell 9 (by simp)).1
              have t0 : (w1).frozen? ⟨g6, 0, none⟩ = false := (hS.cell 9 (by simp)).2
              replace hS : Bx base w [(g15, dv), (g14, d), (g13, li), (g12, sat), (g11, h), (g10, mn), (g9, mx), (g8, 0), (g7, 0), (g6, h), (g5, b), (g4, g), (g3, r)] ((w1).setCell ⟨g6, 0, none⟩ (.float .f64 h)) := hS.set h hA 9 (by simp)
              replace hA : Apart base [(g15, dv), (g14, d), (g13, li), (g12, sat), (g11, h), (g10, mn), (g9, mx), (g8, 0), (g7, 0), (g6, h), (g5, b), (g4, g), (g3, r)] := Apart.of_fst (by rfl) hA
              have s1 : ((w1).setCell ⟨g6, 0, none⟩ (.float .f64 h)).cell? ⟨g7, 0, none⟩ = some (.float .f64 0) := (hS.cell 8 (by simp)).1
              have t1 : ((w1).setCell ⟨g6, 0, none⟩ (.float .f64 h)).frozen? ⟨g7, 0, none⟩ = false := (hS.cell 8 (by simp)).2
              replace hS : Bx base w [(g15, dv), (g14, d), (g13, li), (g12, sat), (g11, h), (g10, mn), (g9, mx), (g8, 0), (g7, sO), (g6, h), (g5, b), (g4, g), (g3, r)] (((w1).setCell ⟨g6, 0, none⟩ (.float .f64 h)).setCell ⟨g7, 0, none⟩ (.float .f64 sO)) := hS.set sO hA 8 (by simp)
              replace hA : Apart base [(g15, dv), (g14, d), (g13, li), (g12, sat), (g11, h), (g10, mn), (g9, mx), (g8, 0), (g7, sO), (g6, h), (g5, b), (g4, g), (g3, r)] := Apart.of_fst (by rfl) hA
              have s2 : (((w1).setCell ⟨g6, 0, none⟩ (.float .f64 h)).setCell ⟨g7, 0, none⟩ (.float .f64 sO)).cell? ⟨g8, 0, none⟩ = some (.float .f64 0) := (hS.cell 7 (by simp)).1
              have t2 : (((w1).setCell ⟨g6, 0, none⟩ (.float .f64 h)).setCell ⟨g7, 0, none⟩ (.float .f64 sO)).frozen? ⟨g8, 0, none⟩ = false := (hS.cell 7 (by simp)).2
              replace hS : Bx base w [(g15, dv), (g14, d), (g13, li), (g12, sat), (g11, h), (g10, mn), (g9, mx), (g8, lO), (g7, sO), (g6, h), (g5, b), (g4, g), (g3, r)] ((((w1).setCell ⟨g6, 0, none⟩ (.float .f64 h)).setCell ⟨g7, 0, none⟩ (.float .f64 sO)).setCell ⟨g8, 0, none⟩ (.float .f64 lO)) := hS.set lO hA 7 (by simp)
              replace hA : Apart base [(g15, dv), (g14, d), (g13, li), (g12, sat), (g11, h), (g10, mn), (g9, mx), (g8, lO), (g7, sO), (g6, h), (g5, b), (g4, g), (g3, r)] := Apart.of_fst (by rfl) hA
              have HS := Lib.hid (And.intro hS hA)
              clear hS hA
              go_wp2_with fail
              clear s0 t0 s1 t1 s2 t2
              generalize World.setCell _ _ _ = W at *
              clear w1
              have c_g6 : W.cell? ⟨g6, 0, none⟩ = some (.float .f64 h) := (HS.out.1.cell 9 (by simp)).1
              have c_g7 : W.cell? ⟨g7, 0, none⟩ = some (.float .f64 sO) := (HS.out.1.cell 8 (by simp)).1
              have c_g8 : W.cell? ⟨g8, 0, none⟩ = some (.float .f64 lO) := (HS.out.1.cell 7 (by simp)).1
              refine bodyPost_ret (v := .tuple #[.agg #[.float .f64 h], .agg #[.float .f64 sO], .agg #[.float .f64 lO]]) (by simp [results, Try.results50, go_sem, c_g6, c_g7, c_g8]) rfl ⟨rfl, HS.out.1.below.2⟩
set_option maxRecDepth 100000 in
set_option maxHeartbeats 4000000 in
theorem hsl_green1 (r g b mx mn sm li d lO sO base : Nat) (w : World) (H : Hid (base = w.heap.size)) (Hmx : Hid (maxW (maxW r g) b = mx)) (Hmn : Hid (minW (minW r g) b = mn)) (Hsm : Hid (Ieee.double.add mn mx = some sm)) (Hli : Hid (Ieee.double.div sm 4611686018427387904 = some li)) (Hd : Hid (Ieee.double.sub mx mn = some d)) (HlO : Hid (Ieee.double.mul li 4636737291354636288 = some lO)) (nl om dv p q h0 h t sat : Nat) (Hq5 : Hid (eqB d 0 = false)) (Hnl : Hid (flip li = nl)) (Hom : Hid (Ieee.double.add nl 4607182418800017408 = some om)) (Hdv : Hid (minW li om = dv)) (Hq7 : Hid (eqB dv 0 = false)) (Ht : Hid (Ieee.double.sub mx li = some t)) (Hsat : Hid (Ieee.double.div t dv = some sat)) (HsO : Hid (Ieee.double.mul sat 4636737291354636288 = some sO)) (Hq10 : Hid (eqB mx r = false)) (Hq14 : Hid (eqB mx g = true)) (Hp : Hid (Ieee.double.sub b r = some p)) (Hq : Hid (Ieee.double.div p d = some q)) (Hh0 : Hid (Ieee.double.add q 4611686018427387904 = some h0)) (Hh : Hid (Ieee.double.mul h0 4633641066610819072 = some h)) :
    Calls Try.prog 50 #[.agg #[.float .f64 r], .agg #[.float .f64 g], .agg #[.float .f64 b]] w fun e w' => e = .returned (.tuple #[.agg #[.float .f64 h], .agg #[.float .f64 sO], .agg #[.float .f64 lO]]) ∧ Below base w w' := by
  go_enter Try.func50, Try.ntmps50
  go_upto_region 1 with fail
  generalize hW : World.alloc _ _ = W at *
  have hS : Bx base w [(w.heap.size + 1 + 1 + 1 + 1 + 1, 0), (w.heap.size + 1 + 1 + 1 + 1, 0), (w.heap.size + 1 + 1 + 1, 0), (w.heap.size + 1 + 1, b), (w.heap.size + 1, g), (w.heap.size, r)] W := by
    subst hW
    have := (((((((Bx.start w).alloc r 41).alloc g 41).alloc b 41).alloc 0 41).alloc 0 41).alloc 0 41)
    rw [H.out]
    simpa using this
  have hA : Apart base [(w.heap.size + 1 + 1 + 1 + 1 + 1, 0), (w.heap.size + 1 + 1 + 1 + 1, 0), (w.heap.size + 1 + 1 + 1, 0), (w.heap.size + 1 + 1, b), (w.heap.size + 1, g), (w.heap.size, r)] := by
    rw [H.out]
    simp [Apart]; try omega
  have HS := Lib.hid (And.intro hS hA)
  clear hS hA hW H
  generalize w.heap.size + 1 + 1 + 1 + 1 + 1 = g8 at *
  generalize w.heap.size + 1 + 1 + 1 + 1 = g7 at *
  generalize w.heap.size + 1 + 1 + 1 = g6 at *
  generalize w.heap.size + 1 + 1 = g5 at *
  generalize w.heap.size + 1 = g4 at *
  generalize hgg : w.heap.size = g3 at *
  clear hgg
  have c_g3 : W.cell? ⟨g3, 0, none⟩ = some (.float .f64 r) := (HS.out.1.cell 5 (by simp)).1
  have c_g4 : W.cell? ⟨g4, 0, none⟩ = some (.float .f64 g) := (HS.out.1.cell 4 (by simp)).1
  have c_g5 : W.cell? ⟨g5, 0, none⟩ = some (.float .f64 b) := (HS.out.1.cell 3 (by simp)).1
  go_wp2_with fail
  refine (Max3_as r g b mx Hmx.out _).mono ?_
  rintro e w1 ⟨rfl, hb⟩
  have hS := HS.out.1.keep hb
  have hA := HS.out.2
  clear HS hb c_g3 c_g4 c_g5
  replace hA := hA.alloc hS mx
  replace hS := hS.alloc mx 41
  have HS := Lib.hid (And.intro hS hA)
  clear hS hA
  go_upto_region 2 with fail
  generalize World.alloc _ _ = W at *
  generalize w1.heap.size = g9 at *
  clear w1
  have c_g3 : W.cell? ⟨g3, 0, none⟩ = some (.float .f64 r) := (HS.out.1.cell 6 (by simp)).1
  have c_g4 : W.cell? ⟨g4, 0, none⟩ = some (.float .f64 g) := (HS.out.1.cell 5 (by simp)).1
  have c_g5 : W.cell? ⟨g5, 0, none⟩ = some (.float .f64 b) := (HS.out.1.cell 4 (by simp)).1
  go_wp2_with fail
  refine (Min3_as r g b mn Hmn.out _).mono ?_
  rintro e w1 ⟨rfl, hb⟩
  have hS := HS.out.1.keep hb
  have hA := HS.out.2
  clear HS hb c_g3 c_g4 c_g5
  replace hA := hA.alloc hS mn
  replace hS := hS.alloc mn 41
  have HS := Lib.hid (And.intro hS hA)
  clear hS hA
  go_upto_region 3 with fail
  generalize World.alloc _ _ = W at *
  generalize w1.heap.size = g10 at *
  clear w1
  refine wp_region_plan 10 (by kernel_rfl) (by kernel_rfl) (PI base w [(g10, mn), (g9, mx), (g8, 0), (g7, 0), (g6, 0), (g5, b), (g4, g), (g3, r)] [some 24, some 25, some 26, some 27, some 28, some 29, some 30, some 11, some 12, some 13] [7, 8, 9] (fun i => [.float .f64 9221120237041090561, .agg #[.float .f64 9221120237041090561], .agg #[.float .f64 0], .agg #[.float .f64 mn], .agg #[.float .f64 mx], .agg #[.float .f64 sm], .agg #[.float .f64 li], .bool false, .bool false, .bool false].getD i (.bool false)) _) (PI.start HS.out.1) ?_ ?_
  · intro i o b' a' w' hi ho hb he hI
    rcases (by omega : i = 0 ∨ i = 1 ∨ i = 2 ∨ i = 3 ∨ i = 4 ∨ i = 5 ∨ i = 6 ∨ i = 7 ∨ i = 8 ∨ i = 9) with rfl | rfl | rfl | rfl | rfl | rfl | rfl | rfl | rfl | rfl
    · obtain rfl := Option.some.inj ho
      refine hI.stepCall hb rfl rfl rfl (op_call _ _ 70 Try.f70 _ _ _ rfl Try.func70 (by kernel_rfl) (by kernel_rfl)) ?_
      have hm : Array.map a'.eval #[] = #[] := by simp
      rw [hm]
      exact NaN_any _
    · obtain rfl := Option.some.inj ho
      have e0 := hI.new 0 (edge he 0 (by kernel_rfl)) rfl rfl rfl (by show 24 < 91; decide)
      refine hI.stepCall hb rfl rfl rfl (op_call _ _ 42 Try.f42 _ _ _ rfl Try.func42 (by kernel_rfl) (by kernel_rfl)) ?_
      have hm : Array.map a'.eval #[.tmp 24] = #[.float .f64 9221120237041090561] := by simp [e0]
      rw [hm]
      exact NewF64_any _ _
    · obtain rfl := Option.some.inj ho
      refine hI.stepCall hb rfl rfl rfl (op_call _ _ 42 Try.f42 _ _ _ rfl Try.func42 (by kernel_rfl) (by kernel_rfl)) ?_
      have hm : Array.map a'.eval #[.const ((Value.float FloatKind.f64 0))] = #[(Value.float FloatKind.f64 0)] := by simp [ev_const]
      rw [hm]
      exact NewF64_any _ _
    · obtain rfl := Option.some.inj ho
      exact hI.stepQuiet hb rfl rfl rfl (op_load _ _ _ g10 mn _ rfl ((hI.old rfl).trans rfl) (hI.bx.cell 0 (by simp)).1)
    · obtain rfl := Option.some.inj ho
      exact hI.stepQuiet hb rfl rfl rfl (op_load _ _ _ g9 mx _ rfl ((hI.old rfl).trans rfl) (hI.bx.cell 1 (by simp)).1)
    · obtain rfl := Option.some.inj ho
      have e0 := hI.new 3 (edge he 3 (by kernel_rfl)) rfl rfl rfl (by show 27 < 91; decide)
      have e1 := hI.new 4 (edge he 4 (by kernel_rfl)) rfl rfl rfl (by show 28 < 91; decide)
      refine hI.stepCall hb rfl rfl rfl (op_call _ _ 61 Try.f61 _ _ _ rfl Try.func61 (by kernel_rfl) (by kernel_rfl)) ?_
      have hm : Array.map a'.eval #[.tmp 27, .tmp 28] = #[.agg #[.float .f64 mn], .agg #[.float .f64 mx]] := by simp [e0, e1]
      rw [hm]
      exact Add_any mn mx sm Hsm.out _
    · obtain rfl := Option.some.inj ho
      have e0 := hI.new 5 (edge he 5 (by kernel_rfl)) rfl rfl rfl (by show 29 < 91; decide)
      refine hI.stepCall hb rfl rfl rfl (op_call _ _ 58 Try.f58 _ _ _ rfl Try.func58 (by kernel_rfl) (by kernel_rfl)) ?_
      have hm : Array.map a'.eval #[.tmp 29, .const ((Value.float FloatKind.f64 4611686018427387904))] = #[.agg #[.float .f64 sm], (Value.float FloatKind.f64 4611686018427387904)] := by simp [e0, ev_const]
      rw [hm]
      exact DivConst_any sm 4611686018427387904 li Hli.out _
    · obtain rfl := Option.some.inj ho
      exact hI.stepAlloc 41 hb rfl rfl rfl rfl (op_alloc _ _ _ rfl)
    · obtain rfl := Option.some.inj ho
      exact hI.stepAlloc 41 hb rfl rfl rfl rfl (op_alloc _ _ _ rfl)
    · obtain rfl := Option.some.inj ho
      exact hI.stepAlloc 41 hb rfl rfl rfl rfl (op_alloc _ _ _ rfl)
  · intro b' a' w1 hb hI
    obtain ⟨ρ, rfl, hS, hC, hN⟩ := hI
    have hA := HS.out.2
    clear HS
    have p0 := hb 0 (by decide)
    have p1 := hb 1 (by decide)
    have p2 := hb 2 (by decide)
    have p3 := hb 3 (by decide)
    have p4 := hb 4 (by decide)
    have p5 := hb 5 (by decide)
    have p6 := hb 6 (by decide)
    have p7 := hb 7 (by decide)
    have p8 := hb 8 (by decide)
    have p9 := hb 9 (by decide)
    obtain ⟨c7, f7, l7, n7⟩ := hC 7 (by simp) p7
    obtain ⟨c8, f8, l8, n8⟩ := hC 8 (by simp) p8
    obtain ⟨c9, f9, l9, n9⟩ := hC 9 (by simp) p9
    have d7_8 := hN 7 (by simp) 8 (by simp) p7 p8 (by decide)
    have d7_9 := hN 7 (by simp) 9 (by simp) p7 p9 (by decide)
    have d8_9 := hN 8 (by simp) 9 (by simp) p8 p9 (by decide)
    have v0 : vals [7, 8, 9] (fun i => [.float .f64 9221120237041090561, .agg #[.float .f64 9221120237041090561], .agg #[.float .f64 0], .agg #[.float .f64 mn], .agg #[.float .f64 mx], .agg #[.float .f64 sm], .agg #[.float .f64 li], .bool false, .bool false, .bool false].getD i (.bool false)) ρ 0 = .float .f64 9221120237041090561 := rfl
    have v1 : vals [7, 8, 9] (fun i => [.float .f64 9221120237041090561, .agg #[.float .f64 9221120237041090561], .agg #[.float .f64 0], .agg #[.float .f64 mn], .agg #[.float .f64 mx], .agg #[.float .f64 sm], .agg #[.float .f64 li], .bool false, .bool false, .bool false].getD i (.bool false)) ρ 1 = .agg #[.float .f64 9221120237041090561] := rfl
    have v2 : vals [7, 8, 9] (fun i => [.float .f64 9221120237041090561, .agg #[.float .f64 9221120237041090561], .agg #[.float .f64 0], .agg #[.float .f64 mn], .agg #[.float .f64 mx], .agg #[.float .f64 sm], .agg #[.float .f64 li], .bool false, .bool false, .bool false].getD i (.bool false)) ρ 2 = .agg #[.float .f64 0] := rfl
    have v3 : vals [7, 8, 9] (fun i => [.float .f64 9221120237041090561, .agg #[.float .f64 9221120237041090561], .agg #[.float .f64 0], .agg #[.float .f64 mn], .agg #[.float .f64 mx], .agg #[.float .f64 sm], .agg #[.float .f64 li], .bool false, .bool false, .bool false].getD i (.bool false)) ρ 3 = .agg #[.float .f64 mn] := rfl
    have v4 : vals [7, 8, 9] (fun i => [.float .f64 9221120237041090561, .agg #[.float .f64 9221120237041090561], .agg #[.float .f64 0], .agg #[.float .f64 mn], .agg #[.float .f64 mx], .agg #[.float .f64 sm], .agg #[.float .f64 li], .bool false, .bool false, .bool false].getD i (.bool false)) ρ 4 = .agg #[.float .f64 mx] := rfl
    have v5 : vals [7, 8, 9] (fun i => [.float .f64 9221120237041090561, .agg #[.float .f64 9221120237041090561], .agg #[.float .f64 0], .agg #[.float .f64 mn], .agg #[.float .f64 mx], .agg #[.float .f64 sm], .agg #[.float .f64 li], .bool false, .bool false, .bool false].getD i (.bool false)) ρ 5 = .agg #[.float .f64 sm] := rfl
    have v6 : vals [7, 8, 9] (fun i => [.float .f64 9221120237041090561, .agg #[.float .f64 9221120237041090561], .agg #[.float .f64 0], .agg #[.float .f64 mn], .agg #[.float .f64 mx], .agg #[.float .f64 sm], .agg #[.float .f64 li], .bool false, .bool false, .bool false].getD i (.bool false)) ρ 6 = .agg #[.float .f64 li] := rfl
    have v7 : vals [7, 8, 9] (fun i => [.float .f64 9221120237041090561, .agg #[.float .f64 9221120237041090561], .agg #[.float .f64 0], .agg #[.float .f64 mn], .agg #[.float .f64 mx], .agg #[.float .f64 sm], .agg #[.float .f64 li], .bool false, .bool false, .bool false].getD i (.bool false)) ρ 7 = .pointer (some ⟨(ρ 7), 0, none⟩) := rfl
    have v8 : vals [7, 8, 9] (fun i => [.float .f64 9221120237041090561, .agg #[.float .f64 9221120237041090561], .agg #[.float .f64 0], .agg #[.float .f64 mn], .agg #[.float .f64 mx], .agg #[.float .f64 sm], .agg #[.float .f64 li], .bool false, .bool false, .bool false].getD i (.bool false)) ρ 8 = .pointer (some ⟨(ρ 8), 0, none⟩) := rfl
    have v9 : vals [7, 8, 9] (fun i => [.float .f64 9221120237041090561, .agg #[.float .f64 9221120237041090561], .agg #[.float .f64 0], .agg #[.float .f64 mn], .agg #[.float .f64 mx], .agg #[.float .f64 sm], .agg #[.float .f64 li], .bool false, .bool false, .bool false].getD i (.bool false)) ρ 9 = .pointer (some ⟨(ρ 9), 0, none⟩) := rfl
    simp only [puts, Nat.zero_add, p0, p1, p2, p3, p4, p5, p6, p7, p8, p9, v0, v1, v2, v3, v4, v5, v6, v7, v8, v9, if_true, List.drop_succ_cons, List.drop_zero, Nat.reduceAdd]
    clear hb hC hN p0 p1 p2 p3 p4 p5 p6 p7 p8 p9 v0 v1 v2 v3 v4 v5 v6 v7 v8 v9
    generalize ρ 7 = g11 at *
    replace hA : Apart base ((g11, 0) :: [(g10, mn), (g9, mx), (g8, 0), (g7, 0), (g6, 0), (g5, b), (g4, g), (g3, r)]) := ⟨l7, n7, hA⟩
    replace hS : Bx base w ((g11, 0) :: [(g10, mn), (g9, mx), (g8, 0), (g7, 0), (g6, 0), (g5, b), (g4, g), (g3, r)]) w1 := ⟨c7, f7, hS⟩
    generalize ρ 8 = g12 at *
    replace hA : Apart base ((g12, 0) :: [(g11, 0), (g10, mn), (g9, mx), (g8, 0), (g7, 0), (g6, 0), (g5, b), (g4, g), (g3, r)]) := ⟨l8, (off_cons d7_8 n8), hA⟩
    replace hS : Bx base w ((g12, 0) :: [(g11, 0), (g10, mn), (g9, mx), (g8, 0), (g7, 0), (g6, 0), (g5, b), (g4, g), (g3, r)]) w1 := ⟨c8, f8, hS⟩
    generalize ρ 9 = g13 at *
    replace hA : Apart base ((g13, 0) :: [(g12, 0), (g11, 0), (g10, mn), (g9, mx), (g8, 0), (g7, 0), (g6, 0), (g5, b), (g4, g), (g3, r)]) := ⟨l9, (off_cons d8_9 (off_cons d7_9 n9)), hA⟩
    replace hS : Bx base w ((g13, 0) :: [(g12, 0), (g11, 0), (g10, mn), (g9, mx), (g8, 0), (g7, 0), (g6, 0), (g5, b), (g4, g), (g3, r)]) w1 := ⟨c9, f9, hS⟩
    clear c7 f7 l7 n7 c8 f8 l8 n8 c9 f9 l9 n9 d7_8 d7_9 d8_9
    clear ρ b'
    have s0 : (w1).cell? ⟨g11, 0, none⟩ = some (.float .f64 0) := (hS.cell 2 (by simp)).1
    have t0 : (w1).frozen? ⟨g11, 0, none⟩ = false := (hS.cell 2 (by simp)).2
    replace hS : Bx base w [(g13, 0), (g12, 0), (g11, 9221120237041090561), (g10, mn), (g9, mx), (g8, 0), (g7, 0), (g6, 0), (g5, b), (g4, g), (g3, r)] ((w1).setCell ⟨g11, 0, none⟩ (.float .f64 9221120237041090561)) := hS.set 9221120237041090561 hA 2 (by simp)
    replace hA : Apart base [(g13, 0), (g12, 0), (g11, 9221120237041090561), (g10, mn), (g9, mx), (g8, 0), (g7, 0), (g6, 0), (g5, b), (g4, g), (g3, r)] := Apart.of_fst (by rfl) hA
    have s1 : ((w1).setCell ⟨g11, 0, none⟩ (.float .f64 9221120237041090561)).cell? ⟨g12, 0, none⟩ = some (.float .f64 0) := (hS.cell 1 (by simp)).1
    have t1 : ((w1).setCell ⟨g11, 0, none⟩ (.float .f64 9221120237041090561)).frozen? ⟨g12, 0, none⟩ = false := (hS.cell 1 (by simp)).2
    replace hS : Bx base w [(g13, 0), (g12, 0), (g11, 9221120237041090561), (g10, mn), (g9, mx), (g8, 0), (g7, 0), (g6, 0), (g5, b), (g4, g), (g3, r)] (((w1).setCell ⟨g11, 0, none⟩ (.float .f64 9221120237041090561)).setCell ⟨g12, 0, none⟩ (.float .f64 0)) := hS.set 0 hA 1 (by simp)
    replace hA : Apart base [(g13, 0), (g12, 0), (g11, 9221120237041090561), (g10, mn), (g9, mx), (g8, 0), (g7, 0), (g6, 0), (g5, b), (g4, g), (g3, r)] := Apart.of_fst (by rfl) hA
    have s2 : (((w1).setCell ⟨g11, 0, none⟩ (.float .f64 9221120237041090561)).setCell ⟨g12, 0, none⟩ (.float .f64 0)).cell? ⟨g13, 0, none⟩ = some (.float .f64 0) := (hS.cell 0 (by simp)).1
    have t2 : (((w1).setCell ⟨g11, 0, none⟩ (.float .f64 9221120237041090561)).setCell ⟨g12, 0, none⟩ (.float .f64 0)).frozen? ⟨g13, 0, none⟩ = false := (hS.cell 0 (by simp)).2
    replace hS : Bx base w [(g13, li), (g12, 0), (g11, 9221120237041090561), (g10, mn), (g9, mx), (g8, 0), (g7, 0), (g6, 0), (g5, b), (g4, g), (g3, r)] ((((w1).setCell ⟨g11, 0, none⟩ (.float .f64 9221120237041090561)).setCell ⟨g12, 0, none⟩ (.float .f64 0)).setCell ⟨g13, 0, none⟩ (.float .f64 li)) := hS.set li hA 0 (by simp)
    replace hA : Apart base [(g13, li), (g12, 0), (g11, 9221120237041090561), (g10, mn), (g9, mx), (g8, 0), (g7, 0), (g6, 0), (g5, b), (g4, g), (g3, r)] := Apart.of_fst (by rfl) hA
    have HS := Lib.hid (And.intro hS hA)
    clear hS hA
    go_upto_region 4 with fail
    clear s0 t0 s1 t1 s2 t2
    generalize World.setCell _ _ _ = W at *
    clear w1
    have c_g9 : W.cell? ⟨g9, 0, none⟩ = some (.float .f64 mx) := (HS.out.1.cell 4 (by simp)).1
    have c_g10 : W.cell? ⟨g10, 0, none⟩ = some (.float .f64 mn) := (HS.out.1.cell 3 (by simp)).1
    go_wp2_with fail
    refine (Sub_any mx mn d Hd.out _).mono ?_
    rintro e w1 ⟨rfl, hb⟩
    have hS := HS.out.1.keep hb
    have hA := HS.out.2
    clear HS hb c_g9 c_g10
    replace hA := hA.alloc hS d
    replace hS := hS.alloc d 41
    have HS := Lib.hid (And.intro hS hA)
    clear hS hA
    go_upto_region 5 with fail
    generalize World.alloc _ _ = W at *
    generalize w1.heap.size = g14 at *
    clear w1
    have q5 : (FloatKind.f64.format.order d 0 != some .eq) = true := neq_ok Hq5.out
    have c_g14 : W.cell? ⟨g14, 0, none⟩ = some (.float .f64 d) := (HS.out.1.cell 0 (by simp)).1
    go_wp2_with fail
    refine (Value_any d _).mono ?_
    rintro e w1 ⟨rfl, hb⟩
    have hS := HS.out.1.keep hb
    have hA := HS.out.2
    clear HS hb c_g14
    have HS := Lib.hid (And.intro hS hA)
    clear hS hA
    go_upto_region 6 with fail
    generalize w1 = W at *
    clear q5
    refine wp_region_plan 6 (by kernel_rfl) (by kernel_rfl) (PI base w [(g14, d), (g13, li), (g12, 0), (g11, 9221120237041090561), (g10, mn), (g9, mx), (g8, 0), (g7, 0), (g6, 0), (g5, b), (g4, g), (g3, r)] [some 37, some 38, some 39, some 40, some 41, some 15] [5] (fun i => [.agg #[.float .f64 li], .agg #[.float .f64 li], .agg #[.float .f64 nl], .agg #[.float .f64 om], .agg #[.float .f64 dv], .bool false].getD i (.bool false)) _) (PI.start HS.out.1) ?_ ?_
    · intro i o b' a' w' hi ho hb he hI
      rcases (by omega : i = 0 ∨ i = 1 ∨ i = 2 ∨ i = 3 ∨ i = 4 ∨ i = 5) with rfl | rfl | rfl | rfl | rfl | rfl
      · obtain rfl := Option.some.inj ho
        exact hI.stepQuiet hb rfl rfl rfl (op_load _ _ _ g13 li _ rfl ((hI.old rfl).trans rfl) (hI.bx.cell 1 (by simp)).1)
      · obtain rfl := Option.some.inj ho
        exact hI.stepQuiet hb rfl rfl rfl (op_load _ _ _ g13 li _ rfl ((hI.old rfl).trans rfl) (hI.bx.cell 1 (by simp)).1)
      · obtain rfl := Option.some.inj ho
        have e0 := hI.new 1 (edge he 1 (by kernel_rfl)) rfl rfl rfl (by show 38 < 91; decide)
        refine hI.stepCall hb rfl rfl rfl (op_call _ _ 72 Try.f72 _ _ _ rfl Try.func72 (by kernel_rfl) (by kernel_rfl)) ?_
        have hm : Array.map a'.eval #[.tmp 38] = #[.agg #[.float .f64 li]] := by simp [e0]
        rw [hm]
        exact Neg_as li nl Hnl.out _
      · obtain rfl := Option.some.inj ho
        have e0 := hI.new 2 (edge he 2 (by kernel_rfl)) rfl rfl rfl (by show 39 < 91; decide)
        refine hI.stepCall hb rfl rfl rfl (op_call _ _ 59 Try.f59 _ _ _ rfl Try.func59 (by kernel_rfl) (by kernel_rfl)) ?_
        have hm : Array.map a'.eval #[.tmp 39, .const ((Value.float FloatKind.f64 4607182418800017408))] = #[.agg #[.float .f64 nl], (Value.float FloatKind.f64 4607182418800017408)] := by simp [e0, ev_const]
        rw [hm]
        exact AddConst_any nl 4607182418800017408 om Hom.out _
      · obtain rfl := Option.some.inj ho
        have e0 := hI.new 0 (edge he 0 (by kernel_rfl)) rfl rfl rfl (by show 37 < 91; decide)
        have e1 := hI.new 3 (edge he 3 (by kernel_rfl)) rfl rfl rfl (by show 40 < 91; decide)
        refine hI.stepCall hb rfl rfl rfl (op_call _ _ 71 Try.f71 _ _ _ rfl Try.func71 (by kernel_rfl) (by kernel_rfl)) ?_
        have hm : Array.map a'.eval #[.tmp 37, .tmp 40] = #[.agg #[.float .f64 li], .agg #[.float .f64 om]] := by simp [e0, e1]
        rw [hm]
        exact Min2_as li om dv Hdv.out _
      · obtain rfl := Option.some.inj ho
        exact hI.stepAlloc 41 hb rfl rfl rfl rfl (op_alloc _ _ _ rfl)
    · intro b' a' w1 hb hI
      obtain ⟨ρ, rfl, hS, hC, hN⟩ := hI
      have hA := HS.out.2
      clear HS
      have p0 := hb 0 (by decide)
      have p1 := hb 1 (by decide)
      have p2 := hb 2 (by decide)
      have p3 := hb 3 (by decide)
      have p4 := hb 4 (by decide)
      have p5 := hb 5 (by decide)
      obtain ⟨c5, f5, l5, n5⟩ := hC 5 (by simp) p5
      have v0 : vals [5] (fun i => [.agg #[.float .f64 li], .agg #[.float .f64 li], .agg #[.float .f64 nl], .agg #[.float .f64 om], .agg #[.float .f64 dv], .bool false].getD i (.bool false)) ρ 0 = .agg #[.float .f64 li] := rfl
      have v1 : vals [5] (fun i => [.agg #[.float .f64 li], .agg #[.float .f64 li], .agg #[.float .f64 nl], .agg #[.float .f64 om], .agg #[.float .f64 dv], .bool false].getD i (.bool false)) ρ 1 = .agg #[.float .f64 li] := rfl
      have v2 : vals [5] (fun i => [.agg #[.float .f64 li], .agg #[.float .f64 li], .agg #[.float .f64 nl], .agg #[.float .f64 om], .agg #[.float .f64 dv], .bool false].getD i (.bool false)) ρ 2 = .agg #[.float .f64 nl] := rfl
      have v3 : vals [5] (fun i => [.agg #[.float .f64 li], .agg #[.float .f64 li], .agg #[.float .f64 nl], .agg #[.float .f64 om], .agg #[.float .f64 dv], .bool false].getD i (.bool false)) ρ 3 = .agg #[.float .f64 om] := rfl
      have v4 : vals [5] (fun i => [.agg #[.float .f64 li], .agg #[.float .f64 li], .agg #[.float .f64 nl], .agg #[.float .f64 om], .agg #[.float .f64 dv], .bool false].getD i (.bool false)) ρ 4 = .agg #[.float .f64 dv] := rfl
      have v5 : vals [5] (fun i => [.agg #[.float .f64 li], .agg #[.float .f64 li], .agg #[.float .f64 nl], .agg #[.float .f64 om], .agg #[.float .f64 dv], .bool false].getD i (.bool false)) ρ 5 = .pointer (some ⟨(ρ 5), 0, none⟩) := rfl
      simp only [puts, Nat.zero_add, p0, p1, p2, p3, p4, p5, v0, v1, v2, v3, v4, v5, if_true, List.drop_succ_cons, List.drop_zero, Nat.reduceAdd]
      clear hb hC hN p0 p1 p2 p3 p4 p5 v0 v1 v2 v3 v4 v5
      generalize ρ 5 = g15 at *
      replace hA : Apart base ((g15, 0) :: [(g14, d), (g13, li), (g12, 0), (g11, 9221120237041090561), (g10, mn), (g9, mx), (g8, 0), (g7, 0), (g6, 0), (g5, b), (g4, g), (g3, r)]) := ⟨l5, n5, hA⟩
      replace hS : Bx base w ((g15, 0) :: [(g14, d), (g13, li), (g12, 0), (g11, 9221120237041090561), (g10, mn), (g9, mx), (g8, 0), (g7, 0), (g6, 0), (g5, b), (g4, g), (g3, r)]) w1 := ⟨c5, f5, hS⟩
      clear c5 f5 l5 n5 
      clear ρ b'
      have s0 : (w1).cell? ⟨g15, 0, none⟩ = some (.float .f64 0) := (hS.cell 0 (by simp)).1
      have t0 : (w1).frozen? ⟨g15, 0, none⟩ = false := (hS.cell 0 (by simp)).2
      replace hS : Bx base w [(g15, dv), (g14, d), (g13, li), (g12, 0), (g11, 9221120237041090561), (g10, mn), (g9, mx), (g8, 0), (g7, 0), (g6, 0), (g5, b), (g4, g), (g3, r)] ((w1).setCell ⟨g15, 0, none⟩ (.float .f64 dv)) := hS.set dv hA 0 (by simp)
      replace hA : Apart base [(g15, dv), (g14, d), (g13, li), (g12, 0), (g11, 9221120237041090561), (g10, mn), (g9, mx), (g8, 0), (g7, 0), (g6, 0), (g5, b), (g4, g), (g3, r)] := Apart.of_fst (by rfl) hA
      have HS := Lib.hid (And.intro hS hA)
      clear hS hA
      go_upto_region 7 with fail
      clear s0 t0
      generalize World.setCell _ _ _ = W at *
      clear w1
      have q7 : (FloatKind.f64.format.order dv 0 != some .eq) = true := neq_ok Hq7.out
      have c_g15 : W.cell? ⟨g15, 0, none⟩ = some (.float .f64 dv) := (HS.out.1.cell 0 (by simp)).1
      go_wp2_with fail
      refine (Value_any dv _).mono ?_
      rintro e w1 ⟨rfl, hb⟩
      have hS := HS.out.1.keep hb
      have hA := HS.out.2
      clear HS hb c_g15
      have HS := Lib.hid (And.intro hS hA)
      clear hS hA
      go_upto_region 8 with fail
      generalize w1 = W at *
      clear q7
      refine wp_region_plan 5 (by kernel_rfl) (by kernel_rfl) (PI base w [(g15, dv), (g14, d), (g13, li), (g12, 0), (g11, 9221120237041090561), (g10, mn), (g9, mx), (g8, 0), (g7, 0), (g6, 0), (g5, b), (g4, g), (g3, r)] [some 45, some 46, some 47, some 48, some 49] [] (fun i => [.agg #[.float .f64 mx], .agg #[.float .f64 li], .agg #[.float .f64 t], .agg #[.float .f64 dv], .agg #[.float .f64 sat]].getD i (.bool false)) _) (PI.start HS.out.1) ?_ ?_
      · intro i o b' a' w' hi ho hb he hI
        rcases (by omega : i = 0 ∨ i = 1 ∨ i = 2 ∨ i = 3 ∨ i = 4) with rfl | rfl | rfl | rfl | rfl
        · obtain rfl := Option.some.inj ho
          exact hI.stepQuiet hb rfl rfl rfl (op_load _ _ _ g9 mx _ rfl ((hI.old rfl).trans rfl) (hI.bx.cell 6 (by simp)).1)
        · obtain rfl := Option.some.inj ho
          exact hI.stepQuiet hb rfl rfl rfl (op_load _ _ _ g13 li _ rfl ((hI.old rfl).trans rfl) (hI.bx.cell 2 (by simp)).1)
        · obtain rfl := Option.some.inj ho
          have e0 := hI.new 0 (edge he 0 (by kernel_rfl)) rfl rfl rfl (by show 45 < 91; decide)
          have e1 := hI.new 1 (edge he 1 (by kernel_rfl)) rfl rfl rfl (by show 46 < 91; decide)
          refine hI.stepCall hb rfl rfl rfl (op_call _ _ 62 Try.f62 _ _ _ rfl Try.func62 (by kernel_rfl) (by kernel_rfl)) ?_
          have hm : Array.map a'.eval #[.tmp 45, .tmp 46] = #[.agg #[.float .f64 mx], .agg #[.float .f64 li]] := by simp [e0, e1]
          rw [hm]
          exact Sub_any mx li t Ht.out _
        · obtain rfl := Option.some.inj ho
          exact hI.stepQuiet hb rfl rfl rfl (op_load _ _ _ g15 dv _ rfl ((hI.old rfl).trans rfl) (hI.bx.cell 0 (by simp)).1)
        · obtain rfl := Option.some.inj ho
          have e0 := hI.new 2 (edge he 2 (by kernel_rfl)) rfl rfl rfl (by show 47 < 91; decide)
          have e1 := hI.new 3 (edge he 3 (by kernel_rfl)) rfl rfl rfl (by show 48 < 91; decide)
          refine hI.stepCall hb rfl rfl rfl (op_call _ _ 73 Try.f73 _ _ _ rfl Try.func73 (by kernel_rfl) (by kernel_rfl)) ?_
          have hm : Array.map a'.eval #[.tmp 47, .tmp 48] = #[.agg #[.float .f64 t], .agg #[.float .f64 dv]] := by simp [e0, e1]
          rw [hm]
          exact Div_any t dv sat Hsat.out _
      · intro b' a' w1 hb hI
        obtain ⟨ρ, rfl, hS, hC, hN⟩ := hI
        have hA := HS.out.2
        clear HS
        have p0 := hb 0 (by decide)
        have p1 := hb 1 (by decide)
        have p2 := hb 2 (by decide)
        have p3 := hb 3 (by decide)
        have p4 := hb 4 (by decide)
        have v0 : vals [] (fun i => [.agg #[.float .f64 mx], .agg #[.float .f64 li], .agg #[.float .f64 t], .agg #[.float .f64 dv], .agg #[.float .f64 sat]].getD i (.bool false)) ρ 0 = .agg #[.float .f64 mx] := rfl
        have v1 : vals [] (fun i => [.agg #[.float .f64 mx], .agg #[.float .f64 li], .agg #[.float .f64 t], .agg #[.float .f64 dv], .agg #[.float .f64 sat]].getD i (.bool false)) ρ 1 = .agg #[.float .f64 li] := rfl
        have v2 : vals [] (fun i => [.agg #[.float .f64 mx], .agg #[.float .f64 li], .agg #[.float .f64 t], .agg #[.float .f64 dv], .agg #[.float .f64 sat]].getD i (.bool false)) ρ 2 = .agg #[.float .f64 t] := rfl
        have v3 : vals [] (fun i => [.agg #[.float .f64 mx], .agg #[.float .f64 li], .agg #[.float .f64 t], .agg #[.float .f64 dv], .agg #[.float .f64 sat]].getD i (.bool false)) ρ 3 = .agg #[.float .f64 dv] := rfl
        have v4 : vals [] (fun i => [.agg #[.float .f64 mx], .agg #[.float .f64 li], .agg #[.float .f64 t], .agg #[.float .f64 dv], .agg #[.float .f64 sat]].getD i (.bool false)) ρ 4 = .agg #[.float .f64 sat] := rfl
        simp only [puts, Nat.zero_add, p0, p1, p2, p3, p4, v0, v1, v2, v3, v4, if_true, List.drop_succ_cons, List.drop_zero, Nat.reduceAdd]
        clear hb hC hN p0 p1 p2 p3 p4 v0 v1 v2 v3 v4
        clear ρ b'
        have s0 : (w1).cell? ⟨g12, 0, none⟩ = some (.float .f64 0) := (hS.cell 3 (by simp)).1
        have t0 : (w1).frozen? ⟨g12, 0, none⟩ = false := (hS.cell 3 (by simp)).2
        replace hS : Bx base w [(g15, dv), (g14, d), (g13, li), (g12, sat), (g11, 9221120237041090561), (g10, mn), (g9, mx), (g8, 0), (g7, 0), (g6, 0), (g5, b), (g4, g), (g3, r)] ((w1).setCell ⟨g12, 0, none⟩ (.float .f64 sat)) := hS.set sat hA 3 (by simp)
        replace hA : Apart base [(g15, dv), (g14, d), (g13, li), (g12, sat), (g11, 9221120237041090561), (g10, mn), (g9, mx), (g8, 0), (g7, 0), (g6, 0), (g5, b), (g4, g), (g3, r)] := Apart.of_fst (by rfl) hA
        have HS := Lib.hid (And.intro hS hA)
        clear hS hA
        go_upto_region 9 with fail
        clear s0 t0
        generalize World.setCell _ _ _ = W at *
        clear w1
        have c_g9 : W.cell? ⟨g9, 0, none⟩ = some (.float .f64 mx) := (HS.out.1.cell 6 (by simp)).1
        go_upto_region 10 with fail
        clear c_g9
        have q10 := fun w => run_eql_f64 mx r false w Hq10.out
        have c_g3 : W.cell? ⟨g3, 0, none⟩ = some (.float .f64 r) := (HS.out.1.cell 12 (by simp)).1
        go_upto_region 14 with fail
        clear c_g3
        clear q10
        have q14 := fun w => run_eql_f64 mx g true w Hq14.out
        have c_g4 : W.cell? ⟨g4, 0, none⟩ = some (.float .f64 g) := (HS.out.1.cell 11 (by simp)).1
        go_upto_region 15 with fail
        clear c_g4
        clear q14
        refine wp_region_plan 6 (by kernel_rfl) (by kernel_rfl) (PI base w [(g15, dv), (g14, d), (g13, li), (g12, sat), (g11, 9221120237041090561), (g10, mn), (g9, mx), (g8, 0), (g7, 0), (g6, 0), (g5, b), (g4, g), (g3, r)] [some 69, some 70, some 71, some 72, some 73, some 74] [] (fun i => [.agg #[.float .f64 b], .agg #[.float .f64 r], .agg #[.float .f64 p], .agg #[.float .f64 d], .agg #[.float .f64 q], .agg #[.float .f64 h0]].getD i (.bool false)) _) (PI.start HS.out.1) ?_ ?_
        · intro i o b' a' w' hi ho hb he hI
          rcases (by omega : i = 0 ∨ i = 1 ∨ i = 2 ∨ i = 3 ∨ i = 4 ∨ i = 5) with rfl | rfl | rfl | rfl | rfl | rfl
          · obtain rfl := Option.some.inj ho
            exact hI.stepQuiet hb rfl rfl rfl (op_load _ _ _ g5 b _ rfl ((hI.old rfl).trans rfl) (hI.bx.cell 10 (by simp)).1)
          · obtain rfl := Option.some.inj ho
            exact hI.stepQuiet hb rfl rfl rfl (op_load _ _ _ g3 r _ rfl ((hI.old rfl).trans rfl) (hI.bx.cell 12 (by simp)).1)
          · obtain rfl := Option.some.inj ho
            have e0 := hI.new 0 (edge he 0 (by kernel_rfl)) rfl rfl rfl (by show 69 < 91; decide)
            have e1 := hI.new 1 (edge he 1 (by kernel_rfl)) rfl rfl rfl (by show 70 < 91; decide)
            refine hI.stepCall hb rfl rfl rfl (op_call _ _ 62 Try.f62 _ _ _ rfl Try.func62 (by kernel_rfl) (by kernel_rfl)) ?_
            have hm : Array.map a'.eval #[.tmp 69, .tmp 70] = #[.agg #[.float .f64 b], .agg #[.float .f64 r]] := by simp [e0, e1]
            rw [hm]
            exact Sub_any b r p Hp.out _
          · obtain rfl := Option.some.inj ho
            exact hI.stepQuiet hb rfl rfl rfl (op_load _ _ _ g14 d _ rfl ((hI.old rfl).trans rfl) (hI.bx.cell 1 (by simp)).1)
          · obtain rfl := Option.some.inj ho
            have e0 := hI.new 2 (edge he 2 (by kernel_rfl)) rfl rfl rfl (by show 71 < 91; decide)
            have e1 := hI.new 3 (edge he 3 (by kernel_rfl)) rfl rfl rfl (by show 72 < 91; decide)
            refine hI.stepCall hb rfl rfl rfl (op_call _ _ 73 Try.f73 _ _ _ rfl Try.func73 (by kernel_rfl) (by kernel_rfl)) ?_
            have hm : Array.map a'.eval #[.tmp 71, .tmp 72] = #[.agg #[.float .f64 p], .agg #[.float .f64 d]] := by simp [e0, e1]
            rw [hm]
            exact Div_any p d q Hq.out _
          · obtain rfl := Option.some.inj ho
            have e0 := hI.new 4 (edge he 4 (by kernel_rfl)) rfl rfl rfl (by show 73 < 91; decide)
            refine hI.stepCall hb rfl rfl rfl (op_call _ _ 59 Try.f59 _ _ _ rfl Try.func59 (by kernel_rfl) (by kernel_rfl)) ?_
            have hm : Array.map a'.eval #[.tmp 73, .const ((Value.float FloatKind.f64 4611686018427387904))] = #[.agg #[.float .f64 q], (Value.float FloatKind.f64 4611686018427387904)] := by simp [e0, ev_const]
            rw [hm]
            exact AddConst_any q 4611686018427387904 h0 Hh0.out _
        · intro b' a' w1 hb hI
          obtain ⟨ρ, rfl, hS, hC, hN⟩ := hI
          have hA := HS.out.2
          clear HS
          have p0 := hb 0 (by decide)
          have p1 := hb 1 (by decide)
          have p2 := hb 2 (by decide)
          have p3 := hb 3 (by decide)
          have p4 := hb 4 (by decide)
          have p5 := hb 5 (by decide)
          have v0 : vals [] (fun i => [.agg #[.float .f64 b], .agg #[.float .f64 r], .agg #[.float .f64 p], .agg #[.float .f64 d], .agg #[.float .f64 q], .agg #[.float .f64 h0]].getD i (.bool false)) ρ 0 = .agg #[.float .f64 b] := rfl
          have v1 : vals [] (fun i => [.agg #[.float .f64 b], .agg #[.float .f64 r], .agg #[.float .f64 p], .agg #[.float .f64 d], .agg #[.float .f64 q], .agg #[.float .f64 h0]].getD i (.bool false)) ρ 1 = .agg #[.float .f64 r] := rfl
          have v2 : vals [] (fun i => [.agg #[.float .f64 b], .agg #[.float .f64 r], .agg #[.float .f64 p], .agg #[.float .f64 d], .agg #[.float .f64 q], .agg #[.float .f64 h0]].getD i (.bool false)) ρ 2 = .agg #[.float .f64 p] := rfl
          have v3 : vals [] (fun i => [.agg #[.float .f64 b], .agg #[.float .f64 r], .agg #[.float .f64 p], .agg #[.float .f64 d], .agg #[.float .f64 q], .agg #[.float .f64 h0]].getD i (.bool false)) ρ 3 = .agg #[.float .f64 d] := rfl
          have v4 : vals [] (fun i => [.agg #[.float .f64 b], .agg #[.float .f64 r], .agg #[.float .f64 p], .agg #[.float .f64 d], .agg #[.float .f64 q], .agg #[.float .f64 h0]].getD i (.bool false)) ρ 4 = .agg #[.float .f64 q] := rfl
          have v5 : vals [] (fun i => [.agg #[.float .f64 b], .agg #[.float .f64 r], .agg #[.float .f64 p], .agg #[.float .f64 d], .agg #[.float .f64 q], .agg #[.float .f64 h0]].getD i (.bool false)) ρ 5 = .agg #[.float .f64 h0] := rfl
          simp only [puts, Nat.zero_add, p0, p1, p2, p3, p4, p5, v0, v1, v2, v3, v4, v5, if_true, List.drop_succ_cons, List.drop_zero, Nat.reduceAdd]
          clear hb hC hN p0 p1 p2 p3 p4 p5 v0 v1 v2 v3 v4 v5
          clear ρ b'
          have s0 : (w1).cell? ⟨g11, 0, none⟩ = some (.float .f64 9221120237041090561) := (hS.cell 4 (by simp)).1
          have t0 : (w1).frozen? ⟨g11, 0, none⟩ = false := (hS.cell 4 (by simp)).2
          replace hS : Bx base w [(g15, dv), (g14, d), (g13, li), (g12, sat), (g11, h0), (g10, mn), (g9, mx), (g8, 0), (g7, 0), (g6, 0), (g5, b), (g4, g), (g3, r)] ((w1).setCell ⟨g11, 0, none⟩ (.float .f64 h0)) := hS.set h0 hA 4 (by simp)
          replace hA : Apart base [(g15, dv), (g14, d), (g13, li), (g12, sat), (g11, h0), (g10, mn), (g9, mx), (g8, 0), (g7, 0), (g6, 0), (g5, b), (g4, g), (g3, r)] := Apart.of_fst (by rfl) hA
          have HS := Lib.hid (And.intro hS hA)
          clear hS hA
          go_upto_region 18 with fail
          clear s0 t0
          generalize World.setCell _ _ _ = W at *
          clear w1
          have c_g11 : W.cell? ⟨g11, 0, none⟩ = some (.float .f64 h0) := (HS.out.1.cell 4 (by simp)).1
          go_wp2_with fail
          refine (MulConst_any h0 4633641066610819072 h Hh.out _).mono ?_
          rintro e w1 ⟨rfl, hb⟩
          have hS := HS.out.1.keep hb
          have hA := HS.out.2
          clear HS hb c_g11
          have s0 : (w1).cell? ⟨g11, 0, none⟩ = some (.float .f64 h0) := (hS.cell 4 (by simp)).1
          have t0 : (w1).frozen? ⟨g11, 0, none⟩ = false := (hS.cell 4 (by simp)).2
          replace hS : Bx base w [(g15, dv), (g14, d), (g13, li), (g12, sat), (g11, h), (g10, mn), (g9, mx), (g8, 0), (g7, 0), (g6, 0), (g5, b), (g4, g), (g3, r)] ((w1).setCell ⟨g11, 0, none⟩ (.float .f64 h)) := hS.set h hA 4 (by simp)
          replace hA : Apart base [(g15, dv), (g14, d), (g13, li), (g12, sat), (g11, h), (g10, mn), (g9, mx), (g8, 0), (g7, 0), (g6, 0), (g5, b), (g4, g), (g3, r)] := Apart.of_fst (by rfl) hA
          have HS := Lib.hid (And.intro hS hA)
          clear hS hA
          go_upto_region 19 with fail
          clear s0 t0
          generalize World.setCell _ _ _ = W at *
          clear w1
          refine wp_region_plan 5 (by kernel_rfl) (by kernel_rfl) (PI base w [(g15, dv), (g14, d), (g13, li), (g12, sat), (g11, h), (g10, mn), (g9, mx), (g8, 0), (g7, 0), (g6, 0), (g5, b), (g4, g), (g3, r)] [some 86, some 87, some 88, some 89, some 90] [] (fun i => [.agg #[.float .f64 h], .agg #[.float .f64 sat], .agg #[.float .f64 sO], .agg #[.float .f64 li], .agg #[.float .f64 lO]].getD i (.bool false)) _) (PI.start HS.out.1) ?_ ?_
          · intro i o b' a' w' hi ho hb he hI
            rcases (by omega : i = 0 ∨ i = 1 ∨ i = 2 ∨ i = 3 ∨ i = 4) with rfl | rfl | rfl | rfl | rfl
            · obtain rfl := Option.some.inj ho
              exact hI.stepQuiet hb rfl rfl rfl (op_load _ _ _ g11 h _ rfl ((hI.old rfl).trans rfl) (hI.bx.cell 4 (by simp)).1)
            · obtain rfl := Option.some.inj ho
              exact hI.stepQuiet hb rfl rfl rfl (op_load _ _ _ g12 sat _ rfl ((hI.old rfl).trans rfl) (hI.bx.cell 3 (by simp)).1)
            · obtain rfl := Option.some.inj ho
              have e0 := hI.new 1 (edge he 1 (by kernel_rfl)) rfl rfl rfl (by show 87 < 91; decide)
              refine hI.stepCall hb rfl rfl rfl (op_call _ _ 63 Try.f63 _ _ _ rfl Try.func63 (by kernel_rfl) (by kernel_rfl)) ?_
              have hm : Array.map a'.eval #[.tmp 87, .const ((Value.float FloatKind.f64 4636737291354636288))] = #[.agg #[.float .f64 sat], (Value.float FloatKind.f64 4636737291354636288)] := by simp [e0, ev_const]
              rw [hm]
              exact MulConst_any sat 4636737291354636288 sO HsO.out _
            · obtain rfl := Option.some.inj ho
              exact hI.stepQuiet hb rfl rfl rfl (op_load _ _ _ g13 li _ rfl ((hI.old rfl).trans rfl) (hI.bx.cell 2 (by simp)).1)
            · obtain rfl := Option.some.inj ho
              have e0 := hI.new 3 (edge he 3 (by kernel_rfl)) rfl rfl rfl (by show 89 < 91; decide)
              refine hI.stepCall hb rfl rfl rfl (op_call _ _ 63 Try.f63 _ _ _ rfl Try.func63 (by kernel_rfl) (by kernel_rfl)) ?_
              have hm : Array.map a'.eval #[.tmp 89, .const ((Value.float FloatKind.f64 4636737291354636288))] = #[.agg #[.float .f64 li], (Value.float FloatKind.f64 4636737291354636288)] := by simp [e0, ev_const]
              rw [hm]
              exact MulConst_any li 4636737291354636288 lO HlO.out _
          · intro b' a' w1 hb hI
            obtain ⟨ρ, rfl, hS, hC, hN⟩ := hI
            have hA := HS.out.2
            clear HS
            have p0 := hb 0 (by decide)
            have p1 := hb 1 (by decide)
            have p2 := hb 2 (by decide)
            have p3 := hb 3 (by decide)
            have p4 := hb 4 (by decide)
            have v0 : vals [] (fun i => [.agg #[.float .f64 h], .agg #[.float .f64 sat], .agg #[.float .f64 sO], .agg #[.float .f64 li], .agg #[.float .f64 lO]].getD i (.bool false)) ρ 0 = .agg #[.float .f64 h] := rfl
            have v1 : vals [] (fun i => [.agg #[.float .f64 h], .agg #[.float .f64 sat], .agg #[.float .f64 sO], .agg #[.float .f64 li], .agg #[.float .f64 lO]].getD i (.bool false)) ρ 1 = .agg #[.float .f64 sat] := rfl
            have v2 : vals [] (fun i => [.agg #[.float .f64 h], .agg #[.float .f64 sat], .agg #[.float .f64 sO], .agg #[.float .f64 li], .agg #[.float .f64 lO]].getD i (.bool false)) ρ 2 = .agg #[.float .f64 sO] := rfl
            have v3 : vals [] (fun i => [.agg #[.float .f64 h], .agg #[.float .f64 sat], .agg #[.float .f64 sO], .agg #[.float .f64 li], .agg #[.float .f64 lO]].getD i (.bool false)) ρ 3 = .agg #[.float .f64 li] := rfl
            have v4 : vals [] (fun i => [.agg #[.float .f64 h], .agg #[.float .f64 sat], .agg #[.float .f64 sO], .agg #[.float .f64 li], .agg #[.float .f64 lO]].getD i (.bool false)) ρ 4 = .agg #[.float .f64 lO] := rfl
            simp only [puts, Nat.zero_add, p0, p1, p2, p3, p4, v0, v1, v2, v3, v4, if_true, List.drop_succ_cons, List.drop_zero, Nat.reduceAdd]
            clear hb hC hN p0 p1 p2 p3 p4 v0 v1 v2 v3 v4
            clear ρ b'
            have s0 : (w1).cell? ⟨g6, 0, none⟩ = some (.float .f64 0) := (hS.cell 9 (by simp)).1
            have t0 : (w1).frozen? ⟨g6, 0, none⟩ = false := (hS.cell 9 (by simp)).2
            replace hS : Bx base w [(g15, dv), (g14, d), (g13, li), (g12, sat), (g11, h), (g10, mn), (g9, mx), (g8, 0), (g7, 0), (g6, h), (g5, b), (g4, g), (g3, r)] ((w1).setCell ⟨g6, 0, none⟩ (.float .f64 h)) := hS.set h hA 9 (by simp)
            replace hA : Apart base [(g15, dv), (g14, d), (g13, li), (g12, sat), (g11, h), (g10, mn), (g9, mx), (g8, 0), (g7, 0), (g6, h), (g5, b), (g4, g), (g3, r)] := Apart.of_fst (by rfl) hA
            have s1 : ((w1).setCell ⟨g6, 0, none⟩ (.float .f64 h)).cell? ⟨g7, 0, none⟩ = some (.float .f64 0) := (hS.cell 8 (by simp)).1
            have t1 : ((w1).setCell ⟨g6, 0, none⟩ (.float .f64 h)).frozen? ⟨g7, 0, none⟩ = false := (hS.cell 8 (by simp)).2
            replace hS : Bx base w [(g15, dv), (g14, d), (g13, li), (g12, sat), (g11, h), (g10, mn), (g9, mx), (g8, 0), (g7, sO), (g6, h), (g5, b), (g4, g), (g3, r)] (((w1).setCell ⟨g6, 0, none⟩ (.float .f64 h)).setCell ⟨g7, 0, none⟩ (.float .f64 sO)) := hS.set sO hA 8 (by simp)
            replace hA : Apart base [(g15, dv), (g14, d), (g13, li), (g12, sat), (g11, h), (g10, mn), (g9, mx), (g8, 0), (g7, sO), (g6, h), (g5, b), (g4, g), (g3, r)] := Apart.of_fst (by rfl) hA
            have s2 : (((w1).setCell ⟨g6, 0, none⟩ (.float .f64 h)).setCell ⟨g7, 0, none⟩ (.float .f64 sO)).cell? ⟨g8, 0, none⟩ = some (.float .f64 0) := (hS.cell 7 (by simp)).1
            have t2 : (((w1).setCell ⟨g6, 0, none⟩ (.float .f64 h)).setCell ⟨g7, 0, none⟩ (.float .f64 sO)).frozen? ⟨g8, 0, none⟩ = false := (hS.cell 7 (by simp)).2
            replace hS : Bx base w [(g15, dv), (g14, d), (g13, li), (g12, sat), (g11, h), (g10, mn), (g9, mx), (g8, lO), (g7, sO), (g6, h), (g5, b), (g4, g), (g3, r)] ((((w1).setCell ⟨g6, 0, none⟩ (.float .f64 h)).setCell ⟨g7, 0, none⟩ (.float .f64 sO)).setCell ⟨g8, 0, none⟩ (.float .f64 lO)) := hS.set lO hA 7 (by simp)
            replace hA : Apart base [(g15, dv), (g14, d), (g13, li), (g12, sat), (g11, h), (g10, mn), (g9, mx), (g8, lO), (g7, sO), (g6, h), (g5, b), (g4, g), (g3, r)] := Apart.of_fst (by rfl) hA
            have HS := Lib.hid (And.intro hS hA)
            clear hS hA
            go_wp2_with fail
            clear s0 t0 s1 t1 s2 t2
            generalize World.setCell _ _ _ = W at *
            clear w1
            have c_g6 : W.cell? ⟨g6, 0, none⟩ = some (.float .f64 h) := (HS.out.1.cell 9 (by simp)).1
            have c_g7 : W.cell? ⟨g7, 0, none⟩ = some (.float .f64 sO) := (HS.out.1.cell 8 (by simp)).1
            have c_g8 : W.cell? ⟨g8, 0, none⟩ = some (.float .f64 lO) := (HS.out.1.cell 7 (by simp)).1
            refine bodyPost_ret (v := .tuple #[.agg #[.float .f64 h], .agg #[.float .f64 sO], .agg #[.float .f64 lO]]) (by simp [results, Try.results50, go_sem, c_g6, c_g7, c_g8]) rfl ⟨rfl, HS.out.1.below.2⟩
set_option maxRecDepth 100000 in
set_option maxHeartbeats 4000000 in
theorem hsl_blue1 (r g b mx mn sm li d lO sO base : Nat) (w : World) (H : Hid (base = w.heap.size)) (Hmx : Hid (maxW (maxW r g) b = mx)) (Hmn : Hid (minW (minW r g) b = mn)) (Hsm : Hid (Ieee.double.add mn mx = some sm)) (Hli : Hid (Ieee.double.div sm 4611686018427387904 = some li)) (Hd : Hid (Ieee.double.sub mx mn = some d)) (HlO : Hid (Ieee.double.mul li 4636737291354636288 = some lO)) (nl om dv p q h0 h t sat : Nat) (Hq5 : Hid (eqB d 0 = false)) (Hnl : Hid (flip li = nl)) (Hom : Hid (Ieee.double.add nl 4607182418800017408 = some om)) (Hdv : Hid (minW li om = dv)) (Hq7 : Hid (eqB dv 0 = false)) (Ht : Hid (Ieee.double.sub mx li = some t)) (Hsat : Hid (Ieee.double.div t dv = some sat)) (HsO : Hid (Ieee.double.mul sat 4636737291354636288 = some sO)) (Hq10 : Hid (eqB mx r = false)) (Hq14 : Hid (eqB mx g = false)) (Hp : Hid (Ieee.double.sub r g = some p)) (Hq : Hid (Ieee.double.div p d = some q)) (Hh0 : Hid (Ieee.double.add q 4616189618054758400 = some h0)) (Hq16 : Hid (eqB mx b = true)) (Hh : Hid (Ieee.double.mul h0 4633641066610819072 = some h)) :
    Calls Try.prog 50 #[.agg #[.float .f64 r], .agg #[.float .f64 g], .agg #[.float .f64 b]] w fun e w' => e = .returned (.tuple #[.agg #[.float .f64 h], .agg #[.float .f64 sO], .agg #[.float .f64 lO]]) ∧ Below base w w' := by
  go_enter Try.func50, Try.ntmps50
  go_upto_region 1 with fail
  generalize hW : World.alloc _ _ = W at *
  have hS : Bx base w [(w.heap.size + 1 + 1 + 1 + 1 + 1, 0), (w.heap.size + 1 + 1 + 1 + 1, 0), (w.heap.size + 1 + 1 + 1, 0), (w.heap.size + 1 + 1, b), (w.heap.size + 1, g), (w.heap.size, r)] W := by
    subst hW
    have := (((((((Bx.start w).alloc r 41).alloc g 41).alloc b 41).alloc 0 41).alloc 0 41).alloc 0 41)
    rw [H.out]
    simpa using this
  have hA : Apart base [(w.heap.size + 1 + 1 + 1 + 1 + 1, 0), (w.heap.size + 1 + 1 + 1 + 1, 0), (w.heap.size + 1 + 1 + 1, 0), (w.heap.size + 1 + 1, b), (w.heap.size + 1, g), (w.heap.size, r)] := by
    rw [H.out]
    simp [Apart]; try omega
  have HS := Lib.hid (And.intro hS hA)
  clear hS hA hW H
  generalize w.heap.size + 1 + 1 + 1 + 1 + 1 = g8 at *
  generalize w.heap.size + 1 + 1 + 1 + 1 = g7 at *
  generalize w.heap.size + 1 + 1 + 1 = g6 at *
  generalize w.heap.size + 1 + 1 = g5 at *
  generalize w.heap.size + 1 = g4 at *
  generalize hgg : w.heap.size = g3 at *
  clear hgg
  have c_g3 : W.cell? ⟨g3, 0, none⟩ = some (.float .f64 r) := (HS.out.1.cell 5 (by simp)).1
  have c_g4 : W.cell? ⟨g4, 0, none⟩ = some (.float .f64 g) := (HS.out.1.cell 4 (by simp)).1
  have c_g5 : W.cell? ⟨g5, 0, none⟩ = some (.float .f64 b) := (HS.out.1.cell 3 (by simp)).1
  go_wp2_with fail
  refine (Max3_as r g b mx Hmx.out _).mono ?_
  rintro e w1 ⟨rfl, hb⟩
  have hS := HS.out.1.keep hb
  have hA := HS.out.2
  clear HS hb c_g3 c_g4 c_g5
  replace hA := hA.alloc hS mx
  replace hS := hS.alloc mx 41
  have HS := Lib.hid (And.intro hS hA)
  clear hS hA
  go_upto_region 2 with fail
  generalize World.alloc _ _ = W at *
  generalize w1.heap.size = g9 at *
  clear w1
  have c_g3 : W.cell? ⟨g3, 0, none⟩ = some (.float .f64 r) := (HS.out.1.cell 6 (by simp)).1
  have c_g4 : W.cell? ⟨g4, 0, none⟩ = some (.float .f64 g) := (HS.out.1.cell 5 (by simp)).1
  have c_g5 : W.cell? ⟨g5, 0, none⟩ = some (.float .f64 b) := (HS.out.1.cell 4 (by simp)).1
  go_wp2_with fail
  refine (Min3_as r g b mn Hmn.out _).mono ?_
  rintro e w1 ⟨rfl, hb⟩
  have hS := HS.out.1.keep hb
  have hA := HS.out.2
  clear HS hb c_g3 c_g4 c_g5
  replace hA := hA.alloc hS mn
  replace hS := hS.alloc mn 41
  have HS := Lib.hid (And.intro hS hA)
  clear hS hA
  go_upto_region 3 with fail
  generalize World.alloc _ _ = W at *
  generalize w1.heap.size = g10 at *
  clear w1
  refine wp_region_plan 10 (by kernel_rfl) (by kernel_rfl) (PI base w [(g10, mn), (g9, mx), (g8, 0), (g7, 0), (g6, 0), (g5, b), (g4, g), (g3, r)] [some 24, some 25, some 26, some 27, some 28, some 29, some 30, some 11, some 12, some 13] [7, 8, 9] (fun i => [.float .f64 9221120237041090561, .agg #[.float .f64 9221120237041090561], .agg #[.float .f64 0], .agg #[.float .f64 mn], .agg #[.float .f64 mx], .agg #[.float .f64 sm], .agg #[.float .f64 li], .bool false, .bool false, .bool false].getD i (.bool false)) _) (PI.start HS.out.1) ?_ ?_
  · intro i o b' a' w' hi ho hb he hI
    rcases (by omega : i = 0 ∨ i = 1 ∨ i = 2 ∨ i = 3 ∨ i = 4 ∨ i = 5 ∨ i = 6 ∨ i = 7 ∨ i = 8 ∨ i = 9) with rfl | rfl | rfl | rfl | rfl | rfl | rfl | rfl | rfl | rfl
    · obtain rfl := Option.some.inj ho
      refine hI.stepCall hb rfl rfl rfl (op_call _ _ 70 Try.f70 _ _ _ rfl Try.func70 (by kernel_rfl) (by kernel_rfl)) ?_
      have hm : Array.map a'.eval #[] = #[] := by simp
      rw [hm]
      exact NaN_any _
    · obtain rfl := Option.some.inj ho
      have e0 := hI.new 0 (edge he 0 (by kernel_rfl)) rfl rfl rfl (by show 24 < 91; decide)
      refine hI.stepCall hb rfl rfl rfl (op_call _ _ 42 Try.f42 _ _ _ rfl Try.func42 (by kernel_rfl) (by kernel_rfl)) ?_
      have hm : Array.map a'.eval #[.tmp 24] = #[.float .f64 9221120237041090561] := by simp [e0]
      rw [hm]
      exact NewF64_any _ _
    · obtain rfl := Option.some.inj ho
      refine hI.stepCall hb rfl rfl rfl (op_call _ _ 42 Try.f42 _ _ _ rfl Try.func42 (by kernel_rfl) (by kernel_rfl)) ?_
      have hm : Array.map a'.eval #[.const ((Value.float FloatKind.f64 0))] = #[(Value.float FloatKind.f64 0)] := by simp [ev_const]
      rw [hm]
      exact NewF64_any _ _
    · obtain rfl := Option.some.inj ho
      exact hI.stepQuiet hb rfl rfl rfl (op_load _ _ _ g10 mn _ rfl ((hI.old rfl).trans rfl) (hI.bx.cell 0 (by simp)).1)
    · obtain rfl := Option.some.inj ho
      exact hI.stepQuiet hb rfl rfl rfl (op_load _ _ _ g9 mx _ rfl ((hI.old rfl).trans rfl) (hI.bx.cell 1 (by simp)).1)
    · obtain rfl := Option.some.inj ho
      have e0 := hI.new 3 (edge he 3 (by kernel_rfl)) rfl rfl rfl (by show 27 < 91; decide)
      have e1 := hI.new 4 (edge he 4 (by kernel_rfl)) rfl rfl rfl (by show 28 < 91; decide)
      refine hI.stepCall hb rfl rfl rfl (op_call _ _ 61 Try.f61 _ _ _ rfl Try.func61 (by kernel_rfl) (by kernel_rfl)) ?_
      have hm : Array.map a'.eval #[.tmp 27, .tmp 28] = #[.agg #[.float .f64 mn], .agg #[.float .f64 mx]] := by simp [e0, e1]
      rw [hm]
      exact Add_any mn mx sm Hsm.out _
    · obtain rfl := Option.some.inj ho
      have e0 := hI.new 5 (edge he 5 (by kernel_rfl)) rfl rfl rfl (by show 29 < 91; decide)
      refine hI.stepCall hb rfl rfl rfl (op_call _ _ 58 Try.f58 _ _ _ rfl Try.func58 (by kernel_rfl) (by kernel_rfl)) ?_
      have hm : Array.map a'.eval #[.tmp 29, .const ((Value.float FloatKind.f64 4611686018427387904))] = #[.agg #[.float .f64 sm], (Value.float FloatKind.f64 4611686018427387904)] := by simp [e0, ev_const]
      rw [hm]
      exact DivConst_any sm 4611686018427387904 li Hli.out _
    · obtain rfl := Option.some.inj ho
      exact hI.stepAlloc 41 hb rfl rfl rfl rfl (op_alloc _ _ _ rfl)
    · obtain rfl := Option.some.inj ho
      exact hI.stepAlloc 41 hb rfl rfl rfl rfl (op_alloc _ _ _ rfl)
    · obtain rfl := Option.some.inj ho
      exact hI.stepAlloc 41 hb rfl rfl rfl rfl (op_alloc _ _ _ rfl)
  · intro b' a' w1 hb hI
    obtain ⟨ρ, rfl, hS, hC, hN⟩ := hI
    have hA := HS.out.2
    clear HS
    have p0 := hb 0 (by decide)
    have p1 := hb 1 (by decide)
    have p2 := hb 2 (by decide)
    have p3 := hb 3 (by decide)
    have p4 := hb 4 (by decide)
    have p5 := hb 5 (by decide)
    have p6 := hb 6 (by decide)
    have p7 := hb 7 (by decide)
    have p8 := hb 8 (by decide)
    have p9 := hb 9 (by decide)
    obtain ⟨c7, f7, l7, n7⟩ := hC 7 (by simp) p7
    obtain ⟨c8, f8, l8, n8⟩ := hC 8 (by simp) p8
    obtain ⟨c9, f9, l9, n9⟩ := hC 9 (by simp) p9
    have d7_8 := hN 7 (by simp) 8 (by simp) p7 p8 (by decide)
    have d7_9 := hN 7 (by simp) 9 (by simp) p7 p9 (by decide)
    have d8_9 := hN 8 (by simp) 9 (by simp) p8 p9 (by decide)
    have v0 : vals [7, 8, 9] (fun i => [.float .f64 9221120237041090561, .agg #[.float .f64 9221120237041090561], .agg #[.float .f64 0], .agg #[.float .f64 mn], .agg #[.float .f64 mx], .agg #[.float .f64 sm], .agg #[.float .f64 li], .bool false, .bool false, .bool false].getD i (.bool false)) ρ 0 = .float .f64 9221120237041090561 := rfl
    have v1 : vals [7, 8, 9] (fun i => [.float .f64 9221120237041090561, .agg #[.float .f64 9221120237041090561], .agg #[.float .f64 0], .agg #[.float .f64 mn], .agg #[.float .f64 mx], .agg #[.float .f64 sm], .agg #[.float .f64 li], .bool false, .bool false, .bool false].getD i (.bool false)) ρ 1 = .agg #[.float .f64 9221120237041090561] := rfl
    have v2 : vals [7, 8, 9] (fun i => [.float .f64 9221120237041090561, .agg #[.float .f64 9221120237041090561], .agg #[.float .f64 0], .agg #[.float .f64 mn], .agg #[.float .f64 mx], .agg #[.float .f64 sm], .agg #[.float .f64 li], .bool false, .bool false, .bool false].getD i (.bool false)) ρ 2 = .agg #[.float .f64 0] := rfl
    have v3 : vals [7, 8, 9] (fun i => [.float .f64 9221120237041090561, .agg #[.float .f64 9221120237041090561], .agg #[.float .f64 0], .agg #[.float .f64 mn], .agg #[.float .f64 mx], .agg #[.float .f64 sm], .agg #[.float .f64 li], .bool false, .bool false, .bool false].getD i (.bool false)) ρ 3 = .agg #[.float .f64 mn] := rfl
    have v4 : vals [7, 8, 9] (fun i => [.float .f64 9221120237041090561, .agg #[.float .f64 9221120237041090561], .agg #[.float .f64 0], .agg #[.float .f64 mn], .agg #[.float .f64 mx], .agg #[.float .f64 sm], .agg #[.float .f64 li], .bool false, .bool false, .bool false].getD i (.bool false)) ρ 4 = .agg #[.float .f64 mx] := rfl
    have v5 : vals [7, 8, 9] (fun i => [.float .f64 9221120237041090561, .agg #[.float .f64 9221120237041090561], .agg #[.float .f64 0], .agg #[.float .f64 mn], .agg #[.float .f64 mx], .agg #[.float .f64 sm], .agg #[.float .f64 li], .bool false, .bool false, .bool false].getD i (.bool false)) ρ 5 = .agg #[.float .f64 sm] := rfl
    have v6 : vals [7, 8, 9] (fun i => [.float .f64 9221120237041090561, .agg #[.float .f64 9221120237041090561], .agg #[.float .f64 0], .agg #[.float .f64 mn], .agg #[.float .f64 mx], .agg #[.float .f64 sm], .agg #[.float .f64 li], .bool false, .bool false, .bool false].getD i (.bool false)) ρ 6 = .agg #[.float .f64 li] := rfl
    have v7 : vals [7, 8, 9] (fun i => [.float .f64 9221120237041090561, .agg #[.float .f64 9221120237041090561], .agg #[.float .f64 0], .agg #[.float .f64 mn], .agg #[.float .f64 mx], .agg #[.float .f64 sm], .agg #[.float .f64 li], .bool false, .bool false, .bool false].getD i (.bool false)) ρ 7 = .pointer (some ⟨(ρ 7), 0, none⟩) := rfl
    have v8 : vals [7, 8, 9] (fun i => [.float .f64 9221120237041090561, .agg #[.float .f64 9221120237041090561], .agg #[.float .f64 0], .agg #[.float .f64 mn], .agg #[.float .f64 mx], .agg #[.float .f64 sm], .agg #[.float .f64 li], .bool false, .bool false, .bool false].getD i (.bool false)) ρ 8 = .pointer (some ⟨(ρ 8), 0, none⟩) := rfl
    have v9 : vals [7, 8, 9] (fun i => [.float .f64 9221120237041090561, .agg #[.float .f64 9221120237041090561], .agg #[.float .f64 0], .agg #[.float .f64 mn], .agg #[.float .f64 mx], .agg #[.float .f64 sm], .agg #[.float .f64 li], .bool false, .bool false, .bool false].getD i (.bool false)) ρ 9 = .pointer (some ⟨(ρ 9), 0, none⟩) := rfl
    simp only [puts, Nat.zero_add, p0, p1, p2, p3, p4, p5, p6, p7, p8, p9, v0, v1, v2, v3, v4, v5, v6, v7, v8, v9, if_true, List.drop_succ_cons, List.drop_zero, Nat.reduceAdd]
    clear hb hC hN p0 p1 p2 p3 p4 p5 p6 p7 p8 p9 v0 v1 v2 v3 v4 v5 v6 v7 v8 v9
    generalize ρ 7 = g11 at *
    replace hA : Apart base ((g11, 0) :: [(g10, mn), (g9, mx), (g8, 0), (g7, 0), (g6, 0), (g5, b), (g4, g), (g3, r)]) := ⟨l7, n7, hA⟩
    replace hS : Bx base w ((g11, 0) :: [(g10, mn), (g9, mx), (g8, 0), (g7, 0), (g6, 0), (g5, b), (g4, g), (g3, r)]) w1 := ⟨c7, f7, hS⟩
    generalize ρ 8 = g12 at *
    replace hA : Apart base ((g12, 0) :: [(g11, 0), (g10, mn), (g9, mx), (g8, 0), (g7, 0), (g6, 0), (g5, b), (g4, g), (g3, r)]) := ⟨l8, (off_cons d7_8 n8), hA⟩
    replace hS : Bx base w ((g12, 0) :: [(g11, 0), (g10, mn), (g9, mx), (g8, 0), (g7, 0), (g6, 0), (g5, b), (g4, g), (g3, r)]) w1 := ⟨c8, f8, hS⟩
    generalize ρ 9 = g13 at *
    replace hA : Apart base ((g13, 0) :: [(g12, 0), (g11, 0), (g10, mn), (g9, mx), (g8, 0), (g7, 0), (g6, 0), (g5, b), (g4, g), (g3, r)]) := ⟨l9, (off_cons d8_9 (off_cons d7_9 n9)), hA⟩
    replace hS : Bx base w ((g13, 0) :: [(g12, 0), (g11, 0), (g10, mn), (g9, mx), (g8, 0), (g7, 0), (g6, 0), (g5, b), (g4, g), (g3, r)]) w1 := ⟨c9, f9, hS⟩
    clear c7 f7 l7 n7 c8 f8 l8 n8 c9 f9 l9 n9 d7_8 d7_9 d8_9
    clear ρ b'
    have s0 : (w1).cell? ⟨g11, 0, none⟩ = some (.float .f64 0) := (hS.cell 2 (by simp)).1
    have t0 : (w1).frozen? ⟨g11, 0, none⟩ = false := (hS.cell 2 (by simp)).2
    replace hS : Bx base w [(g13, 0), (g12, 0), (g11, 9221120237041090561), (g10, mn), (g9, mx), (g8, 0), (g7, 0), (g6, 0), (g5, b), (g4, g), (g3, r)] ((w1).setCell ⟨g11, 0, none⟩ (.float .f64 9221120237041090561)) := hS.set 9221120237041090561 hA 2 (by simp)
    replace hA : Apart base [(g13, 0), (g12, 0), (g11, 9221120237041090561), (g10, mn), (g9, mx), (g8, 0), (g7, 0), (g6, 0), (g5, b), (g4, g), (g3, r)] := Apart.of_fst (by rfl) hA
    have s1 : ((w1).setCell ⟨g11, 0, none⟩ (.float .f64 9221120237041090561)).cell? ⟨g12, 0, none⟩ = some (.float .f64 0) := (hS.cell 1 (by simp)).1
    have t1 : ((w1).setCell ⟨g11, 0, none⟩ (.float .f64 9221120237041090561)).frozen? ⟨g12, 0, none⟩ = false := (hS.cell 1 (by simp)).2
    replace hS : Bx base w [(g13, 0), (g12, 0), (g11, 9221120237041090561), (g10, mn), (g9, mx), (g8, 0), (g7, 0), (g6, 0), (g5, b), (g4, g), (g3, r)] (((w1).setCell ⟨g11, 0, none⟩ (.float .f64 9221120237041090561)).setCell ⟨g12, 0, none⟩ (.float .f64 0)) := hS.set 0 hA 1 (by simp)
    replace hA : Apart base [(g13, 0), (g12, 0), (g11, 9221120237041090561), (g10, mn), (g9, mx), (g8, 0), (g7, 0), (g6, 0), (g5, b), (g4, g), (g3, r)] := Apart.of_fst (by rfl) hA
    have s2 : (((w1).setCell ⟨g11, 0, none⟩ (.float .f64 9221120237041090561)).setCell ⟨g12, 0, none⟩ (.float .f64 0)).cell? ⟨g13, 0, none⟩ = some (.float .f64 0) := (hS.cell 0 (by simp)).1
    have t2 : (((w1).setCell ⟨g11, 0, none⟩ (.float .f64 9221120237041090561)).setCell ⟨g12, 0, none⟩ (.float .f64 0)).frozen? ⟨g13, 0, none⟩ = false := (hS.cell 0 (by simp)).2
    replace hS : Bx base w [(g13, li), (g12, 0), (g11, 9221120237041090561), (g10, mn), (g9, mx), (g8, 0), (g7, 0), (g6, 0), (g5, b), (g4, g), (g3, r)] ((((w1).setCell ⟨g11, 0, none⟩ (.float .f64 9221120237041090561)).setCell ⟨g12, 0, none⟩ (.float .f64 0)).setCell ⟨g13, 0, none⟩ (.float .f64 li)) := hS.set li hA 0 (by simp)
    replace hA : Apart base [(g13, li), (g12, 0), (g11, 9221120237041090561), (g10, mn), (g9, mx), (g8, 0), (g7, 0), (g6, 0), (g5, b), (g4, g), (g3, r)] := Apart.of_fst (by rfl) hA
    have HS := Lib.hid (And.intro hS hA)
    clear hS hA
    go_upto_region 4 with fail
    clear s0 t0 s1 t1 s2 t2
    generalize World.setCell _ _ _ = W at *
    clear w1
    have c_g9 : W.cell? ⟨g9, 0, none⟩ = some (.float .f64 mx) := (HS.out.1.cell 4 (by simp)).1
    have c_g10 : W.cell? ⟨g10, 0, none⟩ = some (.float .f64 mn) := (HS.out.1.cell 3 (by simp)).1
    go_wp2_with fail
    refine (Sub_any mx mn d Hd.out _).mono ?_
    rintro e w1 ⟨rfl, hb⟩
    have hS := HS.out.1.keep hb
    have hA := HS.out.2
    clear HS hb c_g9 c_g10
    replace hA := hA.alloc hS d
    replace hS := hS.alloc d 41
    have HS := Lib.hid (And.intro hS hA)
    clear hS hA
    go_upto_region 5 with fail
    generalize World.alloc _ _ = W at *
    generalize w1.heap.size = g14 at *
    clear w1
    have q5 : (FloatKind.f64.format.order d 0 != some .eq) = true := neq_ok Hq5.out
    have c_g14 : W.cell? ⟨g14, 0, none⟩ = some (.float .f64 d) := (HS.out.1.cell 0 (by simp)).1
    go_wp2_with fail
    refine (Value_any d _).mono ?_
    rintro e w1 ⟨rfl, hb⟩
    have hS := HS.out.1.keep hb
    have hA := HS.out.2
    clear HS hb c_g14
    have HS := Lib.hid (And.intro hS hA)
    clear hS hA
    go_upto_region 6 with fail
    generalize w1 = W at *
    clear q5
    refine wp_region_plan 6 (by kernel_rfl) (by kernel_rfl) (PI base w [(g14, d), (g13, li), (g12, 0), (g11, 9221120237041090561), (g10, mn), (g9, mx), (g8, 0), (g7, 0), (g6, 0), (g5, b), (g4, g), (g3, r)] [some 37, some 38, some 39, some 40, some 41, some 15] [5] (fun i => [.agg #[.float .f64 li], .agg #[.float .f64 li], .agg #[.float .f64 nl], .agg #[.float .f64 om], .agg #[.float .f64 dv], .bool false].getD i (.bool false)) _) (PI.start HS.out.1) ?_ ?_
    · intro i o b' a' w' hi ho hb he hI
      rcases (by omega : i = 0 ∨ i = 1 ∨ i = 2 ∨ i = 3 ∨ i = 4 ∨ i = 5) with rfl | rfl | rfl | rfl | rfl | rfl
      · obtain rfl := Option.some.inj ho
        exact hI.stepQuiet hb rfl rfl rfl (op_load _ _ _ g13 li _ rfl ((hI.old rfl).trans rfl) (hI.bx.cell 1 (by simp)).1)
      · obtain rfl := Option.some.inj ho
        exact hI.stepQuiet hb rfl rfl rfl (op_load _ _ _ g13 li _ rfl ((hI.old rfl).trans rfl) (hI.bx.cell 1 (by simp)).1)
      · obtain rfl := Option.some.inj ho
        have e0 := hI.new 1 (edge he 1 (by kernel_rfl)) rfl rfl rfl (by show 38 < 91; decide)
        refine hI.stepCall hb rfl rfl rfl (op_call _ _ 72 Try.f72 _ _ _ rfl Try.func72 (by kernel_rfl) (by kernel_rfl)) ?_
        have hm : Array.map a'.eval #[.tmp 38] = #[.agg #[.float .f64 li]] := by simp [e0]
        rw [hm]
        exact Neg_as li nl Hnl.out _
      · obtain rfl := Option.some.inj ho
        have e0 := hI.new 2 (edge he 2 (by kernel_rfl)) rfl rfl rfl (by show 39 < 91; decide)
        refine hI.stepCall hb rfl rfl rfl (op_call _ _ 59 Try.f59 _ _ _ rfl Try.func59 (by kernel_rfl) (by kernel_rfl)) ?_
        have hm : Array.map a'.eval #[.tmp 39, .const ((Value.float FloatKind.f64 4607182418800017408))] = #[.agg #[.float .f64 nl], (Value.float FloatKind.f64 4607182418800017408)] := by simp [e0, ev_const]
        rw [hm]
        exact AddConst_any nl 4607182418800017408 om Hom.out _
      · obtain rfl := Option.some.inj ho
        have e0 := hI.new 0 (edge he 0 (by kernel_rfl)) rfl rfl rfl (by show 37 < 91; decide)
        have e1 := hI.new 3 (edge he 3 (by kernel_rfl)) rfl rfl rfl (by show 40 < 91; decide)
        refine hI.stepCall hb rfl rfl rfl (op_call _ _ 71 Try.f71 _ _ _ rfl Try.func71 (by kernel_rfl) (by kernel_rfl)) ?_
        have hm : Array.map a'.eval #[.tmp 37, .tmp 40] = #[.agg #[.float .f64 li], .agg #[.float .f64 om]] := by simp [e0, e1]
        rw [hm]
        exact Min2_as li om dv Hdv.out _
      · obtain rfl := Option.some.inj ho
        exact hI.stepAlloc 41 hb rfl rfl rfl rfl (op_alloc _ _ _ rfl)
    · intro b' a' w1 hb hI
      obtain ⟨ρ, rfl, hS, hC, hN⟩ := hI
      have hA := HS.out.2
      clear HS
      have p0 := hb 0 (by decide)
      have p1 := hb 1 (by decide)
      have p2 := hb 2 (by decide)
      have p3 := hb 3 (by decide)
      have p4 := hb 4 (by decide)
      have p5 := hb 5 (by decide)
      obtain ⟨c5, f5, l5, n5⟩ := hC 5 (by simp) p5
      have v0 : vals [5] (fun i => [.agg #[.float .f64 li], .agg #[.float .f64 li], .agg #[.float .f64 nl], .agg #[.float .f64 om], .agg #[.float .f64 dv], .bool false].getD i (.bool false)) ρ 0 = .agg #[.float .f64 li] := rfl
      have v1 : vals [5] (fun i => [.agg #[.float .f64 li], .agg #[.float .f64 li], .agg #[.float .f64 nl], .agg #[.float .f64 om], .agg #[.float .f64 dv], .bool false].getD i (.bool false)) ρ 1 = .agg #[.float .f64 li] := rfl
      have v2 : vals [5] (fun i => [.agg #[.float .f64 li], .agg #[.float .f64 li], .agg #[.float .f64 nl], .agg #[.float .f64 om], .agg #[.float .f64 dv], .bool false].getD i (.bool false)) ρ 2 = .agg #[.float .f64 nl] := rfl
      have v3 : vals [5] (fun i => [.agg #[.float .f64 li], .agg #[.float .f64 li], .agg #[.float .f64 nl], .agg #[.float .f64 om], .agg #[.float .f64 dv], .bool false].getD i (.bool false)) ρ 3 = .agg #[.float .f64 om] := rfl
      have v4 : vals [5] (fun i => [.agg #[.float .f64 li], .agg #[.float .f64 li], .agg #[.float .f64 nl], .agg #[.float .f64 om], .agg #[.float .f64 dv], .bool false].getD i (.bool false)) ρ 4 = .agg #[.float .f64 dv] := rfl
      have v5 : vals [5] (fun i => [.agg #[.float .f64 li], .agg #[.float .f64 li], .agg #[.float .f64 nl], .agg #[.float .f64 om], .agg #[.float .f64 dv], .bool false].getD i (.bool false)) ρ 5 = .pointer (some ⟨(ρ 5), 0, none⟩) := rfl
      simp only [puts, Nat.zero_add, p0, p1, p2, p3, p4, p5, v0, v1, v2, v3, v4, v5, if_true, List.drop_succ_cons, List.drop_zero, Nat.reduceAdd]
      clear hb hC hN p0 p1 p2 p3 p4 p5 v0 v1 v2 v3 v4 v5
      generalize ρ 5 = g15 at *
      replace hA : Apart base ((g15, 0) :: [(g14, d), (g13, li), (g12, 0), (g11, 9221120237041090561), (g10, mn), (g9, mx), (g8, 0), (g7, 0), (g6, 0), (g5, b), (g4, g), (g3, r)]) := ⟨l5, n5, hA⟩
      replace hS : Bx base w ((g15, 0) :: [(g14, d), (g13, li), (g12, 0), (g11, 9221120237041090561), (g10, mn), (g9, mx), (g8, 0), (g7, 0), (g6, 0), (g5, b), (g4, g), (g3, r)]) w1 := ⟨c5, f5, hS⟩
      clear c5 f5 l5 n5 
      clear ρ b'
      have s0 : (w1).cell? ⟨g15, 0, none⟩ = some (.float .f64 0) := (hS.cell 0 (by simp)).1
      have t0 : (w1).frozen? ⟨g15, 0, none⟩ = false := (hS.cell 0 (by simp)).2
      replace hS : Bx base w [(g15, dv), (g14, d), (g13, li), (g12, 0), (g11, 9221120237041090561), (g10, mn), (g9, mx), (g8, 0), (g7, 0), (g6, 0), (g5, b), (g4, g), (g3, r)] ((w1).setCell ⟨g15, 0, none⟩ (.float .f64 dv)) := hS.set dv hA 0 (by simp)
      replace hA : Apart base [(g15, dv), (g14, d), (g13, li), (g12, 0), (g11, 9221120237041090561), (g10, mn), (g9, mx), (g8, 0), (g7, 0), (g6, 0), (g5, b), (g4, g), (g3, r)] := Apart.of_fst (by rfl) hA
      have HS := Lib.hid (And.intro hS hA)
      clear hS hA
      go_upto_region 7 with fail
      clear s0 t0
      generalize World.setCell _ _ _ = W at *
      clear w1
      have q7 : (FloatKind.f64.format.order dv 0 != some .eq) = true := neq_ok Hq7.out
      have c_g15 : W.cell? ⟨g15, 0, none⟩ = some (.float .f64 dv) := (HS.out.1.cell 0 (by simp)).1
      go_wp2_with fail
      refine (Value_any dv _).mono ?_
      rintro e w1 ⟨rfl, hb⟩
      have hS := HS.out.1.keep hb
      have hA := HS.out.2
      clear HS hb c_g15
      have HS := Lib.hid (And.intro hS hA)
      clear hS hA
      go_upto_region 8 with fail
      generalize w1 = W at *
      clear q7
      refine wp_region_plan 5 (by kernel_rfl) (by kernel_rfl) (PI base w [(g15, dv), (g14, d), (g13, li), (g12, 0), (g11, 9221120237041090561), (g10, mn), (g9, mx), (g8, 0), (g7, 0), (g6, 0), (g5, b), (g4, g), (g3, r)] [some 45, some 46, some 47, some 48, some 49] [] (fun i => [.agg #[.float .f64 mx], .agg #[.float .f64 li], .agg #[.float .f64 t], .agg #[.float .f64 dv], .agg #[.float .f64 sat]].getD i (.bool false)) _) (PI.start HS.out.1) ?_ ?_
      · intro i o b' a' w' hi ho hb he hI
        rcases (by omega : i = 0 ∨ i = 1 ∨ i = 2 ∨ i = 3 ∨ i = 4) with rfl | rfl | rfl | rfl | rfl
        · obtain rfl := Option.some.inj ho
          exact hI.stepQuiet hb rfl rfl rfl (op_load _ _ _ g9 mx _ rfl ((hI.old rfl).trans rfl) (hI.bx.cell 6 (by simp)).1)
        · obtain rfl := Option.some.inj ho
          exact hI.stepQuiet hb rfl rfl rfl (op_load _ _ _ g13 li _ rfl ((hI.old rfl).trans rfl) (hI.bx.cell 2 (by simp)).1)
        · obtain rfl := Option.some.inj ho
          have e0 := hI.new 0 (edge he 0 (by kernel_rfl)) rfl rfl rfl (by show 45 < 91; decide)
          have e1 := hI.new 1 (edge he 1 (by kernel_rfl)) rfl rfl rfl (by show 46 < 91; decide)
          refine hI.stepCall hb rfl rfl rfl (op_call _ _ 62 Try.f62 _ _ _ rfl Try.func62 (by kernel_rfl) (by kernel_rfl)) ?_
          have hm : Array.map a'.eval #[.tmp 45, .tmp 46] = #[.agg #[.float .f64 mx], .agg #[.float .f64 li]] := by simp [e0, e1]
          rw [hm]
          exact Sub_any mx li t Ht.out _
        · obtain rfl := Option.some.inj ho
          exact hI.stepQuiet hb rfl rfl rfl (op_load _ _ _ g15 dv _ rfl ((hI.old rfl).trans rfl) (hI.bx.cell 0 (by simp)).1)
        · obtain rfl := Option.some.inj ho
          have e0 := hI.new 2 (edge he 2 (by kernel_rfl)) rfl rfl rfl (by show 47 < 91; decide)
          have e1 := hI.new 3 (edge he 3 (by kernel_rfl)) rfl rfl rfl (by show 48 < 91; decide)
          refine hI.stepCall hb rfl rfl rfl (op_call _ _ 73 Try.f73 _ _ _ rfl Try.func73 (by kernel_rfl) (by kernel_rfl)) ?_
          have hm : Array.map a'.eval #[.tmp 47, .tmp 48] = #[.agg #[.float .f64 t], .agg #[.float .f64 dv]] := by simp [e0, e1]
          rw [hm]
          exact Div_any t dv sat Hsat.out _
      · intro b' a' w1 hb hI
        obtain ⟨ρ, rfl, hS, hC, hN⟩ := hI
        have hA := HS.out.2
        clear HS
        have p0 := hb 0 (by decide)
        have p1 := hb 1 (by decide)
        have p2 := hb 2 (by decide)
        have p3 := hb 3 (by decide)
        have p4 := hb 4 (by decide)
        have v0 : vals [] (fun i => [.agg #[.float .f64 mx], .agg #[.float .f64 li], .agg #[.float .f64 t], .agg #[.float .f64 dv], .agg #[.float .f64 sat]].getD i (.bool false)) ρ 0 = .agg #[.float .f64 mx] := rfl
        have v1 : vals [] (fun i => [.agg #[.float .f64 mx], .agg #[.float .f64 li], .agg #[.float .f64 t], .agg #[.float .f64 dv], .agg #[.float .f64 sat]].getD i (.bool false)) ρ 1 = .agg #[.float .f64 li] := rfl
        have v2 : vals [] (fun i => [.agg #[.float .f64 mx], .agg #[.float .f64 li], .agg #[.float .f64 t], .agg #[.float .f64 dv], .agg #[.float .f64 sat]].getD i (.bool false)) ρ 2 = .agg #[.float .f64 t] := rfl
        have v3 : vals [] (fun i => [.agg #[.float .f64 mx], .agg #[.float .f64 li], .agg #[.float .f64 t], .agg #[.float .f64 dv], .agg #[.float .f64 sat]].getD i (.bool false)) ρ 3 = .agg #[.float .f64 dv] := rfl
        have v4 : vals [] (fun i => [.agg #[.float .f64 mx], .agg #[.float .f64 li], .agg #[.float .f64 t], .agg #[.float .f64 dv], .agg #[.float .f64 sat]].getD i (.bool false)) ρ 4 = .agg #[.float .f64 sat] := rfl
        simp only [puts, Nat.zero_add, p0, p1, p2, p3, p4, v0, v1, v2, v3, v4, if_true, List.drop_succ_cons, List.drop_zero, Nat.reduceAdd]
        clear hb hC hN p0 p1 p2 p3 p4 v0 v1 v2 v3 v4
        clear ρ b'
        have s0 : (w1).cell? ⟨g12, 0, none⟩ = some (.float .f64 0) := (hS.cell 3 (by simp)).1
        have t0 : (w1).frozen? ⟨g12, 0, none⟩ = false := (hS.cell 3 (by simp)).2
        replace hS : Bx base w [(g15, dv), (g14, d), (g13, li), (g12, sat), (g11, 9221120237041090561), (g10, mn), (g9, mx), (g8, 0), (g7, 0), (g6, 0), (g5, b), (g4, g), (g3, r)] ((w1).setCell ⟨g12, 0, none⟩ (.float .f64 sat)) := hS.set sat hA 3 (by simp)
        replace hA : Apart base [(g15, dv), (g14, d), (g13, li), (g12, sat), (g11, 9221120237041090561), (g10, mn), (g9, mx), (g8, 0), (g7, 0), (g6, 0), (g5, b), (g4, g), (g3, r)] := Apart.of_fst (by rfl) hA
        have HS := Lib.hid (And.intro hS hA)
        clear hS hA
        go_upto_region 9 with fail
        clear s0 t0
        generalize World.setCell _ _ _ = W at *
        clear w1
        have c_g9 : W.cell? ⟨g9, 0, none⟩ = some (.float .f64 mx) := (HS.out.1.cell 6 (by simp)).1
        go_upto_region 10 with fail
        clear c_g9
        have q10 := fun w => run_eql_f64 mx r false w Hq10.out
        have c_g3 : W.cell? ⟨g3, 0, none⟩ = some (.float .f64 r) := (HS.out.1.cell 12 (by simp)).1
        go_upto_region 14 with fail
        clear c_g3
        clear q10
        have q14 := fun w => run_eql_f64 mx g false w Hq14.out
        have c_g4 : W.cell? ⟨g4, 0, none⟩ = some (.float .f64 g) := (HS.out.1.cell 11 (by simp)).1
        go_upto_region 16 with fail
        clear c_g4
        clear q14
        have q16 := fun w => run_eql_f64 mx b true w Hq16.out
        have c_g5 : W.cell? ⟨g5, 0, none⟩ = some (.float .f64 b) := (HS.out.1.cell 10 (by simp)).1
        go_upto_region 17 with fail
        clear c_g5
        clear q16
        refine wp_region_plan 6 (by kernel_rfl) (by kernel_rfl) (PI base w [(g15, dv), (g14, d), (g13, li), (g12, sat), (g11, 9221120237041090561), (g10, mn), (g9, mx), (g8, 0), (g7, 0), (g6, 0), (g5, b), (g4, g), (g3, r)] [some 78, some 79, some 80, some 81, some 82, some 83] [] (fun i => [.agg #[.float .f64 r], .agg #[.float .f64 g], .agg #[.float .f64 p], .agg #[.float .f64 d], .agg #[.float .f64 q], .agg #[.float .f64 h0]].getD i (.bool false)) _) (PI.start HS.out.1) ?_ ?_
        · intro i o b' a' w' hi ho hb he hI
          rcases (by omega : i = 0 ∨ i = 1 ∨ i = 2 ∨ i = 3 ∨ i = 4 ∨ i = 5) with rfl | rfl | rfl | rfl | rfl | rfl
          · obtain rfl := Option.some.inj ho
            exact hI.stepQuiet hb rfl rfl rfl (op_load _ _ _ g3 r _ rfl ((hI.old rfl).trans rfl) (hI.bx.cell 12 (by simp)).1)
          · obtain rfl := Option.some.inj ho
            exact hI.stepQuiet hb rfl rfl rfl (op_load _ _ _ g4 g _ rfl ((hI.old rfl).trans rfl) (hI.bx.cell 11 (by simp)).1)
          · obtain rfl := Option.some.inj ho
            have e0 := hI.new 0 (edge he 0 (by kernel_rfl)) rfl rfl rfl (by show 78 < 91; decide)
            have e1 := hI.new 1 (edge he 1 (by kernel_rfl)) rfl rfl rfl (by show 79 < 91; decide)
            refine hI.stepCall hb rfl rfl rfl (op_call _ _ 62 Try.f62 _ _ _ rfl Try.func62 (by kernel_rfl) (by kernel_rfl)) ?_
            have hm : Array.map a'.eval #[.tmp 78, .tmp 79] = #[.agg #[.float .f64 r], .agg #[.float .f64 g]] := by simp [e0, e1]
            rw [hm]
            exact Sub_any r g p Hp.out _
          · obtain rfl := Option.some.inj ho
            exact hI.stepQuiet hb rfl rfl rfl (op_load _ _ _ g14 d _ rfl ((hI.old rfl).trans rfl) (hI.bx.cell 1 (by simp)).1)
          · obtain rfl := Option.some.inj ho
            have e0 := hI.new 2 (edge he 2 (by kernel_rfl)) rfl rfl rfl (by show 80 < 91; decide)
            have e1 := hI.new 3 (edge he 3 (by kernel_rfl)) rfl rfl rfl (by show 81 < 91; decide)
            refine hI.stepCall hb rfl rfl rfl (op_call _ _ 73 Try.f73 _ _ _ rfl Try.func73 (by kernel_rfl) (by kernel_rfl)) ?_
            have hm : Array.map a'.eval #[.tmp 80, .tmp 81] = #[.agg #[.float .f64 p], .agg #[.float .f64 d]] := by simp [e0, e1]
            rw [hm]
            exact Div_any p d q Hq.out _
          · obtain rfl := Option.some.inj ho
            have e0 := hI.new 4 (edge he 4 (by kernel_rfl)) rfl rfl rfl (by show 82 < 91; decide)
            refine hI.stepCall hb rfl rfl rfl (op_call _ _ 59 Try.f59 _ _ _ rfl Try.func59 (by kernel_rfl) (by kernel_rfl)) ?_
            have hm : Array.map a'.eval #[.tmp 82, .const ((Value.float FloatKind.f64 4616189618054758400))] = #[.agg #[.float .f64 q], (Value.float FloatKind.f64 4616189618054758400)] := by simp [e0, ev_const]
            rw [hm]
            exact AddConst_any q 4616189618054758400 h0 Hh0.out _
        · intro b' a' w1 hb hI
          obtain ⟨ρ, rfl, hS, hC, hN⟩ := hI
          have hA := HS.out.2
          clear HS
          have p0 := hb 0 (by decide)
          have p1 := hb 1 (by decide)
          have p2 := hb 2 (by decide)
          have p3 := hb 3 (by decide)
          have p4 := hb 4 (by decide)
          have p5 := hb 5 (by decide)
          have v0 : vals [] (fun i => [.agg #[.float .f64 r], .agg #[.float .f64 g], .agg #[.float .f64 p], .agg #[.float .f64 d], .agg #[.float .f64 q], .agg #[.float .f64 h0]].getD i (.bool false)) ρ 0 = .agg #[.float .f64 r] := rfl
          have v1 : vals [] (fun i => [.agg #[.float .f64 r], .agg #[.float .f64 g], .agg #[.float .f64 p], .agg #[.float .f64 d], .agg #[.float .f64 q], .agg #[.float .f64 h0]].getD i (.bool false)) ρ 1 = .agg #[.float .f64 g] := rfl
          have v2 : vals [] (fun i => [.agg #[.float .f64 r], .agg #[.float .f64 g], .agg #[.float .f64 p], .agg #[.float .f64 d], .agg #[.float .f64 q], .agg #[.float .f64 h0]].getD i (.bool false)) ρ 2 = .agg #[.float .f64 p] := rfl
          have v3 : vals [] (fun i => [.agg #[.float .f64 r], .agg #[.float .f64 g], .agg #[.float .f64 p], .agg #[.float .f64 d], .agg #[.float .f64 q], .agg #[.float .f64 h0]].getD i (.bool false)) ρ 3 = .agg #[.float .f64 d] := rfl
          have v4 : vals [] (fun i => [.agg #[.float .f64 r], .agg #[.float .f64 g], .agg #[.float .f64 p], .agg #[.float .f64 d], .agg #[.float .f64 q], .agg #[.float .f64 h0]].getD i (.bool false)) ρ 4 = .agg #[.float .f64 q] := rfl
          have v5 : vals [] (fun i => [.agg #[.float .f64 r], .agg #[.float .f64 g], .agg #[.float .f64 p], .agg #[.float .f64 d], .agg #[.float .f64 q], .agg #[.float .f64 h0]].getD i (.bool false)) ρ 5 = .agg #[.float .f64 h0] := rfl
          simp only [puts, Nat.zero_add, p0, p1, p2, p3, p4, p5, v0, v1, v2, v3, v4, v5, if_true, List.drop_succ_cons, List.drop_zero, Nat.reduceAdd]
          clear hb hC hN p0 p1 p2 p3 p4 p5 v0 v1 v2 v3 v4 v5
          clear ρ b'
          have s0 : (w1).cell? ⟨g11, 0, none⟩ = some (.float .f64 9221120237041090561) := (hS.cell 4 (by simp)).1
          have t0 : (w1).frozen? ⟨g11, 0, none⟩ = false := (hS.cell 4 (by simp)).2
          replace hS : Bx base w [(g15, dv), (g14, d), (g13, li), (g12, sat), (g11, h0), (g10, mn), (g9, mx), (g8, 0), (g7, 0), (g6, 0), (g5, b), (g4, g), (g3, r)] ((w1).setCell ⟨g11, 0, none⟩ (.float .f64 h0)) := hS.set h0 hA 4 (by simp)
          replace hA : Apart base [(g15, dv), (g14, d), (g13, li), (g12, sat), (g11, h0), (g10, mn), (g9, mx), (g8, 0), (g7, 0), (g6, 0), (g5, b), (g4, g), (g3, r)] := Apart.of_fst (by rfl) hA
          have HS := Lib.hid (And.intro hS hA)
          clear hS hA
          go_upto_region 18 with fail
          clear s0 t0
          generalize World.setCell _ _ _ = W at *
          clear w1
          have c_g11 : W.cell? ⟨g11, 0, none⟩ = some (.float .f64 h0) := (HS.out.1.cell 4 (by simp)).1
          go_wp2_with fail
          refine (MulConst_any h0 4633641066610819072 h Hh.out _).mono ?_
          rintro e w1 ⟨rfl, hb⟩
          have hS := HS.out.1.keep hb
          have hA := HS.out.2
          clear HS hb c_g11
          have s0 : (w1).cell? ⟨g11, 0, none⟩ = some (.float .f64 h0) := (hS.cell 4 (by simp)).1
          have t0 : (w1).frozen? ⟨g11, 0, none⟩ = false := (hS.cell 4 (by simp)).2
          replace hS : Bx base w [(g15, dv), (g14, d), (g13, li), (g12, sat), (g11, h), (g10, mn), (g9, mx), (g8, 0), (g7, 0), (g6, 0), (g5, b), (g4, g), (g3, r)] ((w1).setCell ⟨g11, 0, none⟩ (.float .f64 h)) := hS.set h hA 4 (by simp)
          replace hA : Apart base [(g15, dv), (g14, d), (g13, li), (g12, sat), (g11, h), (g10, mn), (g9, mx), (g8, 0), (g7, 0), (g6, 0), (g5, b), (g4, g), (g3, r)] := Apart.of_fst (by rfl) hA
          have HS := Lib.hid (And.intro hS hA)
          clear hS hA
          go_upto_region 19 with fail
          clear s0 t0
          generalize World.setCell _ _ _ = W at *
          clear w1
          refine wp_region_plan 5 (by kernel_rfl) (by kernel_rfl) (PI base w [(g15, dv), (g14, d), (g13, li), (g12, sat), (g11, h), (g10, mn), (g9, mx), (g8, 0), (g7, 0), (g6, 0), (g5, b), (g4, g), (g3, r)] [some 86, some 87, some 88, some 89, some 90] [] (fun i => [.agg #[.float .f64 h], .agg #[.float .f64 sat], .agg #[.float .f64 sO], .agg #[.float .f64 li], .agg #[.float .f64 lO]].getD i (.bool false)) _) (PI.start HS.out.1) ?_ ?_
          · intro i o b' a' w' hi ho hb he hI
            rcases (by omega : i = 0 ∨ i = 1 ∨ i = 2 ∨ i = 3 ∨ i = 4) with rfl | rfl | rfl | rfl | rfl
            · obtain rfl := Option.some.inj ho
              exact hI.stepQuiet hb rfl rfl rfl (op_load _ _ _ g11 h _ rfl ((hI.old rfl).trans rfl) (hI.bx.cell 4 (by simp)).1)
            · obtain rfl := Option.some.inj ho
              exact hI.stepQuiet hb rfl rfl rfl (op_load _ _ _ g12 sat _ rfl ((hI.old rfl).trans rfl) (hI.bx.cell 3 (by simp)).1)
            · obtain rfl := Option.some.inj ho
              have e0 := hI.new 1 (edge he 1 (by kernel_rfl)) rfl rfl rfl (by show 87 < 91; decide)
              refine hI.stepCall hb rfl rfl rfl (op_call _ _ 63 Try.f63 _ _ _ rfl Try.func63 (by kernel_rfl) (by kernel_rfl)) ?_
              have hm : Array.map a'.eval #[.tmp 87, .const ((Value.float FloatKind.f64 4636737291354636288))] = #[.agg #[.float .f64 sat], (Value.float FloatKind.f64 4636737291354636288)] := by simp [e0, ev_const]
              rw [hm]
              exact MulConst_any sat 4636737291354636288 sO HsO.out _
            · obtain rfl := Option.some.inj ho
              exact hI.stepQuiet hb rfl rfl rfl (op_load _ _ _ g13 li _ rfl ((hI.old rfl).trans rfl) (hI.bx.cell 2 (by simp)).1)
            · obtain rfl := Option.some.inj ho
              have e0 := hI.new 3 (edge he 3 (by kernel_rfl)) rfl rfl rfl (by show 89 < 91; decide)
              refine hI.stepCall hb rfl rfl rfl (op_call _ _ 63 Try.f63 _ _ _ rfl Try.func63 (by kernel_rfl) (by kernel_rfl)) ?_
              have hm : Array.map a'.eval #[.tmp 89, .const ((Value.float FloatKind.f64 4636737291354636288))] = #[.agg #[.float .f64 li], (Value.float FloatKind.f64 4636737291354636288)] := by simp [e0, ev_const]
              rw [hm]
              exact MulConst_any li 4636737291354636288 lO HlO.out _
          · intro b' a' w1 hb hI
            obtain ⟨ρ, rfl, hS, hC, hN⟩ := hI
            have hA := HS.out.2
            clear HS
            have p0 := hb 0 (by decide)
            have p1 := hb 1 (by decide)
            have p2 := hb 2 (by decide)
            have p3 := hb 3 (by decide)
            have p4 := hb 4 (by decide)
            have v0 : vals [] (fun i => [.agg #[.float .f64 h], .agg #[.float .f64 sat], .agg #[.float .f64 sO], .agg #[.float .f64 li], .agg #[.float .f64 lO]].getD i (.bool false)) ρ 0 = .agg #[.float .f64 h] := rfl
            have v1 : vals [] (fun i => [.agg #[.float .f64 h], .agg #[.float .f64 sat], .agg #[.float .f64 sO], .agg #[.float .f64 li], .agg #[.float .f64 lO]].getD i (.bool false)) ρ 1 = .agg #[.float .f64 sat] := rfl
            have v2 : vals [] (fun i => [.agg #[.float .f64 h], .agg #[.float .f64 sat], .agg #[.float .f64 sO], .agg #[.float .f64 li], .agg #[.float .f64 lO]].getD i (.bool false)) ρ 2 = .agg #[.float .f64 sO] := rfl
            have v3 : vals [] (fun i => [.agg #[.float .f64 h], .agg #[.float .f64 sat], .agg #[.float .f64 sO], .agg #[.float .f64 li], .agg #[.float .f64 lO]].getD i (.bool false)) ρ 3 = .agg #[.float .f64 li] := rfl
            have v4 : vals [] (fun i => [.agg #[.float .f64 h], .agg #[.float .f64 sat], .agg #[.float .f64 sO], .agg #[.float .f64 li], .agg #[.float .f64 lO]].getD i (.bool false)) ρ 4 = .agg #[.float .f64 lO] := rfl
            simp only [puts, Nat.zero_add, p0, p1, p2, p3, p4, v0, v1, v2, v3, v4, if_true, List.drop_succ_cons, List.drop_zero, Nat.reduceAdd]
            clear hb hC hN p0 p1 p2 p3 p4 v0 v1 v2 v3 v4
            clear ρ b'
            have s0 : (w1).cell? ⟨g6, 0, none⟩ = some (.float .f64 0) := (hS.cell 9 (by simp)).1
            have t0 : (w1).frozen? ⟨g6, 0, none⟩ = false := (hS.cell 9 (by simp)).2
            replace hS : Bx base w [(g15, dv), (g14, d), (g13, li), (g12, sat), (g11, h), (g10, mn), (g9, mx), (g8, 0), (g7, 0), (g6, h), (g5, b), (g4, g), (g3, r)] ((w1).setCell ⟨g6, 0, none⟩ (.float .f64 h)) := hS.set h hA 9 (by simp)
            replace hA : Apart base [(g15, dv), (g14, d), (g13, li), (g12, sat), (g11, h), (g10, mn), (g9, mx), (g8, 0), (g7, 0), (g6, h), (g5, b), (g4, g), (g3, r)] := Apart.of_fst (by rfl) hA
            have s1 : ((w1).setCell ⟨g6, 0, none⟩ (.float .f64 h)).cell? ⟨g7, 0, none⟩ = some (.float .f64 0) := (hS.cell 8 (by simp)).1
            have t1 : ((w1).setCell ⟨g6, 0, none⟩ (.float .f64 h)).frozen? ⟨g7, 0, none⟩ = false := (hS.cell 8 (by simp)).2
            replace hS : Bx base w [(g15, dv), (g14, d), (g13, li), (g12, sat), (g11, h), (g10, mn), (g9, mx), (g8, 0), (g7, sO), (g6, h), (g5, b), (g4, g), (g3, r)] (((w1).setCell ⟨g6, 0, none⟩ (.float .f64 h)).setCell ⟨g7, 0, none⟩ (.float .f64 sO)) := hS.set sO hA 8 (by simp)
            replace hA : Apart base [(g15, dv), (g14, d), (g13, li), (g12, sat), (g11, h), (g10, mn), (g9, mx), (g8, 0), (g7, sO), (g6, h), (g5, b), (g4, g), (g3, r)] := Apart.of_fst (by rfl) hA
            have s2 : (((w1).setCell ⟨g6, 0, none⟩ (.float .f64 h)).setCell ⟨g7, 0, none⟩ (.float .f64 sO)).cell? ⟨g8, 0, none⟩ = some (.float .f64 0) := (hS.cell 7 (by simp)).1
            have t2 : (((w1).setCell ⟨g6, 0, none⟩ (.float .f64 h)).setCell ⟨g7, 0, none⟩ (.float .f64 sO)).frozen? ⟨g8, 0, none⟩ = false := (hS.cell 7 (by simp)).2
            replace hS : Bx base w [(g15, dv), (g14, d), (g13, li), (g12, sat), (g11, h), (g10, mn), (g9, mx), (g8, lO), (g7, sO), (g6, h), (g5, b), (g4, g), (g3, r)] ((((w1).setCell ⟨g6, 0, none⟩ (.float .f64 h)).setCell ⟨g7, 0, none⟩ (.float .f64 sO)).setCell ⟨g8, 0, none⟩ (.float .f64 lO)) := hS.set lO hA 7 (by simp)
            replace hA : Apart base [(g15, dv), (g14, d), (g13, li), (g12, sat), (g11, h), (g10, mn), (g9, mx), (g8, lO), (g7, sO), (g6, h), (g5, b), (g4, g), (g3, r)] := Apart.of_fst (by rfl) hA
            have HS := Lib.hid (And.intro hS hA)
            clear hS hA
            go_wp2_with fail
            clear s0 t0 s1 t1 s2 t2
            generalize World.setCell _ _ _ = W at *
            clear w1
            have c_g6 : W.cell? ⟨g6, 0, none⟩ = some (.float .f64 h) := (HS.out.1.cell 9 (by simp)).1
            have c_g7 : W.cell? ⟨g7, 0, none⟩ = some (.float .f64 sO) := (HS.out.1.cell 8 (by simp)).1
            have c_g8 : W.cell? ⟨g8, 0, none⟩ = some (.float .f64 lO) := (HS.out.1.cell 7 (by simp)).1
            refine bodyPost_ret (v := .tuple #[.agg #[.float .f64 h], .agg #[.float .f64 sO], .agg #[.float .f64 lO]]) (by simp [results, Try.results50, go_sem, c_g6, c_g7, c_g8]) rfl ⟨rfl, HS.out.1.below.2⟩
end Go.Proofs.Ytafeeebgleecfaa.Mat
