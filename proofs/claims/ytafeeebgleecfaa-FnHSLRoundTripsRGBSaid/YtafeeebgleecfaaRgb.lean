/-
  hsl_to_rgb and the function inside it, told by the numbers that they reckon.
-/
import Derived.Test.YtafeeebgleecfaaPd
namespace Go.Proofs.Ytafeeebgleecfaa.Mat
open Go.ChangeShapes Go.WideShapes Go.ChangeAt Go.RowKit
open FL Pl
set_option linter.unusedVariables false
attribute [local go_sem] run_store_float
/-- one channel: every number that the inner function reckons from hue, light and sat at 'n' -/
structure Chan (hu li sa n k0 k1 k2 fk k3 k no om mi a x1 nk x2 mn3 t y z : Nat) : Prop where
  h0 : Ieee.double.div hu 4629137466983448576 = some k0
  h1 : Ieee.double.add k0 n = some k1
  h2 : Ieee.double.div k1 4622945017495814144 = some k2
  h3 : Finite k2 ∧ floorW k2 = fk
  h4 : Ieee.double.sub k2 fk = some k3
  h5 : Ieee.double.mul k3 4622945017495814144 = some k
  h6 : FL.flip li = no
  h7 : Ieee.double.add no 4607182418800017408 = some om
  h8 : minW li om = mi
  h9 : Ieee.double.mul mi sa = some a
  h10 : Ieee.double.sub k 4613937818241073152 = some x1
  h11 : FL.flip k = nk
  h12 : Ieee.double.add nk 4621256167635550208 = some x2
  h13 : minW (minW x1 x2) 4607182418800017408 = mn3
  h14 : maxW 13830554455654793216 mn3 = t
  h15 : Ieee.double.mul t a = some y
  h16 : Ieee.double.sub li y = some z
set_option maxRecDepth 100000 in
set_option maxHeartbeats 4000000 in
theorem chan_any (g3 g4 g5 g6 g7 g8 o6 o7 o8 hu li sa n k0 k1 k2 fk k3 k no om mi a x1 nk x2 mn3 t y z base : Nat) (w W : World) (HS : Hid (Bx base w [(g8, o8), (g7, o7), (g6, o6), (g5, li), (g4, sa), (g3, hu)] W ∧ Apart base [(g8, o8), (g7, o7), (g6, o6), (g5, li), (g4, sa), (g3, hu)])) (HC : Hid (Chan hu li sa n k0 k1 k2 fk k3 k no om mi a x1 nk x2 mn3 t y z)) :
    Calls Try.prog 75 #[.float .f64 n, .pointer (some ⟨g3, 0, none⟩), .pointer (some ⟨g5, 0, none⟩), .pointer (some ⟨g4, 0, none⟩)] W fun e w' => e = .returned (.agg #[.float .f64 z]) ∧ Bx base w [(g8, o8), (g7, o7), (g6, o6), (g5, li), (g4, sa), (g3, hu)] w' := by
  go_enter Try.func75, Try.ntmps75
  have hS := HS.out.1
  have hA := HS.out.2
  clear HS
  generalize W = w1 at *
  replace hA := hA.alloc hS 0
  replace hS := hS.alloc 0 41
  have HS := Lib.hid (And.intro hS hA)
  clear hS hA
  go_upto_region 1 with fail
  generalize World.alloc _ _ = W at *
  generalize w1.heap.size = q5 at *
  clear w1
  have c_g3 : W.cell? ⟨g3, 0, none⟩ = some (.float .f64 hu) := (HS.out.1.cell 6 (by simp)).1
  go_wp2_with fail
  refine (DivConst_any hu 4629137466983448576 k0 HC.out.h0 _).mono ?_
  rintro e w1 ⟨rfl, hb⟩
  have hS := HS.out.1.keep hb
  have hA := HS.out.2
  clear HS hb c_g3
  have HS := Lib.hid (And.intro hS hA)
  clear hS hA
  go_wp2_with fail
  refine (AddConst_any k0 n k1 HC.out.h1 _).mono ?_
  rintro e w2 ⟨rfl, hb⟩
  have hS := HS.out.1.keep hb
  have hA := HS.out.2
  clear HS hb 
  clear w1
  generalize w2 = w1 at *
  replace hA := hA.alloc hS k1
  replace hS := hS.alloc k1 41
  have HS := Lib.hid (And.intro hS hA)
  clear hS hA
  go_upto_region 2 with fail
  generalize World.alloc _ _ = W at *
  generalize w1.heap.size = q6 at *
  clear w1
  have c_q6 : W.cell? ⟨q6, 0, none⟩ = some (.float .f64 k1) := (HS.out.1.cell 0 (by simp)).1
  go_wp2_with fail
  refine (DivConst_any k1 4622945017495814144 k2 HC.out.h2 _).mono ?_
  rintro e w1 ⟨rfl, hb⟩
  have hS := HS.out.1.keep hb
  have hA := HS.out.2
  clear HS hb c_q6
  have s0 : (w1).cell? ⟨q6, 0, none⟩ = some (.float .f64 k1) := (hS.cell 0 (by simp)).1
  have t0 : (w1).frozen? ⟨q6, 0, none⟩ = false := (hS.cell 0 (by simp)).2
  replace hS : Bx base w [(q6, k2), (q5, 0), (g8, o8), (g7, o7), (g6, o6), (g5, li), (g4, sa), (g3, hu)] ((w1).setCell ⟨q6, 0, none⟩ (.float .f64 k2)) := hS.set k2 hA 0 (by simp)
  replace hA : Apart base [(q6, k2), (q5, 0), (g8, o8), (g7, o7), (g6, o6), (g5, li), (g4, sa), (g3, hu)] := Apart.of_fst (by rfl) hA
  have HS := Lib.hid (And.intro hS hA)
  clear hS hA
  go_upto_region 3 with fail
  clear s0 t0
  generalize World.setCell _ _ _ = W at *
  clear w1
  refine wp_region_plan 4 (by kernel_rfl) (by kernel_rfl) (PI base w [(q6, k2), (q5, 0), (g8, o8), (g7, o7), (g6, o6), (g5, li), (g4, sa), (g3, hu)] [some 14, some 15, some 16, some 17] [] (fun i => [.agg #[.float .f64 k2], .agg #[.float .f64 k2], .agg #[.float .f64 fk], .agg #[.float .f64 k3]].getD i (.bool false)) _) (PI.start HS.out.1) ?_ ?_
  · intro i o b' a' w' hi ho hb he hI
    rcases (by omega : i = 0 ∨ i = 1 ∨ i = 2 ∨ i = 3) with rfl | rfl | rfl | rfl
    · obtain rfl := Option.some.inj ho
      exact hI.stepQuiet hb rfl rfl rfl (op_load _ _ _ q6 k2 _ rfl ((hI.old rfl).trans rfl) (hI.bx.cell 0 (by simp)).1)
    · obtain rfl := Option.some.inj ho
      exact hI.stepQuiet hb rfl rfl rfl (op_load _ _ _ q6 k2 _ rfl ((hI.old rfl).trans rfl) (hI.bx.cell 0 (by simp)).1)
    · obtain rfl := Option.some.inj ho
      have e0 := hI.new 1 (edge he 1 (by kernel_rfl)) rfl rfl rfl (by show 15 < 40; decide)
      refine hI.stepCall hb rfl rfl rfl (op_call _ _ 74 Try.f74 _ _ _ rfl Try.func74 (by kernel_rfl) (by kernel_rfl)) ?_
      have hm : Array.map a'.eval #[.tmp 15] = #[.agg #[.float .f64 k2]] := by simp [e0]
      rw [hm]
      exact Floor_as k2 fk HC.out.h3.1 HC.out.h3.2 _
    · obtain rfl := Option.some.inj ho
      have e0 := hI.new 0 (edge he 0 (by kernel_rfl)) rfl rfl rfl (by show 14 < 40; decide)
      have e1 := hI.new 2 (edge he 2 (by kernel_rfl)) rfl rfl rfl (by show 16 < 40; decide)
      refine hI.stepCall hb rfl rfl rfl (op_call _ _ 62 Try.f62 _ _ _ rfl Try.func62 (by kernel_rfl) (by kernel_rfl)) ?_
      have hm : Array.map a'.eval #[.tmp 14, .tmp 16] = #[.agg #[.float .f64 k2], .agg #[.float .f64 fk]] := by simp [e0, e1]
      rw [hm]
      exact Sub_any k2 fk k3 HC.out.h4 _
  · intro b' a' w1 hb hI
    obtain ⟨ρ, rfl, hS, hC, hN⟩ := hI
    have hA := HS.out.2
    clear HS
    have p0 := hb 0 (by decide)
    have p1 := hb 1 (by decide)
    have p2 := hb 2 (by decide)
    have p3 := hb 3 (by decide)
    have v0 : vals [] (fun i => [.agg #[.float .f64 k2], .agg #[.float .f64 k2], .agg #[.float .f64 fk], .agg #[.float .f64 k3]].getD i (.bool false)) ρ 0 = .agg #[.float .f64 k2] := rfl
    have v1 : vals [] (fun i => [.agg #[.float .f64 k2], .agg #[.float .f64 k2], .agg #[.float .f64 fk], .agg #[.float .f64 k3]].getD i (.bool false)) ρ 1 = .agg #[.float .f64 k2] := rfl
    have v2 : vals [] (fun i => [.agg #[.float .f64 k2], .agg #[.float .f64 k2], .agg #[.float .f64 fk], .agg #[.float .f64 k3]].getD i (.bool false)) ρ 2 = .agg #[.float .f64 fk] := rfl
    have v3 : vals [] (fun i => [.agg #[.float .f64 k2], .agg #[.float .f64 k2], .agg #[.float .f64 fk], .agg #[.float .f64 k3]].getD i (.bool false)) ρ 3 = .agg #[.float .f64 k3] := rfl
    simp only [puts, Nat.zero_add, p0, p1, p2, p3, v0, v1, v2, v3, if_true, List.drop_succ_cons, List.drop_zero, Nat.reduceAdd]
    clear hb hC hN p0 p1 p2 p3 v0 v1 v2 v3
    clear ρ b'
    have s0 : (w1).cell? ⟨q6, 0, none⟩ = some (.float .f64 k2) := (hS.cell 0 (by simp)).1
    have t0 : (w1).frozen? ⟨q6, 0, none⟩ = false := (hS.cell 0 (by simp)).2
    replace hS : Bx base w [(q6, k3), (q5, 0), (g8, o8), (g7, o7), (g6, o6), (g5, li), (g4, sa), (g3, hu)] ((w1).setCell ⟨q6, 0, none⟩ (.float .f64 k3)) := hS.set k3 hA 0 (by simp)
    replace hA : Apart base [(q6, k3), (q5, 0), (g8, o8), (g7, o7), (g6, o6), (g5, li), (g4, sa), (g3, hu)] := Apart.of_fst (by rfl) hA
    have HS := Lib.hid (And.intro hS hA)
    clear hS hA
    go_upto_region 4 with fail
    clear s0 t0
    generalize World.setCell _ _ _ = W at *
    clear w1
    have c_q6 : W.cell? ⟨q6, 0, none⟩ = some (.float .f64 k3) := (HS.out.1.cell 0 (by simp)).1
    go_wp2_with fail
    refine (MulConst_any k3 4622945017495814144 k HC.out.h5 _).mono ?_
    rintro e w1 ⟨rfl, hb⟩
    have hS := HS.out.1.keep hb
    have hA := HS.out.2
    clear HS hb c_q6
    have s0 : (w1).cell? ⟨q6, 0, none⟩ = some (.float .f64 k3) := (hS.cell 0 (by simp)).1
    have t0 : (w1).frozen? ⟨q6, 0, none⟩ = false := (hS.cell 0 (by simp)).2
    replace hS : Bx base w [(q6, k), (q5, 0), (g8, o8), (g7, o7), (g6, o6), (g5, li), (g4, sa), (g3, hu)] ((w1).setCell ⟨q6, 0, none⟩ (.float .f64 k)) := hS.set k hA 0 (by simp)
    replace hA : Apart base [(q6, k), (q5, 0), (g8, o8), (g7, o7), (g6, o6), (g5, li), (g4, sa), (g3, hu)] := Apart.of_fst (by rfl) hA
    have HS := Lib.hid (And.intro hS hA)
    clear hS hA
    go_upto_region 5 with fail
    clear s0 t0
    generalize World.setCell _ _ _ = W at *
    clear w1
    refine wp_region_plan 8 (by kernel_rfl) (by kernel_rfl) (PI base w [(q6, k), (q5, 0), (g8, o8), (g7, o7), (g6, o6), (g5, li), (g4, sa), (g3, hu)] [some 20, some 21, some 22, some 23, some 24, some 25, some 26, some 7] [7] (fun i => [.agg #[.float .f64 li], .agg #[.float .f64 li], .agg #[.float .f64 no], .agg #[.float .f64 om], .agg #[.float .f64 mi], .agg #[.float .f64 sa], .agg #[.float .f64 a], .bool false].getD i (.bool false)) _) (PI.start HS.out.1) ?_ ?_
    · intro i o b' a' w' hi ho hb he hI
      rcases (by omega : i = 0 ∨ i = 1 ∨ i = 2 ∨ i = 3 ∨ i = 4 ∨ i = 5 ∨ i = 6 ∨ i = 7) with rfl | rfl | rfl | rfl | rfl | rfl | rfl | rfl
      · obtain rfl := Option.some.inj ho
        exact hI.stepQuiet hb rfl rfl rfl (op_load _ _ _ g5 li _ rfl ((hI.old rfl).trans rfl) (hI.bx.cell 5 (by simp)).1)
      · obtain rfl := Option.some.inj ho
        exact hI.stepQuiet hb rfl rfl rfl (op_load _ _ _ g5 li _ rfl ((hI.old rfl).trans rfl) (hI.bx.cell 5 (by simp)).1)
      · obtain rfl := Option.some.inj ho
        have e0 := hI.new 1 (edge he 1 (by kernel_rfl)) rfl rfl rfl (by show 21 < 40; decide)
        refine hI.stepCall hb rfl rfl rfl (op_call _ _ 72 Try.f72 _ _ _ rfl Try.func72 (by kernel_rfl) (by kernel_rfl)) ?_
        have hm : Array.map a'.eval #[.tmp 21] = #[.agg #[.float .f64 li]] := by simp [e0]
        rw [hm]
        exact Neg_as li no HC.out.h6 _
      · obtain rfl := Option.some.inj ho
        have e0 := hI.new 2 (edge he 2 (by kernel_rfl)) rfl rfl rfl (by show 22 < 40; decide)
        refine hI.stepCall hb rfl rfl rfl (op_call _ _ 59 Try.f59 _ _ _ rfl Try.func59 (by kernel_rfl) (by kernel_rfl)) ?_
        have hm : Array.map a'.eval #[.tmp 22, .const ((Value.float FloatKind.f64 4607182418800017408))] = #[.agg #[.float .f64 no], (Value.float FloatKind.f64 4607182418800017408)] := by simp [e0, ev_const]
        rw [hm]
        exact AddConst_any no 4607182418800017408 om HC.out.h7 _
      · obtain rfl := Option.some.inj ho
        have e0 := hI.new 0 (edge he 0 (by kernel_rfl)) rfl rfl rfl (by show 20 < 40; decide)
        have e1 := hI.new 3 (edge he 3 (by kernel_rfl)) rfl rfl rfl (by show 23 < 40; decide)
        refine hI.stepCall hb rfl rfl rfl (op_call _ _ 71 Try.f71 _ _ _ rfl Try.func71 (by kernel_rfl) (by kernel_rfl)) ?_
        have hm : Array.map a'.eval #[.tmp 20, .tmp 23] = #[.agg #[.float .f64 li], .agg #[.float .f64 om]] := by simp [e0, e1]
        rw [hm]
        exact Min2_as li om mi HC.out.h8 _
      · obtain rfl := Option.some.inj ho
        exact hI.stepQuiet hb rfl rfl rfl (op_load _ _ _ g4 sa _ rfl ((hI.old rfl).trans rfl) (hI.bx.cell 6 (by simp)).1)
      · obtain rfl := Option.some.inj ho
        have e0 := hI.new 4 (edge he 4 (by kernel_rfl)) rfl rfl rfl (by show 24 < 40; decide)
        have e1 := hI.new 5 (edge he 5 (by kernel_rfl)) rfl rfl rfl (by show 25 < 40; decide)
        refine hI.stepCall hb rfl rfl rfl (op_call _ _ 60 Try.f60 _ _ _ rfl Try.func60 (by kernel_rfl) (by kernel_rfl)) ?_
        have hm : Array.map a'.eval #[.tmp 24, .tmp 25] = #[.agg #[.float .f64 mi], .agg #[.float .f64 sa]] := by simp [e0, e1]
        rw [hm]
        exact Mul_any mi sa a HC.out.h9 _
      · obtain rfl := Option.some.inj ho
        exact hI.stepAlloc 41 hb rfl rfl rfl rfl (op_alloc _ _ _ rfl)
    · intro b' a' w1 hb hI
      obtain ⟨ρ, rfl, hS, hC, hN⟩ := hI
      have hA := HS.out.2
      clear HS
      have p0 := hb 0 (by decide)
      have p1 := hb 1 (by decide)
      have p2 := hb 2 (by decide)
      have p3 := hb 3 (by decide)
      have p4 := hb 4 (by decide)
      have p5 := hb 5 (by decide)
      have p6 := hb 6 (by decide)
      have p7 := hb 7 (by decide)
      obtain ⟨c7, f7, l7, n7⟩ := hC 7 (by simp) p7
      have v0 : vals [7] (fun i => [.agg #[.float .f64 li], .agg #[.float .f64 li], .agg #[.float .f64 no], .agg #[.float .f64 om], .agg #[.float .f64 mi], .agg #[.float .f64 sa], .agg #[.float .f64 a], .bool false].getD i (.bool false)) ρ 0 = .agg #[.float .f64 li] := rfl
      have v1 : vals [7] (fun i => [.agg #[.float .f64 li], .agg #[.float .f64 li], .agg #[.float .f64 no], .agg #[.float .f64 om], .agg #[.float .f64 mi], .agg #[.float .f64 sa], .agg #[.float .f64 a], .bool false].getD i (.bool false)) ρ 1 = .agg #[.float .f64 li] := rfl
      have v2 : vals [7] (fun i => [.agg #[.float .f64 li], .agg #[.float .f64 li], .agg #[.float .f64 no], .agg #[.float .f64 om], .agg #[.float .f64 mi], .agg #[.float .f64 sa], .agg #[.float .f64 a], .bool false].getD i (.bool false)) ρ 2 = .agg #[.float .f64 no] := rfl
      have v3 : vals [7] (fun i => [.agg #[.float .f64 li], .agg #[.float .f64 li], .agg #[.float .f64 no], .agg #[.float .f64 om], .agg #[.float .f64 mi], .agg #[.float .f64 sa], .agg #[.float .f64 a], .bool false].getD i (.bool false)) ρ 3 = .agg #[.float .f64 om] := rfl
      have v4 : vals [7] (fun i => [.agg #[.float .f64 li], .agg #[.float .f64 li], .agg #[.float .f64 no], .agg #[.float .f64 om], .agg #[.float .f64 mi], .agg #[.float .f64 sa], .agg #[.float .f64 a], .bool false].getD i (.bool false)) ρ 4 = .agg #[.float .f64 mi] := rfl
      have v5 : vals [7] (fun i => [.agg #[.float .f64 li], .agg #[.float .f64 li], .agg #[.float .f64 no], .agg #[.float .f64 om], .agg #[.float .f64 mi], .agg #[.float .f64 sa], .agg #[.float .f64 a], .bool false].getD i (.bool false)) ρ 5 = .agg #[.float .f64 sa] := rfl
      have v6 : vals [7] (fun i => [.agg #[.float .f64 li], .agg #[.float .f64 li], .agg #[.float .f64 no], .agg #[.float .f64 om], .agg #[.float .f64 mi], .agg #[.float .f64 sa], .agg #[.float .f64 a], .bool false].getD i (.bool false)) ρ 6 = .agg #[.float .f64 a] := rfl
      have v7 : vals [7] (fun i => [.agg #[.float .f64 li], .agg #[.float .f64 li], .agg #[.float .f64 no], .agg #[.float .f64 om], .agg #[.float .f64 mi], .agg #[.float .f64 sa], .agg #[.float .f64 a], .bool false].getD i (.bool false)) ρ 7 = .pointer (some ⟨(ρ 7), 0, none⟩) := rfl
      simp only [puts, Nat.zero_add, p0, p1, p2, p3, p4, p5, p6, p7, v0, v1, v2, v3, v4, v5, v6, v7, if_true, List.drop_succ_cons, List.drop_zero, Nat.reduceAdd]
      clear hb hC hN p0 p1 p2 p3 p4 p5 p6 p7 v0 v1 v2 v3 v4 v5 v6 v7
      generalize ρ 7 = q7 at *
      replace hA : Apart base ((q7, 0) :: [(q6, k), (q5, 0), (g8, o8), (g7, o7), (g6, o6), (g5, li), (g4, sa), (g3, hu)]) := ⟨l7, n7, hA⟩
      replace hS : Bx base w ((q7, 0) :: [(q6, k), (q5, 0), (g8, o8), (g7, o7), (g6, o6), (g5, li), (g4, sa), (g3, hu)]) w1 := ⟨c7, f7, hS⟩
      clear c7 f7 l7 n7 
      clear ρ b'
      have s0 : (w1).cell? ⟨q7, 0, none⟩ = some (.float .f64 0) := (hS.cell 0 (by simp)).1
      have t0 : (w1).frozen? ⟨q7, 0, none⟩ = false := (hS.cell 0 (by simp)).2
      replace hS : Bx base w [(q7, a), (q6, k), (q5, 0), (g8, o8), (g7, o7), (g6, o6), (g5, li), (g4, sa), (g3, hu)] ((w1).setCell ⟨q7, 0, none⟩ (.float .f64 a)) := hS.set a hA 0 (by simp)
      replace hA : Apart base [(q7, a), (q6, k), (q5, 0), (g8, o8), (g7, o7), (g6, o6), (g5, li), (g4, sa), (g3, hu)] := Apart.of_fst (by rfl) hA
      have HS := Lib.hid (And.intro hS hA)
      clear hS hA
      go_upto_region 6 with fail
      clear s0 t0
      generalize World.setCell _ _ _ = W at *
      clear w1
      refine wp_region_plan 13 (by kernel_rfl) (by kernel_rfl) (PI base w [(q7, a), (q6, k), (q5, 0), (g8, o8), (g7, o7), (g6, o6), (g5, li), (g4, sa), (g3, hu)] [some 27, some 28, some 29, some 30, some 31, some 32, some 33, some 34, some 35, some 36, some 37, some 38, some 39] [] (fun i => [.agg #[.float .f64 li], .agg #[.float .f64 13830554455654793216], .agg #[.float .f64 k], .agg #[.float .f64 x1], .agg #[.float .f64 k], .agg #[.float .f64 nk], .agg #[.float .f64 x2], .agg #[.float .f64 4607182418800017408], .agg #[.float .f64 mn3], .agg #[.float .f64 t], .agg #[.float .f64 a], .agg #[.float .f64 y], .agg #[.float .f64 z]].getD i (.bool false)) _) (PI.start HS.out.1) ?_ ?_
      · intro i o b' a' w' hi ho hb he hI
        rcases (by omega : i = 0 ∨ i = 1 ∨ i = 2 ∨ i = 3 ∨ i = 4 ∨ i = 5 ∨ i = 6 ∨ i = 7 ∨ i = 8 ∨ i = 9 ∨ i = 10 ∨ i = 11 ∨ i = 12) with rfl | rfl | rfl | rfl | rfl | rfl | rfl | rfl | rfl | rfl | rfl | rfl | rfl
        · obtain rfl := Option.some.inj ho
          exact hI.stepQuiet hb rfl rfl rfl (op_load _ _ _ g5 li _ rfl ((hI.old rfl).trans rfl) (hI.bx.cell 6 (by simp)).1)
        · obtain rfl := Option.some.inj ho
          refine hI.stepCall hb rfl rfl rfl (op_call _ _ 42 Try.f42 _ _ _ rfl Try.func42 (by kernel_rfl) (by kernel_rfl)) ?_
          have hm : Array.map a'.eval #[.const ((Value.float FloatKind.f64 13830554455654793216))] = #[(Value.float FloatKind.f64 13830554455654793216)] := by simp [ev_const]
          rw [hm]
          exact NewF64_any _ _
        · obtain rfl := Option.some.inj ho
          exact hI.stepQuiet hb rfl rfl rfl (op_load _ _ _ q6 k _ rfl ((hI.old rfl).trans rfl) (hI.bx.cell 1 (by simp)).1)
        · obtain rfl := Option.some.inj ho
          have e0 := hI.new 2 (edge he 2 (by kernel_rfl)) rfl rfl rfl (by show 29 < 40; decide)
          refine hI.stepCall hb rfl rfl rfl (op_call _ _ 65 Try.f65 _ _ _ rfl Try.func65 (by kernel_rfl) (by kernel_rfl)) ?_
          have hm : Array.map a'.eval #[.tmp 29, .const ((Value.float FloatKind.f64 4613937818241073152))] = #[.agg #[.float .f64 k], (Value.float FloatKind.f64 4613937818241073152)] := by simp [e0, ev_const]
          rw [hm]
          exact SubConst_any k 4613937818241073152 x1 HC.out.h10 _
        · obtain rfl := Option.some.inj ho
          exact hI.stepQuiet hb rfl rfl rfl (op_load _ _ _ q6 k _ rfl ((hI.old rfl).trans rfl) (hI.bx.cell 1 (by simp)).1)
        · obtain rfl := Option.some.inj ho
          have e0 := hI.new 4 (edge he 4 (by kernel_rfl)) rfl rfl rfl (by show 31 < 40; decide)
          refine hI.stepCall hb rfl rfl rfl (op_call _ _ 72 Try.f72 _ _ _ rfl Try.func72 (by kernel_rfl) (by kernel_rfl)) ?_
          have hm : Array.map a'.eval #[.tmp 31] = #[.agg #[.float .f64 k]] := by simp [e0]
          rw [hm]
          exact Neg_as k nk HC.out.h11 _
        · obtain rfl := Option.some.inj ho
          have e0 := hI.new 5 (edge he 5 (by kernel_rfl)) rfl rfl rfl (by show 32 < 40; decide)
          refine hI.stepCall hb rfl rfl rfl (op_call _ _ 59 Try.f59 _ _ _ rfl Try.func59 (by kernel_rfl) (by kernel_rfl)) ?_
          have hm : Array.map a'.eval #[.tmp 32, .const ((Value.float FloatKind.f64 4621256167635550208))] = #[.agg #[.float .f64 nk], (Value.float FloatKind.f64 4621256167635550208)] := by simp [e0, ev_const]
          rw [hm]
          exact AddConst_any nk 4621256167635550208 x2 HC.out.h12 _
        · obtain rfl := Option.some.inj ho
          refine hI.stepCall hb rfl rfl rfl (op_call _ _ 42 Try.f42 _ _ _ rfl Try.func42 (by kernel_rfl) (by kernel_rfl)) ?_
          have hm : Array.map a'.eval #[.const ((Value.float FloatKind.f64 4607182418800017408))] = #[(Value.float FloatKind.f64 4607182418800017408)] := by simp [ev_const]
          rw [hm]
          exact NewF64_any _ _
        · obtain rfl := Option.some.inj ho
          have e0 := hI.new 3 (edge he 3 (by kernel_rfl)) rfl rfl rfl (by show 30 < 40; decide)
          have e1 := hI.new 6 (edge he 6 (by kernel_rfl)) rfl rfl rfl (by show 33 < 40; decide)
          have e2 := hI.new 7 (edge he 7 (by kernel_rfl)) rfl rfl rfl (by show 34 < 40; decide)
          refine hI.stepCall hb rfl rfl rfl (op_call _ _ 69 Try.f69 _ _ _ rfl Try.func69 (by kernel_rfl) (by kernel_rfl)) ?_
          have hm : Array.map a'.eval #[.tmp 30, .tmp 33, .tmp 34] = #[.agg #[.float .f64 x1], .agg #[.float .f64 x2], .agg #[.float .f64 4607182418800017408]] := by simp [e0, e1, e2]
          rw [hm]
          exact Min3_as x1 x2 4607182418800017408 mn3 HC.out.h13 _
        · obtain rfl := Option.some.inj ho
          have e0 := hI.new 1 (edge he 1 (by kernel_rfl)) rfl rfl rfl (by show 28 < 40; decide)
          have e1 := hI.new 8 (edge he 8 (by kernel_rfl)) rfl rfl rfl (by show 35 < 40; decide)
          refine hI.stepCall hb rfl rfl rfl (op_call _ _ 76 Try.f76 _ _ _ rfl Try.func76 (by kernel_rfl) (by kernel_rfl)) ?_
          have hm : Array.map a'.eval #[.tmp 28, .tmp 35] = #[.agg #[.float .f64 13830554455654793216], .agg #[.float .f64 mn3]] := by simp [e0, e1]
          rw [hm]
          exact Max2_as 13830554455654793216 mn3 t HC.out.h14 _
        · obtain rfl := Option.some.inj ho
          exact hI.stepQuiet hb rfl rfl rfl (op_load _ _ _ q7 a _ rfl ((hI.old rfl).trans rfl) (hI.bx.cell 0 (by simp)).1)
        · obtain rfl := Option.some.inj ho
          have e0 := hI.new 9 (edge he 9 (by kernel_rfl)) rfl rfl rfl (by show 36 < 40; decide)
          have e1 := hI.new 10 (edge he 10 (by kernel_rfl)) rfl rfl rfl (by show 37 < 40; decide)
          refine hI.stepCall hb rfl rfl rfl (op_call _ _ 60 Try.f60 _ _ _ rfl Try.func60 (by kernel_rfl) (by kernel_rfl)) ?_
          have hm : Array.map a'.eval #[.tmp 36, .tmp 37] = #[.agg #[.float .f64 t], .agg #[.float .f64 a]] := by simp [e0, e1]
          rw [hm]
          exact Mul_any t a y HC.out.h15 _
        · obtain rfl := Option.some.inj ho
          have e0 := hI.new 0 (edge he 0 (by kernel_rfl)) rfl rfl rfl (by show 27 < 40; decide)
          have e1 := hI.new 11 (edge he 11 (by kernel_rfl)) rfl rfl rfl (by show 38 < 40; decide)
          refine hI.stepCall hb rfl rfl rfl (op_call _ _ 62 Try.f62 _ _ _ rfl Try.func62 (by kernel_rfl) (by kernel_rfl)) ?_
          have hm : Array.map a'.eval #[.tmp 27, .tmp 38] = #[.agg #[.float .f64 li], .agg #[.float .f64 y]] := by simp [e0, e1]
          rw [hm]
          exact Sub_any li y z HC.out.h16 _
      · intro b' a' w1 hb hI
        obtain ⟨ρ, rfl, hS, hC, hN⟩ := hI
        have hA := HS.out.2
        clear HS
        have p0 := hb 0 (by decide)
        have p1 := hb 1 (by decide)
        have p2 := hb 2 (by decide)
        have p3 := hb 3 (by decide)
        have p4 := hb 4 (by decide)
        have p5 := hb 5 (by decide)
        have p6 := hb 6 (by decide)
        have p7 := hb 7 (by decide)
        have p8 := hb 8 (by decide)
        have p9 := hb 9 (by decide)
        have p10 := hb 10 (by decide)
        have p11 := hb 11 (by decide)
        have p12 := hb 12 (by decide)
        have v0 : vals [] (fun i => [.agg #[.float .f64 li], .agg #[.float .f64 13830554455654793216], .agg #[.float .f64 k], .agg #[.float .f64 x1], .agg #[.float .f64 k], .agg #[.float .f64 nk], .agg #[.float .f64 x2], .agg #[.float .f64 4607182418800017408], .agg #[.float .f64 mn3], .agg #[.float .f64 t], .agg #[.float .f64 a], .agg #[.float .f64 y], .agg #[.float .f64 z]].getD i (.bool false)) ρ 0 = .agg #[.float .f64 li] := rfl
        have v1 : vals [] (fun i => [.agg #[.float .f64 li], .agg #[.float .f64 13830554455654793216], .agg #[.float .f64 k], .agg #[.float .f64 x1], .agg #[.float .f64 k], .agg #[.float .f64 nk], .agg #[.float .f64 x2], .agg #[.float .f64 4607182418800017408], .agg #[.float .f64 mn3], .agg #[.float .f64 t], .agg #[.float .f64 a], .agg #[.float .f64 y], .agg #[.float .f64 z]].getD i (.bool false)) ρ 1 = .agg #[.float .f64 13830554455654793216] := rfl
        have v2 : vals [] (fun i => [.agg #[.float .f64 li], .agg #[.float .f64 13830554455654793216], .agg #[.float .f64 k], .agg #[.float .f64 x1], .agg #[.float .f64 k], .agg #[.float .f64 nk], .agg #[.float .f64 x2], .agg #[.float .f64 4607182418800017408], .agg #[.float .f64 mn3], .agg #[.float .f64 t], .agg #[.float .f64 a], .agg #[.float .f64 y], .agg #[.float .f64 z]].getD i (.bool false)) ρ 2 = .agg #[.float .f64 k] := rfl
        have v3 : vals [] (fun i => [.agg #[.float .f64 li], .agg #[.float .f64 13830554455654793216], .agg #[.float .f64 k], .agg #[.float .f64 x1], .agg #[.float .f64 k], .agg #[.float .f64 nk], .agg #[.float .f64 x2], .agg #[.float .f64 4607182418800017408], .agg #[.float .f64 mn3], .agg #[.float .f64 t], .agg #[.float .f64 a], .agg #[.float .f64 y], .agg #[.float .f64 z]].getD i (.bool false)) ρ 3 = .agg #[.float .f64 x1] := rfl
        have v4 : vals [] (fun i => [.agg #[.float .f64 li], .agg #[.float .f64 13830554455654793216], .agg #[.float .f64 k], .agg #[.float .f64 x1], .agg #[.float .f64 k], .agg #[.float .f64 nk], .agg #[.float .f64 x2], .agg #[.float .f64 4607182418800017408], .agg #[.float .f64 mn3], .agg #[.float .f64 t], .agg #[.float .f64 a], .agg #[.float .f64 y], .agg #[.float .f64 z]].getD i (.bool false)) ρ 4 = .agg #[.float .f64 k] := rfl
        have v5 : vals [] (fun i => [.agg #[.float .f64 li], .agg #[.float .f64 13830554455654793216], .agg #[.float .f64 k], .agg #[.float .f64 x1], .agg #[.float .f64 k], .agg #[.float .f64 nk], .agg #[.float .f64 x2], .agg #[.float .f64 4607182418800017408], .agg #[.float .f64 mn3], .agg #[.float .f64 t], .agg #[.float .f64 a], .agg #[.float .f64 y], .agg #[.float .f64 z]].getD i (.bool false)) ρ 5 = .agg #[.float .f64 nk] := rfl
        have v6 : vals [] (fun i => [.agg #[.float .f64 li], .agg #[.float .f64 13830554455654793216], .agg #[.float .f64 k], .agg #[.float .f64 x1], .agg #[.float .f64 k], .agg #[.float .f64 nk], .agg #[.float .f64 x2], .agg #[.float .f64 4607182418800017408], .agg #[.float .f64 mn3], .agg #[.float .f64 t], .agg #[.float .f64 a], .agg #[.float .f64 y], .agg #[.float .f64 z]].getD i (.bool false)) ρ 6 = .agg #[.float .f64 x2] := rfl
        have v7 : vals [] (fun i => [.agg #[.float .f64 li], .agg #[.float .f64 13830554455654793216], .agg #[.float .f64 k], .agg #[.float .f64 x1], .agg #[.float .f64 k], .agg #[.float .f64 nk], .agg #[.float .f64 x2], .agg #[.float .f64 4607182418800017408], .agg #[.float .f64 mn3], .agg #[.float .f64 t], .agg #[.float .f64 a], .agg #[.float .f64 y], .agg #[.float .f64 z]].getD i (.bool false)) ρ 7 = .agg #[.float .f64 4607182418800017408] := rfl
        have v8 : vals [] (fun i => [.agg #[.float .f64 li], .agg #[.float .f64 13830554455654793216], .agg #[.float .f64 k], .agg #[.float .f64 x1], .agg #[.float .f64 k], .agg #[.float .f64 nk], .agg #[.float .f64 x2], .agg #[.float .f64 4607182418800017408], .agg #[.float .f64 mn3], .agg #[.float .f64 t], .agg #[.float .f64 a], .agg #[.float .f64 y], .agg #[.float .f64 z]].getD i (.bool false)) ρ 8 = .agg #[.float .f64 mn3] := rfl
        have v9 : vals [] (fun i => [.agg #[.float .f64 li], .agg #[.float .f64 13830554455654793216], .agg #[.float .f64 k], .agg #[.float .f64 x1], .agg #[.float .f64 k], .agg #[.float .f64 nk], .agg #[.float .f64 x2], .agg #[.float .f64 4607182418800017408], .agg #[.float .f64 mn3], .agg #[.float .f64 t], .agg #[.float .f64 a], .agg #[.float .f64 y], .agg #[.float .f64 z]].getD i (.bool false)) ρ 9 = .agg #[.float .f64 t] := rfl
        have v10 : vals [] (fun i => [.agg #[.float .f64 li], .agg #[.float .f64 13830554455654793216], .agg #[.float .f64 k], .agg #[.float .f64 x1], .agg #[.float .f64 k], .agg #[.float .f64 nk], .agg #[.float .f64 x2], .agg #[.float .f64 4607182418800017408], .agg #[.float .f64 mn3], .agg #[.float .f64 t], .agg #[.float .f64 a], .agg #[.float .f64 y], .agg #[.float .f64 z]].getD i (.bool false)) ρ 10 = .agg #[.float .f64 a] := rfl
        have v11 : vals [] (fun i => [.agg #[.float .f64 li], .agg #[.float .f64 13830554455654793216], .agg #[.float .f64 k], .agg #[.float .f64 x1], .agg #[.float .f64 k], .agg #[.float .f64 nk], .agg #[.float .f64 x2], .agg #[.float .f64 4607182418800017408], .agg #[.float .f64 mn3], .agg #[.float .f64 t], .agg #[.float .f64 a], .agg #[.float .f64 y], .agg #[.float .f64 z]].getD i (.bool false)) ρ 11 = .agg #[.float .f64 y] := rfl
        have v12 : vals [] (fun i => [.agg #[.float .f64 li], .agg #[.float .f64 13830554455654793216], .agg #[.float .f64 k], .agg #[.float .f64 x1], .agg #[.float .f64 k], .agg #[.float .f64 nk], .agg #[.float .f64 x2], .agg #[.float .f64 4607182418800017408], .agg #[.float .f64 mn3], .agg #[.float .f64 t], .agg #[.float .f64 a], .agg #[.float .f64 y], .agg #[.float .f64 z]].getD i (.bool false)) ρ 12 = .agg #[.float .f64 z] := rfl
        simp only [puts, Nat.zero_add, p0, p1, p2, p3, p4, p5, p6, p7, p8, p9, p10, p11, p12, v0, v1, v2, v3, v4, v5, v6, v7, v8, v9, v10, v11, v12, if_true, List.drop_succ_cons, List.drop_zero, Nat.reduceAdd]
        clear hb hC hN p0 p1 p2 p3 p4 p5 p6 p7 p8 p9 p10 p11 p12 v0 v1 v2 v3 v4 v5 v6 v7 v8 v9 v10 v11 v12
        clear ρ b'
        have s0 : (w1).cell? ⟨q5, 0, none⟩ = some (.float .f64 0) := (hS.cell 2 (by simp)).1
        have t0 : (w1).frozen? ⟨q5, 0, none⟩ = false := (hS.cell 2 (by simp)).2
        replace hS : Bx base w [(q7, a), (q6, k), (q5, z), (g8, o8), (g7, o7), (g6, o6), (g5, li), (g4, sa), (g3, hu)] ((w1).setCell ⟨q5, 0, none⟩ (.float .f64 z)) := hS.set z hA 2 (by simp)
        replace hA : Apart base [(q7, a), (q6, k), (q5, z), (g8, o8), (g7, o7), (g6, o6), (g5, li), (g4, sa), (g3, hu)] := Apart.of_fst (by rfl) hA
        have HS := Lib.hid (And.intro hS hA)
        clear hS hA
        go_wp2_with fail
        clear s0 t0
        generalize World.setCell _ _ _ = W at *
        clear w1
        have c_q5 : W.cell? ⟨q5, 0, none⟩ = some (.float .f64 z) := (HS.out.1.cell 2 (by simp)).1
        refine bodyPost_ret (v := .agg #[.float .f64 z]) (by simp [results, Try.results75, go_sem, c_q5]) rfl ⟨rfl, HS.out.1.2.2.2.2.2.2⟩
set_option maxRecDepth 100000 in
set_option maxHeartbeats 4000000 in
theorem rgb_of (h s l q f q2 hu sa li z0 z8 z4 base : Nat) (w : World) (H : Hid (base = w.heap.size)) (Hq : Hid (Ieee.double.div h 4645040803167600640 = some q)) (Hf : Hid (Finite q ∧ floorW q = f)) (Hq2 : Hid (Ieee.double.sub q f = some q2)) (Hhu : Hid (Ieee.double.mul q2 4645040803167600640 = some hu)) (Hsa : Hid (Ieee.double.div s 4636737291354636288 = some sa)) (Hli : Hid (Ieee.double.div l 4636737291354636288 = some li)) (k0_0 k1_0 k2_0 fk_0 k3_0 k_0 no_0 om_0 mi_0 a_0 x1_0 nk_0 x2_0 mn3_0 t_0 y_0 : Nat) (HC0 : Hid (Chan hu li sa 0 k0_0 k1_0 k2_0 fk_0 k3_0 k_0 no_0 om_0 mi_0 a_0 x1_0 nk_0 x2_0 mn3_0 t_0 y_0 z0)) (k0_8 k1_8 k2_8 fk_8 k3_8 k_8 no_8 om_8 mi_8 a_8 x1_8 nk_8 x2_8 mn3_8 t_8 y_8 : Nat) (HC8 : Hid (Chan hu li sa 4620693217682128896 k0_8 k1_8 k2_8 fk_8 k3_8 k_8 no_8 om_8 mi_8 a_8 x1_8 nk_8 x2_8 mn3_8 t_8 y_8 z8)) (k0_4 k1_4 k2_4 fk_4 k3_4 k_4 no_4 om_4 mi_4 a_4 x1_4 nk_4 x2_4 mn3_4 t_4 y_4 : Nat) (HC4 : Hid (Chan hu li sa 4616189618054758400 k0_4 k1_4 k2_4 fk_4 k3_4 k_4 no_4 om_4 mi_4 a_4 x1_4 nk_4 x2_4 mn3_4 t_4 y_4 z4)) :
    Calls Try.prog 51 #[.agg #[.float .f64 h], .agg #[.float .f64 s], .agg #[.float .f64 l]] w fun e w' => e = .returned (.tuple #[.agg #[.float .f64 z0], .agg #[.float .f64 z8], .agg #[.float .f64 z4]]) ∧ Below base w w' := by
  go_enter Try.func51, Try.ntmps51
  go_upto_region 1 with fail
  generalize hW : World.alloc _ _ = W at *
  have hS : Bx base w [(w.heap.size + 1 + 1 + 1 + 1 + 1, 0), (w.heap.size + 1 + 1 + 1 + 1, 0), (w.heap.size + 1 + 1 + 1, 0), (w.heap.size + 1 + 1, l), (w.heap.size + 1, s), (w.heap.size, h)] W := by
    subst hW
    have := (((((((Bx.start w).alloc h 41).alloc s 41).alloc l 41).alloc 0 41).alloc 0 41).alloc 0 41)
    rw [H.out]
    simpa using this
  have hA : Apart base [(w.heap.size + 1 + 1 + 1 + 1 + 1, 0), (w.heap.size + 1 + 1 + 1 + 1, 0), (w.heap.size + 1 + 1 + 1, 0), (w.heap.size + 1 + 1, l), (w.heap.size + 1, s), (w.heap.size, h)] := by
    rw [H.out]
    simp [Apart]; try omega
  have HS := Lib.hid (And.intro hS hA)
  clear hS hA hW H
  generalize w.heap.size + 1 + 1 + 1 + 1 + 1 = g8 at *
  generalize w.heap.size + 1 + 1 + 1 + 1 = g7 at *
  generalize w.heap.size + 1 + 1 + 1 = g6 at *
  generalize w.heap.size + 1 + 1 = g5 at *
  generalize w.heap.size + 1 = g4 at *
  generalize hgg : w.heap.size = g3 at *
  clear hgg
  have c_g3 : W.cell? ⟨g3, 0, none⟩ = some (.float .f64 h) := (HS.out.1.cell 5 (by simp)).1
  go_wp2_with fail
  refine (DivConst_any h 4645040803167600640 q Hq.out _).mono ?_
  rintro e w1 ⟨rfl, hb⟩
  have hS := HS.out.1.keep hb
  have hA := HS.out.2
  clear HS hb c_g3
  have s0 : (w1).cell? ⟨g3, 0, none⟩ = some (.float .f64 h) := (hS.cell 5 (by simp)).1
  have t0 : (w1).frozen? ⟨g3, 0, none⟩ = false := (hS.cell 5 (by simp)).2
  replace hS : Bx base w [(g8, 0), (g7, 0), (g6, 0), (g5, l), (g4, s), (g3, q)] ((w1).setCell ⟨g3, 0, none⟩ (.float .f64 q)) := hS.set q hA 5 (by simp)
  replace hA : Apart base [(g8, 0), (g7, 0), (g6, 0), (g5, l), (g4, s), (g3, q)] := Apart.of_fst (by rfl) hA
  have HS := Lib.hid (And.intro hS hA)
  clear hS hA
  go_upto_region 2 with fail
  clear s0 t0
  generalize World.setCell _ _ _ = W at *
  clear w1
  refine wp_region_plan 4 (by kernel_rfl) (by kernel_rfl) (PI base w [(g8, 0), (g7, 0), (g6, 0), (g5, l), (g4, s), (g3, q)] [some 12, some 13, some 14, some 15] [] (fun i => [.agg #[.float .f64 q], .agg #[.float .f64 q], .agg #[.float .f64 f], .agg #[.float .f64 q2]].getD i (.bool false)) _) (PI.start HS.out.1) ?_ ?_
  · intro i o b' a' w' hi ho hb he hI
    rcases (by omega : i = 0 ∨ i = 1 ∨ i = 2 ∨ i = 3) with rfl | rfl | rfl | rfl
    · obtain rfl := Option.some.inj ho
      exact hI.stepQuiet hb rfl rfl rfl (op_load _ _ _ g3 q _ rfl ((hI.old rfl).trans rfl) (hI.bx.cell 5 (by simp)).1)
    · obtain rfl := Option.some.inj ho
      exact hI.stepQuiet hb rfl rfl rfl (op_load _ _ _ g3 q _ rfl ((hI.old rfl).trans rfl) (hI.bx.cell 5 (by simp)).1)
    · obtain rfl := Option.some.inj ho
      have e0 := hI.new 1 (edge he 1 (by kernel_rfl)) rfl rfl rfl (by show 13 < 29; decide)
      refine hI.stepCall hb rfl rfl rfl (op_call _ _ 74 Try.f74 _ _ _ rfl Try.func74 (by kernel_rfl) (by kernel_rfl)) ?_
      have hm : Array.map a'.eval #[.tmp 13] = #[.agg #[.float .f64 q]] := by simp [e0]
      rw [hm]
      exact Floor_as q f Hf.out.1 Hf.out.2 _
    · obtain rfl := Option.some.inj ho
      have e0 := hI.new 0 (edge he 0 (by kernel_rfl)) rfl rfl rfl (by show 12 < 29; decide)
      have e1 := hI.new 2 (edge he 2 (by kernel_rfl)) rfl rfl rfl (by show 14 < 29; decide)
      refine hI.stepCall hb rfl rfl rfl (op_call _ _ 62 Try.f62 _ _ _ rfl Try.func62 (by kernel_rfl) (by kernel_rfl)) ?_
      have hm : Array.map a'.eval #[.tmp 12, .tmp 14] = #[.agg #[.float .f64 q], .agg #[.float .f64 f]] := by simp [e0, e1]
      rw [hm]
      exact Sub_any q f q2 Hq2.out _
  · intro b' a' w1 hb hI
    obtain ⟨ρ, rfl, hS, hC, hN⟩ := hI
    have hA := HS.out.2
    clear HS
    have p0 := hb 0 (by decide)
    have p1 := hb 1 (by decide)
    have p2 := hb 2 (by decide)
    have p3 := hb 3 (by decide)
    have v0 : vals [] (fun i => [.agg #[.float .f64 q], .agg #[.float .f64 q], .agg #[.float .f64 f], .agg #[.float .f64 q2]].getD i (.bool false)) ρ 0 = .agg #[.float .f64 q] := rfl
    have v1 : vals [] (fun i => [.agg #[.float .f64 q], .agg #[.float .f64 q], .agg #[.float .f64 f], .agg #[.float .f64 q2]].getD i (.bool false)) ρ 1 = .agg #[.float .f64 q] := rfl
    have v2 : vals [] (fun i => [.agg #[.float .f64 q], .agg #[.float .f64 q], .agg #[.float .f64 f], .agg #[.float .f64 q2]].getD i (.bool false)) ρ 2 = .agg #[.float .f64 f] := rfl
    have v3 : vals [] (fun i => [.agg #[.float .f64 q], .agg #[.float .f64 q], .agg #[.float .f64 f], .agg #[.float .f64 q2]].getD i (.bool false)) ρ 3 = .agg #[.float .f64 q2] := rfl
    simp only [puts, Nat.zero_add, p0, p1, p2, p3, v0, v1, v2, v3, if_true, List.drop_succ_cons, List.drop_zero, Nat.reduceAdd]
    clear hb hC hN p0 p1 p2 p3 v0 v1 v2 v3
    clear ρ b'
    have s0 : (w1).cell? ⟨g3, 0, none⟩ = some (.float .f64 q) := (hS.cell 5 (by simp)).1
    have t0 : (w1).frozen? ⟨g3, 0, none⟩ = false := (hS.cell 5 (by simp)).2
    replace hS : Bx base w [(g8, 0), (g7, 0), (g6, 0), (g5, l), (g4, s), (g3, q2)] ((w1).setCell ⟨g3, 0, none⟩ (.float .f64 q2)) := hS.set q2 hA 5 (by simp)
    replace hA : Apart base [(g8, 0), (g7, 0), (g6, 0), (g5, l), (g4, s), (g3, q2)] := Apart.of_fst (by rfl) hA
    have HS := Lib.hid (And.intro hS hA)
    clear hS hA
    go_upto_region 3 with fail
    clear s0 t0
    generalize World.setCell _ _ _ = W at *
    clear w1
    have c_g3 : W.cell? ⟨g3, 0, none⟩ = some (.float .f64 q2) := (HS.out.1.cell 5 (by simp)).1
    go_wp2_with fail
    refine (MulConst_any q2 4645040803167600640 hu Hhu.out _).mono ?_
    rintro e w1 ⟨rfl, hb⟩
    have hS := HS.out.1.keep hb
    have hA := HS.out.2
    clear HS hb c_g3
    have s0 : (w1).cell? ⟨g3, 0, none⟩ = some (.float .f64 q2) := (hS.cell 5 (by simp)).1
    have t0 : (w1).frozen? ⟨g3, 0, none⟩ = false := (hS.cell 5 (by simp)).2
    replace hS : Bx base w [(g8, 0), (g7, 0), (g6, 0), (g5, l), (g4, s), (g3, hu)] ((w1).setCell ⟨g3, 0, none⟩ (.float .f64 hu)) := hS.set hu hA 5 (by simp)
    replace hA : Apart base [(g8, 0), (g7, 0), (g6, 0), (g5, l), (g4, s), (g3, hu)] := Apart.of_fst (by rfl) hA
    have HS := Lib.hid (And.intro hS hA)
    clear hS hA
    go_upto_region 4 with fail
    clear s0 t0
    generalize World.setCell _ _ _ = W at *
    clear w1
    have c_g4 : W.cell? ⟨g4, 0, none⟩ = some (.float .f64 s) := (HS.out.1.cell 4 (by simp)).1
    go_wp2_with fail
    refine (DivConst_any s 4636737291354636288 sa Hsa.out _).mono ?_
    rintro e w1 ⟨rfl, hb⟩
    have hS := HS.out.1.keep hb
    have hA := HS.out.2
    clear HS hb c_g4
    have s0 : (w1).cell? ⟨g4, 0, none⟩ = some (.float .f64 s) := (hS.cell 4 (by simp)).1
    have t0 : (w1).frozen? ⟨g4, 0, none⟩ = false := (hS.cell 4 (by simp)).2
    replace hS : Bx base w [(g8, 0), (g7, 0), (g6, 0), (g5, l), (g4, sa), (g3, hu)] ((w1).setCell ⟨g4, 0, none⟩ (.float .f64 sa)) := hS.set sa hA 4 (by simp)
    replace hA : Apart base [(g8, 0), (g7, 0), (g6, 0), (g5, l), (g4, sa), (g3, hu)] := Apart.of_fst (by rfl) hA
    have HS := Lib.hid (And.intro hS hA)
    clear hS hA
    go_upto_region 5 with fail
    clear s0 t0
    generalize World.setCell _ _ _ = W at *
    clear w1
    have c_g5 : W.cell? ⟨g5, 0, none⟩ = some (.float .f64 l) := (HS.out.1.cell 3 (by simp)).1
    go_wp2_with fail
    refine (DivConst_any l 4636737291354636288 li Hli.out _).mono ?_
    rintro e w1 ⟨rfl, hb⟩
    have hS := HS.out.1.keep hb
    have hA := HS.out.2
    clear HS hb c_g5
    have s0 : (w1).cell? ⟨g5, 0, none⟩ = some (.float .f64 l) := (hS.cell 3 (by simp)).1
    have t0 : (w1).frozen? ⟨g5, 0, none⟩ = false := (hS.cell 3 (by simp)).2
    replace hS : Bx base w [(g8, 0), (g7, 0), (g6, 0), (g5, li), (g4, sa), (g3, hu)] ((w1).setCell ⟨g5, 0, none⟩ (.float .f64 li)) := hS.set li hA 3 (by simp)
    replace hA : Apart base [(g8, 0), (g7, 0), (g6, 0), (g5, li), (g4, sa), (g3, hu)] := Apart.of_fst (by rfl) hA
    have HS := Lib.hid (And.intro hS hA)
    clear hS hA
    go_upto_region 6 with fail
    clear s0 t0
    generalize World.setCell _ _ _ = W at *
    clear w1
    go_upto_region 7 with fail
    go_wp2_with fail
    refine (chan_any g3 g4 g5 g6 g7 g8 _ _ _ hu li sa 0 k0_0 k1_0 k2_0 fk_0 k3_0 k_0 no_0 om_0 mi_0 a_0 x1_0 nk_0 x2_0 mn3_0 t_0 y_0 z0 base w _ HS HC0).mono ?_
    rintro e w1 ⟨rfl, hS⟩
    have hA := HS.out.2
    clear HS 
    have HS := Lib.hid (And.intro hS hA)
    clear hS hA
    go_wp2_with fail
    refine (chan_any g3 g4 g5 g6 g7 g8 _ _ _ hu li sa 4620693217682128896 k0_8 k1_8 k2_8 fk_8 k3_8 k_8 no_8 om_8 mi_8 a_8 x1_8 nk_8 x2_8 mn3_8 t_8 y_8 z8 base w _ HS HC8).mono ?_
    rintro e w2 ⟨rfl, hS⟩
    have hA := HS.out.2
    clear HS 
    clear w1
    generalize w2 = w1 at *
    have HS := Lib.hid (And.intro hS hA)
    clear hS hA
    go_wp2_with fail
    refine (chan_any g3 g4 g5 g6 g7 g8 _ _ _ hu li sa 4616189618054758400 k0_4 k1_4 k2_4 fk_4 k3_4 k_4 no_4 om_4 mi_4 a_4 x1_4 nk_4 x2_4 mn3_4 t_4 y_4 z4 base w _ HS HC4).mono ?_
    rintro e w2 ⟨rfl, hS⟩
    have hA := HS.out.2
    clear HS 
    clear w1
    generalize w2 = w1 at *
    have s0 : (w1).cell? ⟨g6, 0, none⟩ = some (.float .f64 0) := (hS.cell 2 (by simp)).1
    have t0 : (w1).frozen? ⟨g6, 0, none⟩ = false := (hS.cell 2 (by simp)).2
    replace hS : Bx base w [(g8, 0), (g7, 0), (g6, z0), (g5, li), (g4, sa), (g3, hu)] ((w1).setCell ⟨g6, 0, none⟩ (.float .f64 z0)) := hS.set z0 hA 2 (by simp)
    replace hA : Apart base [(g8, 0), (g7, 0), (g6, z0), (g5, li), (g4, sa), (g3, hu)] := Apart.of_fst (by rfl) hA
    have s1 : ((w1).setCell ⟨g6, 0, none⟩ (.float .f64 z0)).cell? ⟨g7, 0, none⟩ = some (.float .f64 0) := (hS.cell 1 (by simp)).1
    have t1 : ((w1).setCell ⟨g6, 0, none⟩ (.float .f64 z0)).frozen? ⟨g7, 0, none⟩ = false := (hS.cell 1 (by simp)).2
    replace hS : Bx base w [(g8, 0), (g7, z8), (g6, z0), (g5, li), (g4, sa), (g3, hu)] (((w1).setCell ⟨g6, 0, none⟩ (.float .f64 z0)).setCell ⟨g7, 0, none⟩ (.float .f64 z8)) := hS.set z8 hA 1 (by simp)
    replace hA : Apart base [(g8, 0), (g7, z8), (g6, z0), (g5, li), (g4, sa), (g3, hu)] := Apart.of_fst (by rfl) hA
    have s2 : (((w1).setCell ⟨g6, 0, none⟩ (.float .f64 z0)).setCell ⟨g7, 0, none⟩ (.float .f64 z8)).cell? ⟨g8, 0, none⟩ = some (.float .f64 0) := (hS.cell 0 (by simp)).1
    have t2 : (((w1).setCell ⟨g6, 0, none⟩ (.float .f64 z0)).setCell ⟨g7, 0, none⟩ (.float .f64 z8)).frozen? ⟨g8, 0, none⟩ = false := (hS.cell 0 (by simp)).2
    replace hS : Bx base w [(g8, z4), (g7, z8), (g6, z0), (g5, li), (g4, sa), (g3, hu)] ((((w1).setCell ⟨g6, 0, none⟩ (.float .f64 z0)).setCell ⟨g7, 0, none⟩ (.float .f64 z8)).setCell ⟨g8, 0, none⟩ (.float .f64 z4)) := hS.set z4 hA 0 (by simp)
    replace hA : Apart base [(g8, z4), (g7, z8), (g6, z0), (g5, li), (g4, sa), (g3, hu)] := Apart.of_fst (by rfl) hA
    have HS := Lib.hid (And.intro hS hA)
    clear hS hA
    go_wp2_with fail
    clear s0 t0 s1 t1 s2 t2
    generalize World.setCell _ _ _ = W at *
    clear w1
    have c_g6 : W.cell? ⟨g6, 0, none⟩ = some (.float .f64 z0) := (HS.out.1.cell 2 (by simp)).1
    have c_g7 : W.cell? ⟨g7, 0, none⟩ = some (.float .f64 z8) := (HS.out.1.cell 1 (by simp)).1
    have c_g8 : W.cell? ⟨g8, 0, none⟩ = some (.float .f64 z4) := (HS.out.1.cell 0 (by simp)).1
    refine bodyPost_ret (v := .tuple #[.agg #[.float .f64 z0], .agg #[.float .f64 z8], .agg #[.float .f64 z4]]) (by simp [results, Try.results51, go_sem, c_g6, c_g7, c_g8]) rfl ⟨rfl, HS.out.1.below.2⟩
end Go.Proofs.Ytafeeebgleecfaa.Mat
