/-
  hueToRgb and hslToRgb: every way through them, told by the numbers that they reckon.
-/
import Derived.Test.YtafeeebgleecfaaPd
namespace Go.Proofs.Ytafeeebgleecfaa.Mat
open Go.ChangeShapes Go.WideShapes Go.ChangeAt Go.RowKit
open FL Pl
set_option linter.unusedVariables false
attribute [local go_sem] run_store_float
set_option maxRecDepth 100000 in
set_option maxHeartbeats 4000000 in
theorem htr_a (t1 t2 hue f x0 x p q z base : Nat) (w : World) (H : Hid (base = w.heap.size)) (Hf : Hid (Finite hue ∧ floorW hue = f)) (Hx0 : Hid (Ieee.double.sub hue f = some x0)) (Hx : Hid (Ieee.double.mul x0 4618441417868443648 = some x)) (Hq1 : Hid (ltB x 4607182418800017408 = true)) (Hp : Hid (Ieee.double.sub t2 t1 = some p)) (Hq : Hid (Ieee.double.mul p x = some q)) (Hz : Hid (Ieee.double.add q t1 = some z)) :
    Calls Try.prog 64 #[.agg #[.float .f64 t1], .agg #[.float .f64 t2], .agg #[.float .f64 hue]] w fun e w' => e = .returned (.agg #[.float .f64 z]) ∧ Below base w w' := by
  go_enter Try.func64, Try.ntmps64
  go_upto_region 1 with fail
  generalize hW : World.alloc _ _ = W at *
  have hS : Bx base w [(w.heap.size + 1 + 1 + 1, 0), (w.heap.size + 1 + 1, hue), (w.heap.size + 1, t2), (w.heap.size, t1)] W := by
    subst hW
    have := (((((Bx.start w).alloc t1 41).alloc t2 41).alloc hue 41).alloc 0 41)
    rw [H.out]
    simpa using this
  have hA : Apart base [(w.heap.size + 1 + 1 + 1, 0), (w.heap.size + 1 + 1, hue), (w.heap.size + 1, t2), (w.heap.size, t1)] := by
    rw [H.out]
    simp [Apart]; try omega
  have HS := Lib.hid (And.intro hS hA)
  clear hS hA hW H
  generalize w.heap.size + 1 + 1 + 1 = g6 at *
  generalize w.heap.size + 1 + 1 = g5 at *
  generalize w.heap.size + 1 = g4 at *
  generalize hgg : w.heap.size = g3 at *
  clear hgg
  refine wp_region_plan 4 (by kernel_rfl) (by kernel_rfl) (PI base w [(g6, 0), (g5, hue), (g4, t2), (g3, t1)] [some 8, some 9, some 10, some 11] [] (fun i => [.agg #[.float .f64 hue], .agg #[.float .f64 hue], .agg #[.float .f64 f], .agg #[.float .f64 x0]].getD i (.bool false)) _) (PI.start HS.out.1) ?_ ?_
  · intro i o b' a' w' hi ho hb he hI
    rcases (by omega : i = 0 ∨ i = 1 ∨ i = 2 ∨ i = 3) with rfl | rfl | rfl | rfl
    · obtain rfl := Option.some.inj ho
      exact hI.stepQuiet hb rfl rfl rfl (op_load _ _ _ g5 hue _ rfl ((hI.old rfl).trans rfl) (hI.bx.cell 1 (by simp)).1)
    · obtain rfl := Option.some.inj ho
      exact hI.stepQuiet hb rfl rfl rfl (op_load _ _ _ g5 hue _ rfl ((hI.old rfl).trans rfl) (hI.bx.cell 1 (by simp)).1)
    · obtain rfl := Option.some.inj ho
      have e0 := hI.new 1 (edge he 1 (by kernel_rfl)) rfl rfl rfl (by show 9 < 36; decide)
      refine hI.stepCall hb rfl rfl rfl (op_call _ _ 74 Try.f74 _ _ _ rfl Try.func74 (by kernel_rfl) (by kernel_rfl)) ?_
      have hm : Array.map a'.eval #[.tmp 9] = #[.agg #[.float .f64 hue]] := by simp [e0]
      rw [hm]
      exact Floor_as hue f Hf.out.1 Hf.out.2 _
    · obtain rfl := Option.some.inj ho
      have e0 := hI.new 0 (edge he 0 (by kernel_rfl)) rfl rfl rfl (by show 8 < 36; decide)
      have e1 := hI.new 2 (edge he 2 (by kernel_rfl)) rfl rfl rfl (by show 10 < 36; decide)
      refine hI.stepCall hb rfl rfl rfl (op_call _ _ 62 Try.f62 _ _ _ rfl Try.func62 (by kernel_rfl) (by kernel_rfl)) ?_
      have hm : Array.map a'.eval #[.tmp 8, .tmp 10] = #[.agg #[.float .f64 hue], .agg #[.float .f64 f]] := by simp [e0, e1]
      rw [hm]
      exact Sub_any hue f x0 Hx0.out _
  · intro b' a' w1 hb hI
    obtain ⟨ρ, rfl, hS, hC, hN⟩ := hI
    have hA := HS.out.2
    clear HS
    have p0 := hb 0 (by decide)
    have p1 := hb 1 (by decide)
    have p2 := hb 2 (by decide)
    have p3 := hb 3 (by decide)
    have v0 : vals [] (fun i => [.agg #[.float .f64 hue], .agg #[.float .f64 hue], .agg #[.float .f64 f], .agg #[.float .f64 x0]].getD i (.bool false)) ρ 0 = .agg #[.float .f64 hue] := rfl
    have v1 : vals [] (fun i => [.agg #[.float .f64 hue], .agg #[.float .f64 hue], .agg #[.float .f64 f], .agg #[.float .f64 x0]].getD i (.bool false)) ρ 1 = .agg #[.float .f64 hue] := rfl
    have v2 : vals [] (fun i => [.agg #[.float .f64 hue], .agg #[.float .f64 hue], .agg #[.float .f64 f], .agg #[.float .f64 x0]].getD i (.bool false)) ρ 2 = .agg #[.float .f64 f] := rfl
    have v3 : vals [] (fun i => [.agg #[.float .f64 hue], .agg #[.float .f64 hue], .agg #[.float .f64 f], .agg #[.float .f64 x0]].getD i (.bool false)) ρ 3 = .agg #[.float .f64 x0] := rfl
    simp only [puts, Nat.zero_add, p0, p1, p2, p3, v0, v1, v2, v3, if_true, List.drop_succ_cons, List.drop_zero, Nat.reduceAdd]
    clear hb hC hN p0 p1 p2 p3 v0 v1 v2 v3
    clear ρ b'
    have s0 : (w1).cell? ⟨g5, 0, none⟩ = some (.float .f64 hue) := (hS.cell 1 (by simp)).1
    have t0 : (w1).frozen? ⟨g5, 0, none⟩ = false := (hS.cell 1 (by simp)).2
    replace hS : Bx base w [(g6, 0), (g5, x0), (g4, t2), (g3, t1)] ((w1).setCell ⟨g5, 0, none⟩ (.float .f64 x0)) := hS.set x0 hA 1 (by simp)
    replace hA : Apart base [(g6, 0), (g5, x0), (g4, t2), (g3, t1)] := Apart.of_fst (by rfl) hA
    have HS := Lib.hid (And.intro hS hA)
    clear hS hA
    go_upto_region 2 with fail
    clear s0 t0
    generalize World.setCell _ _ _ = W at *
    clear w1
    have c_g5 : W.cell? ⟨g5, 0, none⟩ = some (.float .f64 x0) := (HS.out.1.cell 1 (by simp)).1
    go_wp2_with fail
    refine (MulConst_any x0 4618441417868443648 x Hx.out _).mono ?_
    rintro e w1 ⟨rfl, hb⟩
    have hS := HS.out.1.keep hb
    have hA := HS.out.2
    clear HS hb c_g5
    have s0 : (w1).cell? ⟨g5, 0, none⟩ = some (.float .f64 x0) := (hS.cell 1 (by simp)).1
    have t0 : (w1).frozen? ⟨g5, 0, none⟩ = false := (hS.cell 1 (by simp)).2
    replace hS : Bx base w [(g6, 0), (g5, x), (g4, t2), (g3, t1)] ((w1).setCell ⟨g5, 0, none⟩ (.float .f64 x)) := hS.set x hA 1 (by simp)
    replace hA : Apart base [(g6, 0), (g5, x), (g4, t2), (g3, t1)] := Apart.of_fst (by rfl) hA
    have HS := Lib.hid (And.intro hS hA)
    clear hS hA
    go_upto_region 3 with fail
    clear s0 t0
    generalize World.setCell _ _ _ = W at *
    clear w1
    have hS := HS.out.1
    have hA := HS.out.2
    clear HS
    generalize W = w1 at *
    replace hA := hA.alloc hS 0
    replace hS := hS.alloc 0 41
    have HS := Lib.hid (And.intro hS hA)
    clear hS hA
    go_upto_region 4 with fail
    generalize World.alloc _ _ = W at *
    generalize w1.heap.size = g7 at *
    clear w1
    have q1 : (FloatKind.f64.format.order x 4607182418800017408 == some .lt) = true := Hq1.out
    have c_g5 : W.cell? ⟨g5, 0, none⟩ = some (.float .f64 x) := (HS.out.1.cell 2 (by simp)).1
    go_wp2_with fail
    refine (Value_any x _).mono ?_
    rintro e w1 ⟨rfl, hb⟩
    have hS := HS.out.1.keep hb
    have hA := HS.out.2
    clear HS hb c_g5
    have HS := Lib.hid (And.intro hS hA)
    clear hS hA
    go_upto_region 5 with fail
    generalize w1 = W at *
    clear q1
    have c_g3 : W.cell? ⟨g3, 0, none⟩ = some (.float .f64 t1) := (HS.out.1.cell 4 (by simp)).1
    have c_g4 : W.cell? ⟨g4, 0, none⟩ = some (.float .f64 t2) := (HS.out.1.cell 3 (by simp)).1
    have c_g5 : W.cell? ⟨g5, 0, none⟩ = some (.float .f64 x) := (HS.out.1.cell 2 (by simp)).1
    go_wp2_with fail
    refine (Lerp_any t1 t2 x p q z Hp.out Hq.out Hz.out _).mono ?_
    rintro e w1 ⟨rfl, hb⟩
    have hS := HS.out.1.keep hb
    have hA := HS.out.2
    clear HS hb c_g3 c_g4 c_g5
    have s0 : (w1).cell? ⟨g7, 0, none⟩ = some (.float .f64 0) := (hS.cell 0 (by simp)).1
    have t0 : (w1).frozen? ⟨g7, 0, none⟩ = false := (hS.cell 0 (by simp)).2
    replace hS : Bx base w [(g7, z), (g6, 0), (g5, x), (g4, t2), (g3, t1)] ((w1).setCell ⟨g7, 0, none⟩ (.float .f64 z)) := hS.set z hA 0 (by simp)
    replace hA : Apart base [(g7, z), (g6, 0), (g5, x), (g4, t2), (g3, t1)] := Apart.of_fst (by rfl) hA
    have HS := Lib.hid (And.intro hS hA)
    clear hS hA
    go_upto_region 11 with fail
    clear s0 t0
    generalize World.setCell _ _ _ = W at *
    clear w1
    have c_g7 : W.cell? ⟨g7, 0, none⟩ = some (.float .f64 z) := (HS.out.1.cell 0 (by simp)).1
    have hS := HS.out.1
    have hA := HS.out.2
    clear HS
    generalize W = w1 at *
    have s0 : (w1).cell? ⟨g6, 0, none⟩ = some (.float .f64 0) := (hS.cell 1 (by simp)).1
    have t0 : (w1).frozen? ⟨g6, 0, none⟩ = false := (hS.cell 1 (by simp)).2
    replace hS : Bx base w [(g7, z), (g6, z), (g5, x), (g4, t2), (g3, t1)] ((w1).setCell ⟨g6, 0, none⟩ (.float .f64 z)) := hS.set z hA 1 (by simp)
    replace hA : Apart base [(g7, z), (g6, z), (g5, x), (g4, t2), (g3, t1)] := Apart.of_fst (by rfl) hA
    have HS := Lib.hid (And.intro hS hA)
    clear hS hA
    go_wp2_with fail
    clear s0 t0 c_g7
    generalize World.setCell _ _ _ = W at *
    clear w1
    have c_g6 : W.cell? ⟨g6, 0, none⟩ = some (.float .f64 z) := (HS.out.1.cell 1 (by simp)).1
    refine bodyPost_ret (v := .agg #[.float .f64 z]) (by simp [results, Try.results64, go_sem, c_g6]) rfl ⟨rfl, HS.out.1.below.2⟩
set_option maxRecDepth 100000 in
set_option maxHeartbeats 4000000 in
theorem htr_b (t1 t2 hue f x0 x base : Nat) (w : World) (H : Hid (base = w.heap.size)) (Hf : Hid (Finite hue ∧ floorW hue = f)) (Hx0 : Hid (Ieee.double.sub hue f = some x0)) (Hx : Hid (Ieee.double.mul x0 4618441417868443648 = some x)) (Hq1 : Hid (ltB x 4607182418800017408 = false)) (Hq2 : Hid (ltB x 4613937818241073152 = true)) :
    Calls Try.prog 64 #[.agg #[.float .f64 t1], .agg #[.float .f64 t2], .agg #[.float .f64 hue]] w fun e w' => e = .returned (.agg #[.float .f64 t2]) ∧ Below base w w' := by
  go_enter Try.func64, Try.ntmps64
  go_upto_region 1 with fail
  generalize hW : World.alloc _ _ = W at *
  have hS : Bx base w [(w.heap.size + 1 + 1 + 1, 0), (w.heap.size + 1 + 1, hue), (w.heap.size + 1, t2), (w.heap.size, t1)] W := by
    subst hW
    have := (((((Bx.start w).alloc t1 41).alloc t2 41).alloc hue 41).alloc 0 41)
    rw [H.out]
    simpa using this
  have hA : Apart base [(w.heap.size + 1 + 1 + 1, 0), (w.heap.size + 1 + 1, hue), (w.heap.size + 1, t2), (w.heap.size, t1)] := by
    rw [H.out]
    simp [Apart]; try omega
  have HS := Lib.hid (And.intro hS hA)
  clear hS hA hW H
  generalize w.heap.size + 1 + 1 + 1 = g6 at *
  generalize w.heap.size + 1 + 1 = g5 at *
  generalize w.heap.size + 1 = g4 at *
  generalize hgg : w.heap.size = g3 at *
  clear hgg
  refine wp_region_plan 4 (by kernel_rfl) (by kernel_rfl) (PI base w [(g6, 0), (g5, hue), (g4, t2), (g3, t1)] [some 8, some 9, some 10, some 11] [] (fun i => [.agg #[.float .f64 hue], .agg #[.float .f64 hue], .agg #[.float .f64 f], .agg #[.float .f64 x0]].getD i (.bool false)) _) (PI.start HS.out.1) ?_ ?_
  · intro i o b' a' w' hi ho hb he hI
    rcases (by omega : i = 0 ∨ i = 1 ∨ i = 2 ∨ i = 3) with rfl | rfl | rfl | rfl
    · obtain rfl := Option.some.inj ho
      exact hI.stepQuiet hb rfl rfl rfl (op_load _ _ _ g5 hue _ rfl ((hI.old rfl).trans rfl) (hI.bx.cell 1 (by simp)).1)
    · obtain rfl := Option.some.inj ho
      exact hI.stepQuiet hb rfl rfl rfl (op_load _ _ _ g5 hue _ rfl ((hI.old rfl).trans rfl) (hI.bx.cell 1 (by simp)).1)
    · obtain rfl := Option.some.inj ho
      have e0 := hI.new 1 (edge he 1 (by kernel_rfl)) rfl rfl rfl (by show 9 < 36; decide)
      refine hI.stepCall hb rfl rfl rfl (op_call _ _ 74 Try.f74 _ _ _ rfl Try.func74 (by kernel_rfl) (by kernel_rfl)) ?_
      have hm : Array.map a'.eval #[.tmp 9] = #[.agg #[.float .f64 hue]] := by simp [e0]
      rw [hm]
      exact Floor_as hue f Hf.out.1 Hf.out.2 _
    · obtain rfl := Option.some.inj ho
      have e0 := hI.new 0 (edge he 0 (by kernel_rfl)) rfl rfl rfl (by show 8 < 36; decide)
      have e1 := hI.new 2 (edge he 2 (by kernel_rfl)) rfl rfl rfl (by show 10 < 36; decide)
      refine hI.stepCall hb rfl rfl rfl (op_call _ _ 62 Try.f62 _ _ _ rfl Try.func62 (by kernel_rfl) (by kernel_rfl)) ?_
      have hm : Array.map a'.eval #[.tmp 8, .tmp 10] = #[.agg #[.float .f64 hue], .agg #[.float .f64 f]] := by simp [e0, e1]
      rw [hm]
      exact Sub_any hue f x0 Hx0.out _
  · intro b' a' w1 hb hI
    obtain ⟨ρ, rfl, hS, hC, hN⟩ := hI
    have hA := HS.out.2
    clear HS
    have p0 := hb 0 (by decide)
    have p1 := hb 1 (by decide)
    have p2 := hb 2 (by decide)
    have p3 := hb 3 (by decide)
    have v0 : vals [] (fun i => [.agg #[.float .f64 hue], .agg #[.float .f64 hue], .agg #[.float .f64 f], .agg #[.float .f64 x0]].getD i (.bool false)) ρ 0 = .agg #[.float .f64 hue] := rfl
    have v1 : vals [] (fun i => [.agg #[.float .f64 hue], .agg #[.float .f64 hue], .agg #[.float .f64 f], .agg #[.float .f64 x0]].getD i (.bool false)) ρ 1 = .agg #[.float .f64 hue] := rfl
    have v2 : vals [] (fun i => [.agg #[.float .f64 hue], .agg #[.float .f64 hue], .agg #[.float .f64 f], .agg #[.float .f64 x0]].getD i (.bool false)) ρ 2 = .agg #[.float .f64 f] := rfl
    have v3 : vals [] (fun i => [.agg #[.float .f64 hue], .agg #[.float .f64 hue], .agg #[.float .f64 f], .agg #[.float .f64 x0]].getD i (.bool false)) ρ 3 = .agg #[.float .f64 x0] := rfl
    simp only [puts, Nat.zero_add, p0, p1, p2, p3, v0, v1, v2, v3, if_true, List.drop_succ_cons, List.drop_zero, Nat.reduceAdd]
    clear hb hC hN p0 p1 p2 p3 v0 v1 v2 v3
    clear ρ b'
    have s0 : (w1).cell? ⟨g5, 0, none⟩ = some (.float .f64 hue) := (hS.cell 1 (by simp)).1
    have t0 : (w1).frozen? ⟨g5, 0, none⟩ = false := (hS.cell 1 (by simp)).2
    replace hS : Bx base w [(g6, 0), (g5, x0), (g4, t2), (g3, t1)] ((w1).setCell ⟨g5, 0, none⟩ (.float .f64 x0)) := hS.set x0 hA 1 (by simp)
    replace hA : Apart base [(g6, 0), (g5, x0), (g4, t2), (g3, t1)] := Apart.of_fst (by rfl) hA
    have HS := Lib.hid (And.intro hS hA)
    clear hS hA
    go_upto_region 2 with fail
    clear s0 t0
    generalize World.setCell _ _ _ = W at *
    clear w1
    have c_g5 : W.cell? ⟨g5, 0, none⟩ = some (.float .f64 x0) := (HS.out.1.cell 1 (by simp)).1
    go_wp2_with fail
    refine (MulConst_any x0 4618441417868443648 x Hx.out _).mono ?_
    rintro e w1 ⟨rfl, hb⟩
    have hS := HS.out.1.keep hb
    have hA := HS.out.2
    clear HS hb c_g5
    have s0 : (w1).cell? ⟨g5, 0, none⟩ = some (.float .f64 x0) := (hS.cell 1 (by simp)).1
    have t0 : (w1).frozen? ⟨g5, 0, none⟩ = false := (hS.cell 1 (by simp)).2
    replace hS : Bx base w [(g6, 0), (g5, x), (g4, t2), (g3, t1)] ((w1).setCell ⟨g5, 0, none⟩ (.float .f64 x)) := hS.set x hA 1 (by simp)
    replace hA : Apart base [(g6, 0), (g5, x), (g4, t2), (g3, t1)] := Apart.of_fst (by rfl) hA
    have HS := Lib.hid (And.intro hS hA)
    clear hS hA
    go_upto_region 3 with fail
    clear s0 t0
    generalize World.setCell _ _ _ = W at *
    clear w1
    have hS := HS.out.1
    have hA := HS.out.2
    clear HS
    generalize W = w1 at *
    replace hA := hA.alloc hS 0
    replace hS := hS.alloc 0 41
    have HS := Lib.hid (And.intro hS hA)
    clear hS hA
    go_upto_region 4 with fail
    generalize World.alloc _ _ = W at *
    generalize w1.heap.size = g7 at *
    clear w1
    have q1 : (FloatKind.f64.format.order x 4607182418800017408 == some .lt) = false := Hq1.out
    have c_g5 : W.cell? ⟨g5, 0, none⟩ = some (.float .f64 x) := (HS.out.1.cell 2 (by simp)).1
    go_wp2_with fail
    refine (Value_any x _).mono ?_
    rintro e w1 ⟨rfl, hb⟩
    have hS := HS.out.1.keep hb
    have hA := HS.out.2
    clear HS hb c_g5
    have HS := Lib.hid (And.intro hS hA)
    clear hS hA
    go_upto_region 6 with fail
    generalize w1 = W at *
    clear q1
    have q2 : (FloatKind.f64.format.order x 4613937818241073152 == some .lt) = true := Hq2.out
    have c_g5 : W.cell? ⟨g5, 0, none⟩ = some (.float .f64 x) := (HS.out.1.cell 2 (by simp)).1
    go_wp2_with fail
    refine (Value_any x _).mono ?_
    rintro e w1 ⟨rfl, hb⟩
    have hS := HS.out.1.keep hb
    have hA := HS.out.2
    clear HS hb c_g5
    have HS := Lib.hid (And.intro hS hA)
    clear hS hA
    go_upto_region 7 with fail
    generalize w1 = W at *
    clear q2
    have c_g4 : W.cell? ⟨g4, 0, none⟩ = some (.float .f64 t2) := (HS.out.1.cell 3 (by simp)).1
    have hS := HS.out.1
    have hA := HS.out.2
    clear HS
    generalize W = w1 at *
    have s0 : (w1).cell? ⟨g7, 0, none⟩ = some (.float .f64 0) := (hS.cell 0 (by simp)).1
    have t0 : (w1).frozen? ⟨g7, 0, none⟩ = false := (hS.cell 0 (by simp)).2
    replace hS : Bx base w [(g7, t2), (g6, 0), (g5, x), (g4, t2), (g3, t1)] ((w1).setCell ⟨g7, 0, none⟩ (.float .f64 t2)) := hS.set t2 hA 0 (by simp)
    replace hA : Apart base [(g7, t2), (g6, 0), (g5, x), (g4, t2), (g3, t1)] := Apart.of_fst (by rfl) hA
    have HS := Lib.hid (And.intro hS hA)
    clear hS hA
    go_upto_region 11 with fail
    clear s0 t0 c_g4
    generalize World.setCell _ _ _ = W at *
    clear w1
    have c_g7 : W.cell? ⟨g7, 0, none⟩ = some (.float .f64 t2) := (HS.out.1.cell 0 (by simp)).1
    have hS := HS.out.1
    have hA := HS.out.2
    clear HS
    generalize W = w1 at *
    have s0 : (w1).cell? ⟨g6, 0, none⟩ = some (.float .f64 0) := (hS.cell 1 (by simp)).1
    have t0 : (w1).frozen? ⟨g6, 0, none⟩ = false := (hS.cell 1 (by simp)).2
    replace hS : Bx base w [(g7, t2), (g6, t2), (g5, x), (g4, t2), (g3, t1)] ((w1).setCell ⟨g6, 0, none⟩ (.float .f64 t2)) := hS.set t2 hA 1 (by simp)
    replace hA : Apart base [(g7, t2), (g6, t2), (g5, x), (g4, t2), (g3, t1)] := Apart.of_fst (by rfl) hA
    have HS := Lib.hid (And.intro hS hA)
    clear hS hA
    go_wp2_with fail
    clear s0 t0 c_g7
    generalize World.setCell _ _ _ = W at *
    clear w1
    have c_g6 : W.cell? ⟨g6, 0, none⟩ = some (.float .f64 t2) := (HS.out.1.cell 1 (by simp)).1
    refine bodyPost_ret (v := .agg #[.float .f64 t2]) (by simp [results, Try.results64, go_sem, c_g6]) rfl ⟨rfl, HS.out.1.below.2⟩
set_option maxRecDepth 100000 in
set_option maxHeartbeats 4000000 in
theorem htr_c (t1 t2 hue f x0 x nx y p q z base : Nat) (w : World) (H : Hid (base = w.heap.size)) (Hf : Hid (Finite hue ∧ floorW hue = f)) (Hx0 : Hid (Ieee.double.sub hue f = some x0)) (Hx : Hid (Ieee.double.mul x0 4618441417868443648 = some x)) (Hq1 : Hid (ltB x 4607182418800017408 = false)) (Hq2 : Hid (ltB x 4613937818241073152 = false)) (Hq3 : Hid (ltB x 4616189618054758400 = true)) (Hnx : Hid (flip x = nx)) (Hy : Hid (Ieee.double.add nx 4616189618054758400 = some y)) (Hp : Hid (Ieee.double.sub t2 t1 = some p)) (Hq : Hid (Ieee.double.mul p y = some q)) (Hz : Hid (Ieee.double.add q t1 = some z)) :
    Calls Try.prog 64 #[.agg #[.float .f64 t1], .agg #[.float .f64 t2], .agg #[.float .f64 hue]] w fun e w' => e = .returned (.agg #[.float .f64 z]) ∧ Below base w w' := by
  go_enter Try.func64, Try.ntmps64
  go_upto_region 1 with fail
  generalize hW : World.alloc _ _ = W at *
  have hS : Bx base w [(w.heap.size + 1 + 1 + 1, 0), (w.heap.size + 1 + 1, hue), (w.heap.size + 1, t2), (w.heap.size, t1)] W := by
    subst hW
    have := (((((Bx.start w).alloc t1 41).alloc t2 41).alloc hue 41).alloc 0 41)
    rw [H.out]
    simpa using this
  have hA : Apart base [(w.heap.size + 1 + 1 + 1, 0), (w.heap.size + 1 + 1, hue), (w.heap.size + 1, t2), (w.heap.size, t1)] := by
    rw [H.out]
    simp [Apart]; try omega
  have HS := Lib.hid (And.intro hS hA)
  clear hS hA hW H
  generalize w.heap.size + 1 + 1 + 1 = g6 at *
  generalize w.heap.size + 1 + 1 = g5 at *
  generalize w.heap.size + 1 = g4 at *
  generalize hgg : w.heap.size = g3 at *
  clear hgg
  refine wp_region_plan 4 (by kernel_rfl) (by kernel_rfl) (PI base w [(g6, 0), (g5, hue), (g4, t2), (g3, t1)] [some 8, some 9, some 10, some 11] [] (fun i => [.agg #[.float .f64 hue], .agg #[.float .f64 hue], .agg #[.float .f64 f], .agg #[.float .f64 x0]].getD i (.bool false)) _) (PI.start HS.out.1) ?_ ?_
  · intro i o b' a' w' hi ho hb he hI
    rcases (by omega : i = 0 ∨ i = 1 ∨ i = 2 ∨ i = 3) with rfl | rfl | rfl | rfl
    · obtain rfl := Option.some.inj ho
      exact hI.stepQuiet hb rfl rfl rfl (op_load _ _ _ g5 hue _ rfl ((hI.old rfl).trans rfl) (hI.bx.cell 1 (by simp)).1)
    · obtain rfl := Option.some.inj ho
      exact hI.stepQuiet hb rfl rfl rfl (op_load _ _ _ g5 hue _ rfl ((hI.old rfl).trans rfl) (hI.bx.cell 1 (by simp)).1)
    · obtain rfl := Option.some.inj ho
      have e0 := hI.new 1 (edge he 1 (by kernel_rfl)) rfl rfl rfl (by show 9 < 36; decide)
      refine hI.stepCall hb rfl rfl rfl (op_call _ _ 74 Try.f74 _ _ _ rfl Try.func74 (by kernel_rfl) (by kernel_rfl)) ?_
      have hm : Array.map a'.eval #[.tmp 9] = #[.agg #[.float .f64 hue]] := by simp [e0]
      rw [hm]
      exact Floor_as hue f Hf.out.1 Hf.out.2 _
    · obtain rfl := Option.some.inj ho
      have e0 := hI.new 0 (edge he 0 (by kernel_rfl)) rfl rfl rfl (by show 8 < 36; decide)
      have e1 := hI.new 2 (edge he 2 (by kernel_rfl)) rfl rfl rfl (by show 10 < 36; decide)
      refine hI.stepCall hb rfl rfl rfl (op_call _ _ 62 Try.f62 _ _ _ rfl Try.func62 (by kernel_rfl) (by kernel_rfl)) ?_
      have hm : Array.map a'.eval #[.tmp 8, .tmp 10] = #[.agg #[.float .f64 hue], .agg #[.float .f64 f]] := by simp [e0, e1]
      rw [hm]
      exact Sub_any hue f x0 Hx0.out _
  · intro b' a' w1 hb hI
    obtain ⟨ρ, rfl, hS, hC, hN⟩ := hI
    have hA := HS.out.2
    clear HS
    have p0 := hb 0 (by decide)
    have p1 := hb 1 (by decide)
    have p2 := hb 2 (by decide)
    have p3 := hb 3 (by decide)
    have v0 : vals [] (fun i => [.agg #[.float .f64 hue], .agg #[.float .f64 hue], .agg #[.float .f64 f], .agg #[.float .f64 x0]].getD i (.bool false)) ρ 0 = .agg #[.float .f64 hue] := rfl
    have v1 : vals [] (fun i => [.agg #[.float .f64 hue], .agg #[.float .f64 hue], .agg #[.float .f64 f], .agg #[.float .f64 x0]].getD i (.bool false)) ρ 1 = .agg #[.float .f64 hue] := rfl
    have v2 : vals [] (fun i => [.agg #[.float .f64 hue], .agg #[.float .f64 hue], .agg #[.float .f64 f], .agg #[.float .f64 x0]].getD i (.bool false)) ρ 2 = .agg #[.float .f64 f] := rfl
    have v3 : vals [] (fun i => [.agg #[.float .f64 hue], .agg #[.float .f64 hue], .agg #[.float .f64 f], .agg #[.float .f64 x0]].getD i (.bool false)) ρ 3 = .agg #[.float .f64 x0] := rfl
    simp only [puts, Nat.zero_add, p0, p1, p2, p3, v0, v1, v2, v3, if_true, List.drop_succ_cons, List.drop_zero, Nat.reduceAdd]
    clear hb hC hN p0 p1 p2 p3 v0 v1 v2 v3
    clear ρ b'
    have s0 : (w1).cell? ⟨g5, 0, none⟩ = some (.float .f64 hue) := (hS.cell 1 (by simp)).1
    have t0 : (w1).frozen? ⟨g5, 0, none⟩ = false := (hS.cell 1 (by simp)).2
    replace hS : Bx base w [(g6, 0), (g5, x0), (g4, t2), (g3, t1)] ((w1).setCell ⟨g5, 0, none⟩ (.float .f64 x0)) := hS.set x0 hA 1 (by simp)
    replace hA : Apart base [(g6, 0), (g5, x0), (g4, t2), (g3, t1)] := Apart.of_fst (by rfl) hA
    have HS := Lib.hid (And.intro hS hA)
    clear hS hA
    go_upto_region 2 with fail
    clear s0 t0
    generalize World.setCell _ _ _ = W at *
    clear w1
    have c_g5 : W.cell? ⟨g5, 0, none⟩ = some (.float .f64 x0) := (HS.out.1.cell 1 (by simp)).1
    go_wp2_with fail
    refine (MulConst_any x0 4618441417868443648 x Hx.out _).mono ?_
    rintro e w1 ⟨rfl, hb⟩
    have hS := HS.out.1.keep hb
    have hA := HS.out.2
    clear HS hb c_g5
    have s0 : (w1).cell? ⟨g5, 0, none⟩ = some (.float .f64 x0) := (hS.cell 1 (by simp)).1
    have t0 : (w1).frozen? ⟨g5, 0, none⟩ = false := (hS.cell 1 (by simp)).2
    replace hS : Bx base w [(g6, 0), (g5, x), (g4, t2), (g3, t1)] ((w1).setCell ⟨g5, 0, none⟩ (.float .f64 x)) := hS.set x hA 1 (by simp)
    replace hA : Apart base [(g6, 0), (g5, x), (g4, t2), (g3, t1)] := Apart.of_fst (by rfl) hA
    have HS := Lib.hid (And.intro hS hA)
    clear hS hA
    go_upto_region 3 with fail
    clear s0 t0
    generalize World.setCell _ _ _ = W at *
    clear w1
    have hS := HS.out.1
    have hA := HS.out.2
    clear HS
    generalize W = w1 at *
    replace hA := hA.alloc hS 0
    replace hS := hS.alloc 0 41
    have HS := Lib.hid (And.intro hS hA)
    clear hS hA
    go_upto_region 4 with fail
    generalize World.alloc _ _ = W at *
    generalize w1.heap.size = g7 at *
    clear w1
    have q1 : (FloatKind.f64.format.order x 4607182418800017408 == some .lt) = false := Hq1.out
    have c_g5 : W.cell? ⟨g5, 0, none⟩ = some (.float .f64 x) := (HS.out.1.cell 2 (by simp)).1
    go_wp2_with fail
    refine (Value_any x _).mono ?_
    rintro e w1 ⟨rfl, hb⟩
    have hS := HS.out.1.keep hb
    have hA := HS.out.2
    clear HS hb c_g5
    have HS := Lib.hid (And.intro hS hA)
    clear hS hA
    go_upto_region 6 with fail
    generalize w1 = W at *
    clear q1
    have q2 : (FloatKind.f64.format.order x 4613937818241073152 == some .lt) = false := Hq2.out
    have c_g5 : W.cell? ⟨g5, 0, none⟩ = some (.float .f64 x) := (HS.out.1.cell 2 (by simp)).1
    go_wp2_with fail
    refine (Value_any x _).mono ?_
    rintro e w1 ⟨rfl, hb⟩
    have hS := HS.out.1.keep hb
    have hA := HS.out.2
    clear HS hb c_g5
    have HS := Lib.hid (And.intro hS hA)
    clear hS hA
    go_upto_region 8 with fail
    generalize w1 = W at *
    clear q2
    have q3 : (FloatKind.f64.format.order x 4616189618054758400 == some .lt) = true := Hq3.out
    have c_g5 : W.cell? ⟨g5, 0, none⟩ = some (.float .f64 x) := (HS.out.1.cell 2 (by simp)).1
    go_wp2_with fail
    refine (Value_any x _).mono ?_
    rintro e w1 ⟨rfl, hb⟩
    have hS := HS.out.1.keep hb
    have hA := HS.out.2
    clear HS hb c_g5
    have HS := Lib.hid (And.intro hS hA)
    clear hS hA
    go_upto_region 9 with fail
    generalize w1 = W at *
    clear q3
    refine wp_region_plan 6 (by kernel_rfl) (by kernel_rfl) (PI base w [(g7, 0), (g6, 0), (g5, x), (g4, t2), (g3, t1)] [some 28, some 29, some 30, some 31, some 32, some 33] [] (fun i => [.agg #[.float .f64 t1], .agg #[.float .f64 t2], .agg #[.float .f64 x], .agg #[.float .f64 nx], .agg #[.float .f64 y], .agg #[.float .f64 z]].getD i (.bool false)) _) (PI.start HS.out.1) ?_ ?_
    · intro i o b' a' w' hi ho hb he hI
      rcases (by omega : i = 0 ∨ i = 1 ∨ i = 2 ∨ i = 3 ∨ i = 4 ∨ i = 5) with rfl | rfl | rfl | rfl | rfl | rfl
      · obtain rfl := Option.some.inj ho
        exact hI.stepQuiet hb rfl rfl rfl (op_load _ _ _ g3 t1 _ rfl ((hI.old rfl).trans rfl) (hI.bx.cell 4 (by simp)).1)
      · obtain rfl := Option.some.inj ho
        exact hI.stepQuiet hb rfl rfl rfl (op_load _ _ _ g4 t2 _ rfl ((hI.old rfl).trans rfl) (hI.bx.cell 3 (by simp)).1)
      · obtain rfl := Option.some.inj ho
        exact hI.stepQuiet hb rfl rfl rfl (op_load _ _ _ g5 x _ rfl ((hI.old rfl).trans rfl) (hI.bx.cell 2 (by simp)).1)
      · obtain rfl := Option.some.inj ho
        have e0 := hI.new 2 (edge he 2 (by kernel_rfl)) rfl rfl rfl (by show 30 < 36; decide)
        refine hI.stepCall hb rfl rfl rfl (op_call _ _ 72 Try.f72 _ _ _ rfl Try.func72 (by kernel_rfl) (by kernel_rfl)) ?_
        have hm : Array.map a'.eval #[.tmp 30] = #[.agg #[.float .f64 x]] := by simp [e0]
        rw [hm]
        exact Neg_as x nx Hnx.out _
      · obtain rfl := Option.some.inj ho
        have e0 := hI.new 3 (edge he 3 (by kernel_rfl)) rfl rfl rfl (by show 31 < 36; decide)
        refine hI.stepCall hb rfl rfl rfl (op_call _ _ 59 Try.f59 _ _ _ rfl Try.func59 (by kernel_rfl) (by kernel_rfl)) ?_
        have hm : Array.map a'.eval #[.tmp 31, .const ((Value.float FloatKind.f64 4616189618054758400))] = #[.agg #[.float .f64 nx], (Value.float FloatKind.f64 4616189618054758400)] := by simp [e0, ev_const]
        rw [hm]
        exact AddConst_any nx 4616189618054758400 y Hy.out _
      · obtain rfl := Option.some.inj ho
        have e0 := hI.new 0 (edge he 0 (by kernel_rfl)) rfl rfl rfl (by show 28 < 36; decide)
        have e1 := hI.new 1 (edge he 1 (by kernel_rfl)) rfl rfl rfl (by show 29 < 36; decide)
        have e2 := hI.new 4 (edge he 4 (by kernel_rfl)) rfl rfl rfl (by show 32 < 36; decide)
        refine hI.stepCall hb rfl rfl rfl (op_call _ _ 78 Try.f78 _ _ _ rfl Try.func78 (by kernel_rfl) (by kernel_rfl)) ?_
        have hm : Array.map a'.eval #[.tmp 28, .tmp 29, .tmp 32] = #[.agg #[.float .f64 t1], .agg #[.float .f64 t2], .agg #[.float .f64 y]] := by simp [e0, e1, e2]
        rw [hm]
        exact Lerp_any t1 t2 y p q z Hp.out Hq.out Hz.out _
    · intro b' a' w1 hb hI
      obtain ⟨ρ, rfl, hS, hC, hN⟩ := hI
      have hA := HS.out.2
      clear HS
      have p0 := hb 0 (by decide)
      have p1 := hb 1 (by decide)
      have p2 := hb 2 (by decide)
      have p3 := hb 3 (by decide)
      have p4 := hb 4 (by decide)
      have p5 := hb 5 (by decide)
      have v0 : vals [] (fun i => [.agg #[.float .f64 t1], .agg #[.float .f64 t2], .agg #[.float .f64 x], .agg #[.float .f64 nx], .agg #[.float .f64 y], .agg #[.float .f64 z]].getD i (.bool false)) ρ 0 = .agg #[.float .f64 t1] := rfl
      have v1 : vals [] (fun i => [.agg #[.float .f64 t1], .agg #[.float .f64 t2], .agg #[.float .f64 x], .agg #[.float .f64 nx], .agg #[.float .f64 y], .agg #[.float .f64 z]].getD i (.bool false)) ρ 1 = .agg #[.float .f64 t2] := rfl
      have v2 : vals [] (fun i => [.agg #[.float .f64 t1], .agg #[.float .f64 t2], .agg #[.float .f64 x], .agg #[.float .f64 nx], .agg #[.float .f64 y], .agg #[.float .f64 z]].getD i (.bool false)) ρ 2 = .agg #[.float .f64 x] := rfl
      have v3 : vals [] (fun i => [.agg #[.float .f64 t1], .agg #[.float .f64 t2], .agg #[.float .f64 x], .agg #[.float .f64 nx], .agg #[.float .f64 y], .agg #[.float .f64 z]].getD i (.bool false)) ρ 3 = .agg #[.float .f64 nx] := rfl
      have v4 : vals [] (fun i => [.agg #[.float .f64 t1], .agg #[.float .f64 t2], .agg #[.float .f64 x], .agg #[.float .f64 nx], .agg #[.float .f64 y], .agg #[.float .f64 z]].getD i (.bool false)) ρ 4 = .agg #[.float .f64 y] := rfl
      have v5 : vals [] (fun i => [.agg #[.float .f64 t1], .agg #[.float .f64 t2], .agg #[.float .f64 x], .agg #[.float .f64 nx], .agg #[.float .f64 y], .agg #[.float .f64 z]].getD i (.bool false)) ρ 5 = .agg #[.float .f64 z] := rfl
      simp only [puts, Nat.zero_add, p0, p1, p2, p3, p4, p5, v0, v1, v2, v3, v4, v5, if_true, List.drop_succ_cons, List.drop_zero, Nat.reduceAdd]
      clear hb hC hN p0 p1 p2 p3 p4 p5 v0 v1 v2 v3 v4 v5
      clear ρ b'
      have s0 : (w1).cell? ⟨g7, 0, none⟩ = some (.float .f64 0) := (hS.cell 0 (by simp)).1
      have t0 : (w1).frozen? ⟨g7, 0, none⟩ = false := (hS.cell 0 (by simp)).2
      replace hS : Bx base w [(g7, z), (g6, 0), (g5, x), (g4, t2), (g3, t1)] ((w1).setCell ⟨g7, 0, none⟩ (.float .f64 z)) := hS.set z hA 0 (by simp)
      replace hA : Apart base [(g7, z), (g6, 0), (g5, x), (g4, t2), (g3, t1)] := Apart.of_fst (by rfl) hA
      have HS := Lib.hid (And.intro hS hA)
      clear hS hA
      go_upto_region 11 with fail
      clear s0 t0
      generalize World.setCell _ _ _ = W at *
      clear w1
      have c_g7 : W.cell? ⟨g7, 0, none⟩ = some (.float .f64 z) := (HS.out.1.cell 0 (by simp)).1
      have hS := HS.out.1
      have hA := HS.out.2
      clear HS
      generalize W = w1 at *
      have s0 : (w1).cell? ⟨g6, 0, none⟩ = some (.float .f64 0) := (hS.cell 1 (by simp)).1
      have t0 : (w1).frozen? ⟨g6, 0, none⟩ = false := (hS.cell 1 (by simp)).2
      replace hS : Bx base w [(g7, z), (g6, z), (g5, x), (g4, t2), (g3, t1)] ((w1).setCell ⟨g6, 0, none⟩ (.float .f64 z)) := hS.set z hA 1 (by simp)
      replace hA : Apart base [(g7, z), (g6, z), (g5, x), (g4, t2), (g3, t1)] := Apart.of_fst (by rfl) hA
      have HS := Lib.hid (And.intro hS hA)
      clear hS hA
      go_wp2_with fail
      clear s0 t0 c_g7
      generalize World.setCell _ _ _ = W at *
      clear w1
      have c_g6 : W.cell? ⟨g6, 0, none⟩ = some (.float .f64 z) := (HS.out.1.cell 1 (by simp)).1
      refine bodyPost_ret (v := .agg #[.float .f64 z]) (by simp [results, Try.results64, go_sem, c_g6]) rfl ⟨rfl, HS.out.1.below.2⟩
set_option maxRecDepth 100000 in
set_option maxHeartbeats 4000000 in
theorem htr_d (t1 t2 hue f x0 x base : Nat) (w : World) (H : Hid (base = w.heap.size)) (Hf : Hid (Finite hue ∧ floorW hue = f)) (Hx0 : Hid (Ieee.double.sub hue f = some x0)) (Hx : Hid (Ieee.double.mul x0 4618441417868443648 = some x)) (Hq1 : Hid (ltB x 4607182418800017408 = false)) (Hq2 : Hid (ltB x 4613937818241073152 = false)) (Hq3 : Hid (ltB x 4616189618054758400 = false)) :
    Calls Try.prog 64 #[.agg #[.float .f64 t1], .agg #[.float .f64 t2], .agg #[.float .f64 hue]] w fun e w' => e = .returned (.agg #[.float .f64 t1]) ∧ Below base w w' := by
  go_enter Try.func64, Try.ntmps64
  go_upto_region 1 with fail
  generalize hW : World.alloc _ _ = W at *
  have hS : Bx base w [(w.heap.size + 1 + 1 + 1, 0), (w.heap.size + 1 + 1, hue), (w.heap.size + 1, t2), (w.heap.size, t1)] W := by
    subst hW
    have := (((((Bx.start w).alloc t1 41).alloc t2 41).alloc hue 41).alloc 0 41)
    rw [H.out]
    simpa using this
  have hA : Apart base [(w.heap.size + 1 + 1 + 1, 0), (w.heap.size + 1 + 1, hue), (w.heap.size + 1, t2), (w.heap.size, t1)] := by
    rw [H.out]
    simp [Apart]; try omega
  have HS := Lib.hid (And.intro hS hA)
  clear hS hA hW H
  generalize w.heap.size + 1 + 1 + 1 = g6 at *
  generalize w.heap.size + 1 + 1 = g5 at *
  generalize w.heap.size + 1 = g4 at *
  generalize hgg : w.heap.size = g3 at *
  clear hgg
  refine wp_region_plan 4 (by kernel_rfl) (by kernel_rfl) (PI base w [(g6, 0), (g5, hue), (g4, t2), (g3, t1)] [some 8, some 9, some 10, some 11] [] (fun i => [.agg #[.float .f64 hue], .agg #[.float .f64 hue], .agg #[.float .f64 f], .agg #[.float .f64 x0]].getD i (.bool false)) _) (PI.start HS.out.1) ?_ ?_
  · intro i o b' a' w' hi ho hb he hI
    rcases (by omega : i = 0 ∨ i = 1 ∨ i = 2 ∨ i = 3) with rfl | rfl | rfl | rfl
    · obtain rfl := Option.some.inj ho
      exact hI.stepQuiet hb rfl rfl rfl (op_load _ _ _ g5 hue _ rfl ((hI.old rfl).trans rfl) (hI.bx.cell 1 (by simp)).1)
    · obtain rfl := Option.some.inj ho
      exact hI.stepQuiet hb rfl rfl rfl (op_load _ _ _ g5 hue _ rfl ((hI.old rfl).trans rfl) (hI.bx.cell 1 (by simp)).1)
    · obtain rfl := Option.some.inj ho
      have e0 := hI.new 1 (edge he 1 (by kernel_rfl)) rfl rfl rfl (by show 9 < 36; decide)
      refine hI.stepCall hb rfl rfl rfl (op_call _ _ 74 Try.f74 _ _ _ rfl Try.func74 (by kernel_rfl) (by kernel_rfl)) ?_
      have hm : Array.map a'.eval #[.tmp 9] = #[.agg #[.float .f64 hue]] := by simp [e0]
      rw [hm]
      exact Floor_as hue f Hf.out.1 Hf.out.2 _
    · obtain rfl := Option.some.inj ho
      have e0 := hI.new 0 (edge he 0 (by kernel_rfl)) rfl rfl rfl (by show 8 < 36; decide)
      have e1 := hI.new 2 (edge he 2 (by kernel_rfl)) rfl rfl rfl (by show 10 < 36; decide)
      refine hI.stepCall hb rfl rfl rfl (op_call _ _ 62 Try.f62 _ _ _ rfl Try.func62 (by kernel_rfl) (by kernel_rfl)) ?_
      have hm : Array.map a'.eval #[.tmp 8, .tmp 10] = #[.agg #[.float .f64 hue], .agg #[.float .f64 f]] := by simp [e0, e1]
      rw [hm]
      exact Sub_any hue f x0 Hx0.out _
  · intro b' a' w1 hb hI
    obtain ⟨ρ, rfl, hS, hC, hN⟩ := hI
    have hA := HS.out.2
    clear HS
    have p0 := hb 0 (by decide)
    have p1 := hb 1 (by decide)
    have p2 := hb 2 (by decide)
    have p3 := hb 3 (by decide)
    have v0 : vals [] (fun i => [.agg #[.float .f64 hue], .agg #[.float .f64 hue], .agg #[.float .f64 f], .agg #[.float .f64 x0]].getD i (.bool false)) ρ 0 = .agg #[.float .f64 hue] := rfl
    have v1 : vals [] (fun i => [.agg #[.float .f64 hue], .agg #[.float .f64 hue], .agg #[.float .f64 f], .agg #[.float .f64 x0]].getD i (.bool false)) ρ 1 = .agg #[.float .f64 hue] := rfl
    have v2 : vals [] (fun i => [.agg #[.float .f64 hue], .agg #[.float .f64 hue], .agg #[.float .f64 f], .agg #[.float .f64 x0]].getD i (.bool false)) ρ 2 = .agg #[.float .f64 f] := rfl
    have v3 : vals [] (fun i => [.agg #[.float .f64 hue], .agg #[.float .f64 hue], .agg #[.float .f64 f], .agg #[.float .f64 x0]].getD i (.bool false)) ρ 3 = .agg #[.float .f64 x0] := rfl
    simp only [puts, Nat.zero_add, p0, p1, p2, p3, v0, v1, v2, v3, if_true, List.drop_succ_cons, List.drop_zero, Nat.reduceAdd]
    clear hb hC hN p0 p1 p2 p3 v0 v1 v2 v3
    clear ρ b'
    have s0 : (w1).cell? ⟨g5, 0, none⟩ = some (.float .f64 hue) := (hS.cell 1 (by simp)).1
    have t0 : (w1).frozen? ⟨g5, 0, none⟩ = false := (hS.cell 1 (by simp)).2
    replace hS : Bx base w [(g6, 0), (g5, x0), (g4, t2), (g3, t1)] ((w1).setCell ⟨g5, 0, none⟩ (.float .f64 x0)) := hS.set x0 hA 1 (by simp)
    replace hA : Apart base [(g6, 0), (g5, x0), (g4, t2), (g3, t1)] := Apart.of_fst (by rfl) hA
    have HS := Lib.hid (And.intro hS hA)
    clear hS hA
    go_upto_region 2 with fail
    clear s0 t0
    generalize World.setCell _ _ _ = W at *
    clear w1
    have c_g5 : W.cell? ⟨g5, 0, none⟩ = some (.float .f64 x0) := (HS.out.1.cell 1 (by simp)).1
    go_wp2_with fail
    refine (MulConst_any x0 4618441417868443648 x Hx.out _).mono ?_
    rintro e w1 ⟨rfl, hb⟩
    have hS := HS.out.1.keep hb
    have hA := HS.out.2
    clear HS hb c_g5
    have s0 : (w1).cell? ⟨g5, 0, none⟩ = some (.float .f64 x0) := (hS.cell 1 (by simp)).1
    have t0 : (w1).frozen? ⟨g5, 0, none⟩ = false := (hS.cell 1 (by simp)).2
    replace hS : Bx base w [(g6, 0), (g5, x), (g4, t2), (g3, t1)] ((w1).setCell ⟨g5, 0, none⟩ (.float .f64 x)) := hS.set x hA 1 (by simp)
    replace hA : Apart base [(g6, 0), (g5, x), (g4, t2), (g3, t1)] := Apart.of_fst (by rfl) hA
    have HS := Lib.hid (And.intro hS hA)
    clear hS hA
    go_upto_region 3 with fail
    clear s0 t0
    generalize World.setCell _ _ _ = W at *
    clear w1
    have hS := HS.out.1
    have hA := HS.out.2
    clear HS
    generalize W = w1 at *
    replace hA := hA.alloc hS 0
    replace hS := hS.alloc 0 41
    have HS := Lib.hid (And.intro hS hA)
    clear hS hA
    go_upto_region 4 with fail
    generalize World.alloc _ _ = W at *
    generalize w1.heap.size = g7 at *
    clear w1
    have q1 : (FloatKind.f64.format.order x 4607182418800017408 == some .lt) = false := Hq1.out
    have c_g5 : W.cell? ⟨g5, 0, none⟩ = some (.float .f64 x) := (HS.out.1.cell 2 (by simp)).1
    go_wp2_with fail
    refine (Value_any x _).mono ?_
    rintro e w1 ⟨rfl, hb⟩
    have hS := HS.out.1.keep hb
    have hA := HS.out.2
    clear HS hb c_g5
    have HS := Lib.hid (And.intro hS hA)
    clear hS hA
    go_upto_region 6 with fail
    generalize w1 = W at *
    clear q1
    have q2 : (FloatKind.f64.format.order x 4613937818241073152 == some .lt) = false := Hq2.out
    have c_g5 : W.cell? ⟨g5, 0, none⟩ = some (.float .f64 x) := (HS.out.1.cell 2 (by simp)).1
    go_wp2_with fail
    refine (Value_any x _).mono ?_
    rintro e w1 ⟨rfl, hb⟩
    have hS := HS.out.1.keep hb
    have hA := HS.out.2
    clear HS hb c_g5
    have HS := Lib.hid (And.intro hS hA)
    clear hS hA
    go_upto_region 8 with fail
    generalize w1 = W at *
    clear q2
    have q3 : (FloatKind.f64.format.order x 4616189618054758400 == some .lt) = false := Hq3.out
    have c_g5 : W.cell? ⟨g5, 0, none⟩ = some (.float .f64 x) := (HS.out.1.cell 2 (by simp)).1
    go_wp2_with fail
    refine (Value_any x _).mono ?_
    rintro e w1 ⟨rfl, hb⟩
    have hS := HS.out.1.keep hb
    have hA := HS.out.2
    clear HS hb c_g5
    have HS := Lib.hid (And.intro hS hA)
    clear hS hA
    go_upto_region 10 with fail
    generalize w1 = W at *
    clear q3
    have c_g3 : W.cell? ⟨g3, 0, none⟩ = some (.float .f64 t1) := (HS.out.1.cell 4 (by simp)).1
    have hS := HS.out.1
    have hA := HS.out.2
    clear HS
    generalize W = w1 at *
    have s0 : (w1).cell? ⟨g7, 0, none⟩ = some (.float .f64 0) := (hS.cell 0 (by simp)).1
    have t0 : (w1).frozen? ⟨g7, 0, none⟩ = false := (hS.cell 0 (by simp)).2
    replace hS : Bx base w [(g7, t1), (g6, 0), (g5, x), (g4, t2), (g3, t1)] ((w1).setCell ⟨g7, 0, none⟩ (.float .f64 t1)) := hS.set t1 hA 0 (by simp)
    replace hA : Apart base [(g7, t1), (g6, 0), (g5, x), (g4, t2), (g3, t1)] := Apart.of_fst (by rfl) hA
    have HS := Lib.hid (And.intro hS hA)
    clear hS hA
    go_upto_region 11 with fail
    clear s0 t0 c_g3
    generalize World.setCell _ _ _ = W at *
    clear w1
    have c_g7 : W.cell? ⟨g7, 0, none⟩ = some (.float .f64 t1) := (HS.out.1.cell 0 (by simp)).1
    have hS := HS.out.1
    have hA := HS.out.2
    clear HS
    generalize W = w1 at *
    have s0 : (w1).cell? ⟨g6, 0, none⟩ = some (.float .f64 0) := (hS.cell 1 (by simp)).1
    have t0 : (w1).frozen? ⟨g6, 0, none⟩ = false := (hS.cell 1 (by simp)).2
    replace hS : Bx base w [(g7, t1), (g6, t1), (g5, x), (g4, t2), (g3, t1)] ((w1).setCell ⟨g6, 0, none⟩ (.float .f64 t1)) := hS.set t1 hA 1 (by simp)
    replace hA : Apart base [(g7, t1), (g6, t1), (g5, x), (g4, t2), (g3, t1)] := Apart.of_fst (by rfl) hA
    have HS := Lib.hid (And.intro hS hA)
    clear hS hA
    go_wp2_with fail
    clear s0 t0 c_g7
    generalize World.setCell _ _ _ = W at *
    clear w1
    have c_g6 : W.cell? ⟨g6, 0, none⟩ = some (.float .f64 t1) := (HS.out.1.cell 1 (by simp)).1
    refine bodyPost_ret (v := .agg #[.float .f64 t1]) (by simp [results, Try.results64, go_sem, c_g6]) rfl ⟨rfl, HS.out.1.below.2⟩
set_option maxRecDepth 100000 in
set_option maxHeartbeats 4000000 in
theorem h2r_lo (h s l qh t2 l2 t1 hr hbl zr zg zb s1 base : Nat) (w : World) (H : Hid (base = w.heap.size)) (Hqh : Hid (Ieee.double.div h 4645040803167600640 = some qh)) (Hq1 : Hid (leB l 4602678819172646912 = true)) (Hs1 : Hid (Ieee.double.add s 4607182418800017408 = some s1)) (Ht2 : Hid (Ieee.double.mul s1 l = some t2)) (Hl2 : Hid (Ieee.double.mul l 4611686018427387904 = some l2)) (Ht1 : Hid (Ieee.double.sub l2 t2 = some t1)) (Hhr : Hid (Ieee.double.add qh 4599676419421066581 = some hr)) (Hhb : Hid (Ieee.double.sub qh 4599676419421066581 = some hbl)) (HR : Hid (∀ w, Calls Try.prog 64 #[.agg #[.float .f64 t1], .agg #[.float .f64 t2], .agg #[.float .f64 hr]] w fun e w' => e = .returned (.agg #[.float .f64 zr]) ∧ Below w.heap.size w w')) (HG : Hid (∀ w, Calls Try.prog 64 #[.agg #[.float .f64 t1], .agg #[.float .f64 t2], .agg #[.float .f64 qh]] w fun e w' => e = .returned (.agg #[.float .f64 zg]) ∧ Below w.heap.size w w')) (HB : Hid (∀ w, Calls Try.prog 64 #[.agg #[.float .f64 t1], .agg #[.float .f64 t2], .agg #[.float .f64 hbl]] w fun e w' => e = .returned (.agg #[.float .f64 zb]) ∧ Below w.heap.size w w')) :
    Calls Try.prog 41 #[.agg #[.float .f64 h], .agg #[.float .f64 s], .agg #[.float .f64 l]] w fun e w' => e = .returned (.tuple #[.agg #[.float .f64 zr], .agg #[.float .f64 zg], .agg #[.float .f64 zb]]) ∧ Below base w w' := by
  go_enter Try.func41, Try.ntmps41
  go_upto_region 1 with fail
  generalize hW : World.alloc _ _ = W at *
  have hS : Bx base w [(w.heap.size + 1 + 1 + 1 + 1 + 1, 0), (w.heap.size + 1 + 1 + 1 + 1, 0), (w.heap.size + 1 + 1 + 1, 0), (w.heap.size + 1 + 1, l), (w.heap.size + 1, s), (w.heap.size, h)] W := by
    subst hW
    have := (((((((Bx.start w).alloc h 41).alloc s 41).alloc l 41).alloc 0 41).alloc 0 41).alloc 0 41)
    rw [H.out]
    simpa using this
  have hA : Apart base [(w.heap.size + 1 + 1 + 1 + 1 + 1, 0), (w.heap.size + 1 + 1 + 1 + 1, 0), (w.heap.size + 1 + 1 + 1, 0), (w.heap.size + 1 + 1, l), (w.heap.size + 1, s), (w.heap.size, h)] := by
    rw [H.out]
    simp [Apart]; try omega
  have HS := Lib.hid (And.intro hS hA)
  clear hS hA hW H
  generalize w.heap.size + 1 + 1 + 1 + 1 + 1 = g8 at *
  generalize w.heap.size + 1 + 1 + 1 + 1 = g7 at *
  generalize w.heap.size + 1 + 1 + 1 = g6 at *
  generalize w.heap.size + 1 + 1 = g5 at *
  generalize w.heap.size + 1 = g4 at *
  generalize hgg : w.heap.size = g3 at *
  clear hgg
  have c_g3 : W.cell? ⟨g3, 0, none⟩ = some (.float .f64 h) := (HS.out.1.cell 5 (by simp)).1
  go_wp2_with fail
  refine (DivConst_any h 4645040803167600640 qh Hqh.out _).mono ?_
  rintro e w1 ⟨rfl, hb⟩
  have hS := HS.out.1.keep hb
  have hA := HS.out.2
  clear HS hb c_g3
  have s0 : (w1).cell? ⟨g3, 0, none⟩ = some (.float .f64 h) := (hS.cell 5 (by simp)).1
  have t0 : (w1).frozen? ⟨g3, 0, none⟩ = false := (hS.cell 5 (by simp)).2
  replace hS : Bx base w [(g8, 0), (g7, 0), (g6, 0), (g5, l), (g4, s), (g3, qh)] ((w1).setCell ⟨g3, 0, none⟩ (.float .f64 qh)) := hS.set qh hA 5 (by simp)
  replace hA : Apart base [(g8, 0), (g7, 0), (g6, 0), (g5, l), (g4, s), (g3, qh)] := Apart.of_fst (by rfl) hA
  have HS := Lib.hid (And.intro hS hA)
  clear hS hA
  go_upto_region 2 with fail
  clear s0 t0
  generalize World.setCell _ _ _ = W at *
  clear w1
  have hS := HS.out.1
  have hA := HS.out.2
  clear HS
  generalize W = w1 at *
  replace hA := hA.alloc hS 0
  replace hS := hS.alloc 0 41
  have HS := Lib.hid (And.intro hS hA)
  clear hS hA
  go_upto_region 3 with fail
  generalize World.alloc _ _ = W at *
  generalize w1.heap.size = g9 at *
  clear w1
  have q1 : (FloatKind.f64.format.order l 4602678819172646912 == some .lt || FloatKind.f64.format.order l 4602678819172646912 == some .eq) = true := Hq1.out
  have c_g5 : W.cell? ⟨g5, 0, none⟩ = some (.float .f64 l) := (HS.out.1.cell 4 (by simp)).1
  go_wp2_with fail
  refine (Value_any l _).mono ?_
  rintro e w1 ⟨rfl, hb⟩
  have hS := HS.out.1.keep hb
  have hA := HS.out.2
  clear HS hb c_g5
  have HS := Lib.hid (And.intro hS hA)
  clear hS hA
  go_upto_region 4 with fail
  generalize w1 = W at *
  clear q1
  refine wp_region_plan 4 (by kernel_rfl) (by kernel_rfl) (PI base w [(g9, 0), (g8, 0), (g7, 0), (g6, 0), (g5, l), (g4, s), (g3, qh)] [some 16, some 17, some 18, some 19] [] (fun i => [.agg #[.float .f64 s], .agg #[.float .f64 s1], .agg #[.float .f64 l], .agg #[.float .f64 t2]].getD i (.bool false)) _) (PI.start HS.out.1) ?_ ?_
  · intro i o b' a' w' hi ho hb he hI
    rcases (by omega : i = 0 ∨ i = 1 ∨ i = 2 ∨ i = 3) with rfl | rfl | rfl | rfl
    · obtain rfl := Option.some.inj ho
      exact hI.stepQuiet hb rfl rfl rfl (op_load _ _ _ g4 s _ rfl ((hI.old rfl).trans rfl) (hI.bx.cell 5 (by simp)).1)
    · obtain rfl := Option.some.inj ho
      have e0 := hI.new 0 (edge he 0 (by kernel_rfl)) rfl rfl rfl (by show 16 < 45; decide)
      refine hI.stepCall hb rfl rfl rfl (op_call _ _ 59 Try.f59 _ _ _ rfl Try.func59 (by kernel_rfl) (by kernel_rfl)) ?_
      have hm : Array.map a'.eval #[.tmp 16, .const ((Value.float FloatKind.f64 4607182418800017408))] = #[.agg #[.float .f64 s], (Value.float FloatKind.f64 4607182418800017408)] := by simp [e0, ev_const]
      rw [hm]
      exact AddConst_any s 4607182418800017408 s1 Hs1.out _
    · obtain rfl := Option.some.inj ho
      exact hI.stepQuiet hb rfl rfl rfl (op_load _ _ _ g5 l _ rfl ((hI.old rfl).trans rfl) (hI.bx.cell 4 (by simp)).1)
    · obtain rfl := Option.some.inj ho
      have e0 := hI.new 1 (edge he 1 (by kernel_rfl)) rfl rfl rfl (by show 17 < 45; decide)
      have e1 := hI.new 2 (edge he 2 (by kernel_rfl)) rfl rfl rfl (by show 18 < 45; decide)
      refine hI.stepCall hb rfl rfl rfl (op_call _ _ 60 Try.f60 _ _ _ rfl Try.func60 (by kernel_rfl) (by kernel_rfl)) ?_
      have hm : Array.map a'.eval #[.tmp 17, .tmp 18] = #[.agg #[.float .f64 s1], .agg #[.float .f64 l]] := by simp [e0, e1]
      rw [hm]
      exact Mul_any s1 l t2 Ht2.out _
  · intro b' a' w1 hb hI
    obtain ⟨ρ, rfl, hS, hC, hN⟩ := hI
    have hA := HS.out.2
    clear HS
    have p0 := hb 0 (by decide)
    have p1 := hb 1 (by decide)
    have p2 := hb 2 (by decide)
    have p3 := hb 3 (by decide)
    have v0 : vals [] (fun i => [.agg #[.float .f64 s], .agg #[.float .f64 s1], .agg #[.float .f64 l], .agg #[.float .f64 t2]].getD i (.bool false)) ρ 0 = .agg #[.float .f64 s] := rfl
    have v1 : vals [] (fun i => [.agg #[.float .f64 s], .agg #[.float .f64 s1], .agg #[.float .f64 l], .agg #[.float .f64 t2]].getD i (.bool false)) ρ 1 = .agg #[.float .f64 s1] := rfl
    have v2 : vals [] (fun i => [.agg #[.float .f64 s], .agg #[.float .f64 s1], .agg #[.float .f64 l], .agg #[.float .f64 t2]].getD i (.bool false)) ρ 2 = .agg #[.float .f64 l] := rfl
    have v3 : vals [] (fun i => [.agg #[.float .f64 s], .agg #[.float .f64 s1], .agg #[.float .f64 l], .agg #[.float .f64 t2]].getD i (.bool false)) ρ 3 = .agg #[.float .f64 t2] := rfl
    simp only [puts, Nat.zero_add, p0, p1, p2, p3, v0, v1, v2, v3, if_true, List.drop_succ_cons, List.drop_zero, Nat.reduceAdd]
    clear hb hC hN p0 p1 p2 p3 v0 v1 v2 v3
    clear ρ b'
    have s0 : (w1).cell? ⟨g9, 0, none⟩ = some (.float .f64 0) := (hS.cell 0 (by simp)).1
    have t0 : (w1).frozen? ⟨g9, 0, none⟩ = false := (hS.cell 0 (by simp)).2
    replace hS : Bx base w [(g9, t2), (g8, 0), (g7, 0), (g6, 0), (g5, l), (g4, s), (g3, qh)] ((w1).setCell ⟨g9, 0, none⟩ (.float .f64 t2)) := hS.set t2 hA 0 (by simp)
    replace hA : Apart base [(g9, t2), (g8, 0), (g7, 0), (g6, 0), (g5, l), (g4, s), (g3, qh)] := Apart.of_fst (by rfl) hA
    have HS := Lib.hid (And.intro hS hA)
    clear hS hA
    go_upto_region 6 with fail
    clear s0 t0
    generalize World.setCell _ _ _ = W at *
    clear w1
    refine wp_region_plan 5 (by kernel_rfl) (by kernel_rfl) (PI base w [(g9, t2), (g8, 0), (g7, 0), (g6, 0), (g5, l), (g4, s), (g3, qh)] [some 27, some 28, some 29, some 30, some 10] [4] (fun i => [.agg #[.float .f64 l], .agg #[.float .f64 l2], .agg #[.float .f64 t2], .agg #[.float .f64 t1], .bool false].getD i (.bool false)) _) (PI.start HS.out.1) ?_ ?_
    · intro i o b' a' w' hi ho hb he hI
      rcases (by omega : i = 0 ∨ i = 1 ∨ i = 2 ∨ i = 3 ∨ i = 4) with rfl | rfl | rfl | rfl | rfl
      · obtain rfl := Option.some.inj ho
        exact hI.stepQuiet hb rfl rfl rfl (op_load _ _ _ g5 l _ rfl ((hI.old rfl).trans rfl) (hI.bx.cell 4 (by simp)).1)
      · obtain rfl := Option.some.inj ho
        have e0 := hI.new 0 (edge he 0 (by kernel_rfl)) rfl rfl rfl (by show 27 < 45; decide)
        refine hI.stepCall hb rfl rfl rfl (op_call _ _ 63 Try.f63 _ _ _ rfl Try.func63 (by kernel_rfl) (by kernel_rfl)) ?_
        have hm : Array.map a'.eval #[.tmp 27, .const ((Value.float FloatKind.f64 4611686018427387904))] = #[.agg #[.float .f64 l], (Value.float FloatKind.f64 4611686018427387904)] := by simp [e0, ev_const]
        rw [hm]
        exact MulConst_any l 4611686018427387904 l2 Hl2.out _
      · obtain rfl := Option.some.inj ho
        exact hI.stepQuiet hb rfl rfl rfl (op_load _ _ _ g9 t2 _ rfl ((hI.old rfl).trans rfl) (hI.bx.cell 0 (by simp)).1)
      · obtain rfl := Option.some.inj ho
        have e0 := hI.new 1 (edge he 1 (by kernel_rfl)) rfl rfl rfl (by show 28 < 45; decide)
        have e1 := hI.new 2 (edge he 2 (by kernel_rfl)) rfl rfl rfl (by show 29 < 45; decide)
        refine hI.stepCall hb rfl rfl rfl (op_call _ _ 62 Try.f62 _ _ _ rfl Try.func62 (by kernel_rfl) (by kernel_rfl)) ?_
        have hm : Array.map a'.eval #[.tmp 28, .tmp 29] = #[.agg #[.float .f64 l2], .agg #[.float .f64 t2]] := by simp [e0, e1]
        rw [hm]
        exact Sub_any l2 t2 t1 Ht1.out _
      · obtain rfl := Option.some.inj ho
        exact hI.stepAlloc 41 hb rfl rfl rfl rfl (op_alloc _ _ _ rfl)
    · intro b' a' w1 hb hI
      obtain ⟨ρ, rfl, hS, hC, hN⟩ := hI
      have hA := HS.out.2
      clear HS
      have p0 := hb 0 (by decide)
      have p1 := hb 1 (by decide)
      have p2 := hb 2 (by decide)
      have p3 := hb 3 (by decide)
      have p4 := hb 4 (by decide)
      obtain ⟨c4, f4, l4, n4⟩ := hC 4 (by simp) p4
      have v0 : vals [4] (fun i => [.agg #[.float .f64 l], .agg #[.float .f64 l2], .agg #[.float .f64 t2], .agg #[.float .f64 t1], .bool false].getD i (.bool false)) ρ 0 = .agg #[.float .f64 l] := rfl
      have v1 : vals [4] (fun i => [.agg #[.float .f64 l], .agg #[.float .f64 l2], .agg #[.float .f64 t2], .agg #[.float .f64 t1], .bool false].getD i (.bool false)) ρ 1 = .agg #[.float .f64 l2] := rfl
      have v2 : vals [4] (fun i => [.agg #[.float .f64 l], .agg #[.float .f64 l2], .agg #[.float .f64 t2], .agg #[.float .f64 t1], .bool false].getD i (.bool false)) ρ 2 = .agg #[.float .f64 t2] := rfl
      have v3 : vals [4] (fun i => [.agg #[.float .f64 l], .agg #[.float .f64 l2], .agg #[.float .f64 t2], .agg #[.float .f64 t1], .bool false].getD i (.bool false)) ρ 3 = .agg #[.float .f64 t1] := rfl
      have v4 : vals [4] (fun i => [.agg #[.float .f64 l], .agg #[.float .f64 l2], .agg #[.float .f64 t2], .agg #[.float .f64 t1], .bool false].getD i (.bool false)) ρ 4 = .pointer (some ⟨(ρ 4), 0, none⟩) := rfl
      simp only [puts, Nat.zero_add, p0, p1, p2, p3, p4, v0, v1, v2, v3, v4, if_true, List.drop_succ_cons, List.drop_zero, Nat.reduceAdd]
      clear hb hC hN p0 p1 p2 p3 p4 v0 v1 v2 v3 v4
      generalize ρ 4 = g10 at *
      replace hA : Apart base ((g10, 0) :: [(g9, t2), (g8, 0), (g7, 0), (g6, 0), (g5, l), (g4, s), (g3, qh)]) := ⟨l4, n4, hA⟩
      replace hS : Bx base w ((g10, 0) :: [(g9, t2), (g8, 0), (g7, 0), (g6, 0), (g5, l), (g4, s), (g3, qh)]) w1 := ⟨c4, f4, hS⟩
      clear c4 f4 l4 n4 
      clear ρ b'
      have s0 : (w1).cell? ⟨g10, 0, none⟩ = some (.float .f64 0) := (hS.cell 0 (by simp)).1
      have t0 : (w1).frozen? ⟨g10, 0, none⟩ = false := (hS.cell 0 (by simp)).2
      replace hS : Bx base w [(g10, t1), (g9, t2), (g8, 0), (g7, 0), (g6, 0), (g5, l), (g4, s), (g3, qh)] ((w1).setCell ⟨g10, 0, none⟩ (.float .f64 t1)) := hS.set t1 hA 0 (by simp)
      replace hA : Apart base [(g10, t1), (g9, t2), (g8, 0), (g7, 0), (g6, 0), (g5, l), (g4, s), (g3, qh)] := Apart.of_fst (by rfl) hA
      have HS := Lib.hid (And.intro hS hA)
      clear hS hA
      go_upto_region 7 with fail
      clear s0 t0
      generalize World.setCell _ _ _ = W at *
      clear w1
      refine wp_region_plan 5 (by kernel_rfl) (by kernel_rfl) (PI base w [(g10, t1), (g9, t2), (g8, 0), (g7, 0), (g6, 0), (g5, l), (g4, s), (g3, qh)] [some 31, some 32, some 33, some 34, some 35] [] (fun i => [.agg #[.float .f64 t1], .agg #[.float .f64 t2], .agg #[.float .f64 qh], .agg #[.float .f64 hr], .agg #[.float .f64 zr]].getD i (.bool false)) _) (PI.start HS.out.1) ?_ ?_
      · intro i o b' a' w' hi ho hb he hI
        rcases (by omega : i = 0 ∨ i = 1 ∨ i = 2 ∨ i = 3 ∨ i = 4) with rfl | rfl | rfl | rfl | rfl
        · obtain rfl := Option.some.inj ho
          exact hI.stepQuiet hb rfl rfl rfl (op_load _ _ _ g10 t1 _ rfl ((hI.old rfl).trans rfl) (hI.bx.cell 0 (by simp)).1)
        · obtain rfl := Option.some.inj ho
          exact hI.stepQuiet hb rfl rfl rfl (op_load _ _ _ g9 t2 _ rfl ((hI.old rfl).trans rfl) (hI.bx.cell 1 (by simp)).1)
        · obtain rfl := Option.some.inj ho
          exact hI.stepQuiet hb rfl rfl rfl (op_load _ _ _ g3 qh _ rfl ((hI.old rfl).trans rfl) (hI.bx.cell 7 (by simp)).1)
        · obtain rfl := Option.some.inj ho
          have e0 := hI.new 2 (edge he 2 (by kernel_rfl)) rfl rfl rfl (by show 33 < 45; decide)
          refine hI.stepCall hb rfl rfl rfl (op_call _ _ 59 Try.f59 _ _ _ rfl Try.func59 (by kernel_rfl) (by kernel_rfl)) ?_
          have hm : Array.map a'.eval #[.tmp 33, .const ((Value.float FloatKind.f64 4599676419421066581))] = #[.agg #[.float .f64 qh], (Value.float FloatKind.f64 4599676419421066581)] := by simp [e0, ev_const]
          rw [hm]
          exact AddConst_any qh 4599676419421066581 hr Hhr.out _
        · obtain rfl := Option.some.inj ho
          have e0 := hI.new 0 (edge he 0 (by kernel_rfl)) rfl rfl rfl (by show 31 < 45; decide)
          have e1 := hI.new 1 (edge he 1 (by kernel_rfl)) rfl rfl rfl (by show 32 < 45; decide)
          have e2 := hI.new 3 (edge he 3 (by kernel_rfl)) rfl rfl rfl (by show 34 < 45; decide)
          refine hI.stepCall hb rfl rfl rfl (op_call _ _ 64 Try.f64 _ _ _ rfl Try.func64 (by kernel_rfl) (by kernel_rfl)) ?_
          have hm : Array.map a'.eval #[.tmp 31, .tmp 32, .tmp 34] = #[.agg #[.float .f64 t1], .agg #[.float .f64 t2], .agg #[.float .f64 hr]] := by simp [e0, e1, e2]
          rw [hm]
          exact HR.out _
      · intro b' a' w1 hb hI
        obtain ⟨ρ, rfl, hS, hC, hN⟩ := hI
        have hA := HS.out.2
        clear HS
        have p0 := hb 0 (by decide)
        have p1 := hb 1 (by decide)
        have p2 := hb 2 (by decide)
        have p3 := hb 3 (by decide)
        have p4 := hb 4 (by decide)
        have v0 : vals [] (fun i => [.agg #[.float .f64 t1], .agg #[.float .f64 t2], .agg #[.float .f64 qh], .agg #[.float .f64 hr], .agg #[.float .f64 zr]].getD i (.bool false)) ρ 0 = .agg #[.float .f64 t1] := rfl
        have v1 : vals [] (fun i => [.agg #[.float .f64 t1], .agg #[.float .f64 t2], .agg #[.float .f64 qh], .agg #[.float .f64 hr], .agg #[.float .f64 zr]].getD i (.bool false)) ρ 1 = .agg #[.float .f64 t2] := rfl
        have v2 : vals [] (fun i => [.agg #[.float .f64 t1], .agg #[.float .f64 t2], .agg #[.float .f64 qh], .agg #[.float .f64 hr], .agg #[.float .f64 zr]].getD i (.bool false)) ρ 2 = .agg #[.float .f64 qh] := rfl
        have v3 : vals [] (fun i => [.agg #[.float .f64 t1], .agg #[.float .f64 t2], .agg #[.float .f64 qh], .agg #[.float .f64 hr], .agg #[.float .f64 zr]].getD i (.bool false)) ρ 3 = .agg #[.float .f64 hr] := rfl
        have v4 : vals [] (fun i => [.agg #[.float .f64 t1], .agg #[.float .f64 t2], .agg #[.float .f64 qh], .agg #[.float .f64 hr], .agg #[.float .f64 zr]].getD i (.bool false)) ρ 4 = .agg #[.float .f64 zr] := rfl
        simp only [puts, Nat.zero_add, p0, p1, p2, p3, p4, v0, v1, v2, v3, v4, if_true, List.drop_succ_cons, List.drop_zero, Nat.reduceAdd]
        clear hb hC hN p0 p1 p2 p3 p4 v0 v1 v2 v3 v4
        clear ρ b'
        have s0 : (w1).cell? ⟨g6, 0, none⟩ = some (.float .f64 0) := (hS.cell 4 (by simp)).1
        have t0 : (w1).frozen? ⟨g6, 0, none⟩ = false := (hS.cell 4 (by simp)).2
        replace hS : Bx base w [(g10, t1), (g9, t2), (g8, 0), (g7, 0), (g6, zr), (g5, l), (g4, s), (g3, qh)] ((w1).setCell ⟨g6, 0, none⟩ (.float .f64 zr)) := hS.set zr hA 4 (by simp)
        replace hA : Apart base [(g10, t1), (g9, t2), (g8, 0), (g7, 0), (g6, zr), (g5, l), (g4, s), (g3, qh)] := Apart.of_fst (by rfl) hA
        have HS := Lib.hid (And.intro hS hA)
        clear hS hA
        go_upto_region 8 with fail
        clear s0 t0
        generalize World.setCell _ _ _ = W at *
        clear w1
        have c_g10 : W.cell? ⟨g10, 0, none⟩ = some (.float .f64 t1) := (HS.out.1.cell 0 (by simp)).1
        have c_g9 : W.cell? ⟨g9, 0, none⟩ = some (.float .f64 t2) := (HS.out.1.cell 1 (by simp)).1
        have c_g3 : W.cell? ⟨g3, 0, none⟩ = some (.float .f64 qh) := (HS.out.1.cell 7 (by simp)).1
        go_wp2_with fail
        refine (HG.out _).mono ?_
        rintro e w1 ⟨rfl, hb⟩
        have hS := HS.out.1.keep hb
        have hA := HS.out.2
        clear HS hb c_g10 c_g9 c_g3
        have s0 : (w1).cell? ⟨g7, 0, none⟩ = some (.float .f64 0) := (hS.cell 3 (by simp)).1
        have t0 : (w1).frozen? ⟨g7, 0, none⟩ = false := (hS.cell 3 (by simp)).2
        replace hS : Bx base w [(g10, t1), (g9, t2), (g8, 0), (g7, zg), (g6, zr), (g5, l), (g4, s), (g3, qh)] ((w1).setCell ⟨g7, 0, none⟩ (.float .f64 zg)) := hS.set zg hA 3 (by simp)
        replace hA : Apart base [(g10, t1), (g9, t2), (g8, 0), (g7, zg), (g6, zr), (g5, l), (g4, s), (g3, qh)] := Apart.of_fst (by rfl) hA
        have HS := Lib.hid (And.intro hS hA)
        clear hS hA
        go_upto_region 9 with fail
        clear s0 t0
        generalize World.setCell _ _ _ = W at *
        clear w1
        refine wp_region_plan 5 (by kernel_rfl) (by kernel_rfl) (PI base w [(g10, t1), (g9, t2), (g8, 0), (g7, zg), (g6, zr), (g5, l), (g4, s), (g3, qh)] [some 40, some 41, some 42, some 43, some 44] [] (fun i => [.agg #[.float .f64 t1], .agg #[.float .f64 t2], .agg #[.float .f64 qh], .agg #[.float .f64 hbl], .agg #[.float .f64 zb]].getD i (.bool false)) _) (PI.start HS.out.1) ?_ ?_
        · intro i o b' a' w' hi ho hb he hI
          rcases (by omega : i = 0 ∨ i = 1 ∨ i = 2 ∨ i = 3 ∨ i = 4) with rfl | rfl | rfl | rfl | rfl
          · obtain rfl := Option.some.inj ho
            exact hI.stepQuiet hb rfl rfl rfl (op_load _ _ _ g10 t1 _ rfl ((hI.old rfl).trans rfl) (hI.bx.cell 0 (by simp)).1)
          · obtain rfl := Option.some.inj ho
            exact hI.stepQuiet hb rfl rfl rfl (op_load _ _ _ g9 t2 _ rfl ((hI.old rfl).trans rfl) (hI.bx.cell 1 (by simp)).1)
          · obtain rfl := Option.some.inj ho
            exact hI.stepQuiet hb rfl rfl rfl (op_load _ _ _ g3 qh _ rfl ((hI.old rfl).trans rfl) (hI.bx.cell 7 (by simp)).1)
          · obtain rfl := Option.some.inj ho
            have e0 := hI.new 2 (edge he 2 (by kernel_rfl)) rfl rfl rfl (by show 42 < 45; decide)
            refine hI.stepCall hb rfl rfl rfl (op_call _ _ 65 Try.f65 _ _ _ rfl Try.func65 (by kernel_rfl) (by kernel_rfl)) ?_
            have hm : Array.map a'.eval #[.tmp 42, .const ((Value.float FloatKind.f64 4599676419421066581))] = #[.agg #[.float .f64 qh], (Value.float FloatKind.f64 4599676419421066581)] := by simp [e0, ev_const]
            rw [hm]
            exact SubConst_any qh 4599676419421066581 hbl Hhb.out _
          · obtain rfl := Option.some.inj ho
            have e0 := hI.new 0 (edge he 0 (by kernel_rfl)) rfl rfl rfl (by show 40 < 45; decide)
            have e1 := hI.new 1 (edge he 1 (by kernel_rfl)) rfl rfl rfl (by show 41 < 45; decide)
            have e2 := hI.new 3 (edge he 3 (by kernel_rfl)) rfl rfl rfl (by show 43 < 45; decide)
            refine hI.stepCall hb rfl rfl rfl (op_call _ _ 64 Try.f64 _ _ _ rfl Try.func64 (by kernel_rfl) (by kernel_rfl)) ?_
            have hm : Array.map a'.eval #[.tmp 40, .tmp 41, .tmp 43] = #[.agg #[.float .f64 t1], .agg #[.float .f64 t2], .agg #[.float .f64 hbl]] := by simp [e0, e1, e2]
            rw [hm]
            exact HB.out _
        · intro b' a' w1 hb hI
          obtain ⟨ρ, rfl, hS, hC, hN⟩ := hI
          have hA := HS.out.2
          clear HS
          have p0 := hb 0 (by decide)
          have p1 := hb 1 (by decide)
          have p2 := hb 2 (by decide)
          have p3 := hb 3 (by decide)
          have p4 := hb 4 (by decide)
          have v0 : vals [] (fun i => [.agg #[.float .f64 t1], .agg #[.float .f64 t2], .agg #[.float .f64 qh], .agg #[.float .f64 hbl], .agg #[.float .f64 zb]].getD i (.bool false)) ρ 0 = .agg #[.float .f64 t1] := rfl
          have v1 : vals [] (fun i => [.agg #[.float .f64 t1], .agg #[.float .f64 t2], .agg #[.float .f64 qh], .agg #[.float .f64 hbl], .agg #[.float .f64 zb]].getD i (.bool false)) ρ 1 = .agg #[.float .f64 t2] := rfl
          have v2 : vals [] (fun i => [.agg #[.float .f64 t1], .agg #[.float .f64 t2], .agg #[.float .f64 qh], .agg #[.float .f64 hbl], .agg #[.float .f64 zb]].getD i (.bool false)) ρ 2 = .agg #[.float .f64 qh] := rfl
          have v3 : vals [] (fun i => [.agg #[.float .f64 t1], .agg #[.float .f64 t2], .agg #[.float .f64 qh], .agg #[.float .f64 hbl], .agg #[.float .f64 zb]].getD i (.bool false)) ρ 3 = .agg #[.float .f64 hbl] := rfl
          have v4 : vals [] (fun i => [.agg #[.float .f64 t1], .agg #[.float .f64 t2], .agg #[.float .f64 qh], .agg #[.float .f64 hbl], .agg #[.float .f64 zb]].getD i (.bool false)) ρ 4 = .agg #[.float .f64 zb] := rfl
          simp only [puts, Nat.zero_add, p0, p1, p2, p3, p4, v0, v1, v2, v3, v4, if_true, List.drop_succ_cons, List.drop_zero, Nat.reduceAdd]
          clear hb hC hN p0 p1 p2 p3 p4 v0 v1 v2 v3 v4
          clear ρ b'
          have s0 : (w1).cell? ⟨g8, 0, none⟩ = some (.float .f64 0) := (hS.cell 2 (by simp)).1
          have t0 : (w1).frozen? ⟨g8, 0, none⟩ = false := (hS.cell 2 (by simp)).2
          replace hS : Bx base w [(g10, t1), (g9, t2), (g8, zb), (g7, zg), (g6, zr), (g5, l), (g4, s), (g3, qh)] ((w1).setCell ⟨g8, 0, none⟩ (.float .f64 zb)) := hS.set zb hA 2 (by simp)
          replace hA : Apart base [(g10, t1), (g9, t2), (g8, zb), (g7, zg), (g6, zr), (g5, l), (g4, s), (g3, qh)] := Apart.of_fst (by rfl) hA
          have HS := Lib.hid (And.intro hS hA)
          clear hS hA
          go_wp2_with fail
          clear s0 t0
          generalize World.setCell _ _ _ = W at *
          clear w1
          have c_g6 : W.cell? ⟨g6, 0, none⟩ = some (.float .f64 zr) := (HS.out.1.cell 4 (by simp)).1
          have c_g7 : W.cell? ⟨g7, 0, none⟩ = some (.float .f64 zg) := (HS.out.1.cell 3 (by simp)).1
          have c_g8 : W.cell? ⟨g8, 0, none⟩ = some (.float .f64 zb) := (HS.out.1.cell 2 (by simp)).1
          refine bodyPost_ret (v := .tuple #[.agg #[.float .f64 zr], .agg #[.float .f64 zg], .agg #[.float .f64 zb]]) (by simp [results, Try.results41, go_sem, c_g6, c_g7, c_g8]) rfl ⟨rfl, HS.out.1.below.2⟩
set_option maxRecDepth 100000 in
set_option maxHeartbeats 4000000 in
theorem h2r_hi (h s l qh t2 l2 t1 hr hbl zr zg zb u1 u2 base : Nat) (w : World) (H : Hid (base = w.heap.size)) (Hqh : Hid (Ieee.double.div h 4645040803167600640 = some qh)) (Hq1 : Hid (leB l 4602678819172646912 = false)) (Hu1 : Hid (Ieee.double.add l s = some u1)) (Hu2 : Hid (Ieee.double.mul l s = some u2)) (Ht2 : Hid (Ieee.double.sub u1 u2 = some t2)) (Hl2 : Hid (Ieee.double.mul l 4611686018427387904 = some l2)) (Ht1 : Hid (Ieee.double.sub l2 t2 = some t1)) (Hhr : Hid (Ieee.double.add qh 4599676419421066581 = some hr)) (Hhb : Hid (Ieee.double.sub qh 4599676419421066581 = some hbl)) (HR : Hid (∀ w, Calls Try.prog 64 #[.agg #[.float .f64 t1], .agg #[.float .f64 t2], .agg #[.float .f64 hr]] w fun e w' => e = .returned (.agg #[.float .f64 zr]) ∧ Below w.heap.size w w')) (HG : Hid (∀ w, Calls Try.prog 64 #[.agg #[.float .f64 t1], .agg #[.float .f64 t2], .agg #[.float .f64 qh]] w fun e w' => e = .returned (.agg #[.float .f64 zg]) ∧ Below w.heap.size w w')) (HB : Hid (∀ w, Calls Try.prog 64 #[.agg #[.float .f64 t1], .agg #[.float .f64 t2], .agg #[.float .f64 hbl]] w fun e w' => e = .returned (.agg #[.float .f64 zb]) ∧ Below w.heap.size w w')) :
    Calls Try.prog 41 #[.agg #[.float .f64 h], .agg #[.float .f64 s], .agg #[.float .f64 l]] w fun e w' => e = .returned (.tuple #[.agg #[.float .f64 zr], .agg #[.float .f64 zg], .agg #[.float .f64 zb]]) ∧ Below base w w' := by
  go_enter Try.func41, Try.ntmps41
  go_upto_region 1 with fail
  generalize hW : World.alloc _ _ = W at *
  have hS : Bx base w [(w.heap.size + 1 + 1 + 1 + 1 + 1, 0), (w.heap.size + 1 + 1 + 1 + 1, 0), (w.heap.size + 1 + 1 + 1, 0), (w.heap.size + 1 + 1, l), (w.heap.size + 1, s), (w.heap.size, h)] W := by
    subst hW
    have := (((((((Bx.start w).alloc h 41).alloc s 41).alloc l 41).alloc 0 41).alloc 0 41).alloc 0 41)
    rw [H.out]
    simpa using this
  have hA : Apart base [(w.heap.size + 1 + 1 + 1 + 1 + 1, 0), (w.heap.size + 1 + 1 + 1 + 1, 0), (w.heap.size + 1 + 1 + 1, 0), (w.heap.size + 1 + 1, l), (w.heap.size + 1, s), (w.heap.size, h)] := by
    rw [H.out]
    simp [Apart]; try omega
  have HS := Lib.hid (And.intro hS hA)
  clear hS hA hW H
  generalize w.heap.size + 1 + 1 + 1 + 1 + 1 = g8 at *
  generalize w.heap.size + 1 + 1 + 1 + 1 = g7 at *
  generalize w.heap.size + 1 + 1 + 1 = g6 at *
  generalize w.heap.size + 1 + 1 = g5 at *
  generalize w.heap.size + 1 = g4 at *
  generalize hgg : w.heap.size = g3 at *
  clear hgg
  have c_g3 : W.cell? ⟨g3, 0, none⟩ = some (.float .f64 h) := (HS.out.1.cell 5 (by simp)).1
  go_wp2_with fail
  refine (DivConst_any h 4645040803167600640 qh Hqh.out _).mono ?_
  rintro e w1 ⟨rfl, hb⟩
  have hS := HS.out.1.keep hb
  have hA := HS.out.2
  clear HS hb c_g3
  have s0 : (w1).cell? ⟨g3, 0, none⟩ = some (.float .f64 h) := (hS.cell 5 (by simp)).1
  have t0 : (w1).frozen? ⟨g3, 0, none⟩ = false := (hS.cell 5 (by simp)).2
  replace hS : Bx base w [(g8, 0), (g7, 0), (g6, 0), (g5, l), (g4, s), (g3, qh)] ((w1).setCell ⟨g3, 0, none⟩ (.float .f64 qh)) := hS.set qh hA 5 (by simp)
  replace hA : Apart base [(g8, 0), (g7, 0), (g6, 0), (g5, l), (g4, s), (g3, qh)] := Apart.of_fst (by rfl) hA
  have HS := Lib.hid (And.intro hS hA)
  clear hS hA
  go_upto_region 2 with fail
  clear s0 t0
  generalize World.setCell _ _ _ = W at *
  clear w1
  have hS := HS.out.1
  have hA := HS.out.2
  clear HS
  generalize W = w1 at *
  replace hA := hA.alloc hS 0
  replace hS := hS.alloc 0 41
  have HS := Lib.hid (And.intro hS hA)
  clear hS hA
  go_upto_region 3 with fail
  generalize World.alloc _ _ = W at *
  generalize w1.heap.size = g9 at *
  clear w1
  have q1 : (FloatKind.f64.format.order l 4602678819172646912 == some .lt || FloatKind.f64.format.order l 4602678819172646912 == some .eq) = false := Hq1.out
  have c_g5 : W.cell? ⟨g5, 0, none⟩ = some (.float .f64 l) := (HS.out.1.cell 4 (by simp)).1
  go_wp2_with fail
  refine (Value_any l _).mono ?_
  rintro e w1 ⟨rfl, hb⟩
  have hS := HS.out.1.keep hb
  have hA := HS.out.2
  clear HS hb c_g5
  have HS := Lib.hid (And.intro hS hA)
  clear hS hA
  go_upto_region 5 with fail
  generalize w1 = W at *
  clear q1
  refine wp_region_plan 7 (by kernel_rfl) (by kernel_rfl) (PI base w [(g9, 0), (g8, 0), (g7, 0), (g6, 0), (g5, l), (g4, s), (g3, qh)] [some 20, some 21, some 22, some 23, some 24, some 25, some 26] [] (fun i => [.agg #[.float .f64 l], .agg #[.float .f64 s], .agg #[.float .f64 u1], .agg #[.float .f64 l], .agg #[.float .f64 s], .agg #[.float .f64 u2], .agg #[.float .f64 t2]].getD i (.bool false)) _) (PI.start HS.out.1) ?_ ?_
  · intro i o b' a' w' hi ho hb he hI
    rcases (by omega : i = 0 ∨ i = 1 ∨ i = 2 ∨ i = 3 ∨ i = 4 ∨ i = 5 ∨ i = 6) with rfl | rfl | rfl | rfl | rfl | rfl | rfl
    · obtain rfl := Option.some.inj ho
      exact hI.stepQuiet hb rfl rfl rfl (op_load _ _ _ g5 l _ rfl ((hI.old rfl).trans rfl) (hI.bx.cell 4 (by simp)).1)
    · obtain rfl := Option.some.inj ho
      exact hI.stepQuiet hb rfl rfl rfl (op_load _ _ _ g4 s _ rfl ((hI.old rfl).trans rfl) (hI.bx.cell 5 (by simp)).1)
    · obtain rfl := Option.some.inj ho
      have e0 := hI.new 0 (edge he 0 (by kernel_rfl)) rfl rfl rfl (by show 20 < 45; decide)
      have e1 := hI.new 1 (edge he 1 (by kernel_rfl)) rfl rfl rfl (by show 21 < 45; decide)
      refine hI.stepCall hb rfl rfl rfl (op_call _ _ 61 Try.f61 _ _ _ rfl Try.func61 (by kernel_rfl) (by kernel_rfl)) ?_
      have hm : Array.map a'.eval #[.tmp 20, .tmp 21] = #[.agg #[.float .f64 l], .agg #[.float .f64 s]] := by simp [e0, e1]
      rw [hm]
      exact Add_any l s u1 Hu1.out _
    · obtain rfl := Option.some.inj ho
      exact hI.stepQuiet hb rfl rfl rfl (op_load _ _ _ g5 l _ rfl ((hI.old rfl).trans rfl) (hI.bx.cell 4 (by simp)).1)
    · obtain rfl := Option.some.inj ho
      exact hI.stepQuiet hb rfl rfl rfl (op_load _ _ _ g4 s _ rfl ((hI.old rfl).trans rfl) (hI.bx.cell 5 (by simp)).1)
    · obtain rfl := Option.some.inj ho
      have e0 := hI.new 3 (edge he 3 (by kernel_rfl)) rfl rfl rfl (by show 23 < 45; decide)
      have e1 := hI.new 4 (edge he 4 (by kernel_rfl)) rfl rfl rfl (by show 24 < 45; decide)
      refine hI.stepCall hb rfl rfl rfl (op_call _ _ 60 Try.f60 _ _ _ rfl Try.func60 (by kernel_rfl) (by kernel_rfl)) ?_
      have hm : Array.map a'.eval #[.tmp 23, .tmp 24] = #[.agg #[.float .f64 l], .agg #[.float .f64 s]] := by simp [e0, e1]
      rw [hm]
      exact Mul_any l s u2 Hu2.out _
    · obtain rfl := Option.some.inj ho
      have e0 := hI.new 2 (edge he 2 (by kernel_rfl)) rfl rfl rfl (by show 22 < 45; decide)
      have e1 := hI.new 5 (edge he 5 (by kernel_rfl)) rfl rfl rfl (by show 25 < 45; decide)
      refine hI.stepCall hb rfl rfl rfl (op_call _ _ 62 Try.f62 _ _ _ rfl Try.func62 (by kernel_rfl) (by kernel_rfl)) ?_
      have hm : Array.map a'.eval #[.tmp 22, .tmp 25] = #[.agg #[.float .f64 u1], .agg #[.float .f64 u2]] := by simp [e0, e1]
      rw [hm]
      exact Sub_any u1 u2 t2 Ht2.out _
  · intro b' a' w1 hb hI
    obtain ⟨ρ, rfl, hS, hC, hN⟩ := hI
    have hA := HS.out.2
    clear HS
    have p0 := hb 0 (by decide)
    have p1 := hb 1 (by decide)
    have p2 := hb 2 (by decide)
    have p3 := hb 3 (by decide)
    have p4 := hb 4 (by decide)
    have p5 := hb 5 (by decide)
    have p6 := hb 6 (by decide)
    have v0 : vals [] (fun i => [.agg #[.float .f64 l], .agg #[.float .f64 s], .agg #[.float .f64 u1], .agg #[.float .f64 l], .agg #[.float .f64 s], .agg #[.float .f64 u2], .agg #[.float .f64 t2]].getD i (.bool false)) ρ 0 = .agg #[.float .f64 l] := rfl
    have v1 : vals [] (fun i => [.agg #[.float .f64 l], .agg #[.float .f64 s], .agg #[.float .f64 u1], .agg #[.float .f64 l], .agg #[.float .f64 s], .agg #[.float .f64 u2], .agg #[.float .f64 t2]].getD i (.bool false)) ρ 1 = .agg #[.float .f64 s] := rfl
    have v2 : vals [] (fun i => [.agg #[.float .f64 l], .agg #[.float .f64 s], .agg #[.float .f64 u1], .agg #[.float .f64 l], .agg #[.float .f64 s], .agg #[.float .f64 u2], .agg #[.float .f64 t2]].getD i (.bool false)) ρ 2 = .agg #[.float .f64 u1] := rfl
    have v3 : vals [] (fun i => [.agg #[.float .f64 l], .agg #[.float .f64 s], .agg #[.float .f64 u1], .agg #[.float .f64 l], .agg #[.float .f64 s], .agg #[.float .f64 u2], .agg #[.float .f64 t2]].getD i (.bool false)) ρ 3 = .agg #[.float .f64 l] := rfl
    have v4 : vals [] (fun i => [.agg #[.float .f64 l], .agg #[.float .f64 s], .agg #[.float .f64 u1], .agg #[.float .f64 l], .agg #[.float .f64 s], .agg #[.float .f64 u2], .agg #[.float .f64 t2]].getD i (.bool false)) ρ 4 = .agg #[.float .f64 s] := rfl
    have v5 : vals [] (fun i => [.agg #[.float .f64 l], .agg #[.float .f64 s], .agg #[.float .f64 u1], .agg #[.float .f64 l], .agg #[.float .f64 s], .agg #[.float .f64 u2], .agg #[.float .f64 t2]].getD i (.bool false)) ρ 5 = .agg #[.float .f64 u2] := rfl
    have v6 : vals [] (fun i => [.agg #[.float .f64 l], .agg #[.float .f64 s], .agg #[.float .f64 u1], .agg #[.float .f64 l], .agg #[.float .f64 s], .agg #[.float .f64 u2], .agg #[.float .f64 t2]].getD i (.bool false)) ρ 6 = .agg #[.float .f64 t2] := rfl
    simp only [puts, Nat.zero_add, p0, p1, p2, p3, p4, p5, p6, v0, v1, v2, v3, v4, v5, v6, if_true, List.drop_succ_cons, List.drop_zero, Nat.reduceAdd]
    clear hb hC hN p0 p1 p2 p3 p4 p5 p6 v0 v1 v2 v3 v4 v5 v6
    clear ρ b'
    have s0 : (w1).cell? ⟨g9, 0, none⟩ = some (.float .f64 0) := (hS.cell 0 (by simp)).1
    have t0 : (w1).frozen? ⟨g9, 0, none⟩ = false := (hS.cell 0 (by simp)).2
    replace hS : Bx base w [(g9, t2), (g8, 0), (g7, 0), (g6, 0), (g5, l), (g4, s), (g3, qh)] ((w1).setCell ⟨g9, 0, none⟩ (.float .f64 t2)) := hS.set t2 hA 0 (by simp)
    replace hA : Apart base [(g9, t2), (g8, 0), (g7, 0), (g6, 0), (g5, l), (g4, s), (g3, qh)] := Apart.of_fst (by rfl) hA
    have HS := Lib.hid (And.intro hS hA)
    clear hS hA
    go_upto_region 6 with fail
    clear s0 t0
    generalize World.setCell _ _ _ = W at *
    clear w1
    refine wp_region_plan 5 (by kernel_rfl) (by kernel_rfl) (PI base w [(g9, t2), (g8, 0), (g7, 0), (g6, 0), (g5, l), (g4, s), (g3, qh)] [some 27, some 28, some 29, some 30, some 10] [4] (fun i => [.agg #[.float .f64 l], .agg #[.float .f64 l2], .agg #[.float .f64 t2], .agg #[.float .f64 t1], .bool false].getD i (.bool false)) _) (PI.start HS.out.1) ?_ ?_
    · intro i o b' a' w' hi ho hb he hI
      rcases (by omega : i = 0 ∨ i = 1 ∨ i = 2 ∨ i = 3 ∨ i = 4) with rfl | rfl | rfl | rfl | rfl
      · obtain rfl := Option.some.inj ho
        exact hI.stepQuiet hb rfl rfl rfl (op_load _ _ _ g5 l _ rfl ((hI.old rfl).trans rfl) (hI.bx.cell 4 (by simp)).1)
      · obtain rfl := Option.some.inj ho
        have e0 := hI.new 0 (edge he 0 (by kernel_rfl)) rfl rfl rfl (by show 27 < 45; decide)
        refine hI.stepCall hb rfl rfl rfl (op_call _ _ 63 Try.f63 _ _ _ rfl Try.func63 (by kernel_rfl) (by kernel_rfl)) ?_
        have hm : Array.map a'.eval #[.tmp 27, .const ((Value.float FloatKind.f64 4611686018427387904))] = #[.agg #[.float .f64 l], (Value.float FloatKind.f64 4611686018427387904)] := by simp [e0, ev_const]
        rw [hm]
        exact MulConst_any l 4611686018427387904 l2 Hl2.out _
      · obtain rfl := Option.some.inj ho
        exact hI.stepQuiet hb rfl rfl rfl (op_load _ _ _ g9 t2 _ rfl ((hI.old rfl).trans rfl) (hI.bx.cell 0 (by simp)).1)
      · obtain rfl := Option.some.inj ho
        have e0 := hI.new 1 (edge he 1 (by kernel_rfl)) rfl rfl rfl (by show 28 < 45; decide)
        have e1 := hI.new 2 (edge he 2 (by kernel_rfl)) rfl rfl rfl (by show 29 < 45; decide)
        refine hI.stepCall hb rfl rfl rfl (op_call _ _ 62 Try.f62 _ _ _ rfl Try.func62 (by kernel_rfl) (by kernel_rfl)) ?_
        have hm : Array.map a'.eval #[.tmp 28, .tmp 29] = #[.agg #[.float .f64 l2], .agg #[.float .f64 t2]] := by simp [e0, e1]
        rw [hm]
        exact Sub_any l2 t2 t1 Ht1.out _
      · obtain rfl := Option.some.inj ho
        exact hI.stepAlloc 41 hb rfl rfl rfl rfl (op_alloc _ _ _ rfl)
    · intro b' a' w1 hb hI
      obtain ⟨ρ, rfl, hS, hC, hN⟩ := hI
      have hA := HS.out.2
      clear HS
      have p0 := hb 0 (by decide)
      have p1 := hb 1 (by decide)
      have p2 := hb 2 (by decide)
      have p3 := hb 3 (by decide)
      have p4 := hb 4 (by decide)
      obtain ⟨c4, f4, l4, n4⟩ := hC 4 (by simp) p4
      have v0 : vals [4] (fun i => [.agg #[.float .f64 l], .agg #[.float .f64 l2], .agg #[.float .f64 t2], .agg #[.float .f64 t1], .bool false].getD i (.bool false)) ρ 0 = .agg #[.float .f64 l] := rfl
      have v1 : vals [4] (fun i => [.agg #[.float .f64 l], .agg #[.float .f64 l2], .agg #[.float .f64 t2], .agg #[.float .f64 t1], .bool false].getD i (.bool false)) ρ 1 = .agg #[.float .f64 l2] := rfl
      have v2 : vals [4] (fun i => [.agg #[.float .f64 l], .agg #[.float .f64 l2], .agg #[.float .f64 t2], .agg #[.float .f64 t1], .bool false].getD i (.bool false)) ρ 2 = .agg #[.float .f64 t2] := rfl
      have v3 : vals [4] (fun i => [.agg #[.float .f64 l], .agg #[.float .f64 l2], .agg #[.float .f64 t2], .agg #[.float .f64 t1], .bool false].getD i (.bool false)) ρ 3 = .agg #[.float .f64 t1] := rfl
      have v4 : vals [4] (fun i => [.agg #[.float .f64 l], .agg #[.float .f64 l2], .agg #[.float .f64 t2], .agg #[.float .f64 t1], .bool false].getD i (.bool false)) ρ 4 = .pointer (some ⟨(ρ 4), 0, none⟩) := rfl
      simp only [puts, Nat.zero_add, p0, p1, p2, p3, p4, v0, v1, v2, v3, v4, if_true, List.drop_succ_cons, List.drop_zero, Nat.reduceAdd]
      clear hb hC hN p0 p1 p2 p3 p4 v0 v1 v2 v3 v4
      generalize ρ 4 = g10 at *
      replace hA : Apart base ((g10, 0) :: [(g9, t2), (g8, 0), (g7, 0), (g6, 0), (g5, l), (g4, s), (g3, qh)]) := ⟨l4, n4, hA⟩
      replace hS : Bx base w ((g10, 0) :: [(g9, t2), (g8, 0), (g7, 0), (g6, 0), (g5, l), (g4, s), (g3, qh)]) w1 := ⟨c4, f4, hS⟩
      clear c4 f4 l4 n4 
      clear ρ b'
      have s0 : (w1).cell? ⟨g10, 0, none⟩ = some (.float .f64 0) := (hS.cell 0 (by simp)).1
      have t0 : (w1).frozen? ⟨g10, 0, none⟩ = false := (hS.cell 0 (by simp)).2
      replace hS : Bx base w [(g10, t1), (g9, t2), (g8, 0), (g7, 0), (g6, 0), (g5, l), (g4, s), (g3, qh)] ((w1).setCell ⟨g10, 0, none⟩ (.float .f64 t1)) := hS.set t1 hA 0 (by simp)
      replace hA : Apart base [(g10, t1), (g9, t2), (g8, 0), (g7, 0), (g6, 0), (g5, l), (g4, s), (g3, qh)] := Apart.of_fst (by rfl) hA
      have HS := Lib.hid (And.intro hS hA)
      clear hS hA
      go_upto_region 7 with fail
      clear s0 t0
      generalize World.setCell _ _ _ = W at *
      clear w1
      refine wp_region_plan 5 (by kernel_rfl) (by kernel_rfl) (PI base w [(g10, t1), (g9, t2), (g8, 0), (g7, 0), (g6, 0), (g5, l), (g4, s), (g3, qh)] [some 31, some 32, some 33, some 34, some 35] [] (fun i => [.agg #[.float .f64 t1], .agg #[.float .f64 t2], .agg #[.float .f64 qh], .agg #[.float .f64 hr], .agg #[.float .f64 zr]].getD i (.bool false)) _) (PI.start HS.out.1) ?_ ?_
      · intro i o b' a' w' hi ho hb he hI
        rcases (by omega : i = 0 ∨ i = 1 ∨ i = 2 ∨ i = 3 ∨ i = 4) with rfl | rfl | rfl | rfl | rfl
        · obtain rfl := Option.some.inj ho
          exact hI.stepQuiet hb rfl rfl rfl (op_load _ _ _ g10 t1 _ rfl ((hI.old rfl).trans rfl) (hI.bx.cell 0 (by simp)).1)
        · obtain rfl := Option.some.inj ho
          exact hI.stepQuiet hb rfl rfl rfl (op_load _ _ _ g9 t2 _ rfl ((hI.old rfl).trans rfl) (hI.bx.cell 1 (by simp)).1)
        · obtain rfl := Option.some.inj ho
          exact hI.stepQuiet hb rfl rfl rfl (op_load _ _ _ g3 qh _ rfl ((hI.old rfl).trans rfl) (hI.bx.cell 7 (by simp)).1)
        · obtain rfl := Option.some.inj ho
          have e0 := hI.new 2 (edge he 2 (by kernel_rfl)) rfl rfl rfl (by show 33 < 45; decide)
          refine hI.stepCall hb rfl rfl rfl (op_call _ _ 59 Try.f59 _ _ _ rfl Try.func59 (by kernel_rfl) (by kernel_rfl)) ?_
          have hm : Array.map a'.eval #[.tmp 33, .const ((Value.float FloatKind.f64 4599676419421066581))] = #[.agg #[.float .f64 qh], (Value.float FloatKind.f64 4599676419421066581)] := by simp [e0, ev_const]
          rw [hm]
          exact AddConst_any qh 4599676419421066581 hr Hhr.out _
        · obtain rfl := Option.some.inj ho
          have e0 := hI.new 0 (edge he 0 (by kernel_rfl)) rfl rfl rfl (by show 31 < 45; decide)
          have e1 := hI.new 1 (edge he 1 (by kernel_rfl)) rfl rfl rfl (by show 32 < 45; decide)
          have e2 := hI.new 3 (edge he 3 (by kernel_rfl)) rfl rfl rfl (by show 34 < 45; decide)
          refine hI.stepCall hb rfl rfl rfl (op_call _ _ 64 Try.f64 _ _ _ rfl Try.func64 (by kernel_rfl) (by kernel_rfl)) ?_
          have hm : Array.map a'.eval #[.tmp 31, .tmp 32, .tmp 34] = #[.agg #[.float .f64 t1], .agg #[.float .f64 t2], .agg #[.float .f64 hr]] := by simp [e0, e1, e2]
          rw [hm]
          exact HR.out _
      · intro b' a' w1 hb hI
        obtain ⟨ρ, rfl, hS, hC, hN⟩ := hI
        have hA := HS.out.2
        clear HS
        have p0 := hb 0 (by decide)
        have p1 := hb 1 (by decide)
        have p2 := hb 2 (by decide)
        have p3 := hb 3 (by decide)
        have p4 := hb 4 (by decide)
        have v0 : vals [] (fun i => [.agg #[.float .f64 t1], .agg #[.float .f64 t2], .agg #[.float .f64 qh], .agg #[.float .f64 hr], .agg #[.float .f64 zr]].getD i (.bool false)) ρ 0 = .agg #[.float .f64 t1] := rfl
        have v1 : vals [] (fun i => [.agg #[.float .f64 t1], .agg #[.float .f64 t2], .agg #[.float .f64 qh], .agg #[.float .f64 hr], .agg #[.float .f64 zr]].getD i (.bool false)) ρ 1 = .agg #[.float .f64 t2] := rfl
        have v2 : vals [] (fun i => [.agg #[.float .f64 t1], .agg #[.float .f64 t2], .agg #[.float .f64 qh], .agg #[.float .f64 hr], .agg #[.float .f64 zr]].getD i (.bool false)) ρ 2 = .agg #[.float .f64 qh] := rfl
        have v3 : vals [] (fun i => [.agg #[.float .f64 t1], .agg #[.float .f64 t2], .agg #[.float .f64 qh], .agg #[.float .f64 hr], .agg #[.float .f64 zr]].getD i (.bool false)) ρ 3 = .agg #[.float .f64 hr] := rfl
        have v4 : vals [] (fun i => [.agg #[.float .f64 t1], .agg #[.float .f64 t2], .agg #[.float .f64 qh], .agg #[.float .f64 hr], .agg #[.float .f64 zr]].getD i (.bool false)) ρ 4 = .agg #[.float .f64 zr] := rfl
        simp only [puts, Nat.zero_add, p0, p1, p2, p3, p4, v0, v1, v2, v3, v4, if_true, List.drop_succ_cons, List.drop_zero, Nat.reduceAdd]
        clear hb hC hN p0 p1 p2 p3 p4 v0 v1 v2 v3 v4
        clear ρ b'
        have s0 : (w1).cell? ⟨g6, 0, none⟩ = some (.float .f64 0) := (hS.cell 4 (by simp)).1
        have t0 : (w1).frozen? ⟨g6, 0, none⟩ = false := (hS.cell 4 (by simp)).2
        replace hS : Bx base w [(g10, t1), (g9, t2), (g8, 0), (g7, 0), (g6, zr), (g5, l), (g4, s), (g3, qh)] ((w1).setCell ⟨g6, 0, none⟩ (.float .f64 zr)) := hS.set zr hA 4 (by simp)
        replace hA : Apart base [(g10, t1), (g9, t2), (g8, 0), (g7, 0), (g6, zr), (g5, l), (g4, s), (g3, qh)] := Apart.of_fst (by rfl) hA
        have HS := Lib.hid (And.intro hS hA)
        clear hS hA
        go_upto_region 8 with fail
        clear s0 t0
        generalize World.setCell _ _ _ = W at *
        clear w1
        have c_g10 : W.cell? ⟨g10, 0, none⟩ = some (.float .f64 t1) := (HS.out.1.cell 0 (by simp)).1
        have c_g9 : W.cell? ⟨g9, 0, none⟩ = some (.float .f64 t2) := (HS.out.1.cell 1 (by simp)).1
        have c_g3 : W.cell? ⟨g3, 0, none⟩ = some (.float .f64 qh) := (HS.out.1.cell 7 (by simp)).1
        go_wp2_with fail
        refine (HG.out _).mono ?_
        rintro e w1 ⟨rfl, hb⟩
        have hS := HS.out.1.keep hb
        have hA := HS.out.2
        clear HS hb c_g10 c_g9 c_g3
        have s0 : (w1).cell? ⟨g7, 0, none⟩ = some (.float .f64 0) := (hS.cell 3 (by simp)).1
        have t0 : (w1).frozen? ⟨g7, 0, none⟩ = false := (hS.cell 3 (by simp)).2
        replace hS : Bx base w [(g10, t1), (g9, t2), (g8, 0), (g7, zg), (g6, zr), (g5, l), (g4, s), (g3, qh)] ((w1).setCell ⟨g7, 0, none⟩ (.float .f64 zg)) := hS.set zg hA 3 (by simp)
        replace hA : Apart base [(g10, t1), (g9, t2), (g8, 0), (g7, zg), (g6, zr), (g5, l), (g4, s), (g3, qh)] := Apart.of_fst (by rfl) hA
        have HS := Lib.hid (And.intro hS hA)
        clear hS hA
        go_upto_region 9 with fail
        clear s0 t0
        generalize World.setCell _ _ _ = W at *
        clear w1
        refine wp_region_plan 5 (by kernel_rfl) (by kernel_rfl) (PI base w [(g10, t1), (g9, t2), (g8, 0), (g7, zg), (g6, zr), (g5, l), (g4, s), (g3, qh)] [some 40, some 41, some 42, some 43, some 44] [] (fun i => [.agg #[.float .f64 t1], .agg #[.float .f64 t2], .agg #[.float .f64 qh], .agg #[.float .f64 hbl], .agg #[.float .f64 zb]].getD i (.bool false)) _) (PI.start HS.out.1) ?_ ?_
        · intro i o b' a' w' hi ho hb he hI
          rcases (by omega : i = 0 ∨ i = 1 ∨ i = 2 ∨ i = 3 ∨ i = 4) with rfl | rfl | rfl | rfl | rfl
          · obtain rfl := Option.some.inj ho
            exact hI.stepQuiet hb rfl rfl rfl (op_load _ _ _ g10 t1 _ rfl ((hI.old rfl).trans rfl) (hI.bx.cell 0 (by simp)).1)
          · obtain rfl := Option.some.inj ho
            exact hI.stepQuiet hb rfl rfl rfl (op_load _ _ _ g9 t2 _ rfl ((hI.old rfl).trans rfl) (hI.bx.cell 1 (by simp)).1)
          · obtain rfl := Option.some.inj ho
            exact hI.stepQuiet hb rfl rfl rfl (op_load _ _ _ g3 qh _ rfl ((hI.old rfl).trans rfl) (hI.bx.cell 7 (by simp)).1)
          · obtain rfl := Option.some.inj ho
            have e0 := hI.new 2 (edge he 2 (by kernel_rfl)) rfl rfl rfl (by show 42 < 45; decide)
            refine hI.stepCall hb rfl rfl rfl (op_call _ _ 65 Try.f65 _ _ _ rfl Try.func65 (by kernel_rfl) (by kernel_rfl)) ?_
            have hm : Array.map a'.eval #[.tmp 42, .const ((Value.float FloatKind.f64 4599676419421066581))] = #[.agg #[.float .f64 qh], (Value.float FloatKind.f64 4599676419421066581)] := by simp [e0, ev_const]
            rw [hm]
            exact SubConst_any qh 4599676419421066581 hbl Hhb.out _
          · obtain rfl := Option.some.inj ho
            have e0 := hI.new 0 (edge he 0 (by kernel_rfl)) rfl rfl rfl (by show 40 < 45; decide)
            have e1 := hI.new 1 (edge he 1 (by kernel_rfl)) rfl rfl rfl (by show 41 < 45; decide)
            have e2 := hI.new 3 (edge he 3 (by kernel_rfl)) rfl rfl rfl (by show 43 < 45; decide)
            refine hI.stepCall hb rfl rfl rfl (op_call _ _ 64 Try.f64 _ _ _ rfl Try.func64 (by kernel_rfl) (by kernel_rfl)) ?_
            have hm : Array.map a'.eval #[.tmp 40, .tmp 41, .tmp 43] = #[.agg #[.float .f64 t1], .agg #[.float .f64 t2], .agg #[.float .f64 hbl]] := by simp [e0, e1, e2]
            rw [hm]
            exact HB.out _
        · intro b' a' w1 hb hI
          obtain ⟨ρ, rfl, hS, hC, hN⟩ := hI
          have hA := HS.out.2
          clear HS
          have p0 := hb 0 (by decide)
          have p1 := hb 1 (by decide)
          have p2 := hb 2 (by decide)
          have p3 := hb 3 (by decide)
          have p4 := hb 4 (by decide)
          have v0 : vals [] (fun i => [.agg #[.float .f64 t1], .agg #[.float .f64 t2], .agg #[.float .f64 qh], .agg #[.float .f64 hbl], .agg #[.float .f64 zb]].getD i (.bool false)) ρ 0 = .agg #[.float .f64 t1] := rfl
          have v1 : vals [] (fun i => [.agg #[.float .f64 t1], .agg #[.float .f64 t2], .agg #[.float .f64 qh], .agg #[.float .f64 hbl], .agg #[.float .f64 zb]].getD i (.bool false)) ρ 1 = .agg #[.float .f64 t2] := rfl
          have v2 : vals [] (fun i => [.agg #[.float .f64 t1], .agg #[.float .f64 t2], .agg #[.float .f64 qh], .agg #[.float .f64 hbl], .agg #[.float .f64 zb]].getD i (.bool false)) ρ 2 = .agg #[.float .f64 qh] := rfl
          have v3 : vals [] (fun i => [.agg #[.float .f64 t1], .agg #[.float .f64 t2], .agg #[.float .f64 qh], .agg #[.float .f64 hbl], .agg #[.float .f64 zb]].getD i (.bool false)) ρ 3 = .agg #[.float .f64 hbl] := rfl
          have v4 : vals [] (fun i => [.agg #[.float .f64 t1], .agg #[.float .f64 t2], .agg #[.float .f64 qh], .agg #[.float .f64 hbl], .agg #[.float .f64 zb]].getD i (.bool false)) ρ 4 = .agg #[.float .f64 zb] := rfl
          simp only [puts, Nat.zero_add, p0, p1, p2, p3, p4, v0, v1, v2, v3, v4, if_true, List.drop_succ_cons, List.drop_zero, Nat.reduceAdd]
          clear hb hC hN p0 p1 p2 p3 p4 v0 v1 v2 v3 v4
          clear ρ b'
          have s0 : (w1).cell? ⟨g8, 0, none⟩ = some (.float .f64 0) := (hS.cell 2 (by simp)).1
          have t0 : (w1).frozen? ⟨g8, 0, none⟩ = false := (hS.cell 2 (by simp)).2
          replace hS : Bx base w [(g10, t1), (g9, t2), (g8, zb), (g7, zg), (g6, zr), (g5, l), (g4, s), (g3, qh)] ((w1).setCell ⟨g8, 0, none⟩ (.float .f64 zb)) := hS.set zb hA 2 (by simp)
          replace hA : Apart base [(g10, t1), (g9, t2), (g8, zb), (g7, zg), (g6, zr), (g5, l), (g4, s), (g3, qh)] := Apart.of_fst (by rfl) hA
          have HS := Lib.hid (And.intro hS hA)
          clear hS hA
          go_wp2_with fail
          clear s0 t0
          generalize World.setCell _ _ _ = W at *
          clear w1
          have c_g6 : W.cell? ⟨g6, 0, none⟩ = some (.float .f64 zr) := (HS.out.1.cell 4 (by simp)).1
          have c_g7 : W.cell? ⟨g7, 0, none⟩ = some (.float .f64 zg) := (HS.out.1.cell 3 (by simp)).1
          have c_g8 : W.cell? ⟨g8, 0, none⟩ = some (.float .f64 zb) := (HS.out.1.cell 2 (by simp)).1
          refine bodyPost_ret (v := .tuple #[.agg #[.float .f64 zr], .agg #[.float .f64 zg], .agg #[.float .f64 zb]]) (by simp [results, Try.results41, go_sem, c_g6, c_g7, c_g8]) rfl ⟨rfl, HS.out.1.below.2⟩
end Go.Proofs.Ytafeeebgleecfaa.Mat
