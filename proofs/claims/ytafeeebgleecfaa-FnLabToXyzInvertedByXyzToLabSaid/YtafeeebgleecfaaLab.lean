/-
  xyz_to_lab, told by the numbers that it reckons: a way for each answer to its tests.
-/
import Derived.Test.YtafeeebgleecfaaPe
import Derived.Test.YtafeeebgleecfaaCb
namespace Go.Proofs.Ytafeeebgleecfaa.Mat
open Go.ChangeShapes Go.WideShapes Go.ChangeAt Go.RowKit
open FL Pl
set_option linter.unusedVariables false
attribute [local go_sem] run_store_float
set_option maxRecDepth 100000 in
set_option maxHeartbeats 4000000 in
theorem xl_ttt (x y z x1 z1 f0 f1 f2 p L d1 A d2 B base : Nat) (w : World) (H : Hid (base = w.heap.size)) (Hx1 : Hid (Ieee.double.div x 4606860822843362778 = some x1)) (Hz1 : Hid (Ieee.double.div z 4605607101106091996 = some z1)) (Hq0 : Hid (gtB x1 4576259018578689238 = true)) (HC0 : Hid (∀ w, Calls Try.prog 67 #[.agg #[.float .f64 x1]] w fun e w' => e = .returned (.agg #[.float .f64 f0]) ∧ Below w.heap.size w w')) (Hq1 : Hid (gtB y 4576259018578689238 = true)) (HC1 : Hid (∀ w, Calls Try.prog 67 #[.agg #[.float .f64 y]] w fun e w' => e = .returned (.agg #[.float .f64 f1]) ∧ Below w.heap.size w w')) (Hq2 : Hid (gtB z1 4576259018578689238 = true)) (HC2 : Hid (∀ w, Calls Try.prog 67 #[.agg #[.float .f64 z1]] w fun e w' => e = .returned (.agg #[.float .f64 f2]) ∧ Below w.heap.size w w')) (Hp : Hid (Ieee.double.mul f1 4637863191261478912 = some p)) (HL : Hid (Ieee.double.sub p 4625196817309499392 = some L)) (Hd1 : Hid (Ieee.double.sub f0 f1 = some d1)) (HA : Hid (Ieee.double.mul d1 4647503709213818880 = some A)) (Hd2 : Hid (Ieee.double.sub f1 f2 = some d2)) (HB : Hid (Ieee.double.mul d2 4641240890982006784 = some B)) :
    Calls Try.prog 47 #[.agg #[.float .f64 x], .agg #[.float .f64 y], .agg #[.float .f64 z]] w fun e w' => e = .returned (.tuple #[.agg #[.float .f64 L], .agg #[.float .f64 A], .agg #[.float .f64 B]]) ∧ Below base w w' := by
  go_enter Try.func47, Try.ntmps47
  go_upto_region 1 with fail
  generalize hW : World.alloc _ _ = W at *
  have hS : Bx base w [(w.heap.size + 1 + 1 + 1 + 1 + 1, 0), (w.heap.size + 1 + 1 + 1 + 1, 0), (w.heap.size + 1 + 1 + 1, 0), (w.heap.size + 1 + 1, z), (w.heap.size + 1, y), (w.heap.size, x)] W := by
    subst hW
    have := (((((((Bx.start w).alloc x 41).alloc y 41).alloc z 41).alloc 0 41).alloc 0 41).alloc 0 41)
    rw [H.out]
    simpa using this
  have hA : Apart base [(w.heap.size + 1 + 1 + 1 + 1 + 1, 0), (w.heap.size + 1 + 1 + 1 + 1, 0), (w.heap.size + 1 + 1 + 1, 0), (w.heap.size + 1 + 1, z), (w.heap.size + 1, y), (w.heap.size, x)] := by
    rw [H.out]
    simp [Apart]; try omega
  have HS := Lib.hid (And.intro hS hA)
  clear hS hA hW H
  generalize w.heap.size + 1 + 1 + 1 + 1 + 1 = g8 at *
  generalize w.heap.size + 1 + 1 + 1 + 1 = g7 at *
  generalize w.heap.size + 1 + 1 + 1 = g6 at *
  generalize w.heap.size + 1 + 1 = g5 at *
  generalize w.heap.size + 1 = g4 at *
  generalize hgg : w.heap.size = g3 at *
  clear hgg
  have c_g3 : W.cell? ⟨g3, 0, none⟩ = some (.float .f64 x) := (HS.out.1.cell 5 (by simp)).1
  go_wp2_with fail
  refine (DivConst_any x 4606860822843362778 x1 Hx1.out _).mono ?_
  rintro e w1 ⟨rfl, hb⟩
  have hS := HS.out.1.keep hb
  have hA := HS.out.2
  clear HS hb c_g3
  have s0 : (w1).cell? ⟨g3, 0, none⟩ = some (.float .f64 x) := (hS.cell 5 (by simp)).1
  have t0 : (w1).frozen? ⟨g3, 0, none⟩ = false := (hS.cell 5 (by simp)).2
  replace hS : Bx base w [(g8, 0), (g7, 0), (g6, 0), (g5, z), (g4, y), (g3, x1)] ((w1).setCell ⟨g3, 0, none⟩ (.float .f64 x1)) := hS.set x1 hA 5 (by simp)
  replace hA : Apart base [(g8, 0), (g7, 0), (g6, 0), (g5, z), (g4, y), (g3, x1)] := Apart.of_fst (by rfl) hA
  have HS := Lib.hid (And.intro hS hA)
  clear hS hA
  go_upto_region 2 with fail
  clear s0 t0
  generalize World.setCell _ _ _ = W at *
  clear w1
  have c_g5 : W.cell? ⟨g5, 0, none⟩ = some (.float .f64 z) := (HS.out.1.cell 3 (by simp)).1
  go_wp2_with fail
  refine (DivConst_any z 4605607101106091996 z1 Hz1.out _).mono ?_
  rintro e w1 ⟨rfl, hb⟩
  have hS := HS.out.1.keep hb
  have hA := HS.out.2
  clear HS hb c_g5
  have s0 : (w1).cell? ⟨g5, 0, none⟩ = some (.float .f64 z) := (hS.cell 3 (by simp)).1
  have t0 : (w1).frozen? ⟨g5, 0, none⟩ = false := (hS.cell 3 (by simp)).2
  replace hS : Bx base w [(g8, 0), (g7, 0), (g6, 0), (g5, z1), (g4, y), (g3, x1)] ((w1).setCell ⟨g5, 0, none⟩ (.float .f64 z1)) := hS.set z1 hA 3 (by simp)
  replace hA : Apart base [(g8, 0), (g7, 0), (g6, 0), (g5, z1), (g4, y), (g3, x1)] := Apart.of_fst (by rfl) hA
  have HS := Lib.hid (And.intro hS hA)
  clear hS hA
  go_upto_region 3 with fail
  clear s0 t0
  generalize World.setCell _ _ _ = W at *
  clear w1
  have hS := HS.out.1
  have hA := HS.out.2
  clear HS
  generalize W = w1 at *
  have HS := Lib.hid (And.intro hS hA)
  clear hS hA
  go_upto_region 4 with fail
  have hS := HS.out.1
  have hA := HS.out.2
  clear HS
  generalize hW : World.alloc _ _ = W at *
  have hS2 : Bx base w [(w1.heap.size + 1 + 1, 0), (w1.heap.size + 1, 0), (w1.heap.size, 0), (g8, 0), (g7, 0), (g6, 0), (g5, z1), (g4, y), (g3, x1)] W := by
    subst hW
    have := (((hS.alloc 0 41).alloc 0 41).alloc 0 41)
    simpa using this
  have hA2 : Apart base [(w1.heap.size + 1 + 1, 0), (w1.heap.size + 1, 0), (w1.heap.size, 0), (g8, 0), (g7, 0), (g6, 0), (g5, z1), (g4, y), (g3, x1)] := by
    have := (((hA.alloc hS 0).alloc (hS.alloc 0 41) 0).alloc ((hS.alloc 0 41).alloc 0 41) 0)
    simpa using this
  have HS := Lib.hid (And.intro hS2 hA2)
  clear hS hA hS2 hA2 hW
  generalize w1.heap.size + 1 + 1 = g11 at *
  generalize w1.heap.size + 1 = g10 at *
  generalize w1.heap.size = g9 at *
  clear w1
  have q0 : (FloatKind.f64.format.order x1 4576259018578689238 == some .gt) = true := Hq0.out
  have c_g3 : W.cell? ⟨g3, 0, none⟩ = some (.float .f64 x1) := (HS.out.1.cell 8 (by simp)).1
  go_wp2_with fail
  refine (Value_any x1 _).mono ?_
  rintro e w1 ⟨rfl, hb⟩
  have hS := HS.out.1.keep hb
  have hA := HS.out.2
  clear HS hb c_g3
  have HS := Lib.hid (And.intro hS hA)
  clear hS hA
  go_upto_region 5 with fail
  generalize w1 = W at *
  clear q0
  have c_g3 : W.cell? ⟨g3, 0, none⟩ = some (.float .f64 x1) := (HS.out.1.cell 8 (by simp)).1
  go_wp2_with fail
  refine (HC0.out _).mono ?_
  rintro e w1 ⟨rfl, hb⟩
  have hS := HS.out.1.keep hb
  have hA := HS.out.2
  clear HS hb c_g3
  have s0 : (w1).cell? ⟨g9, 0, none⟩ = some (.float .f64 0) := (hS.cell 2 (by simp)).1
  have t0 : (w1).frozen? ⟨g9, 0, none⟩ = false := (hS.cell 2 (by simp)).2
  replace hS : Bx base w [(g11, 0), (g10, 0), (g9, f0), (g8, 0), (g7, 0), (g6, 0), (g5, z1), (g4, y), (g3, x1)] ((w1).setCell ⟨g9, 0, none⟩ (.float .f64 f0)) := hS.set f0 hA 2 (by simp)
  replace hA : Apart base [(g11, 0), (g10, 0), (g9, f0), (g8, 0), (g7, 0), (g6, 0), (g5, z1), (g4, y), (g3, x1)] := Apart.of_fst (by rfl) hA
  have HS := Lib.hid (And.intro hS hA)
  clear hS hA
  go_upto_region 7 with fail
  clear s0 t0
  generalize World.setCell _ _ _ = W at *
  clear w1
  have q1 : (FloatKind.f64.format.order y 4576259018578689238 == some .gt) = true := Hq1.out
  have c_g4 : W.cell? ⟨g4, 0, none⟩ = some (.float .f64 y) := (HS.out.1.cell 7 (by simp)).1
  go_wp2_with fail
  refine (Value_any y _).mono ?_
  rintro e w1 ⟨rfl, hb⟩
  have hS := HS.out.1.keep hb
  have hA := HS.out.2
  clear HS hb c_g4
  have HS := Lib.hid (And.intro hS hA)
  clear hS hA
  go_upto_region 8 with fail
  generalize w1 = W at *
  clear q1
  have c_g4 : W.cell? ⟨g4, 0, none⟩ = some (.float .f64 y) := (HS.out.1.cell 7 (by simp)).1
  go_wp2_with fail
  refine (HC1.out _).mono ?_
  rintro e w1 ⟨rfl, hb⟩
  have hS := HS.out.1.keep hb
  have hA := HS.out.2
  clear HS hb c_g4
  have s0 : (w1).cell? ⟨g10, 0, none⟩ = some (.float .f64 0) := (hS.cell 1 (by simp)).1
  have t0 : (w1).frozen? ⟨g10, 0, none⟩ = false := (hS.cell 1 (by simp)).2
  replace hS : Bx base w [(g11, 0), (g10, f1), (g9, f0), (g8, 0), (g7, 0), (g6, 0), (g5, z1), (g4, y), (g3, x1)] ((w1).setCell ⟨g10, 0, none⟩ (.float .f64 f1)) := hS.set f1 hA 1 (by simp)
  replace hA : Apart base [(g11, 0), (g10, f1), (g9, f0), (g8, 0), (g7, 0), (g6, 0), (g5, z1), (g4, y), (g3, x1)] := Apart.of_fst (by rfl) hA
  have HS := Lib.hid (And.intro hS hA)
  clear hS hA
  go_upto_region 10 with fail
  clear s0 t0
  generalize World.setCell _ _ _ = W at *
  clear w1
  have q2 : (FloatKind.f64.format.order z1 4576259018578689238 == some .gt) = true := Hq2.out
  have c_g5 : W.cell? ⟨g5, 0, none⟩ = some (.float .f64 z1) := (HS.out.1.cell 6 (by simp)).1
  go_wp2_with fail
  refine (Value_any z1 _).mono ?_
  rintro e w1 ⟨rfl, hb⟩
  have hS := HS.out.1.keep hb
  have hA := HS.out.2
  clear HS hb c_g5
  have HS := Lib.hid (And.intro hS hA)
  clear hS hA
  go_upto_region 11 with fail
  generalize w1 = W at *
  clear q2
  have c_g5 : W.cell? ⟨g5, 0, none⟩ = some (.float .f64 z1) := (HS.out.1.cell 6 (by simp)).1
  go_wp2_with fail
  refine (HC2.out _).mono ?_
  rintro e w1 ⟨rfl, hb⟩
  have hS := HS.out.1.keep hb
  have hA := HS.out.2
  clear HS hb c_g5
  have s0 : (w1).cell? ⟨g11, 0, none⟩ = some (.float .f64 0) := (hS.cell 0 (by simp)).1
  have t0 : (w1).frozen? ⟨g11, 0, none⟩ = false := (hS.cell 0 (by simp)).2
  replace hS : Bx base w [(g11, f2), (g10, f1), (g9, f0), (g8, 0), (g7, 0), (g6, 0), (g5, z1), (g4, y), (g3, x1)] ((w1).setCell ⟨g11, 0, none⟩ (.float .f64 f2)) := hS.set f2 hA 0 (by simp)
  replace hA : Apart base [(g11, f2), (g10, f1), (g9, f0), (g8, 0), (g7, 0), (g6, 0), (g5, z1), (g4, y), (g3, x1)] := Apart.of_fst (by rfl) hA
  have HS := Lib.hid (And.intro hS hA)
  clear hS hA
  go_upto_region 13 with fail
  clear s0 t0
  generalize World.setCell _ _ _ = W at *
  clear w1
  refine wp_region_plan 11 (by kernel_rfl) (by kernel_rfl) (PI base w [(g11, f2), (g10, f1), (g9, f0), (g8, 0), (g7, 0), (g6, 0), (g5, z1), (g4, y), (g3, x1)] [some 43, some 44, some 45, some 46, some 47, some 48, some 49, some 50, some 51, some 52, some 53] [] (fun i => [.agg #[.float .f64 f1], .agg #[.float .f64 p], .agg #[.float .f64 L], .agg #[.float .f64 f0], .agg #[.float .f64 f1], .agg #[.float .f64 d1], .agg #[.float .f64 A], .agg #[.float .f64 f1], .agg #[.float .f64 f2], .agg #[.float .f64 d2], .agg #[.float .f64 B]].getD i (.bool false)) _) (PI.start HS.out.1) ?_ ?_
  · intro i o b' a' w' hi ho hb he hI
    rcases (by omega : i = 0 ∨ i = 1 ∨ i = 2 ∨ i = 3 ∨ i = 4 ∨ i = 5 ∨ i = 6 ∨ i = 7 ∨ i = 8 ∨ i = 9 ∨ i = 10) with rfl | rfl | rfl | rfl | rfl | rfl | rfl | rfl | rfl | rfl | rfl
    · obtain rfl := Option.some.inj ho
      exact hI.stepQuiet hb rfl rfl rfl (op_load _ _ _ g10 f1 _ rfl ((hI.old rfl).trans rfl) (hI.bx.cell 1 (by simp)).1)
    · obtain rfl := Option.some.inj ho
      have e0 := hI.new 0 (edge he 0 (by kernel_rfl)) rfl rfl rfl (by show 43 < 54; decide)
      refine hI.stepCall hb rfl rfl rfl (op_call _ _ 63 Try.f63 _ _ _ rfl Try.func63 (by kernel_rfl) (by kernel_rfl)) ?_
      have hm : Array.map a'.eval #[.tmp 43, .const ((Value.float FloatKind.f64 4637863191261478912))] = #[.agg #[.float .f64 f1], (Value.float FloatKind.f64 4637863191261478912)] := by simp [e0, ev_const]
      rw [hm]
      exact MulConst_any f1 4637863191261478912 p Hp.out _
    · obtain rfl := Option.some.inj ho
      have e0 := hI.new 1 (edge he 1 (by kernel_rfl)) rfl rfl rfl (by show 44 < 54; decide)
      refine hI.stepCall hb rfl rfl rfl (op_call _ _ 65 Try.f65 _ _ _ rfl Try.func65 (by kernel_rfl) (by kernel_rfl)) ?_
      have hm : Array.map a'.eval #[.tmp 44, .const ((Value.float FloatKind.f64 4625196817309499392))] = #[.agg #[.float .f64 p], (Value.float FloatKind.f64 4625196817309499392)] := by simp [e0, ev_const]
      rw [hm]
      exact SubConst_any p 4625196817309499392 L HL.out _
    · obtain rfl := Option.some.inj ho
      exact hI.stepQuiet hb rfl rfl rfl (op_load _ _ _ g9 f0 _ rfl ((hI.old rfl).trans rfl) (hI.bx.cell 2 (by simp)).1)
    · obtain rfl := Option.some.inj ho
      exact hI.stepQuiet hb rfl rfl rfl (op_load _ _ _ g10 f1 _ rfl ((hI.old rfl).trans rfl) (hI.bx.cell 1 (by simp)).1)
    · obtain rfl := Option.some.inj ho
      have e0 := hI.new 3 (edge he 3 (by kernel_rfl)) rfl rfl rfl (by show 46 < 54; decide)
      have e1 := hI.new 4 (edge he 4 (by kernel_rfl)) rfl rfl rfl (by show 47 < 54; decide)
      refine hI.stepCall hb rfl rfl rfl (op_call _ _ 62 Try.f62 _ _ _ rfl Try.func62 (by kernel_rfl) (by kernel_rfl)) ?_
      have hm : Array.map a'.eval #[.tmp 46, .tmp 47] = #[.agg #[.float .f64 f0], .agg #[.float .f64 f1]] := by simp [e0, e1]
      rw [hm]
      exact Sub_any f0 f1 d1 Hd1.out _
    · obtain rfl := Option.some.inj ho
      have e0 := hI.new 5 (edge he 5 (by kernel_rfl)) rfl rfl rfl (by show 48 < 54; decide)
      refine hI.stepCall hb rfl rfl rfl (op_call _ _ 63 Try.f63 _ _ _ rfl Try.func63 (by kernel_rfl) (by kernel_rfl)) ?_
      have hm : Array.map a'.eval #[.tmp 48, .const ((Value.float FloatKind.f64 4647503709213818880))] = #[.agg #[.float .f64 d1], (Value.float FloatKind.f64 4647503709213818880)] := by simp [e0, ev_const]
      rw [hm]
      exact MulConst_any d1 4647503709213818880 A HA.out _
    · obtain rfl := Option.some.inj ho
      exact hI.stepQuiet hb rfl rfl rfl (op_load _ _ _ g10 f1 _ rfl ((hI.old rfl).trans rfl) (hI.bx.cell 1 (by simp)).1)
    · obtain rfl := Option.some.inj ho
      exact hI.stepQuiet hb rfl rfl rfl (op_load _ _ _ g11 f2 _ rfl ((hI.old rfl).trans rfl) (hI.bx.cell 0 (by simp)).1)
    · obtain rfl := Option.some.inj ho
      have e0 := hI.new 7 (edge he 7 (by kernel_rfl)) rfl rfl rfl (by show 50 < 54; decide)
      have e1 := hI.new 8 (edge he 8 (by kernel_rfl)) rfl rfl rfl (by show 51 < 54; decide)
      refine hI.stepCall hb rfl rfl rfl (op_call _ _ 62 Try.f62 _ _ _ rfl Try.func62 (by kernel_rfl) (by kernel_rfl)) ?_
      have hm : Array.map a'.eval #[.tmp 50, .tmp 51] = #[.agg #[.float .f64 f1], .agg #[.float .f64 f2]] := by simp [e0, e1]
      rw [hm]
      exact Sub_any f1 f2 d2 Hd2.out _
    · obtain rfl := Option.some.inj ho
      have e0 := hI.new 9 (edge he 9 (by kernel_rfl)) rfl rfl rfl (by show 52 < 54; decide)
      refine hI.stepCall hb rfl rfl rfl (op_call _ _ 63 Try.f63 _ _ _ rfl Try.func63 (by kernel_rfl) (by kernel_rfl)) ?_
      have hm : Array.map a'.eval #[.tmp 52, .const ((Value.float FloatKind.f64 4641240890982006784))] = #[.agg #[.float .f64 d2], (Value.float FloatKind.f64 4641240890982006784)] := by simp [e0, ev_const]
      rw [hm]
      exact MulConst_any d2 4641240890982006784 B HB.out _
  · intro b' a' w1 hb hI
    obtain ⟨ρ, rfl, hS, hC, hN⟩ := hI
    have hA := HS.out.2
    clear HS
    have p0 := hb 0 (by decide)
    have p1 := hb 1 (by decide)
    have p2 := hb 2 (by decide)
    have p3 := hb 3 (by decide)
    have p4 := hb 4 (by decide)
    have p5 := hb 5 (by decide)
    have p6 := hb 6 (by decide)
    have p7 := hb 7 (by decide)
    have p8 := hb 8 (by decide)
    have p9 := hb 9 (by decide)
    have p10 := hb 10 (by decide)
    have v0 : vals [] (fun i => [.agg #[.float .f64 f1], .agg #[.float .f64 p], .agg #[.float .f64 L], .agg #[.float .f64 f0], .agg #[.float .f64 f1], .agg #[.float .f64 d1], .agg #[.float .f64 A], .agg #[.float .f64 f1], .agg #[.float .f64 f2], .agg #[.float .f64 d2], .agg #[.float .f64 B]].getD i (.bool false)) ρ 0 = .agg #[.float .f64 f1] := rfl
    have v1 : vals [] (fun i => [.agg #[.float .f64 f1], .agg #[.float .f64 p], .agg #[.float .f64 L], .agg #[.float .f64 f0], .agg #[.float .f64 f1], .agg #[.float .f64 d1], .agg #[.float .f64 A], .agg #[.float .f64 f1], .agg #[.float .f64 f2], .agg #[.float .f64 d2], .agg #[.float .f64 B]].getD i (.bool false)) ρ 1 = .agg #[.float .f64 p] := rfl
    have v2 : vals [] (fun i => [.agg #[.float .f64 f1], .agg #[.float .f64 p], .agg #[.float .f64 L], .agg #[.float .f64 f0], .agg #[.float .f64 f1], .agg #[.float .f64 d1], .agg #[.float .f64 A], .agg #[.float .f64 f1], .agg #[.float .f64 f2], .agg #[.float .f64 d2], .agg #[.float .f64 B]].getD i (.bool false)) ρ 2 = .agg #[.float .f64 L] := rfl
    have v3 : vals [] (fun i => [.agg #[.float .f64 f1], .agg #[.float .f64 p], .agg #[.float .f64 L], .agg #[.float .f64 f0], .agg #[.float .f64 f1], .agg #[.float .f64 d1], .agg #[.float .f64 A], .agg #[.float .f64 f1], .agg #[.float .f64 f2], .agg #[.float .f64 d2], .agg #[.float .f64 B]].getD i (.bool false)) ρ 3 = .agg #[.float .f64 f0] := rfl
    have v4 : vals [] (fun i => [.agg #[.float .f64 f1], .agg #[.float .f64 p], .agg #[.float .f64 L], .agg #[.float .f64 f0], .agg #[.float .f64 f1], .agg #[.float .f64 d1], .agg #[.float .f64 A], .agg #[.float .f64 f1], .agg #[.float .f64 f2], .agg #[.float .f64 d2], .agg #[.float .f64 B]].getD i (.bool false)) ρ 4 = .agg #[.float .f64 f1] := rfl
    have v5 : vals [] (fun i => [.agg #[.float .f64 f1], .agg #[.float .f64 p], .agg #[.float .f64 L], .agg #[.float .f64 f0], .agg #[.float .f64 f1], .agg #[.float .f64 d1], .agg #[.float .f64 A], .agg #[.float .f64 f1], .agg #[.float .f64 f2], .agg #[.float .f64 d2], .agg #[.float .f64 B]].getD i (.bool false)) ρ 5 = .agg #[.float .f64 d1] := rfl
    have v6 : vals [] (fun i => [.agg #[.float .f64 f1], .agg #[.float .f64 p], .agg #[.float .f64 L], .agg #[.float .f64 f0], .agg #[.float .f64 f1], .agg #[.float .f64 d1], .agg #[.float .f64 A], .agg #[.float .f64 f1], .agg #[.float .f64 f2], .agg #[.float .f64 d2], .agg #[.float .f64 B]].getD i (.bool false)) ρ 6 = .agg #[.float .f64 A] := rfl
    have v7 : vals [] (fun i => [.agg #[.float .f64 f1], .agg #[.float .f64 p], .agg #[.float .f64 L], .agg #[.float .f64 f0], .agg #[.float .f64 f1], .agg #[.float .f64 d1], .agg #[.float .f64 A], .agg #[.float .f64 f1], .agg #[.float .f64 f2], .agg #[.float .f64 d2], .agg #[.float .f64 B]].getD i (.bool false)) ρ 7 = .agg #[.float .f64 f1] := rfl
    have v8 : vals [] (fun i => [.agg #[.float .f64 f1], .agg #[.float .f64 p], .agg #[.float .f64 L], .agg #[.float .f64 f0], .agg #[.float .f64 f1], .agg #[.float .f64 d1], .agg #[.float .f64 A], .agg #[.float .f64 f1], .agg #[.float .f64 f2], .agg #[.float .f64 d2], .agg #[.float .f64 B]].getD i (.bool false)) ρ 8 = .agg #[.float .f64 f2] := rfl
    have v9 : vals [] (fun i => [.agg #[.float .f64 f1], .agg #[.float .f64 p], .agg #[.float .f64 L], .agg #[.float .f64 f0], .agg #[.float .f64 f1], .agg #[.float .f64 d1], .agg #[.float .f64 A], .agg #[.float .f64 f1], .agg #[.float .f64 f2], .agg #[.float .f64 d2], .agg #[.float .f64 B]].getD i (.bool false)) ρ 9 = .agg #[.float .f64 d2] := rfl
    have v10 : vals [] (fun i => [.agg #[.float .f64 f1], .agg #[.float .f64 p], .agg #[.float .f64 L], .agg #[.float .f64 f0], .agg #[.float .f64 f1], .agg #[.float .f64 d1], .agg #[.float .f64 A], .agg #[.float .f64 f1], .agg #[.float .f64 f2], .agg #[.float .f64 d2], .agg #[.float .f64 B]].getD i (.bool false)) ρ 10 = .agg #[.float .f64 B] := rfl
    simp only [puts, Nat.zero_add, p0, p1, p2, p3, p4, p5, p6, p7, p8, p9, p10, v0, v1, v2, v3, v4, v5, v6, v7, v8, v9, v10, if_true, List.drop_succ_cons, List.drop_zero, Nat.reduceAdd]
    clear hb hC hN p0 p1 p2 p3 p4 p5 p6 p7 p8 p9 p10 v0 v1 v2 v3 v4 v5 v6 v7 v8 v9 v10
    clear ρ b'
    have s0 : (w1).cell? ⟨g6, 0, none⟩ = some (.float .f64 0) := (hS.cell 5 (by simp)).1
    have t0 : (w1).frozen? ⟨g6, 0, none⟩ = false := (hS.cell 5 (by simp)).2
    replace hS : Bx base w [(g11, f2), (g10, f1), (g9, f0), (g8, 0), (g7, 0), (g6, L), (g5, z1), (g4, y), (g3, x1)] ((w1).setCell ⟨g6, 0, none⟩ (.float .f64 L)) := hS.set L hA 5 (by simp)
    replace hA : Apart base [(g11, f2), (g10, f1), (g9, f0), (g8, 0), (g7, 0), (g6, L), (g5, z1), (g4, y), (g3, x1)] := Apart.of_fst (by rfl) hA
    have s1 : ((w1).setCell ⟨g6, 0, none⟩ (.float .f64 L)).cell? ⟨g7, 0, none⟩ = some (.float .f64 0) := (hS.cell 4 (by simp)).1
    have t1 : ((w1).setCell ⟨g6, 0, none⟩ (.float .f64 L)).frozen? ⟨g7, 0, none⟩ = false := (hS.cell 4 (by simp)).2
    replace hS : Bx base w [(g11, f2), (g10, f1), (g9, f0), (g8, 0), (g7, A), (g6, L), (g5, z1), (g4, y), (g3, x1)] (((w1).setCell ⟨g6, 0, none⟩ (.float .f64 L)).setCell ⟨g7, 0, none⟩ (.float .f64 A)) := hS.set A hA 4 (by simp)
    replace hA : Apart base [(g11, f2), (g10, f1), (g9, f0), (g8, 0), (g7, A), (g6, L), (g5, z1), (g4, y), (g3, x1)] := Apart.of_fst (by rfl) hA
    have s2 : (((w1).setCell ⟨g6, 0, none⟩ (.float .f64 L)).setCell ⟨g7, 0, none⟩ (.float .f64 A)).cell? ⟨g8, 0, none⟩ = some (.float .f64 0) := (hS.cell 3 (by simp)).1
    have t2 : (((w1).setCell ⟨g6, 0, none⟩ (.float .f64 L)).setCell ⟨g7, 0, none⟩ (.float .f64 A)).frozen? ⟨g8, 0, none⟩ = false := (hS.cell 3 (by simp)).2
    replace hS : Bx base w [(g11, f2), (g10, f1), (g9, f0), (g8, B), (g7, A), (g6, L), (g5, z1), (g4, y), (g3, x1)] ((((w1).setCell ⟨g6, 0, none⟩ (.float .f64 L)).setCell ⟨g7, 0, none⟩ (.float .f64 A)).setCell ⟨g8, 0, none⟩ (.float .f64 B)) := hS.set B hA 3 (by simp)
    replace hA : Apart base [(g11, f2), (g10, f1), (g9, f0), (g8, B), (g7, A), (g6, L), (g5, z1), (g4, y), (g3, x1)] := Apart.of_fst (by rfl) hA
    have HS := Lib.hid (And.intro hS hA)
    clear hS hA
    go_wp2_with fail
    clear s0 t0 s1 t1 s2 t2
    generalize World.setCell _ _ _ = W at *
    clear w1
    have c_g6 : W.cell? ⟨g6, 0, none⟩ = some (.float .f64 L) := (HS.out.1.cell 5 (by simp)).1
    have c_g7 : W.cell? ⟨g7, 0, none⟩ = some (.float .f64 A) := (HS.out.1.cell 4 (by simp)).1
    have c_g8 : W.cell? ⟨g8, 0, none⟩ = some (.float .f64 B) := (HS.out.1.cell 3 (by simp)).1
    refine bodyPost_ret (v := .tuple #[.agg #[.float .f64 L], .agg #[.float .f64 A], .agg #[.float .f64 B]]) (by simp [results, Try.results47, go_sem, c_g6, c_g7, c_g8]) rfl ⟨rfl, HS.out.1.below.2⟩
set_option maxRecDepth 100000 in
set_option maxHeartbeats 4000000 in
theorem xl_ttf (x y z x1 z1 f0 f1 m2 a2 f2 p L d1 A d2 B base : Nat) (w : World) (H : Hid (base = w.heap.size)) (Hx1 : Hid (Ieee.double.div x 4606860822843362778 = some x1)) (Hz1 : Hid (Ieee.double.div z 4605607101106091996 = some z1)) (Hq0 : Hid (gtB x1 4576259018578689238 = true)) (HC0 : Hid (∀ w, Calls Try.prog 67 #[.agg #[.float .f64 x1]] w fun e w' => e = .returned (.agg #[.float .f64 f0]) ∧ Below w.heap.size w w')) (Hq1 : Hid (gtB y 4576259018578689238 = true)) (HC1 : Hid (∀ w, Calls Try.prog 67 #[.agg #[.float .f64 y]] w fun e w' => e = .returned (.agg #[.float .f64 f1]) ∧ Below w.heap.size w w')) (Hq2 : Hid (gtB z1 4576259018578689238 = false)) (Hm2 : Hid (Ieee.double.mul z1 4651156694067819558 = some m2)) (Ha2 : Hid (Ieee.double.add m2 4625196817309499392 = some a2)) (Hf2 : Hid (Ieee.double.div a2 4637863191261478912 = some f2)) (Hp : Hid (Ieee.double.mul f1 4637863191261478912 = some p)) (HL : Hid (Ieee.double.sub p 4625196817309499392 = some L)) (Hd1 : Hid (Ieee.double.sub f0 f1 = some d1)) (HA : Hid (Ieee.double.mul d1 4647503709213818880 = some A)) (Hd2 : Hid (Ieee.double.sub f1 f2 = some d2)) (HB : Hid (Ieee.double.mul d2 4641240890982006784 = some B)) :
    Calls Try.prog 47 #[.agg #[.float .f64 x], .agg #[.float .f64 y], .agg #[.float .f64 z]] w fun e w' => e = .returned (.tuple #[.agg #[.float .f64 L], .agg #[.float .f64 A], .agg #[.float .f64 B]]) ∧ Below base w w' := by
  go_enter Try.func47, Try.ntmps47
  go_upto_region 1 with fail
  generalize hW : World.alloc _ _ = W at *
  have hS : Bx base w [(w.heap.size + 1 + 1 + 1 + 1 + 1, 0), (w.heap.size + 1 + 1 + 1 + 1, 0), (w.heap.size + 1 + 1 + 1, 0), (w.heap.size + 1 + 1, z), (w.heap.size + 1, y), (w.heap.size, x)] W := by
    subst hW
    have := (((((((Bx.start w).alloc x 41).alloc y 41).alloc z 41).alloc 0 41).alloc 0 41).alloc 0 41)
    rw [H.out]
    simpa using this
  have hA : Apart base [(w.heap.size + 1 + 1 + 1 + 1 + 1, 0), (w.heap.size + 1 + 1 + 1 + 1, 0), (w.heap.size + 1 + 1 + 1, 0), (w.heap.size + 1 + 1, z), (w.heap.size + 1, y), (w.heap.size, x)] := by
    rw [H.out]
    simp [Apart]; try omega
  have HS := Lib.hid (And.intro hS hA)
  clear hS hA hW H
  generalize w.heap.size + 1 + 1 + 1 + 1 + 1 = g8 at *
  generalize w.heap.size + 1 + 1 + 1 + 1 = g7 at *
  generalize w.heap.size + 1 + 1 + 1 = g6 at *
  generalize w.heap.size + 1 + 1 = g5 at *
  generalize w.heap.size + 1 = g4 at *
  generalize hgg : w.heap.size = g3 at *
  clear hgg
  have c_g3 : W.cell? ⟨g3, 0, none⟩ = some (.float .f64 x) := (HS.out.1.cell 5 (by simp)).1
  go_wp2_with fail
  refine (DivConst_any x 4606860822843362778 x1 Hx1.out _).mono ?_
  rintro e w1 ⟨rfl, hb⟩
  have hS := HS.out.1.keep hb
  have hA := HS.out.2
  clear HS hb c_g3
  have s0 : (w1).cell? ⟨g3, 0, none⟩ = some (.float .f64 x) := (hS.cell 5 (by simp)).1
  have t0 : (w1).frozen? ⟨g3, 0, none⟩ = false := (hS.cell 5 (by simp)).2
  replace hS : Bx base w [(g8, 0), (g7, 0), (g6, 0), (g5, z), (g4, y), (g3, x1)] ((w1).setCell ⟨g3, 0, none⟩ (.float .f64 x1)) := hS.set x1 hA 5 (by simp)
  replace hA : Apart base [(g8, 0), (g7, 0), (g6, 0), (g5, z), (g4, y), (g3, x1)] := Apart.of_fst (by rfl) hA
  have HS := Lib.hid (And.intro hS hA)
  clear hS hA
  go_upto_region 2 with fail
  clear s0 t0
  generalize World.setCell _ _ _ = W at *
  clear w1
  have c_g5 : W.cell? ⟨g5, 0, none⟩ = some (.float .f64 z) := (HS.out.1.cell 3 (by simp)).1
  go_wp2_with fail
  refine (DivConst_any z 4605607101106091996 z1 Hz1.out _).mono ?_
  rintro e w1 ⟨rfl, hb⟩
  have hS := HS.out.1.keep hb
  have hA := HS.out.2
  clear HS hb c_g5
  have s0 : (w1).cell? ⟨g5, 0, none⟩ = some (.float .f64 z) := (hS.cell 3 (by simp)).1
  have t0 : (w1).frozen? ⟨g5, 0, none⟩ = false := (hS.cell 3 (by simp)).2
  replace hS : Bx base w [(g8, 0), (g7, 0), (g6, 0), (g5, z1), (g4, y), (g3, x1)] ((w1).setCell ⟨g5, 0, none⟩ (.float .f64 z1)) := hS.set z1 hA 3 (by simp)
  replace hA : Apart base [(g8, 0), (g7, 0), (g6, 0), (g5, z1), (g4, y), (g3, x1)] := Apart.of_fst (by rfl) hA
  have HS := Lib.hid (And.intro hS hA)
  clear hS hA
  go_upto_region 3 with fail
  clear s0 t0
  generalize World.setCell _ _ _ = W at *
  clear w1
  have hS := HS.out.1
  have hA := HS.out.2
  clear HS
  generalize W = w1 at *
  have HS := Lib.hid (And.intro hS hA)
  clear hS hA
  go_upto_region 4 with fail
  have hS := HS.out.1
  have hA := HS.out.2
  clear HS
  generalize hW : World.alloc _ _ = W at *
  have hS2 : Bx base w [(w1.heap.size + 1 + 1, 0), (w1.heap.size + 1, 0), (w1.heap.size, 0), (g8, 0), (g7, 0), (g6, 0), (g5, z1), (g4, y), (g3, x1)] W := by
    subst hW
    have := (((hS.alloc 0 41).alloc 0 41).alloc 0 41)
    simpa using this
  have hA2 : Apart base [(w1.heap.size + 1 + 1, 0), (w1.heap.size + 1, 0), (w1.heap.size, 0), (g8, 0), (g7, 0), (g6, 0), (g5, z1), (g4, y), (g3, x1)] := by
    have := (((hA.alloc hS 0).alloc (hS.alloc 0 41) 0).alloc ((hS.alloc 0 41).alloc 0 41) 0)
    simpa using this
  have HS := Lib.hid (And.intro hS2 hA2)
  clear hS hA hS2 hA2 hW
  generalize w1.heap.size + 1 + 1 = g11 at *
  generalize w1.heap.size + 1 = g10 at *
  generalize w1.heap.size = g9 at *
  clear w1
  have q0 : (FloatKind.f64.format.order x1 4576259018578689238 == some .gt) = true := Hq0.out
  have c_g3 : W.cell? ⟨g3, 0, none⟩ = some (.float .f64 x1) := (HS.out.1.cell 8 (by simp)).1
  go_wp2_with fail
  refine (Value_any x1 _).mono ?_
  rintro e w1 ⟨rfl, hb⟩
  have hS := HS.out.1.keep hb
  have hA := HS.out.2
  clear HS hb c_g3
  have HS := Lib.hid (And.intro hS hA)
  clear hS hA
  go_upto_region 5 with fail
  generalize w1 = W at *
  clear q0
  have c_g3 : W.cell? ⟨g3, 0, none⟩ = some (.float .f64 x1) := (HS.out.1.cell 8 (by simp)).1
  go_wp2_with fail
  refine (HC0.out _).mono ?_
  rintro e w1 ⟨rfl, hb⟩
  have hS := HS.out.1.keep hb
  have hA := HS.out.2
  clear HS hb c_g3
  have s0 : (w1).cell? ⟨g9, 0, none⟩ = some (.float .f64 0) := (hS.cell 2 (by simp)).1
  have t0 : (w1).frozen? ⟨g9, 0, none⟩ = false := (hS.cell 2 (by simp)).2
  replace hS : Bx base w [(g11, 0), (g10, 0), (g9, f0), (g8, 0), (g7, 0), (g6, 0), (g5, z1), (g4, y), (g3, x1)] ((w1).setCell ⟨g9, 0, none⟩ (.float .f64 f0)) := hS.set f0 hA 2 (by simp)
  replace hA : Apart base [(g11, 0), (g10, 0), (g9, f0), (g8, 0), (g7, 0), (g6, 0), (g5, z1), (g4, y), (g3, x1)] := Apart.of_fst (by rfl) hA
  have HS := Lib.hid (And.intro hS hA)
  clear hS hA
  go_upto_region 7 with fail
  clear s0 t0
  generalize World.setCell _ _ _ = W at *
  clear w1
  have q1 : (FloatKind.f64.format.order y 4576259018578689238 == some .gt) = true := Hq1.out
  have c_g4 : W.cell? ⟨g4, 0, none⟩ = some (.float .f64 y) := (HS.out.1.cell 7 (by simp)).1
  go_wp2_with fail
  refine (Value_any y _).mono ?_
  rintro e w1 ⟨rfl, hb⟩
  have hS := HS.out.1.keep hb
  have hA := HS.out.2
  clear HS hb c_g4
  have HS := Lib.hid (And.intro hS hA)
  clear hS hA
  go_upto_region 8 with fail
  generalize w1 = W at *
  clear q1
  have c_g4 : W.cell? ⟨g4, 0, none⟩ = some (.float .f64 y) := (HS.out.1.cell 7 (by simp)).1
  go_wp2_with fail
  refine (HC1.out _).mono ?_
  rintro e w1 ⟨rfl, hb⟩
  have hS := HS.out.1.keep hb
  have hA := HS.out.2
  clear HS hb c_g4
  have s0 : (w1).cell? ⟨g10, 0, none⟩ = some (.float .f64 0) := (hS.cell 1 (by simp)).1
  have t0 : (w1).frozen? ⟨g10, 0, none⟩ = false := (hS.cell 1 (by simp)).2
  replace hS : Bx base w [(g11, 0), (g10, f1), (g9, f0), (g8, 0), (g7, 0), (g6, 0), (g5, z1), (g4, y), (g3, x1)] ((w1).setCell ⟨g10, 0, none⟩ (.float .f64 f1)) := hS.set f1 hA 1 (by simp)
  replace hA : Apart base [(g11, 0), (g10, f1), (g9, f0), (g8, 0), (g7, 0), (g6, 0), (g5, z1), (g4, y), (g3, x1)] := Apart.of_fst (by rfl) hA
  have HS := Lib.hid (And.intro hS hA)
  clear hS hA
  go_upto_region 10 with fail
  clear s0 t0
  generalize World.setCell _ _ _ = W at *
  clear w1
  have q2 : (FloatKind.f64.format.order z1 4576259018578689238 == some .gt) = false := Hq2.out
  have c_g5 : W.cell? ⟨g5, 0, none⟩ = some (.float .f64 z1) := (HS.out.1.cell 6 (by simp)).1
  go_wp2_with fail
  refine (Value_any z1 _).mono ?_
  rintro e w1 ⟨rfl, hb⟩
  have hS := HS.out.1.keep hb
  have hA := HS.out.2
  clear HS hb c_g5
  have HS := Lib.hid (And.intro hS hA)
  clear hS hA
  go_upto_region 12 with fail
  generalize w1 = W at *
  clear q2
  have c_g5 : W.cell? ⟨g5, 0, none⟩ = some (.float .f64 z1) := (HS.out.1.cell 6 (by simp)).1
  go_wp2_with fail
  refine (MulConst_any z1 4651156694067819558 m2 Hm2.out _).mono ?_
  rintro e w1 ⟨rfl, hb⟩
  have hS := HS.out.1.keep hb
  have hA := HS.out.2
  clear HS hb c_g5
  have HS := Lib.hid (And.intro hS hA)
  clear hS hA
  go_wp2_with fail
  refine (AddConst_any m2 4625196817309499392 a2 Ha2.out _).mono ?_
  rintro e w2 ⟨rfl, hb⟩
  have hS := HS.out.1.keep hb
  have hA := HS.out.2
  clear HS hb 
  clear w1
  generalize w2 = w1 at *
  have HS := Lib.hid (And.intro hS hA)
  clear hS hA
  go_wp2_with fail
  refine (DivConst_any a2 4637863191261478912 f2 Hf2.out _).mono ?_
  rintro e w2 ⟨rfl, hb⟩
  have hS := HS.out.1.keep hb
  have hA := HS.out.2
  clear HS hb 
  clear w1
  generalize w2 = w1 at *
  have s0 : (w1).cell? ⟨g11, 0, none⟩ = some (.float .f64 0) := (hS.cell 0 (by simp)).1
  have t0 : (w1).frozen? ⟨g11, 0, none⟩ = false := (hS.cell 0 (by simp)).2
  replace hS : Bx base w [(g11, f2), (g10, f1), (g9, f0), (g8, 0), (g7, 0), (g6, 0), (g5, z1), (g4, y), (g3, x1)] ((w1).setCell ⟨g11, 0, none⟩ (.float .f64 f2)) := hS.set f2 hA 0 (by simp)
  replace hA : Apart base [(g11, f2), (g10, f1), (g9, f0), (g8, 0), (g7, 0), (g6, 0), (g5, z1), (g4, y), (g3, x1)] := Apart.of_fst (by rfl) hA
  have HS := Lib.hid (And.intro hS hA)
  clear hS hA
  go_upto_region 13 with fail
  clear s0 t0
  generalize World.setCell _ _ _ = W at *
  clear w1
  refine wp_region_plan 11 (by kernel_rfl) (by kernel_rfl) (PI base w [(g11, f2), (g10, f1), (g9, f0), (g8, 0), (g7, 0), (g6, 0), (g5, z1), (g4, y), (g3, x1)] [some 43, some 44, some 45, some 46, some 47, some 48, some 49, some 50, some 51, some 52, some 53] [] (fun i => [.agg #[.float .f64 f1], .agg #[.float .f64 p], .agg #[.float .f64 L], .agg #[.float .f64 f0], .agg #[.float .f64 f1], .agg #[.float .f64 d1], .agg #[.float .f64 A], .agg #[.float .f64 f1], .agg #[.float .f64 f2], .agg #[.float .f64 d2], .agg #[.float .f64 B]].getD i (.bool false)) _) (PI.start HS.out.1) ?_ ?_
  · intro i o b' a' w' hi ho hb he hI
    rcases (by omega : i = 0 ∨ i = 1 ∨ i = 2 ∨ i = 3 ∨ i = 4 ∨ i = 5 ∨ i = 6 ∨ i = 7 ∨ i = 8 ∨ i = 9 ∨ i = 10) with rfl | rfl | rfl | rfl | rfl | rfl | rfl | rfl | rfl | rfl | rfl
    · obtain rfl := Option.some.inj ho
      exact hI.stepQuiet hb rfl rfl rfl (op_load _ _ _ g10 f1 _ rfl ((hI.old rfl).trans rfl) (hI.bx.cell 1 (by simp)).1)
    · obtain rfl := Option.some.inj ho
      have e0 := hI.new 0 (edge he 0 (by kernel_rfl)) rfl rfl rfl (by show 43 < 54; decide)
      refine hI.stepCall hb rfl rfl rfl (op_call _ _ 63 Try.f63 _ _ _ rfl Try.func63 (by kernel_rfl) (by kernel_rfl)) ?_
      have hm : Array.map a'.eval #[.tmp 43, .const ((Value.float FloatKind.f64 4637863191261478912))] = #[.agg #[.float .f64 f1], (Value.float FloatKind.f64 4637863191261478912)] := by simp [e0, ev_const]
      rw [hm]
      exact MulConst_any f1 4637863191261478912 p Hp.out _
    · obtain rfl := Option.some.inj ho
      have e0 := hI.new 1 (edge he 1 (by kernel_rfl)) rfl rfl rfl (by show 44 < 54; decide)
      refine hI.stepCall hb rfl rfl rfl (op_call _ _ 65 Try.f65 _ _ _ rfl Try.func65 (by kernel_rfl) (by kernel_rfl)) ?_
      have hm : Array.map a'.eval #[.tmp 44, .const ((Value.float FloatKind.f64 4625196817309499392))] = #[.agg #[.float .f64 p], (Value.float FloatKind.f64 4625196817309499392)] := by simp [e0, ev_const]
      rw [hm]
      exact SubConst_any p 4625196817309499392 L HL.out _
    · obtain rfl := Option.some.inj ho
      exact hI.stepQuiet hb rfl rfl rfl (op_load _ _ _ g9 f0 _ rfl ((hI.old rfl).trans rfl) (hI.bx.cell 2 (by simp)).1)
    · obtain rfl := Option.some.inj ho
      exact hI.stepQuiet hb rfl rfl rfl (op_load _ _ _ g10 f1 _ rfl ((hI.old rfl).trans rfl) (hI.bx.cell 1 (by simp)).1)
    · obtain rfl := Option.some.inj ho
      have e0 := hI.new 3 (edge he 3 (by kernel_rfl)) rfl rfl rfl (by show 46 < 54; decide)
      have e1 := hI.new 4 (edge he 4 (by kernel_rfl)) rfl rfl rfl (by show 47 < 54; decide)
      refine hI.stepCall hb rfl rfl rfl (op_call _ _ 62 Try.f62 _ _ _ rfl Try.func62 (by kernel_rfl) (by kernel_rfl)) ?_
      have hm : Array.map a'.eval #[.tmp 46, .tmp 47] = #[.agg #[.float .f64 f0], .agg #[.float .f64 f1]] := by simp [e0, e1]
      rw [hm]
      exact Sub_any f0 f1 d1 Hd1.out _
    · obtain rfl := Option.some.inj ho
      have e0 := hI.new 5 (edge he 5 (by kernel_rfl)) rfl rfl rfl (by show 48 < 54; decide)
      refine hI.stepCall hb rfl rfl rfl (op_call _ _ 63 Try.f63 _ _ _ rfl Try.func63 (by kernel_rfl) (by kernel_rfl)) ?_
      have hm : Array.map a'.eval #[.tmp 48, .const ((Value.float FloatKind.f64 4647503709213818880))] = #[.agg #[.float .f64 d1], (Value.float FloatKind.f64 4647503709213818880)] := by simp [e0, ev_const]
      rw [hm]
      exact MulConst_any d1 4647503709213818880 A HA.out _
    · obtain rfl := Option.some.inj ho
      exact hI.stepQuiet hb rfl rfl rfl (op_load _ _ _ g10 f1 _ rfl ((hI.old rfl).trans rfl) (hI.bx.cell 1 (by simp)).1)
    · obtain rfl := Option.some.inj ho
      exact hI.stepQuiet hb rfl rfl rfl (op_load _ _ _ g11 f2 _ rfl ((hI.old rfl).trans rfl) (hI.bx.cell 0 (by simp)).1)
    · obtain rfl := Option.some.inj ho
      have e0 := hI.new 7 (edge he 7 (by kernel_rfl)) rfl rfl rfl (by show 50 < 54; decide)
      have e1 := hI.new 8 (edge he 8 (by kernel_rfl)) rfl rfl rfl (by show 51 < 54; decide)
      refine hI.stepCall hb rfl rfl rfl (op_call _ _ 62 Try.f62 _ _ _ rfl Try.func62 (by kernel_rfl) (by kernel_rfl)) ?_
      have hm : Array.map a'.eval #[.tmp 50, .tmp 51] = #[.agg #[.float .f64 f1], .agg #[.float .f64 f2]] := by simp [e0, e1]
      rw [hm]
      exact Sub_any f1 f2 d2 Hd2.out _
    · obtain rfl := Option.some.inj ho
      have e0 := hI.new 9 (edge he 9 (by kernel_rfl)) rfl rfl rfl (by show 52 < 54; decide)
      refine hI.stepCall hb rfl rfl rfl (op_call _ _ 63 Try.f63 _ _ _ rfl Try.func63 (by kernel_rfl) (by kernel_rfl)) ?_
      have hm : Array.map a'.eval #[.tmp 52, .const ((Value.float FloatKind.f64 4641240890982006784))] = #[.agg #[.float .f64 d2], (Value.float FloatKind.f64 4641240890982006784)] := by simp [e0, ev_const]
      rw [hm]
      exact MulConst_any d2 4641240890982006784 B HB.out _
  · intro b' a' w1 hb hI
    obtain ⟨ρ, rfl, hS, hC, hN⟩ := hI
    have hA := HS.out.2
    clear HS
    have p0 := hb 0 (by decide)
    have p1 := hb 1 (by decide)
    have p2 := hb 2 (by decide)
    have p3 := hb 3 (by decide)
    have p4 := hb 4 (by decide)
    have p5 := hb 5 (by decide)
    have p6 := hb 6 (by decide)
    have p7 := hb 7 (by decide)
    have p8 := hb 8 (by decide)
    have p9 := hb 9 (by decide)
    have p10 := hb 10 (by decide)
    have v0 : vals [] (fun i => [.agg #[.float .f64 f1], .agg #[.float .f64 p], .agg #[.float .f64 L], .agg #[.float .f64 f0], .agg #[.float .f64 f1], .agg #[.float .f64 d1], .agg #[.float .f64 A], .agg #[.float .f64 f1], .agg #[.float .f64 f2], .agg #[.float .f64 d2], .agg #[.float .f64 B]].getD i (.bool false)) ρ 0 = .agg #[.float .f64 f1] := rfl
    have v1 : vals [] (fun i => [.agg #[.float .f64 f1], .agg #[.float .f64 p], .agg #[.float .f64 L], .agg #[.float .f64 f0], .agg #[.float .f64 f1], .agg #[.float .f64 d1], .agg #[.float .f64 A], .agg #[.float .f64 f1], .agg #[.float .f64 f2], .agg #[.float .f64 d2], .agg #[.float .f64 B]].getD i (.bool false)) ρ 1 = .agg #[.float .f64 p] := rfl
    have v2 : vals [] (fun i => [.agg #[.float .f64 f1], .agg #[.float .f64 p], .agg #[.float .f64 L], .agg #[.float .f64 f0], .agg #[.float .f64 f1], .agg #[.float .f64 d1], .agg #[.float .f64 A], .agg #[.float .f64 f1], .agg #[.float .f64 f2], .agg #[.float .f64 d2], .agg #[.float .f64 B]].getD i (.bool false)) ρ 2 = .agg #[.float .f64 L] := rfl
    have v3 : vals [] (fun i => [.agg #[.float .f64 f1], .agg #[.float .f64 p], .agg #[.float .f64 L], .agg #[.float .f64 f0], .agg #[.float .f64 f1], .agg #[.float .f64 d1], .agg #[.float .f64 A], .agg #[.float .f64 f1], .agg #[.float .f64 f2], .agg #[.float .f64 d2], .agg #[.float .f64 B]].getD i (.bool false)) ρ 3 = .agg #[.float .f64 f0] := rfl
    have v4 : vals [] (fun i => [.agg #[.float .f64 f1], .agg #[.float .f64 p], .agg #[.float .f64 L], .agg #[.float .f64 f0], .agg #[.float .f64 f1], .agg #[.float .f64 d1], .agg #[.float .f64 A], .agg #[.float .f64 f1], .agg #[.float .f64 f2], .agg #[.float .f64 d2], .agg #[.float .f64 B]].getD i (.bool false)) ρ 4 = .agg #[.float .f64 f1] := rfl
    have v5 : vals [] (fun i => [.agg #[.float .f64 f1], .agg #[.float .f64 p], .agg #[.float .f64 L], .agg #[.float .f64 f0], .agg #[.float .f64 f1], .agg #[.float .f64 d1], .agg #[.float .f64 A], .agg #[.float .f64 f1], .agg #[.float .f64 f2], .agg #[.float .f64 d2], .agg #[.float .f64 B]].getD i (.bool false)) ρ 5 = .agg #[.float .f64 d1] := rfl
    have v6 : vals [] (fun i => [.agg #[.float .f64 f1], .agg #[.float .f64 p], .agg #[.float .f64 L], .agg #[.float .f64 f0], .agg #[.float .f64 f1], .agg #[.float .f64 d1], .agg #[.float .f64 A], .agg #[.float .f64 f1], .agg #[.float .f64 f2], .agg #[.float .f64 d2], .agg #[.float .f64 B]].getD i (.bool false)) ρ 6 = .agg #[.float .f64 A] := rfl
    have v7 : vals [] (fun i => [.agg #[.float .f64 f1], .agg #[.float .f64 p], .agg #[.float .f64 L], .agg #[.float .f64 f0], .agg #[.float .f64 f1], .agg #[.float .f64 d1], .agg #[.float .f64 A], .agg #[.float .f64 f1], .agg #[.float .f64 f2], .agg #[.float .f64 d2], .agg #[.float .f64 B]].getD i (.bool false)) ρ 7 = .agg #[.float .f64 f1] := rfl
    have v8 : vals [] (fun i => [.agg #[.float .f64 f1], .agg #[.float .f64 p], .agg #[.float .f64 L], .agg #[.float .f64 f0], .agg #[.float .f64 f1], .agg #[.float .f64 d1], .agg #[.float .f64 A], .agg #[.float .f64 f1], .agg #[.float .f64 f2], .agg #[.float .f64 d2], .agg #[.float .f64 B]].getD i (.bool false)) ρ 8 = .agg #[.float .f64 f2] := rfl
    have v9 : vals [] (fun i => [.agg #[.float .f64 f1], .agg #[.float .f64 p], .agg #[.float .f64 L], .agg #[.float .f64 f0], .agg #[.float .f64 f1], .agg #[.float .f64 d1], .agg #[.float .f64 A], .agg #[.float .f64 f1], .agg #[.float .f64 f2], .agg #[.float .f64 d2], .agg #[.float .f64 B]].getD i (.bool false)) ρ 9 = .agg #[.float .f64 d2] := rfl
    have v10 : vals [] (fun i => [.agg #[.float .f64 f1], .agg #[.float .f64 p], .agg #[.float .f64 L], .agg #[.float .f64 f0], .agg #[.float .f64 f1], .agg #[.float .f64 d1], .agg #[.float .f64 A], .agg #[.float .f64 f1], .agg #[.float .f64 f2], .agg #[.float .f64 d2], .agg #[.float .f64 B]].getD i (.bool false)) ρ 10 = .agg #[.float .f64 B] := rfl
    simp only [puts, Nat.zero_add, p0, p1, p2, p3, p4, p5, p6, p7, p8, p9, p10, v0, v1, v2, v3, v4, v5, v6, v7, v8, v9, v10, if_true, List.drop_succ_cons, List.drop_zero, Nat.reduceAdd]
    clear hb hC hN p0 p1 p2 p3 p4 p5 p6 p7 p8 p9 p10 v0 v1 v2 v3 v4 v5 v6 v7 v8 v9 v10
    clear ρ b'
    have s0 : (w1).cell? ⟨g6, 0, none⟩ = some (.float .f64 0) := (hS.cell 5 (by simp)).1
    have t0 : (w1).frozen? ⟨g6, 0, none⟩ = false := (hS.cell 5 (by simp)).2
    replace hS : Bx base w [(g11, f2), (g10, f1), (g9, f0), (g8, 0), (g7, 0), (g6, L), (g5, z1), (g4, y), (g3, x1)] ((w1).setCell ⟨g6, 0, none⟩ (.float .f64 L)) := hS.set L hA 5 (by simp)
    replace hA : Apart base [(g11, f2), (g10, f1), (g9, f0), (g8, 0), (g7, 0), (g6, L), (g5, z1), (g4, y), (g3, x1)] := Apart.of_fst (by rfl) hA
    have s1 : ((w1).setCell ⟨g6, 0, none⟩ (.float .f64 L)).cell? ⟨g7, 0, none⟩ = some (.float .f64 0) := (hS.cell 4 (by simp)).1
    have t1 : ((w1).setCell ⟨g6, 0, none⟩ (.float .f64 L)).frozen? ⟨g7, 0, none⟩ = false := (hS.cell 4 (by simp)).2
    replace hS : Bx base w [(g11, f2), (g10, f1), (g9, f0), (g8, 0), (g7, A), (g6, L), (g5, z1), (g4, y), (g3, x1)] (((w1).setCell ⟨g6, 0, none⟩ (.float .f64 L)).setCell ⟨g7, 0, none⟩ (.float .f64 A)) := hS.set A hA 4 (by simp)
    replace hA : Apart base [(g11, f2), (g10, f1), (g9, f0), (g8, 0), (g7, A), (g6, L), (g5, z1), (g4, y), (g3, x1)] := Apart.of_fst (by rfl) hA
    have s2 : (((w1).setCell ⟨g6, 0, none⟩ (.float .f64 L)).setCell ⟨g7, 0, none⟩ (.float .f64 A)).cell? ⟨g8, 0, none⟩ = some (.float .f64 0) := (hS.cell 3 (by simp)).1
    have t2 : (((w1).setCell ⟨g6, 0, none⟩ (.float .f64 L)).setCell ⟨g7, 0, none⟩ (.float .f64 A)).frozen? ⟨g8, 0, none⟩ = false := (hS.cell 3 (by simp)).2
    replace hS : Bx base w [(g11, f2), (g10, f1), (g9, f0), (g8, B), (g7, A), (g6, L), (g5, z1), (g4, y), (g3, x1)] ((((w1).setCell ⟨g6, 0, none⟩ (.float .f64 L)).setCell ⟨g7, 0, none⟩ (.float .f64 A)).setCell ⟨g8, 0, none⟩ (.float .f64 B)) := hS.set B hA 3 (by simp)
    replace hA : Apart base [(g11, f2), (g10, f1), (g9, f0), (g8, B), (g7, A), (g6, L), (g5, z1), (g4, y), (g3, x1)] := Apart.of_fst (by rfl) hA
    have HS := Lib.hid (And.intro hS hA)
    clear hS hA
    go_wp2_with fail
    clear s0 t0 s1 t1 s2 t2
    generalize World.setCell _ _ _ = W at *
    clear w1
    have c_g6 : W.cell? ⟨g6, 0, none⟩ = some (.float .f64 L) := (HS.out.1.cell 5 (by simp)).1
    have c_g7 : W.cell? ⟨g7, 0, none⟩ = some (.float .f64 A) := (HS.out.1.cell 4 (by simp)).1
    have c_g8 : W.cell? ⟨g8, 0, none⟩ = some (.float .f64 B) := (HS.out.1.cell 3 (by simp)).1
    refine bodyPost_ret (v := .tuple #[.agg #[.float .f64 L], .agg #[.float .f64 A], .agg #[.float .f64 B]]) (by simp [results, Try.results47, go_sem, c_g6, c_g7, c_g8]) rfl ⟨rfl, HS.out.1.below.2⟩
set_option maxRecDepth 100000 in
set_option maxHeartbeats 4000000 in
theorem xl_tft (x y z x1 z1 f0 m1 a1 f1 f2 p L d1 A d2 B base : Nat) (w : World) (H : Hid (base = w.heap.size)) (Hx1 : Hid (Ieee.double.div x 4606860822843362778 = some x1)) (Hz1 : Hid (Ieee.double.div z 4605607101106091996 = some z1)) (Hq0 : Hid (gtB x1 4576259018578689238 = true)) (HC0 : Hid (∀ w, Calls Try.prog 67 #[.agg #[.float .f64 x1]] w fun e w' => e = .returned (.agg #[.float .f64 f0]) ∧ Below w.heap.size w w')) (Hq1 : Hid (gtB y 4576259018578689238 = false)) (Hm1 : Hid (Ieee.double.mul y 4651156694067819558 = some m1)) (Ha1 : Hid (Ieee.double.add m1 4625196817309499392 = some a1)) (Hf1 : Hid (Ieee.double.div a1 4637863191261478912 = some f1)) (Hq2 : Hid (gtB z1 4576259018578689238 = true)) (HC2 : Hid (∀ w, Calls Try.prog 67 #[.agg #[.float .f64 z1]] w fun e w' => e = .returned (.agg #[.float .f64 f2]) ∧ Below w.heap.size w w')) (Hp : Hid (Ieee.double.mul f1 4637863191261478912 = some p)) (HL : Hid (Ieee.double.sub p 4625196817309499392 = some L)) (Hd1 : Hid (Ieee.double.sub f0 f1 = some d1)) (HA : Hid (Ieee.double.mul d1 4647503709213818880 = some A)) (Hd2 : Hid (Ieee.double.sub f1 f2 = some d2)) (HB : Hid (Ieee.double.mul d2 4641240890982006784 = some B)) :
    Calls Try.prog 47 #[.agg #[.float .f64 x], .agg #[.float .f64 y], .agg #[.float .f64 z]] w fun e w' => e = .returned (.tuple #[.agg #[.float .f64 L], .agg #[.float .f64 A], .agg #[.float .f64 B]]) ∧ Below base w w' := by
  go_enter Try.func47, Try.ntmps47
  go_upto_region 1 with fail
  generalize hW : World.alloc _ _ = W at *
  have hS : Bx base w [(w.heap.size + 1 + 1 + 1 + 1 + 1, 0), (w.heap.size + 1 + 1 + 1 + 1, 0), (w.heap.size + 1 + 1 + 1, 0), (w.heap.size + 1 + 1, z), (w.heap.size + 1, y), (w.heap.size, x)] W := by
    subst hW
    have := (((((((Bx.start w).alloc x 41).alloc y 41).alloc z 41).alloc 0 41).alloc 0 41).alloc 0 41)
    rw [H.out]
    simpa using this
  have hA : Apart base [(w.heap.size + 1 + 1 + 1 + 1 + 1, 0), (w.heap.size + 1 + 1 + 1 + 1, 0), (w.heap.size + 1 + 1 + 1, 0), (w.heap.size + 1 + 1, z), (w.heap.size + 1, y), (w.heap.size, x)] := by
    rw [H.out]
    simp [Apart]; try omega
  have HS := Lib.hid (And.intro hS hA)
  clear hS hA hW H
  generalize w.heap.size + 1 + 1 + 1 + 1 + 1 = g8 at *
  generalize w.heap.size + 1 + 1 + 1 + 1 = g7 at *
  generalize w.heap.size + 1 + 1 + 1 = g6 at *
  generalize w.heap.size + 1 + 1 = g5 at *
  generalize w.heap.size + 1 = g4 at *
  generalize hgg : w.heap.size = g3 at *
  clear hgg
  have c_g3 : W.cell? ⟨g3, 0, none⟩ = some (.float .f64 x) := (HS.out.1.cell 5 (by simp)).1
  go_wp2_with fail
  refine (DivConst_any x 4606860822843362778 x1 Hx1.out _).mono ?_
  rintro e w1 ⟨rfl, hb⟩
  have hS := HS.out.1.keep hb
  have hA := HS.out.2
  clear HS hb c_g3
  have s0 : (w1).cell? ⟨g3, 0, none⟩ = some (.float .f64 x) := (hS.cell 5 (by simp)).1
  have t0 : (w1).frozen? ⟨g3, 0, none⟩ = false := (hS.cell 5 (by simp)).2
  replace hS : Bx base w [(g8, 0), (g7, 0), (g6, 0), (g5, z), (g4, y), (g3, x1)] ((w1).setCell ⟨g3, 0, none⟩ (.float .f64 x1)) := hS.set x1 hA 5 (by simp)
  replace hA : Apart base [(g8, 0), (g7, 0), (g6, 0), (g5, z), (g4, y), (g3, x1)] := Apart.of_fst (by rfl) hA
  have HS := Lib.hid (And.intro hS hA)
  clear hS hA
  go_upto_region 2 with fail
  clear s0 t0
  generalize World.setCell _ _ _ = W at *
  clear w1
  have c_g5 : W.cell? ⟨g5, 0, none⟩ = some (.float .f64 z) := (HS.out.1.cell 3 (by simp)).1
  go_wp2_with fail
  refine (DivConst_any z 4605607101106091996 z1 Hz1.out _).mono ?_
  rintro e w1 ⟨rfl, hb⟩
  have hS := HS.out.1.keep hb
  have hA := HS.out.2
  clear HS hb c_g5
  have s0 : (w1).cell? ⟨g5, 0, none⟩ = some (.float .f64 z) := (hS.cell 3 (by simp)).1
  have t0 : (w1).frozen? ⟨g5, 0, none⟩ = false := (hS.cell 3 (by simp)).2
  replace hS : Bx base w [(g8, 0), (g7, 0), (g6, 0), (g5, z1), (g4, y), (g3, x1)] ((w1).setCell ⟨g5, 0, none⟩ (.float .f64 z1)) := hS.set z1 hA 3 (by simp)
  replace hA : Apart base [(g8, 0), (g7, 0), (g6, 0), (g5, z1), (g4, y), (g3, x1)] := Apart.of_fst (by rfl) hA
  have HS := Lib.hid (And.intro hS hA)
  clear hS hA
  go_upto_region 3 with fail
  clear s0 t0
  generalize World.setCell _ _ _ = W at *
  clear w1
  have hS := HS.out.1
  have hA := HS.out.2
  clear HS
  generalize W = w1 at *
  have HS := Lib.hid (And.intro hS hA)
  clear hS hA
  go_upto_region 4 with fail
  have hS := HS.out.1
  have hA := HS.out.2
  clear HS
  generalize hW : World.alloc _ _ = W at *
  have hS2 : Bx base w [(w1.heap.size + 1 + 1, 0), (w1.heap.size + 1, 0), (w1.heap.size, 0), (g8, 0), (g7, 0), (g6, 0), (g5, z1), (g4, y), (g3, x1)] W := by
    subst hW
    have := (((hS.alloc 0 41).alloc 0 41).alloc 0 41)
    simpa using this
  have hA2 : Apart base [(w1.heap.size + 1 + 1, 0), (w1.heap.size + 1, 0), (w1.heap.size, 0), (g8, 0), (g7, 0), (g6, 0), (g5, z1), (g4, y), (g3, x1)] := by
    have := (((hA.alloc hS 0).alloc (hS.alloc 0 41) 0).alloc ((hS.alloc 0 41).alloc 0 41) 0)
    simpa using this
  have HS := Lib.hid (And.intro hS2 hA2)
  clear hS hA hS2 hA2 hW
  generalize w1.heap.size + 1 + 1 = g11 at *
  generalize w1.heap.size + 1 = g10 at *
  generalize w1.heap.size = g9 at *
  clear w1
  have q0 : (FloatKind.f64.format.order x1 4576259018578689238 == some .gt) = true := Hq0.out
  have c_g3 : W.cell? ⟨g3, 0, none⟩ = some (.float .f64 x1) := (HS.out.1.cell 8 (by simp)).1
  go_wp2_with fail
  refine (Value_any x1 _).mono ?_
  rintro e w1 ⟨rfl, hb⟩
  have hS := HS.out.1.keep hb
  have hA := HS.out.2
  clear HS hb c_g3
  have HS := Lib.hid (And.intro hS hA)
  clear hS hA
  go_upto_region 5 with fail
  generalize w1 = W at *
  clear q0
  have c_g3 : W.cell? ⟨g3, 0, none⟩ = some (.float .f64 x1) := (HS.out.1.cell 8 (by simp)).1
  go_wp2_with fail
  refine (HC0.out _).mono ?_
  rintro e w1 ⟨rfl, hb⟩
  have hS := HS.out.1.keep hb
  have hA := HS.out.2
  clear HS hb c_g3
  have s0 : (w1).cell? ⟨g9, 0, none⟩ = some (.float .f64 0) := (hS.cell 2 (by simp)).1
  have t0 : (w1).frozen? ⟨g9, 0, none⟩ = false := (hS.cell 2 (by simp)).2
  replace hS : Bx base w [(g11, 0), (g10, 0), (g9, f0), (g8, 0), (g7, 0), (g6, 0), (g5, z1), (g4, y), (g3, x1)] ((w1).setCell ⟨g9, 0, none⟩ (.float .f64 f0)) := hS.set f0 hA 2 (by simp)
  replace hA : Apart base [(g11, 0), (g10, 0), (g9, f0), (g8, 0), (g7, 0), (g6, 0), (g5, z1), (g4, y), (g3, x1)] := Apart.of_fst (by rfl) hA
  have HS := Lib.hid (And.intro hS hA)
  clear hS hA
  go_upto_region 7 with fail
  clear s0 t0
  generalize World.setCell _ _ _ = W at *
  clear w1
  have q1 : (FloatKind.f64.format.order y 4576259018578689238 == some .gt) = false := Hq1.out
  have c_g4 : W.cell? ⟨g4, 0, none⟩ = some (.float .f64 y) := (HS.out.1.cell 7 (by simp)).1
  go_wp2_with fail
  refine (Value_any y _).mono ?_
  rintro e w1 ⟨rfl, hb⟩
  have hS := HS.out.1.keep hb
  have hA := HS.out.2
  clear HS hb c_g4
  have HS := Lib.hid (And.intro hS hA)
  clear hS hA
  go_upto_region 9 with fail
  generalize w1 = W at *
  clear q1
  have c_g4 : W.cell? ⟨g4, 0, none⟩ = some (.float .f64 y) := (HS.out.1.cell 7 (by simp)).1
  go_wp2_with fail
  refine (MulConst_any y 4651156694067819558 m1 Hm1.out _).mono ?_
  rintro e w1 ⟨rfl, hb⟩
  have hS := HS.out.1.keep hb
  have hA := HS.out.2
  clear HS hb c_g4
  have HS := Lib.hid (And.intro hS hA)
  clear hS hA
  go_wp2_with fail
  refine (AddConst_any m1 4625196817309499392 a1 Ha1.out _).mono ?_
  rintro e w2 ⟨rfl, hb⟩
  have hS := HS.out.1.keep hb
  have hA := HS.out.2
  clear HS hb 
  clear w1
  generalize w2 = w1 at *
  have HS := Lib.hid (And.intro hS hA)
  clear hS hA
  go_wp2_with fail
  refine (DivConst_any a1 4637863191261478912 f1 Hf1.out _).mono ?_
  rintro e w2 ⟨rfl, hb⟩
  have hS := HS.out.1.keep hb
  have hA := HS.out.2
  clear HS hb 
  clear w1
  generalize w2 = w1 at *
  have s0 : (w1).cell? ⟨g10, 0, none⟩ = some (.float .f64 0) := (hS.cell 1 (by simp)).1
  have t0 : (w1).frozen? ⟨g10, 0, none⟩ = false := (hS.cell 1 (by simp)).2
  replace hS : Bx base w [(g11, 0), (g10, f1), (g9, f0), (g8, 0), (g7, 0), (g6, 0), (g5, z1), (g4, y), (g3, x1)] ((w1).setCell ⟨g10, 0, none⟩ (.float .f64 f1)) := hS.set f1 hA 1 (by simp)
  replace hA : Apart base [(g11, 0), (g10, f1), (g9, f0), (g8, 0), (g7, 0), (g6, 0), (g5, z1), (g4, y), (g3, x1)] := Apart.of_fst (by rfl) hA
  have HS := Lib.hid (And.intro hS hA)
  clear hS hA
  go_upto_region 10 with fail
  clear s0 t0
  generalize World.setCell _ _ _ = W at *
  clear w1
  have q2 : (FloatKind.f64.format.order z1 4576259018578689238 == some .gt) = true := Hq2.out
  have c_g5 : W.cell? ⟨g5, 0, none⟩ = some (.float .f64 z1) := (HS.out.1.cell 6 (by simp)).1
  go_wp2_with fail
  refine (Value_any z1 _).mono ?_
  rintro e w1 ⟨rfl, hb⟩
  have hS := HS.out.1.keep hb
  have hA := HS.out.2
  clear HS hb c_g5
  have HS := Lib.hid (And.intro hS hA)
  clear hS hA
  go_upto_region 11 with fail
  generalize w1 = W at *
  clear q2
  have c_g5 : W.cell? ⟨g5, 0, none⟩ = some (.float .f64 z1) := (HS.out.1.cell 6 (by simp)).1
  go_wp2_with fail
  refine (HC2.out _).mono ?_
  rintro e w1 ⟨rfl, hb⟩
  have hS := HS.out.1.keep hb
  have hA := HS.out.2
  clear HS hb c_g5
  have s0 : (w1).cell? ⟨g11, 0, none⟩ = some (.float .f64 0) := (hS.cell 0 (by simp)).1
  have t0 : (w1).frozen? ⟨g11, 0, none⟩ = false := (hS.cell 0 (by simp)).2
  replace hS : Bx base w [(g11, f2), (g10, f1), (g9, f0), (g8, 0), (g7, 0), (g6, 0), (g5, z1), (g4, y), (g3, x1)] ((w1).setCell ⟨g11, 0, none⟩ (.float .f64 f2)) := hS.set f2 hA 0 (by simp)
  replace hA : Apart base [(g11, f2), (g10, f1), (g9, f0), (g8, 0), (g7, 0), (g6, 0), (g5, z1), (g4, y), (g3, x1)] := Apart.of_fst (by rfl) hA
  have HS := Lib.hid (And.intro hS hA)
  clear hS hA
  go_upto_region 13 with fail
  clear s0 t0
  generalize World.setCell _ _ _ = W at *
  clear w1
  refine wp_region_plan 11 (by kernel_rfl) (by kernel_rfl) (PI base w [(g11, f2), (g10, f1), (g9, f0), (g8, 0), (g7, 0), (g6, 0), (g5, z1), (g4, y), (g3, x1)] [some 43, some 44, some 45, some 46, some 47, some 48, some 49, some 50, some 51, some 52, some 53] [] (fun i => [.agg #[.float .f64 f1], .agg #[.float .f64 p], .agg #[.float .f64 L], .agg #[.float .f64 f0], .agg #[.float .f64 f1], .agg #[.float .f64 d1], .agg #[.float .f64 A], .agg #[.float .f64 f1], .agg #[.float .f64 f2], .agg #[.float .f64 d2], .agg #[.float .f64 B]].getD i (.bool false)) _) (PI.start HS.out.1) ?_ ?_
  · intro i o b' a' w' hi ho hb he hI
    rcases (by omega : i = 0 ∨ i = 1 ∨ i = 2 ∨ i = 3 ∨ i = 4 ∨ i = 5 ∨ i = 6 ∨ i = 7 ∨ i = 8 ∨ i = 9 ∨ i = 10) with rfl | rfl | rfl | rfl | rfl | rfl | rfl | rfl | rfl | rfl | rfl
    · obtain rfl := Option.some.inj ho
      exact hI.stepQuiet hb rfl rfl rfl (op_load _ _ _ g10 f1 _ rfl ((hI.old rfl).trans rfl) (hI.bx.cell 1 (by simp)).1)
    · obtain rfl := Option.some.inj ho
      have e0 := hI.new 0 (edge he 0 (by kernel_rfl)) rfl rfl rfl (by show 43 < 54; decide)
      refine hI.stepCall hb rfl rfl rfl (op_call _ _ 63 Try.f63 _ _ _ rfl Try.func63 (by kernel_rfl) (by kernel_rfl)) ?_
      have hm : Array.map a'.eval #[.tmp 43, .const ((Value.float FloatKind.f64 4637863191261478912))] = #[.agg #[.float .f64 f1], (Value.float FloatKind.f64 4637863191261478912)] := by simp [e0, ev_const]
      rw [hm]
      exact MulConst_any f1 4637863191261478912 p Hp.out _
    · obtain rfl := Option.some.inj ho
      have e0 := hI.new 1 (edge he 1 (by kernel_rfl)) rfl rfl rfl (by show 44 < 54; decide)
      refine hI.stepCall hb rfl rfl rfl (op_call _ _ 65 Try.f65 _ _ _ rfl Try.func65 (by kernel_rfl) (by kernel_rfl)) ?_
      have hm : Array.map a'.eval #[.tmp 44, .const ((Value.float FloatKind.f64 4625196817309499392))] = #[.agg #[.float .f64 p], (Value.float FloatKind.f64 4625196817309499392)] := by simp [e0, ev_const]
      rw [hm]
      exact SubConst_any p 4625196817309499392 L HL.out _
    · obtain rfl := Option.some.inj ho
      exact hI.stepQuiet hb rfl rfl rfl (op_load _ _ _ g9 f0 _ rfl ((hI.old rfl).trans rfl) (hI.bx.cell 2 (by simp)).1)
    · obtain rfl := Option.some.inj ho
      exact hI.stepQuiet hb rfl rfl rfl (op_load _ _ _ g10 f1 _ rfl ((hI.old rfl).trans rfl) (hI.bx.cell 1 (by simp)).1)
    · obtain rfl := Option.some.inj ho
      have e0 := hI.new 3 (edge he 3 (by kernel_rfl)) rfl rfl rfl (by show 46 < 54; decide)
      have e1 := hI.new 4 (edge he 4 (by kernel_rfl)) rfl rfl rfl (by show 47 < 54; decide)
      refine hI.stepCall hb rfl rfl rfl (op_call _ _ 62 Try.f62 _ _ _ rfl Try.func62 (by kernel_rfl) (by kernel_rfl)) ?_
      have hm : Array.map a'.eval #[.tmp 46, .tmp 47] = #[.agg #[.float .f64 f0], .agg #[.float .f64 f1]] := by simp [e0, e1]
      rw [hm]
      exact Sub_any f0 f1 d1 Hd1.out _
    · obtain rfl := Option.some.inj ho
      have e0 := hI.new 5 (edge he 5 (by kernel_rfl)) rfl rfl rfl (by show 48 < 54; decide)
      refine hI.stepCall hb rfl rfl rfl (op_call _ _ 63 Try.f63 _ _ _ rfl Try.func63 (by kernel_rfl) (by kernel_rfl)) ?_
      have hm : Array.map a'.eval #[.tmp 48, .const ((Value.float FloatKind.f64 4647503709213818880))] = #[.agg #[.float .f64 d1], (Value.float FloatKind.f64 4647503709213818880)] := by simp [e0, ev_const]
      rw [hm]
      exact MulConst_any d1 4647503709213818880 A HA.out _
    · obtain rfl := Option.some.inj ho
      exact hI.stepQuiet hb rfl rfl rfl (op_load _ _ _ g10 f1 _ rfl ((hI.old rfl).trans rfl) (hI.bx.cell 1 (by simp)).1)
    · obtain rfl := Option.some.inj ho
      exact hI.stepQuiet hb rfl rfl rfl (op_load _ _ _ g11 f2 _ rfl ((hI.old rfl).trans rfl) (hI.bx.cell 0 (by simp)).1)
    · obtain rfl := Option.some.inj ho
      have e0 := hI.new 7 (edge he 7 (by kernel_rfl)) rfl rfl rfl (by show 50 < 54; decide)
      have e1 := hI.new 8 (edge he 8 (by kernel_rfl)) rfl rfl rfl (by show 51 < 54; decide)
      refine hI.stepCall hb rfl rfl rfl (op_call _ _ 62 Try.f62 _ _ _ rfl Try.func62 (by kernel_rfl) (by kernel_rfl)) ?_
      have hm : Array.map a'.eval #[.tmp 50, .tmp 51] = #[.agg #[.float .f64 f1], .agg #[.float .f64 f2]] := by simp [e0, e1]
      rw [hm]
      exact Sub_any f1 f2 d2 Hd2.out _
    · obtain rfl := Option.some.inj ho
      have e0 := hI.new 9 (edge he 9 (by kernel_rfl)) rfl rfl rfl (by show 52 < 54; decide)
      refine hI.stepCall hb rfl rfl rfl (op_call _ _ 63 Try.f63 _ _ _ rfl Try.func63 (by kernel_rfl) (by kernel_rfl)) ?_
      have hm : Array.map a'.eval #[.tmp 52, .const ((Value.float FloatKind.f64 4641240890982006784))] = #[.agg #[.float .f64 d2], (Value.float FloatKind.f64 4641240890982006784)] := by simp [e0, ev_const]
      rw [hm]
      exact MulConst_any d2 4641240890982006784 B HB.out _
  · intro b' a' w1 hb hI
    obtain ⟨ρ, rfl, hS, hC, hN⟩ := hI
    have hA := HS.out.2
    clear HS
    have p0 := hb 0 (by decide)
    have p1 := hb 1 (by decide)
    have p2 := hb 2 (by decide)
    have p3 := hb 3 (by decide)
    have p4 := hb 4 (by decide)
    have p5 := hb 5 (by decide)
    have p6 := hb 6 (by decide)
    have p7 := hb 7 (by decide)
    have p8 := hb 8 (by decide)
    have p9 := hb 9 (by decide)
    have p10 := hb 10 (by decide)
    have v0 : vals [] (fun i => [.agg #[.float .f64 f1], .agg #[.float .f64 p], .agg #[.float .f64 L], .agg #[.float .f64 f0], .agg #[.float .f64 f1], .agg #[.float .f64 d1], .agg #[.float .f64 A], .agg #[.float .f64 f1], .agg #[.float .f64 f2], .agg #[.float .f64 d2], .agg #[.float .f64 B]].getD i (.bool false)) ρ 0 = .agg #[.float .f64 f1] := rfl
    have v1 : vals [] (fun i => [.agg #[.float .f64 f1], .agg #[.float .f64 p], .agg #[.float .f64 L], .agg #[.float .f64 f0], .agg #[.float .f64 f1], .agg #[.float .f64 d1], .agg #[.float .f64 A], .agg #[.float .f64 f1], .agg #[.float .f64 f2], .agg #[.float .f64 d2], .agg #[.float .f64 B]].getD i (.bool false)) ρ 1 = .agg #[.float .f64 p] := rfl
    have v2 : vals [] (fun i => [.agg #[.float .f64 f1], .agg #[.float .f64 p], .agg #[.float .f64 L], .agg #[.float .f64 f0], .agg #[.float .f64 f1], .agg #[.float .f64 d1], .agg #[.float .f64 A], .agg #[.float .f64 f1], .agg #[.float .f64 f2], .agg #[.float .f64 d2], .agg #[.float .f64 B]].getD i (.bool false)) ρ 2 = .agg #[.float .f64 L] := rfl
    have v3 : vals [] (fun i => [.agg #[.float .f64 f1], .agg #[.float .f64 p], .agg #[.float .f64 L], .agg #[.float .f64 f0], .agg #[.float .f64 f1], .agg #[.float .f64 d1], .agg #[.float .f64 A], .agg #[.float .f64 f1], .agg #[.float .f64 f2], .agg #[.float .f64 d2], .agg #[.float .f64 B]].getD i (.bool false)) ρ 3 = .agg #[.float .f64 f0] := rfl
    have v4 : vals [] (fun i => [.agg #[.float .f64 f1], .agg #[.float .f64 p], .agg #[.float .f64 L], .agg #[.float .f64 f0], .agg #[.float .f64 f1], .agg #[.float .f64 d1], .agg #[.float .f64 A], .agg #[.float .f64 f1], .agg #[.float .f64 f2], .agg #[.float .f64 d2], .agg #[.float .f64 B]].getD i (.bool false)) ρ 4 = .agg #[.float .f64 f1] := rfl
    have v5 : vals [] (fun i => [.agg #[.float .f64 f1], .agg #[.float .f64 p], .agg #[.float .f64 L], .agg #[.float .f64 f0], .agg #[.float .f64 f1], .agg #[.float .f64 d1], .agg #[.float .f64 A], .agg #[.float .f64 f1], .agg #[.float .f64 f2], .agg #[.float .f64 d2], .agg #[.float .f64 B]].getD i (.bool false)) ρ 5 = .agg #[.float .f64 d1] := rfl
    have v6 : vals [] (fun i => [.agg #[.float .f64 f1], .agg #[.float .f64 p], .agg #[.float .f64 L], .agg #[.float .f64 f0], .agg #[.float .f64 f1], .agg #[.float .f64 d1], .agg #[.float .f64 A], .agg #[.float .f64 f1], .agg #[.float .f64 f2], .agg #[.float .f64 d2], .agg #[.float .f64 B]].getD i (.bool false)) ρ 6 = .agg #[.float .f64 A] := rfl
    have v7 : vals [] (fun i => [.agg #[.float .f64 f1], .agg #[.float .f64 p], .agg #[.float .f64 L], .agg #[.float .f64 f0], .agg #[.float .f64 f1], .agg #[.float .f64 d1], .agg #[.float .f64 A], .agg #[.float .f64 f1], .agg #[.float .f64 f2], .agg #[.float .f64 d2], .agg #[.float .f64 B]].getD i (.bool false)) ρ 7 = .agg #[.float .f64 f1] := rfl
    have v8 : vals [] (fun i => [.agg #[.float .f64 f1], .agg #[.float .f64 p], .agg #[.float .f64 L], .agg #[.float .f64 f0], .agg #[.float .f64 f1], .agg #[.float .f64 d1], .agg #[.float .f64 A], .agg #[.float .f64 f1], .agg #[.float .f64 f2], .agg #[.float .f64 d2], .agg #[.float .f64 B]].getD i (.bool false)) ρ 8 = .agg #[.float .f64 f2] := rfl
    have v9 : vals [] (fun i => [.agg #[.float .f64 f1], .agg #[.float .f64 p], .agg #[.float .f64 L], .agg #[.float .f64 f0], .agg #[.float .f64 f1], .agg #[.float .f64 d1], .agg #[.float .f64 A], .agg #[.float .f64 f1], .agg #[.float .f64 f2], .agg #[.float .f64 d2], .agg #[.float .f64 B]].getD i (.bool false)) ρ 9 = .agg #[.float .f64 d2] := rfl
    have v10 : vals [] (fun i => [.agg #[.float .f64 f1], .agg #[.float .f64 p], .agg #[.float .f64 L], .agg #[.float .f64 f0], .agg #[.float .f64 f1], .agg #[.float .f64 d1], .agg #[.float .f64 A], .agg #[.float .f64 f1], .agg #[.float .f64 f2], .agg #[.float .f64 d2], .agg #[.float .f64 B]].getD i (.bool false)) ρ 10 = .agg #[.float .f64 B] := rfl
    simp only [puts, Nat.zero_add, p0, p1, p2, p3, p4, p5, p6, p7, p8, p9, p10, v0, v1, v2, v3, v4, v5, v6, v7, v8, v9, v10, if_true, List.drop_succ_cons, List.drop_zero, Nat.reduceAdd]
    clear hb hC hN p0 p1 p2 p3 p4 p5 p6 p7 p8 p9 p10 v0 v1 v2 v3 v4 v5 v6 v7 v8 v9 v10
    clear ρ b'
    have s0 : (w1).cell? ⟨g6, 0, none⟩ = some (.float .f64 0) := (hS.cell 5 (by simp)).1
    have t0 : (w1).frozen? ⟨g6, 0, none⟩ = false := (hS.cell 5 (by simp)).2
    replace hS : Bx base w [(g11, f2), (g10, f1), (g9, f0), (g8, 0), (g7, 0), (g6, L), (g5, z1), (g4, y), (g3, x1)] ((w1).setCell ⟨g6, 0, none⟩ (.float .f64 L)) := hS.set L hA 5 (by simp)
    replace hA : Apart base [(g11, f2), (g10, f1), (g9, f0), (g8, 0), (g7, 0), (g6, L), (g5, z1), (g4, y), (g3, x1)] := Apart.of_fst (by rfl) hA
    have s1 : ((w1).setCell ⟨g6, 0, none⟩ (.float .f64 L)).cell? ⟨g7, 0, none⟩ = some (.float .f64 0) := (hS.cell 4 (by simp)).1
    have t1 : ((w1).setCell ⟨g6, 0, none⟩ (.float .f64 L)).frozen? ⟨g7, 0, none⟩ = false := (hS.cell 4 (by simp)).2
    replace hS : Bx base w [(g11, f2), (g10, f1), (g9, f0), (g8, 0), (g7, A), (g6, L), (g5, z1), (g4, y), (g3, x1)] (((w1).setCell ⟨g6, 0, none⟩ (.float .f64 L)).setCell ⟨g7, 0, none⟩ (.float .f64 A)) := hS.set A hA 4 (by simp)
    replace hA : Apart base [(g11, f2), (g10, f1), (g9, f0), (g8, 0), (g7, A), (g6, L), (g5, z1), (g4, y), (g3, x1)] := Apart.of_fst (by rfl) hA
    have s2 : (((w1).setCell ⟨g6, 0, none⟩ (.float .f64 L)).setCell ⟨g7, 0, none⟩ (.float .f64 A)).cell? ⟨g8, 0, none⟩ = some (.float .f64 0) := (hS.cell 3 (by simp)).1
    have t2 : (((w1).setCell ⟨g6, 0, none⟩ (.float .f64 L)).setCell ⟨g7, 0, none⟩ (.float .f64 A)).frozen? ⟨g8, 0, none⟩ = false := (hS.cell 3 (by simp)).2
    replace hS : Bx base w [(g11, f2), (g10, f1), (g9, f0), (g8, B), (g7, A), (g6, L), (g5, z1), (g4, y), (g3, x1)] ((((w1).setCell ⟨g6, 0, none⟩ (.float .f64 L)).setCell ⟨g7, 0, none⟩ (.float .f64 A)).setCell ⟨g8, 0, none⟩ (.float .f64 B)) := hS.set B hA 3 (by simp)
    replace hA : Apart base [(g11, f2), (g10, f1), (g9, f0), (g8, B), (g7, A), (g6, L), (g5, z1), (g4, y), (g3, x1)] := Apart.of_fst (by rfl) hA
    have HS := Lib.hid (And.intro hS hA)
    clear hS hA
    go_wp2_with fail
    clear s0 t0 s1 t1 s2 t2
    generalize World.setCell _ _ _ = W at *
    clear w1
    have c_g6 : W.cell? ⟨g6, 0, none⟩ = some (.float .f64 L) := (HS.out.1.cell 5 (by simp)).1
    have c_g7 : W.cell? ⟨g7, 0, none⟩ = some (.float .f64 A) := (HS.out.1.cell 4 (by simp)).1
    have c_g8 : W.cell? ⟨g8, 0, none⟩ = some (.float .f64 B) := (HS.out.1.cell 3 (by simp)).1
    refine bodyPost_ret (v := .tuple #[.agg #[.float .f64 L], .agg #[.float .f64 A], .agg #[.float .f64 B]]) (by simp [results, Try.results47, go_sem, c_g6, c_g7, c_g8]) rfl ⟨rfl, HS.out.1.below.2⟩
set_option maxRecDepth 100000 in
set_option maxHeartbeats 4000000 in
theorem xl_tff (x y z x1 z1 f0 m1 a1 f1 m2 a2 f2 p L d1 A d2 B base : Nat) (w : World) (H : Hid (base = w.heap.size)) (Hx1 : Hid (Ieee.double.div x 4606860822843362778 = some x1)) (Hz1 : Hid (Ieee.double.div z 4605607101106091996 = some z1)) (Hq0 : Hid (gtB x1 4576259018578689238 = true)) (HC0 : Hid (∀ w, Calls Try.prog 67 #[.agg #[.float .f64 x1]] w fun e w' => e = .returned (.agg #[.float .f64 f0]) ∧ Below w.heap.size w w')) (Hq1 : Hid (gtB y 4576259018578689238 = false)) (Hm1 : Hid (Ieee.double.mul y 4651156694067819558 = some m1)) (Ha1 : Hid (Ieee.double.add m1 4625196817309499392 = some a1)) (Hf1 : Hid (Ieee.double.div a1 4637863191261478912 = some f1)) (Hq2 : Hid (gtB z1 4576259018578689238 = false)) (Hm2 : Hid (Ieee.double.mul z1 4651156694067819558 = some m2)) (Ha2 : Hid (Ieee.double.add m2 4625196817309499392 = some a2)) (Hf2 : Hid (Ieee.double.div a2 4637863191261478912 = some f2)) (Hp : Hid (Ieee.double.mul f1 4637863191261478912 = some p)) (HL : Hid (Ieee.double.sub p 4625196817309499392 = some L)) (Hd1 : Hid (Ieee.double.sub f0 f1 = some d1)) (HA : Hid (Ieee.double.mul d1 4647503709213818880 = some A)) (Hd2 : Hid (Ieee.double.sub f1 f2 = some d2)) (HB : Hid (Ieee.double.mul d2 4641240890982006784 = some B)) :
    Calls Try.prog 47 #[.agg #[.float .f64 x], .agg #[.float .f64 y], .agg #[.float .f64 z]] w fun e w' => e = .returned (.tuple #[.agg #[.float .f64 L], .agg #[.float .f64 A], .agg #[.float .f64 B]]) ∧ Below base w w' := by
  go_enter Try.func47, Try.ntmps47
  go_upto_region 1 with fail
  generalize hW : World.alloc _ _ = W at *
  have hS : Bx base w [(w.heap.size + 1 + 1 + 1 + 1 + 1, 0), (w.heap.size + 1 + 1 + 1 + 1, 0), (w.heap.size + 1 + 1 + 1, 0), (w.heap.size + 1 + 1, z), (w.heap.size + 1, y), (w.heap.size, x)] W := by
    subst hW
    have := (((((((Bx.start w).alloc x 41).alloc y 41).alloc z 41).alloc 0 41).alloc 0 41).alloc 0 41)
    rw [H.out]
    simpa using this
  have hA : Apart base [(w.heap.size + 1 + 1 + 1 + 1 + 1, 0), (w.heap.size + 1 + 1 + 1 + 1, 0), (w.heap.size + 1 + 1 + 1, 0), (w.heap.size + 1 + 1, z), (w.heap.size + 1, y), (w.heap.size, x)] := by
    rw [H.out]
    simp [Apart]; try omega
  have HS := Lib.hid (And.intro hS hA)
  clear hS hA hW H
  generalize w.heap.size + 1 + 1 + 1 + 1 + 1 = g8 at *
  generalize w.heap.size + 1 + 1 + 1 + 1 = g7 at *
  generalize w.heap.size + 1 + 1 + 1 = g6 at *
  generalize w.heap.size + 1 + 1 = g5 at *
  generalize w.heap.size + 1 = g4 at *
  generalize hgg : w.heap.size = g3 at *
  clear hgg
  have c_g3 : W.cell? ⟨g3, 0, none⟩ = some (.float .f64 x) := (HS.out.1.cell 5 (by simp)).1
  go_wp2_with fail
  refine (DivConst_any x 4606860822843362778 x1 Hx1.out _).mono ?_
  rintro e w1 ⟨rfl, hb⟩
  have hS := HS.out.1.keep hb
  have hA := HS.out.2
  clear HS hb c_g3
  have s0 : (w1).cell? ⟨g3, 0, none⟩ = some (.float .f64 x) := (hS.cell 5 (by simp)).1
  have t0 : (w1).frozen? ⟨g3, 0, none⟩ = false := (hS.cell 5 (by simp)).2
  replace hS : Bx base w [(g8, 0), (g7, 0), (g6, 0), (g5, z), (g4, y), (g3, x1)] ((w1).setCell ⟨g3, 0, none⟩ (.float .f64 x1)) := hS.set x1 hA 5 (by simp)
  replace hA : Apart base [(g8, 0), (g7, 0), (g6, 0), (g5, z), (g4, y), (g3, x1)] := Apart.of_fst (by rfl) hA
  have HS := Lib.hid (And.intro hS hA)
  clear hS hA
  go_upto_region 2 with fail
  clear s0 t0
  generalize World.setCell _ _ _ = W at *
  clear w1
  have c_g5 : W.cell? ⟨g5, 0, none⟩ = some (.float .f64 z) := (HS.out.1.cell 3 (by simp)).1
  go_wp2_with fail
  refine (DivConst_any z 4605607101106091996 z1 Hz1.out _).mono ?_
  rintro e w1 ⟨rfl, hb⟩
  have hS := HS.out.1.keep hb
  have hA := HS.out.2
  clear HS hb c_g5
  have s0 : (w1).cell? ⟨g5, 0, none⟩ = some (.float .f64 z) := (hS.cell 3 (by simp)).1
  have t0 : (w1).frozen? ⟨g5, 0, none⟩ = false := (hS.cell 3 (by simp)).2
  replace hS : Bx base w [(g8, 0), (g7, 0), (g6, 0), (g5, z1), (g4, y), (g3, x1)] ((w1).setCell ⟨g5, 0, none⟩ (.float .f64 z1)) := hS.set z1 hA 3 (by simp)
  replace hA : Apart base [(g8, 0), (g7, 0), (g6, 0), (g5, z1), (g4, y), (g3, x1)] := Apart.of_fst (by rfl) hA
  have HS := Lib.hid (And.intro hS hA)
  clear hS hA
  go_upto_region 3 with fail
  clear s0 t0
  generalize World.setCell _ _ _ = W at *
  clear w1
  have hS := HS.out.1
  have hA := HS.out.2
  clear HS
  generalize W = w1 at *
  have HS := Lib.hid (And.intro hS hA)
  clear hS hA
  go_upto_region 4 with fail
  have hS := HS.out.1
  have hA := HS.out.2
  clear HS
  generalize hW : World.alloc _ _ = W at *
  have hS2 : Bx base w [(w1.heap.size + 1 + 1, 0), (w1.heap.size + 1, 0), (w1.heap.size, 0), (g8, 0), (g7, 0), (g6, 0), (g5, z1), (g4, y), (g3, x1)] W := by
    subst hW
    have := (((hS.alloc 0 41).alloc 0 41).alloc 0 41)
    simpa using this
  have hA2 : Apart base [(w1.heap.size + 1 + 1, 0), (w1.heap.size + 1, 0), (w1.heap.size, 0), (g8, 0), (g7, 0), (g6, 0), (g5, z1), (g4, y), (g3, x1)] := by
    have := (((hA.alloc hS 0).alloc (hS.alloc 0 41) 0).alloc ((hS.alloc 0 41).alloc 0 41) 0)
    simpa using this
  have HS := Lib.hid (And.intro hS2 hA2)
  clear hS hA hS2 hA2 hW
  generalize w1.heap.size + 1 + 1 = g11 at *
  generalize w1.heap.size + 1 = g10 at *
  generalize w1.heap.size = g9 at *
  clear w1
  have q0 : (FloatKind.f64.format.order x1 4576259018578689238 == some .gt) = true := Hq0.out
  have c_g3 : W.cell? ⟨g3, 0, none⟩ = some (.float .f64 x1) := (HS.out.1.cell 8 (by simp)).1
  go_wp2_with fail
  refine (Value_any x1 _).mono ?_
  rintro e w1 ⟨rfl, hb⟩
  have hS := HS.out.1.keep hb
  have hA := HS.out.2
  clear HS hb c_g3
  have HS := Lib.hid (And.intro hS hA)
  clear hS hA
  go_upto_region 5 with fail
  generalize w1 = W at *
  clear q0
  have c_g3 : W.cell? ⟨g3, 0, none⟩ = some (.float .f64 x1) := (HS.out.1.cell 8 (by simp)).1
  go_wp2_with fail
  refine (HC0.out _).mono ?_
  rintro e w1 ⟨rfl, hb⟩
  have hS := HS.out.1.keep hb
  have hA := HS.out.2
  clear HS hb c_g3
  have s0 : (w1).cell? ⟨g9, 0, none⟩ = some (.float .f64 0) := (hS.cell 2 (by simp)).1
  have t0 : (w1).frozen? ⟨g9, 0, none⟩ = false := (hS.cell 2 (by simp)).2
  replace hS : Bx base w [(g11, 0), (g10, 0), (g9, f0), (g8, 0), (g7, 0), (g6, 0), (g5, z1), (g4, y), (g3, x1)] ((w1).setCell ⟨g9, 0, none⟩ (.float .f64 f0)) := hS.set f0 hA 2 (by simp)
  replace hA : Apart base [(g11, 0), (g10, 0), (g9, f0), (g8, 0), (g7, 0), (g6, 0), (g5, z1), (g4, y), (g3, x1)] := Apart.of_fst (by rfl) hA
  have HS := Lib.hid (And.intro hS hA)
  clear hS hA
  go_upto_region 7 with fail
  clear s0 t0
  generalize World.setCell _ _ _ = W at *
  clear w1
  have q1 : (FloatKind.f64.format.order y 4576259018578689238 == some .gt) = false := Hq1.out
  have c_g4 : W.cell? ⟨g4, 0, none⟩ = some (.float .f64 y) := (HS.out.1.cell 7 (by simp)).1
  go_wp2_with fail
  refine (Value_any y _).mono ?_
  rintro e w1 ⟨rfl, hb⟩
  have hS := HS.out.1.keep hb
  have hA := HS.out.2
  clear HS hb c_g4
  have HS := Lib.hid (And.intro hS hA)
  clear hS hA
  go_upto_region 9 with fail
  generalize w1 = W at *
  clear q1
  have c_g4 : W.cell? ⟨g4, 0, none⟩ = some (.float .f64 y) := (HS.out.1.cell 7 (by simp)).1
  go_wp2_with fail
  refine (MulConst_any y 4651156694067819558 m1 Hm1.out _).mono ?_
  rintro e w1 ⟨rfl, hb⟩
  have hS := HS.out.1.keep hb
  have hA := HS.out.2
  clear HS hb c_g4
  have HS := Lib.hid (And.intro hS hA)
  clear hS hA
  go_wp2_with fail
  refine (AddConst_any m1 4625196817309499392 a1 Ha1.out _).mono ?_
  rintro e w2 ⟨rfl, hb⟩
  have hS := HS.out.1.keep hb
  have hA := HS.out.2
  clear HS hb 
  clear w1
  generalize w2 = w1 at *
  have HS := Lib.hid (And.intro hS hA)
  clear hS hA
  go_wp2_with fail
  refine (DivConst_any a1 4637863191261478912 f1 Hf1.out _).mono ?_
  rintro e w2 ⟨rfl, hb⟩
  have hS := HS.out.1.keep hb
  have hA := HS.out.2
  clear HS hb 
  clear w1
  generalize w2 = w1 at *
  have s0 : (w1).cell? ⟨g10, 0, none⟩ = some (.float .f64 0) := (hS.cell 1 (by simp)).1
  have t0 : (w1).frozen? ⟨g10, 0, none⟩ = false := (hS.cell 1 (by simp)).2
  replace hS : Bx base w [(g11, 0), (g10, f1), (g9, f0), (g8, 0), (g7, 0), (g6, 0), (g5, z1), (g4, y), (g3, x1)] ((w1).setCell ⟨g10, 0, none⟩ (.float .f64 f1)) := hS.set f1 hA 1 (by simp)
  replace hA : Apart base [(g11, 0), (g10, f1), (g9, f0), (g8, 0), (g7, 0), (g6, 0), (g5, z1), (g4, y), (g3, x1)] := Apart.of_fst (by rfl) hA
  have HS := Lib.hid (And.intro hS hA)
  clear hS hA
  go_upto_region 10 with fail
  clear s0 t0
  generalize World.setCell _ _ _ = W at *
  clear w1
  have q2 : (FloatKind.f64.format.order z1 4576259018578689238 == some .gt) = false := Hq2.out
  have c_g5 : W.cell? ⟨g5, 0, none⟩ = some (.float .f64 z1) := (HS.out.1.cell 6 (by simp)).1
  go_wp2_with fail
  refine (Value_any z1 _).mono ?_
  rintro e w1 ⟨rfl, hb⟩
  have hS := HS.out.1.keep hb
  have hA := HS.out.2
  clear HS hb c_g5
  have HS := Lib.hid (And.intro hS hA)
  clear hS hA
  go_upto_region 12 with fail
  generalize w1 = W at *
  clear q2
  have c_g5 : W.cell? ⟨g5, 0, none⟩ = some (.float .f64 z1) := (HS.out.1.cell 6 (by simp)).1
  go_wp2_with fail
  refine (MulConst_any z1 4651156694067819558 m2 Hm2.out _).mono ?_
  rintro e w1 ⟨rfl, hb⟩
  have hS := HS.out.1.keep hb
  have hA := HS.out.2
  clear HS hb c_g5
  have HS := Lib.hid (And.intro hS hA)
  clear hS hA
  go_wp2_with fail
  refine (AddConst_any m2 4625196817309499392 a2 Ha2.out _).mono ?_
  rintro e w2 ⟨rfl, hb⟩
  have hS := HS.out.1.keep hb
  have hA := HS.out.2
  clear HS hb 
  clear w1
  generalize w2 = w1 at *
  have HS := Lib.hid (And.intro hS hA)
  clear hS hA
  go_wp2_with fail
  refine (DivConst_any a2 4637863191261478912 f2 Hf2.out _).mono ?_
  rintro e w2 ⟨rfl, hb⟩
  have hS := HS.out.1.keep hb
  have hA := HS.out.2
  clear HS hb 
  clear w1
  generalize w2 = w1 at *
  have s0 : (w1).cell? ⟨g11, 0, none⟩ = some (.float .f64 0) := (hS.cell 0 (by simp)).1
  have t0 : (w1).frozen? ⟨g11, 0, none⟩ = false := (hS.cell 0 (by simp)).2
  replace hS : Bx base w [(g11, f2), (g10, f1), (g9, f0), (g8, 0), (g7, 0), (g6, 0), (g5, z1), (g4, y), (g3, x1)] ((w1).setCell ⟨g11, 0, none⟩ (.float .f64 f2)) := hS.set f2 hA 0 (by simp)
  replace hA : Apart base [(g11, f2), (g10, f1), (g9, f0), (g8, 0), (g7, 0), (g6, 0), (g5, z1), (g4, y), (g3, x1)] := Apart.of_fst (by rfl) hA
  have HS := Lib.hid (And.intro hS hA)
  clear hS hA
  go_upto_region 13 with fail
  clear s0 t0
  generalize World.setCell _ _ _ = W at *
  clear w1
  refine wp_region_plan 11 (by kernel_rfl) (by kernel_rfl) (PI base w [(g11, f2), (g10, f1), (g9, f0), (g8, 0), (g7, 0), (g6, 0), (g5, z1), (g4, y), (g3, x1)] [some 43, some 44, some 45, some 46, some 47, some 48, some 49, some 50, some 51, some 52, some 53] [] (fun i => [.agg #[.float .f64 f1], .agg #[.float .f64 p], .agg #[.float .f64 L], .agg #[.float .f64 f0], .agg #[.float .f64 f1], .agg #[.float .f64 d1], .agg #[.float .f64 A], .agg #[.float .f64 f1], .agg #[.float .f64 f2], .agg #[.float .f64 d2], .agg #[.float .f64 B]].getD i (.bool false)) _) (PI.start HS.out.1) ?_ ?_
  · intro i o b' a' w' hi ho hb he hI
    rcases (by omega : i = 0 ∨ i = 1 ∨ i = 2 ∨ i = 3 ∨ i = 4 ∨ i = 5 ∨ i = 6 ∨ i = 7 ∨ i = 8 ∨ i = 9 ∨ i = 10) with rfl | rfl | rfl | rfl | rfl | rfl | rfl | rfl | rfl | rfl | rfl
    · obtain rfl := Option.some.inj ho
      exact hI.stepQuiet hb rfl rfl rfl (op_load _ _ _ g10 f1 _ rfl ((hI.old rfl).trans rfl) (hI.bx.cell 1 (by simp)).1)
    · obtain rfl := Option.some.inj ho
      have e0 := hI.new 0 (edge he 0 (by kernel_rfl)) rfl rfl rfl (by show 43 < 54; decide)
      refine hI.stepCall hb rfl rfl rfl (op_call _ _ 63 Try.f63 _ _ _ rfl Try.func63 (by kernel_rfl) (by kernel_rfl)) ?_
      have hm : Array.map a'.eval #[.tmp 43, .const ((Value.float FloatKind.f64 4637863191261478912))] = #[.agg #[.float .f64 f1], (Value.float FloatKind.f64 4637863191261478912)] := by simp [e0, ev_const]
      rw [hm]
      exact MulConst_any f1 4637863191261478912 p Hp.out _
    · obtain rfl := Option.some.inj ho
      have e0 := hI.new 1 (edge he 1 (by kernel_rfl)) rfl rfl rfl (by show 44 < 54; decide)
      refine hI.stepCall hb rfl rfl rfl (op_call _ _ 65 Try.f65 _ _ _ rfl Try.func65 (by kernel_rfl) (by kernel_rfl)) ?_
      have hm : Array.map a'.eval #[.tmp 44, .const ((Value.float FloatKind.f64 4625196817309499392))] = #[.agg #[.float .f64 p], (Value.float FloatKind.f64 4625196817309499392)] := by simp [e0, ev_const]
      rw [hm]
      exact SubConst_any p 4625196817309499392 L HL.out _
    · obtain rfl := Option.some.inj ho
      exact hI.stepQuiet hb rfl rfl rfl (op_load _ _ _ g9 f0 _ rfl ((hI.old rfl).trans rfl) (hI.bx.cell 2 (by simp)).1)
    · obtain rfl := Option.some.inj ho
      exact hI.stepQuiet hb rfl rfl rfl (op_load _ _ _ g10 f1 _ rfl ((hI.old rfl).trans rfl) (hI.bx.cell 1 (by simp)).1)
    · obtain rfl := Option.some.inj ho
      have e0 := hI.new 3 (edge he 3 (by kernel_rfl)) rfl rfl rfl (by show 46 < 54; decide)
      have e1 := hI.new 4 (edge he 4 (by kernel_rfl)) rfl rfl rfl (by show 47 < 54; decide)
      refine hI.stepCall hb rfl rfl rfl (op_call _ _ 62 Try.f62 _ _ _ rfl Try.func62 (by kernel_rfl) (by kernel_rfl)) ?_
      have hm : Array.map a'.eval #[.tmp 46, .tmp 47] = #[.agg #[.float .f64 f0], .agg #[.float .f64 f1]] := by simp [e0, e1]
      rw [hm]
      exact Sub_any f0 f1 d1 Hd1.out _
    · obtain rfl := Option.some.inj ho
      have e0 := hI.new 5 (edge he 5 (by kernel_rfl)) rfl rfl rfl (by show 48 < 54; decide)
      refine hI.stepCall hb rfl rfl rfl (op_call _ _ 63 Try.f63 _ _ _ rfl Try.func63 (by kernel_rfl) (by kernel_rfl)) ?_
      have hm : Array.map a'.eval #[.tmp 48, .const ((Value.float FloatKind.f64 4647503709213818880))] = #[.agg #[.float .f64 d1], (Value.float FloatKind.f64 4647503709213818880)] := by simp [e0, ev_const]
      rw [hm]
      exact MulConst_any d1 4647503709213818880 A HA.out _
    · obtain rfl := Option.some.inj ho
      exact hI.stepQuiet hb rfl rfl rfl (op_load _ _ _ g10 f1 _ rfl ((hI.old rfl).trans rfl) (hI.bx.cell 1 (by simp)).1)
    · obtain rfl := Option.some.inj ho
      exact hI.stepQuiet hb rfl rfl rfl (op_load _ _ _ g11 f2 _ rfl ((hI.old rfl).trans rfl) (hI.bx.cell 0 (by simp)).1)
    · obtain rfl := Option.some.inj ho
      have e0 := hI.new 7 (edge he 7 (by kernel_rfl)) rfl rfl rfl (by show 50 < 54; decide)
      have e1 := hI.new 8 (edge he 8 (by kernel_rfl)) rfl rfl rfl (by show 51 < 54; decide)
      refine hI.stepCall hb rfl rfl rfl (op_call _ _ 62 Try.f62 _ _ _ rfl Try.func62 (by kernel_rfl) (by kernel_rfl)) ?_
      have hm : Array.map a'.eval #[.tmp 50, .tmp 51] = #[.agg #[.float .f64 f1], .agg #[.float .f64 f2]] := by simp [e0, e1]
      rw [hm]
      exact Sub_any f1 f2 d2 Hd2.out _
    · obtain rfl := Option.some.inj ho
      have e0 := hI.new 9 (edge he 9 (by kernel_rfl)) rfl rfl rfl (by show 52 < 54; decide)
      refine hI.stepCall hb rfl rfl rfl (op_call _ _ 63 Try.f63 _ _ _ rfl Try.func63 (by kernel_rfl) (by kernel_rfl)) ?_
      have hm : Array.map a'.eval #[.tmp 52, .const ((Value.float FloatKind.f64 4641240890982006784))] = #[.agg #[.float .f64 d2], (Value.float FloatKind.f64 4641240890982006784)] := by simp [e0, ev_const]
      rw [hm]
      exact MulConst_any d2 4641240890982006784 B HB.out _
  · intro b' a' w1 hb hI
    obtain ⟨ρ, rfl, hS, hC, hN⟩ := hI
    have hA := HS.out.2
    clear HS
    have p0 := hb 0 (by decide)
    have p1 := hb 1 (by decide)
    have p2 := hb 2 (by decide)
    have p3 := hb 3 (by decide)
    have p4 := hb 4 (by decide)
    have p5 := hb 5 (by decide)
    have p6 := hb 6 (by decide)
    have p7 := hb 7 (by decide)
    have p8 := hb 8 (by decide)
    have p9 := hb 9 (by decide)
    have p10 := hb 10 (by decide)
    have v0 : vals [] (fun i => [.agg #[.float .f64 f1], .agg #[.float .f64 p], .agg #[.float .f64 L], .agg #[.float .f64 f0], .agg #[.float .f64 f1], .agg #[.float .f64 d1], .agg #[.float .f64 A], .agg #[.float .f64 f1], .agg #[.float .f64 f2], .agg #[.float .f64 d2], .agg #[.float .f64 B]].getD i (.bool false)) ρ 0 = .agg #[.float .f64 f1] := rfl
    have v1 : vals [] (fun i => [.agg #[.float .f64 f1], .agg #[.float .f64 p], .agg #[.float .f64 L], .agg #[.float .f64 f0], .agg #[.float .f64 f1], .agg #[.float .f64 d1], .agg #[.float .f64 A], .agg #[.float .f64 f1], .agg #[.float .f64 f2], .agg #[.float .f64 d2], .agg #[.float .f64 B]].getD i (.bool false)) ρ 1 = .agg #[.float .f64 p] := rfl
    have v2 : vals [] (fun i => [.agg #[.float .f64 f1], .agg #[.float .f64 p], .agg #[.float .f64 L], .agg #[.float .f64 f0], .agg #[.float .f64 f1], .agg #[.float .f64 d1], .agg #[.float .f64 A], .agg #[.float .f64 f1], .agg #[.float .f64 f2], .agg #[.float .f64 d2], .agg #[.float .f64 B]].getD i (.bool false)) ρ 2 = .agg #[.float .f64 L] := rfl
    have v3 : vals [] (fun i => [.agg #[.float .f64 f1], .agg #[.float .f64 p], .agg #[.float .f64 L], .agg #[.float .f64 f0], .agg #[.float .f64 f1], .agg #[.float .f64 d1], .agg #[.float .f64 A], .agg #[.float .f64 f1], .agg #[.float .f64 f2], .agg #[.float .f64 d2], .agg #[.float .f64 B]].getD i (.bool false)) ρ 3 = .agg #[.float .f64 f0] := rfl
    have v4 : vals [] (fun i => [.agg #[.float .f64 f1], .agg #[.float .f64 p], .agg #[.float .f64 L], .agg #[.float .f64 f0], .agg #[.float .f64 f1], .agg #[.float .f64 d1], .agg #[.float .f64 A], .agg #[.float .f64 f1], .agg #[.float .f64 f2], .agg #[.float .f64 d2], .agg #[.float .f64 B]].getD i (.bool false)) ρ 4 = .agg #[.float .f64 f1] := rfl
    have v5 : vals [] (fun i => [.agg #[.float .f64 f1], .agg #[.float .f64 p], .agg #[.float .f64 L], .agg #[.float .f64 f0], .agg #[.float .f64 f1], .agg #[.float .f64 d1], .agg #[.float .f64 A], .agg #[.float .f64 f1], .agg #[.float .f64 f2], .agg #[.float .f64 d2], .agg #[.float .f64 B]].getD i (.bool false)) ρ 5 = .agg #[.float .f64 d1] := rfl
    have v6 : vals [] (fun i => [.agg #[.float .f64 f1], .agg #[.float .f64 p], .agg #[.float .f64 L], .agg #[.float .f64 f0], .agg #[.float .f64 f1], .agg #[.float .f64 d1], .agg #[.float .f64 A], .agg #[.float .f64 f1], .agg #[.float .f64 f2], .agg #[.float .f64 d2], .agg #[.float .f64 B]].getD i (.bool false)) ρ 6 = .agg #[.float .f64 A] := rfl
    have v7 : vals [] (fun i => [.agg #[.float .f64 f1], .agg #[.float .f64 p], .agg #[.float .f64 L], .agg #[.float .f64 f0], .agg #[.float .f64 f1], .agg #[.float .f64 d1], .agg #[.float .f64 A], .agg #[.float .f64 f1], .agg #[.float .f64 f2], .agg #[.float .f64 d2], .agg #[.float .f64 B]].getD i (.bool false)) ρ 7 = .agg #[.float .f64 f1] := rfl
    have v8 : vals [] (fun i => [.agg #[.float .f64 f1], .agg #[.float .f64 p], .agg #[.float .f64 L], .agg #[.float .f64 f0], .agg #[.float .f64 f1], .agg #[.float .f64 d1], .agg #[.float .f64 A], .agg #[.float .f64 f1], .agg #[.float .f64 f2], .agg #[.float .f64 d2], .agg #[.float .f64 B]].getD i (.bool false)) ρ 8 = .agg #[.float .f64 f2] := rfl
    have v9 : vals [] (fun i => [.agg #[.float .f64 f1], .agg #[.float .f64 p], .agg #[.float .f64 L], .agg #[.float .f64 f0], .agg #[.float .f64 f1], .agg #[.float .f64 d1], .agg #[.float .f64 A], .agg #[.float .f64 f1], .agg #[.float .f64 f2], .agg #[.float .f64 d2], .agg #[.float .f64 B]].getD i (.bool false)) ρ 9 = .agg #[.float .f64 d2] := rfl
    have v10 : vals [] (fun i => [.agg #[.float .f64 f1], .agg #[.float .f64 p], .agg #[.float .f64 L], .agg #[.float .f64 f0], .agg #[.float .f64 f1], .agg #[.float .f64 d1], .agg #[.float .f64 A], .agg #[.float .f64 f1], .agg #[.float .f64 f2], .agg #[.float .f64 d2], .agg #[.float .f64 B]].getD i (.bool false)) ρ 10 = .agg #[.float .f64 B] := rfl
    simp only [puts, Nat.zero_add, p0, p1, p2, p3, p4, p5, p6, p7, p8, p9, p10, v0, v1, v2, v3, v4, v5, v6, v7, v8, v9, v10, if_true, List.drop_succ_cons, List.drop_zero, Nat.reduceAdd]
    clear hb hC hN p0 p1 p2 p3 p4 p5 p6 p7 p8 p9 p10 v0 v1 v2 v3 v4 v5 v6 v7 v8 v9 v10
    clear ρ b'
    have s0 : (w1).cell? ⟨g6, 0, none⟩ = some (.float .f64 0) := (hS.cell 5 (by simp)).1
    have t0 : (w1).frozen? ⟨g6, 0, none⟩ = false := (hS.cell 5 (by simp)).2
    replace hS : Bx base w [(g11, f2), (g10, f1), (g9, f0), (g8, 0), (g7, 0), (g6, L), (g5, z1), (g4, y), (g3, x1)] ((w1).setCell ⟨g6, 0, none⟩ (.float .f64 L)) := hS.set L hA 5 (by simp)
    replace hA : Apart base [(g11, f2), (g10, f1), (g9, f0), (g8, 0), (g7, 0), (g6, L), (g5, z1), (g4, y), (g3, x1)] := Apart.of_fst (by rfl) hA
    have s1 : ((w1).setCell ⟨g6, 0, none⟩ (.float .f64 L)).cell? ⟨g7, 0, none⟩ = some (.float .f64 0) := (hS.cell 4 (by simp)).1
    have t1 : ((w1).setCell ⟨g6, 0, none⟩ (.float .f64 L)).frozen? ⟨g7, 0, none⟩ = false := (hS.cell 4 (by simp)).2
    replace hS : Bx base w [(g11, f2), (g10, f1), (g9, f0), (g8, 0), (g7, A), (g6, L), (g5, z1), (g4, y), (g3, x1)] (((w1).setCell ⟨g6, 0, none⟩ (.float .f64 L)).setCell ⟨g7, 0, none⟩ (.float .f64 A)) := hS.set A hA 4 (by simp)
    replace hA : Apart base [(g11, f2), (g10, f1), (g9, f0), (g8, 0), (g7, A), (g6, L), (g5, z1), (g4, y), (g3, x1)] := Apart.of_fst (by rfl) hA
    have s2 : (((w1).setCell ⟨g6, 0, none⟩ (.float .f64 L)).setCell ⟨g7, 0, none⟩ (.float .f64 A)).cell? ⟨g8, 0, none⟩ = some (.float .f64 0) := (hS.cell 3 (by simp)).1
    have t2 : (((w1).setCell ⟨g6, 0, none⟩ (.float .f64 L)).setCell ⟨g7, 0, none⟩ (.float .f64 A)).frozen? ⟨g8, 0, none⟩ = false := (hS.cell 3 (by simp)).2
    replace hS : Bx base w [(g11, f2), (g10, f1), (g9, f0), (g8, B), (g7, A), (g6, L), (g5, z1), (g4, y), (g3, x1)] ((((w1).setCell ⟨g6, 0, none⟩ (.float .f64 L)).setCell ⟨g7, 0, none⟩ (.float .f64 A)).setCell ⟨g8, 0, none⟩ (.float .f64 B)) := hS.set B hA 3 (by simp)
    replace hA : Apart base [(g11, f2), (g10, f1), (g9, f0), (g8, B), (g7, A), (g6, L), (g5, z1), (g4, y), (g3, x1)] := Apart.of_fst (by rfl) hA
    have HS := Lib.hid (And.intro hS hA)
    clear hS hA
    go_wp2_with fail
    clear s0 t0 s1 t1 s2 t2
    generalize World.setCell _ _ _ = W at *
    clear w1
    have c_g6 : W.cell? ⟨g6, 0, none⟩ = some (.float .f64 L) := (HS.out.1.cell 5 (by simp)).1
    have c_g7 : W.cell? ⟨g7, 0, none⟩ = some (.float .f64 A) := (HS.out.1.cell 4 (by simp)).1
    have c_g8 : W.cell? ⟨g8, 0, none⟩ = some (.float .f64 B) := (HS.out.1.cell 3 (by simp)).1
    refine bodyPost_ret (v := .tuple #[.agg #[.float .f64 L], .agg #[.float .f64 A], .agg #[.float .f64 B]]) (by simp [results, Try.results47, go_sem, c_g6, c_g7, c_g8]) rfl ⟨rfl, HS.out.1.below.2⟩
set_option maxRecDepth 100000 in
set_option maxHeartbeats 4000000 in
theorem xl_ftt (x y z x1 z1 m0 a0 f0 f1 f2 p L d1 A d2 B base : Nat) (w : World) (H : Hid (base = w.heap.size)) (Hx1 : Hid (Ieee.double.div x 4606860822843362778 = some x1)) (Hz1 : Hid (Ieee.double.div z 4605607101106091996 = some z1)) (Hq0 : Hid (gtB x1 4576259018578689238 = false)) (Hm0 : Hid (Ieee.double.mul x1 4651156694067819558 = some m0)) (Ha0 : Hid (Ieee.double.add m0 4625196817309499392 = some a0)) (Hf0 : Hid (Ieee.double.div a0 4637863191261478912 = some f0)) (Hq1 : Hid (gtB y 4576259018578689238 = true)) (HC1 : Hid (∀ w, Calls Try.prog 67 #[.agg #[.float .f64 y]] w fun e w' => e = .returned (.agg #[.float .f64 f1]) ∧ Below w.heap.size w w')) (Hq2 : Hid (gtB z1 4576259018578689238 = true)) (HC2 : Hid (∀ w, Calls Try.prog 67 #[.agg #[.float .f64 z1]] w fun e w' => e = .returned (.agg #[.float .f64 f2]) ∧ Below w.heap.size w w')) (Hp : Hid (Ieee.double.mul f1 4637863191261478912 = some p)) (HL : Hid (Ieee.double.sub p 4625196817309499392 = some L)) (Hd1 : Hid (Ieee.double.sub f0 f1 = some d1)) (HA : Hid (Ieee.double.mul d1 4647503709213818880 = some A)) (Hd2 : Hid (Ieee.double.sub f1 f2 = some d2)) (HB : Hid (Ieee.double.mul d2 4641240890982006784 = some B)) :
    Calls Try.prog 47 #[.agg #[.float .f64 x], .agg #[.float .f64 y], .agg #[.float .f64 z]] w fun e w' => e = .returned (.tuple #[.agg #[.float .f64 L], .agg #[.float .f64 A], .agg #[.float .f64 B]]) ∧ Below base w w' := by
  go_enter Try.func47, Try.ntmps47
  go_upto_region 1 with fail
  generalize hW : World.alloc _ _ = W at *
  have hS : Bx base w [(w.heap.size + 1 + 1 + 1 + 1 + 1, 0), (w.heap.size + 1 + 1 + 1 + 1, 0), (w.heap.size + 1 + 1 + 1, 0), (w.heap.size + 1 + 1, z), (w.heap.size + 1, y), (w.heap.size, x)] W := by
    subst hW
    have := (((((((Bx.start w).alloc x 41).alloc y 41).alloc z 41).alloc 0 41).alloc 0 41).alloc 0 41)
    rw [H.out]
    simpa using this
  have hA : Apart base [(w.heap.size + 1 + 1 + 1 + 1 + 1, 0), (w.heap.size + 1 + 1 + 1 + 1, 0), (w.heap.size + 1 + 1 + 1, 0), (w.heap.size + 1 + 1, z), (w.heap.size + 1, y), (w.heap.size, x)] := by
    rw [H.out]
    simp [Apart]; try omega
  have HS := Lib.hid (And.intro hS hA)
  clear hS hA hW H
  generalize w.heap.size + 1 + 1 + 1 + 1 + 1 = g8 at *
  generalize w.heap.size + 1 + 1 + 1 + 1 = g7 at *
  generalize w.heap.size + 1 + 1 + 1 = g6 at *
  generalize w.heap.size + 1 + 1 = g5 at *
  generalize w.heap.size + 1 = g4 at *
  generalize hgg : w.heap.size = g3 at *
  clear hgg
  have c_g3 : W.cell? ⟨g3, 0, none⟩ = some (.float .f64 x) := (HS.out.1.cell 5 (by simp)).1
  go_wp2_with fail
  refine (DivConst_any x 4606860822843362778 x1 Hx1.out _).mono ?_
  rintro e w1 ⟨rfl, hb⟩
  have hS := HS.out.1.keep hb
  have hA := HS.out.2
  clear HS hb c_g3
  have s0 : (w1).cell? ⟨g3, 0, none⟩ = some (.float .f64 x) := (hS.cell 5 (by simp)).1
  have t0 : (w1).frozen? ⟨g3, 0, none⟩ = false := (hS.cell 5 (by simp)).2
  replace hS : Bx base w [(g8, 0), (g7, 0), (g6, 0), (g5, z), (g4, y), (g3, x1)] ((w1).setCell ⟨g3, 0, none⟩ (.float .f64 x1)) := hS.set x1 hA 5 (by simp)
  replace hA : Apart base [(g8, 0), (g7, 0), (g6, 0), (g5, z), (g4, y), (g3, x1)] := Apart.of_fst (by rfl) hA
  have HS := Lib.hid (And.intro hS hA)
  clear hS hA
  go_upto_region 2 with fail
  clear s0 t0
  generalize World.setCell _ _ _ = W at *
  clear w1
  have c_g5 : W.cell? ⟨g5, 0, none⟩ = some (.float .f64 z) := (HS.out.1.cell 3 (by simp)).1
  go_wp2_with fail
  refine (DivConst_any z 4605607101106091996 z1 Hz1.out _).mono ?_
  rintro e w1 ⟨rfl, hb⟩
  have hS := HS.out.1.keep hb
  have hA := HS.out.2
  clear HS hb c_g5
  have s0 : (w1).cell? ⟨g5, 0, none⟩ = some (.float .f64 z) := (hS.cell 3 (by simp)).1
  have t0 : (w1).frozen? ⟨g5, 0, none⟩ = false := (hS.cell 3 (by simp)).2
  replace hS : Bx base w [(g8, 0), (g7, 0), (g6, 0), (g5, z1), (g4, y), (g3, x1)] ((w1).setCell ⟨g5, 0, none⟩ (.float .f64 z1)) := hS.set z1 hA 3 (by simp)
  replace hA : Apart base [(g8, 0), (g7, 0), (g6, 0), (g5, z1), (g4, y), (g3, x1)] := Apart.of_fst (by rfl) hA
  have HS := Lib.hid (And.intro hS hA)
  clear hS hA
  go_upto_region 3 with fail
  clear s0 t0
  generalize World.setCell _ _ _ = W at *
  clear w1
  have hS := HS.out.1
  have hA := HS.out.2
  clear HS
  generalize W = w1 at *
  have HS := Lib.hid (And.intro hS hA)
  clear hS hA
  go_upto_region 4 with fail
  have hS := HS.out.1
  have hA := HS.out.2
  clear HS
  generalize hW : World.alloc _ _ = W at *
  have hS2 : Bx base w [(w1.heap.size + 1 + 1, 0), (w1.heap.size + 1, 0), (w1.heap.size, 0), (g8, 0), (g7, 0), (g6, 0), (g5, z1), (g4, y), (g3, x1)] W := by
    subst hW
    have := (((hS.alloc 0 41).alloc 0 41).alloc 0 41)
    simpa using this
  have hA2 : Apart base [(w1.heap.size + 1 + 1, 0), (w1.heap.size + 1, 0), (w1.heap.size, 0), (g8, 0), (g7, 0), (g6, 0), (g5, z1), (g4, y), (g3, x1)] := by
    have := (((hA.alloc hS 0).alloc (hS.alloc 0 41) 0).alloc ((hS.alloc 0 41).alloc 0 41) 0)
    simpa using this
  have HS := Lib.hid (And.intro hS2 hA2)
  clear hS hA hS2 hA2 hW
  generalize w1.heap.size + 1 + 1 = g11 at *
  generalize w1.heap.size + 1 = g10 at *
  generalize w1.heap.size = g9 at *
  clear w1
  have q0 : (FloatKind.f64.format.order x1 4576259018578689238 == some .gt) = false := Hq0.out
  have c_g3 : W.cell? ⟨g3, 0, none⟩ = some (.float .f64 x1) := (HS.out.1.cell 8 (by simp)).1
  go_wp2_with fail
  refine (Value_any x1 _).mono ?_
  rintro e w1 ⟨rfl, hb⟩
  have hS := HS.out.1.keep hb
  have hA := HS.out.2
  clear HS hb c_g3
  have HS := Lib.hid (And.intro hS hA)
  clear hS hA
  go_upto_region 6 with fail
  generalize w1 = W at *
  clear q0
  have c_g3 : W.cell? ⟨g3, 0, none⟩ = some (.float .f64 x1) := (HS.out.1.cell 8 (by simp)).1
  go_wp2_with fail
  refine (MulConst_any x1 4651156694067819558 m0 Hm0.out _).mono ?_
  rintro e w1 ⟨rfl, hb⟩
  have hS := HS.out.1.keep hb
  have hA := HS.out.2
  clear HS hb c_g3
  have HS := Lib.hid (And.intro hS hA)
  clear hS hA
  go_wp2_with fail
  refine (AddConst_any m0 4625196817309499392 a0 Ha0.out _).mono ?_
  rintro e w2 ⟨rfl, hb⟩
  have hS := HS.out.1.keep hb
  have hA := HS.out.2
  clear HS hb 
  clear w1
  generalize w2 = w1 at *
  have HS := Lib.hid (And.intro hS hA)
  clear hS hA
  go_wp2_with fail
  refine (DivConst_any a0 4637863191261478912 f0 Hf0.out _).mono ?_
  rintro e w2 ⟨rfl, hb⟩
  have hS := HS.out.1.keep hb
  have hA := HS.out.2
  clear HS hb 
  clear w1
  generalize w2 = w1 at *
  have s0 : (w1).cell? ⟨g9, 0, none⟩ = some (.float .f64 0) := (hS.cell 2 (by simp)).1
  have t0 : (w1).frozen? ⟨g9, 0, none⟩ = false := (hS.cell 2 (by simp)).2
  replace hS : Bx base w [(g11, 0), (g10, 0), (g9, f0), (g8, 0), (g7, 0), (g6, 0), (g5, z1), (g4, y), (g3, x1)] ((w1).setCell ⟨g9, 0, none⟩ (.float .f64 f0)) := hS.set f0 hA 2 (by simp)
  replace hA : Apart base [(g11, 0), (g10, 0), (g9, f0), (g8, 0), (g7, 0), (g6, 0), (g5, z1), (g4, y), (g3, x1)] := Apart.of_fst (by rfl) hA
  have HS := Lib.hid (And.intro hS hA)
  clear hS hA
  go_upto_region 7 with fail
  clear s0 t0
  generalize World.setCell _ _ _ = W at *
  clear w1
  have q1 : (FloatKind.f64.format.order y 4576259018578689238 == some .gt) = true := Hq1.out
  have c_g4 : W.cell? ⟨g4, 0, none⟩ = some (.float .f64 y) := (HS.out.1.cell 7 (by simp)).1
  go_wp2_with fail
  refine (Value_any y _).mono ?_
  rintro e w1 ⟨rfl, hb⟩
  have hS := HS.out.1.keep hb
  have hA := HS.out.2
  clear HS hb c_g4
  have HS := Lib.hid (And.intro hS hA)
  clear hS hA
  go_upto_region 8 with fail
  generalize w1 = W at *
  clear q1
  have c_g4 : W.cell? ⟨g4, 0, none⟩ = some (.float .f64 y) := (HS.out.1.cell 7 (by simp)).1
  go_wp2_with fail
  refine (HC1.out _).mono ?_
  rintro e w1 ⟨rfl, hb⟩
  have hS := HS.out.1.keep hb
  have hA := HS.out.2
  clear HS hb c_g4
  have s0 : (w1).cell? ⟨g10, 0, none⟩ = some (.float .f64 0) := (hS.cell 1 (by simp)).1
  have t0 : (w1).frozen? ⟨g10, 0, none⟩ = false := (hS.cell 1 (by simp)).2
  replace hS : Bx base w [(g11, 0), (g10, f1), (g9, f0), (g8, 0), (g7, 0), (g6, 0), (g5, z1), (g4, y), (g3, x1)] ((w1).setCell ⟨g10, 0, none⟩ (.float .f64 f1)) := hS.set f1 hA 1 (by simp)
  replace hA : Apart base [(g11, 0), (g10, f1), (g9, f0), (g8, 0), (g7, 0), (g6, 0), (g5, z1), (g4, y), (g3, x1)] := Apart.of_fst (by rfl) hA
  have HS := Lib.hid (And.intro hS hA)
  clear hS hA
  go_upto_region 10 with fail
  clear s0 t0
  generalize World.setCell _ _ _ = W at *
  clear w1
  have q2 : (FloatKind.f64.format.order z1 4576259018578689238 == some .gt) = true := Hq2.out
  have c_g5 : W.cell? ⟨g5, 0, none⟩ = some (.float .f64 z1) := (HS.out.1.cell 6 (by simp)).1
  go_wp2_with fail
  refine (Value_any z1 _).mono ?_
  rintro e w1 ⟨rfl, hb⟩
  have hS := HS.out.1.keep hb
  have hA := HS.out.2
  clear HS hb c_g5
  have HS := Lib.hid (And.intro hS hA)
  clear hS hA
  go_upto_region 11 with fail
  generalize w1 = W at *
  clear q2
  have c_g5 : W.cell? ⟨g5, 0, none⟩ = some (.float .f64 z1) := (HS.out.1.cell 6 (by simp)).1
  go_wp2_with fail
  refine (HC2.out _).mono ?_
  rintro e w1 ⟨rfl, hb⟩
  have hS := HS.out.1.keep hb
  have hA := HS.out.2
  clear HS hb c_g5
  have s0 : (w1).cell? ⟨g11, 0, none⟩ = some (.float .f64 0) := (hS.cell 0 (by simp)).1
  have t0 : (w1).frozen? ⟨g11, 0, none⟩ = false := (hS.cell 0 (by simp)).2
  replace hS : Bx base w [(g11, f2), (g10, f1), (g9, f0), (g8, 0), (g7, 0), (g6, 0), (g5, z1), (g4, y), (g3, x1)] ((w1).setCell ⟨g11, 0, none⟩ (.float .f64 f2)) := hS.set f2 hA 0 (by simp)
  replace hA : Apart base [(g11, f2), (g10, f1), (g9, f0), (g8, 0), (g7, 0), (g6, 0), (g5, z1), (g4, y), (g3, x1)] := Apart.of_fst (by rfl) hA
  have HS := Lib.hid (And.intro hS hA)
  clear hS hA
  go_upto_region 13 with fail
  clear s0 t0
  generalize World.setCell _ _ _ = W at *
  clear w1
  refine wp_region_plan 11 (by kernel_rfl) (by kernel_rfl) (PI base w [(g11, f2), (g10, f1), (g9, f0), (g8, 0), (g7, 0), (g6, 0), (g5, z1), (g4, y), (g3, x1)] [some 43, some 44, some 45, some 46, some 47, some 48, some 49, some 50, some 51, some 52, some 53] [] (fun i => [.agg #[.float .f64 f1], .agg #[.float .f64 p], .agg #[.float .f64 L], .agg #[.float .f64 f0], .agg #[.float .f64 f1], .agg #[.float .f64 d1], .agg #[.float .f64 A], .agg #[.float .f64 f1], .agg #[.float .f64 f2], .agg #[.float .f64 d2], .agg #[.float .f64 B]].getD i (.bool false)) _) (PI.start HS.out.1) ?_ ?_
  · intro i o b' a' w' hi ho hb he hI
    rcases (by omega : i = 0 ∨ i = 1 ∨ i = 2 ∨ i = 3 ∨ i = 4 ∨ i = 5 ∨ i = 6 ∨ i = 7 ∨ i = 8 ∨ i = 9 ∨ i = 10) with rfl | rfl | rfl | rfl | rfl | rfl | rfl | rfl | rfl | rfl | rfl
    · obtain rfl := Option.some.inj ho
      exact hI.stepQuiet hb rfl rfl rfl (op_load _ _ _ g10 f1 _ rfl ((hI.old rfl).trans rfl) (hI.bx.cell 1 (by simp)).1)
    · obtain rfl := Option.some.inj ho
      have e0 := hI.new 0 (edge he 0 (by kernel_rfl)) rfl rfl rfl (by show 43 < 54; decide)
      refine hI.stepCall hb rfl rfl rfl (op_call _ _ 63 Try.f63 _ _ _ rfl Try.func63 (by kernel_rfl) (by kernel_rfl)) ?_
      have hm : Array.map a'.eval #[.tmp 43, .const ((Value.float FloatKind.f64 4637863191261478912))] = #[.agg #[.float .f64 f1], (Value.float FloatKind.f64 4637863191261478912)] := by simp [e0, ev_const]
      rw [hm]
      exact MulConst_any f1 4637863191261478912 p Hp.out _
    · obtain rfl := Option.some.inj ho
      have e0 := hI.new 1 (edge he 1 (by kernel_rfl)) rfl rfl rfl (by show 44 < 54; decide)
      refine hI.stepCall hb rfl rfl rfl (op_call _ _ 65 Try.f65 _ _ _ rfl Try.func65 (by kernel_rfl) (by kernel_rfl)) ?_
      have hm : Array.map a'.eval #[.tmp 44, .const ((Value.float FloatKind.f64 4625196817309499392))] = #[.agg #[.float .f64 p], (Value.float FloatKind.f64 4625196817309499392)] := by simp [e0, ev_const]
      rw [hm]
      exact SubConst_any p 4625196817309499392 L HL.out _
    · obtain rfl := Option.some.inj ho
      exact hI.stepQuiet hb rfl rfl rfl (op_load _ _ _ g9 f0 _ rfl ((hI.old rfl).trans rfl) (hI.bx.cell 2 (by simp)).1)
    · obtain rfl := Option.some.inj ho
      exact hI.stepQuiet hb rfl rfl rfl (op_load _ _ _ g10 f1 _ rfl ((hI.old rfl).trans rfl) (hI.bx.cell 1 (by simp)).1)
    · obtain rfl := Option.some.inj ho
      have e0 := hI.new 3 (edge he 3 (by kernel_rfl)) rfl rfl rfl (by show 46 < 54; decide)
      have e1 := hI.new 4 (edge he 4 (by kernel_rfl)) rfl rfl rfl (by show 47 < 54; decide)
      refine hI.stepCall hb rfl rfl rfl (op_call _ _ 62 Try.f62 _ _ _ rfl Try.func62 (by kernel_rfl) (by kernel_rfl)) ?_
      have hm : Array.map a'.eval #[.tmp 46, .tmp 47] = #[.agg #[.float .f64 f0], .agg #[.float .f64 f1]] := by simp [e0, e1]
      rw [hm]
      exact Sub_any f0 f1 d1 Hd1.out _
    · obtain rfl := Option.some.inj ho
      have e0 := hI.new 5 (edge he 5 (by kernel_rfl)) rfl rfl rfl (by show 48 < 54; decide)
      refine hI.stepCall hb rfl rfl rfl (op_call _ _ 63 Try.f63 _ _ _ rfl Try.func63 (by kernel_rfl) (by kernel_rfl)) ?_
      have hm : Array.map a'.eval #[.tmp 48, .const ((Value.float FloatKind.f64 4647503709213818880))] = #[.agg #[.float .f64 d1], (Value.float FloatKind.f64 4647503709213818880)] := by simp [e0, ev_const]
      rw [hm]
      exact MulConst_any d1 4647503709213818880 A HA.out _
    · obtain rfl := Option.some.inj ho
      exact hI.stepQuiet hb rfl rfl rfl (op_load _ _ _ g10 f1 _ rfl ((hI.old rfl).trans rfl) (hI.bx.cell 1 (by simp)).1)
    · obtain rfl := Option.some.inj ho
      exact hI.stepQuiet hb rfl rfl rfl (op_load _ _ _ g11 f2 _ rfl ((hI.old rfl).trans rfl) (hI.bx.cell 0 (by simp)).1)
    · obtain rfl := Option.some.inj ho
      have e0 := hI.new 7 (edge he 7 (by kernel_rfl)) rfl rfl rfl (by show 50 < 54; decide)
      have e1 := hI.new 8 (edge he 8 (by kernel_rfl)) rfl rfl rfl (by show 51 < 54; decide)
      refine hI.stepCall hb rfl rfl rfl (op_call _ _ 62 Try.f62 _ _ _ rfl Try.func62 (by kernel_rfl) (by kernel_rfl)) ?_
      have hm : Array.map a'.eval #[.tmp 50, .tmp 51] = #[.agg #[.float .f64 f1], .agg #[.float .f64 f2]] := by simp [e0, e1]
      rw [hm]
      exact Sub_any f1 f2 d2 Hd2.out _
    · obtain rfl := Option.some.inj ho
      have e0 := hI.new 9 (edge he 9 (by kernel_rfl)) rfl rfl rfl (by show 52 < 54; decide)
      refine hI.stepCall hb rfl rfl rfl (op_call _ _ 63 Try.f63 _ _ _ rfl Try.func63 (by kernel_rfl) (by kernel_rfl)) ?_
      have hm : Array.map a'.eval #[.tmp 52, .const ((Value.float FloatKind.f64 4641240890982006784))] = #[.agg #[.float .f64 d2], (Value.float FloatKind.f64 4641240890982006784)] := by simp [e0, ev_const]
      rw [hm]
      exact MulConst_any d2 4641240890982006784 B HB.out _
  · intro b' a' w1 hb hI
    obtain ⟨ρ, rfl, hS, hC, hN⟩ := hI
    have hA := HS.out.2
    clear HS
    have p0 := hb 0 (by decide)
    have p1 := hb 1 (by decide)
    have p2 := hb 2 (by decide)
    have p3 := hb 3 (by decide)
    have p4 := hb 4 (by decide)
    have p5 := hb 5 (by decide)
    have p6 := hb 6 (by decide)
    have p7 := hb 7 (by decide)
    have p8 := hb 8 (by decide)
    have p9 := hb 9 (by decide)
    have p10 := hb 10 (by decide)
    have v0 : vals [] (fun i => [.agg #[.float .f64 f1], .agg #[.float .f64 p], .agg #[.float .f64 L], .agg #[.float .f64 f0], .agg #[.float .f64 f1], .agg #[.float .f64 d1], .agg #[.float .f64 A], .agg #[.float .f64 f1], .agg #[.float .f64 f2], .agg #[.float .f64 d2], .agg #[.float .f64 B]].getD i (.bool false)) ρ 0 = .agg #[.float .f64 f1] := rfl
    have v1 : vals [] (fun i => [.agg #[.float .f64 f1], .agg #[.float .f64 p], .agg #[.float .f64 L], .agg #[.float .f64 f0], .agg #[.float .f64 f1], .agg #[.float .f64 d1], .agg #[.float .f64 A], .agg #[.float .f64 f1], .agg #[.float .f64 f2], .agg #[.float .f64 d2], .agg #[.float .f64 B]].getD i (.bool false)) ρ 1 = .agg #[.float .f64 p] := rfl
    have v2 : vals [] (fun i => [.agg #[.float .f64 f1], .agg #[.float .f64 p], .agg #[.float .f64 L], .agg #[.float .f64 f0], .agg #[.float .f64 f1], .agg #[.float .f64 d1], .agg #[.float .f64 A], .agg #[.float .f64 f1], .agg #[.float .f64 f2], .agg #[.float .f64 d2], .agg #[.float .f64 B]].getD i (.bool false)) ρ 2 = .agg #[.float .f64 L] := rfl
    have v3 : vals [] (fun i => [.agg #[.float .f64 f1], .agg #[.float .f64 p], .agg #[.float .f64 L], .agg #[.float .f64 f0], .agg #[.float .f64 f1], .agg #[.float .f64 d1], .agg #[.float .f64 A], .agg #[.float .f64 f1], .agg #[.float .f64 f2], .agg #[.float .f64 d2], .agg #[.float .f64 B]].getD i (.bool false)) ρ 3 = .agg #[.float .f64 f0] := rfl
    have v4 : vals [] (fun i => [.agg #[.float .f64 f1], .agg #[.float .f64 p], .agg #[.float .f64 L], .agg #[.float .f64 f0], .agg #[.float .f64 f1], .agg #[.float .f64 d1], .agg #[.float .f64 A], .agg #[.float .f64 f1], .agg #[.float .f64 f2], .agg #[.float .f64 d2], .agg #[.float .f64 B]].getD i (.bool false)) ρ 4 = .agg #[.float .f64 f1] := rfl
    have v5 : vals [] (fun i => [.agg #[.float .f64 f1], .agg #[.float .f64 p], .agg #[.float .f64 L], .agg #[.float .f64 f0], .agg #[.float .f64 f1], .agg #[.float .f64 d1], .agg #[.float .f64 A], .agg #[.float .f64 f1], .agg #[.float .f64 f2], .agg #[.float .f64 d2], .agg #[.float .f64 B]].getD i (.bool false)) ρ 5 = .agg #[.float .f64 d1] := rfl
    have v6 : vals [] (fun i => [.agg #[.float .f64 f1], .agg #[.float .f64 p], .agg #[.float .f64 L], .agg #[.float .f64 f0], .agg #[.float .f64 f1], .agg #[.float .f64 d1], .agg #[.float .f64 A], .agg #[.float .f64 f1], .agg #[.float .f64 f2], .agg #[.float .f64 d2], .agg #[.float .f64 B]].getD i (.bool false)) ρ 6 = .agg #[.float .f64 A] := rfl
    have v7 : vals [] (fun i => [.agg #[.float .f64 f1], .agg #[.float .f64 p], .agg #[.float .f64 L], .agg #[.float .f64 f0], .agg #[.float .f64 f1], .agg #[.float .f64 d1], .agg #[.float .f64 A], .agg #[.float .f64 f1], .agg #[.float .f64 f2], .agg #[.float .f64 d2], .agg #[.float .f64 B]].getD i (.bool false)) ρ 7 = .agg #[.float .f64 f1] := rfl
    have v8 : vals [] (fun i => [.agg #[.float .f64 f1], .agg #[.float .f64 p], .agg #[.float .f64 L], .agg #[.float .f64 f0], .agg #[.float .f64 f1], .agg #[.float .f64 d1], .agg #[.float .f64 A], .agg #[.float .f64 f1], .agg #[.float .f64 f2], .agg #[.float .f64 d2], .agg #[.float .f64 B]].getD i (.bool false)) ρ 8 = .agg #[.float .f64 f2] := rfl
    have v9 : vals [] (fun i => [.agg #[.float .f64 f1], .agg #[.float .f64 p], .agg #[.float .f64 L], .agg #[.float .f64 f0], .agg #[.float .f64 f1], .agg #[.float .f64 d1], .agg #[.float .f64 A], .agg #[.float .f64 f1], .agg #[.float .f64 f2], .agg #[.float .f64 d2], .agg #[.float .f64 B]].getD i (.bool false)) ρ 9 = .agg #[.float .f64 d2] := rfl
    have v10 : vals [] (fun i => [.agg #[.float .f64 f1], .agg #[.float .f64 p], .agg #[.float .f64 L], .agg #[.float .f64 f0], .agg #[.float .f64 f1], .agg #[.float .f64 d1], .agg #[.float .f64 A], .agg #[.float .f64 f1], .agg #[.float .f64 f2], .agg #[.float .f64 d2], .agg #[.float .f64 B]].getD i (.bool false)) ρ 10 = .agg #[.float .f64 B] := rfl
    simp only [puts, Nat.zero_add, p0, p1, p2, p3, p4, p5, p6, p7, p8, p9, p10, v0, v1, v2, v3, v4, v5, v6, v7, v8, v9, v10, if_true, List.drop_succ_cons, List.drop_zero, Nat.reduceAdd]
    clear hb hC hN p0 p1 p2 p3 p4 p5 p6 p7 p8 p9 p10 v0 v1 v2 v3 v4 v5 v6 v7 v8 v9 v10
    clear ρ b'
    have s0 : (w1).cell? ⟨g6, 0, none⟩ = some (.float .f64 0) := (hS.cell 5 (by simp)).1
    have t0 : (w1).frozen? ⟨g6, 0, none⟩ = false := (hS.cell 5 (by simp)).2
    replace hS : Bx base w [(g11, f2), (g10, f1), (g9, f0), (g8, 0), (g7, 0), (g6, L), (g5, z1), (g4, y), (g3, x1)] ((w1).setCell ⟨g6, 0, none⟩ (.float .f64 L)) := hS.set L hA 5 (by simp)
    replace hA : Apart base [(g11, f2), (g10, f1), (g9, f0), (g8, 0), (g7, 0), (g6, L), (g5, z1), (g4, y), (g3, x1)] := Apart.of_fst (by rfl) hA
    have s1 : ((w1).setCell ⟨g6, 0, none⟩ (.float .f64 L)).cell? ⟨g7, 0, none⟩ = some (.float .f64 0) := (hS.cell 4 (by simp)).1
    have t1 : ((w1).setCell ⟨g6, 0, none⟩ (.float .f64 L)).frozen? ⟨g7, 0, none⟩ = false := (hS.cell 4 (by simp)).2
    replace hS : Bx base w [(g11, f2), (g10, f1), (g9, f0), (g8, 0), (g7, A), (g6, L), (g5, z1), (g4, y), (g3, x1)] (((w1).setCell ⟨g6, 0, none⟩ (.float .f64 L)).setCell ⟨g7, 0, none⟩ (.float .f64 A)) := hS.set A hA 4 (by simp)
    replace hA : Apart base [(g11, f2), (g10, f1), (g9, f0), (g8, 0), (g7, A), (g6, L), (g5, z1), (g4, y), (g3, x1)] := Apart.of_fst (by rfl) hA
    have s2 : (((w1).setCell ⟨g6, 0, none⟩ (.float .f64 L)).setCell ⟨g7, 0, none⟩ (.float .f64 A)).cell? ⟨g8, 0, none⟩ = some (.float .f64 0) := (hS.cell 3 (by simp)).1
    have t2 : (((w1).setCell ⟨g6, 0, none⟩ (.float .f64 L)).setCell ⟨g7, 0, none⟩ (.float .f64 A)).frozen? ⟨g8, 0, none⟩ = false := (hS.cell 3 (by simp)).2
    replace hS : Bx base w [(g11, f2), (g10, f1), (g9, f0), (g8, B), (g7, A), (g6, L), (g5, z1), (g4, y), (g3, x1)] ((((w1).setCell ⟨g6, 0, none⟩ (.float .f64 L)).setCell ⟨g7, 0, none⟩ (.float .f64 A)).setCell ⟨g8, 0, none⟩ (.float .f64 B)) := hS.set B hA 3 (by simp)
    replace hA : Apart base [(g11, f2), (g10, f1), (g9, f0), (g8, B), (g7, A), (g6, L), (g5, z1), (g4, y), (g3, x1)] := Apart.of_fst (by rfl) hA
    have HS := Lib.hid (And.intro hS hA)
    clear hS hA
    go_wp2_with fail
    clear s0 t0 s1 t1 s2 t2
    generalize World.setCell _ _ _ = W at *
    clear w1
    have c_g6 : W.cell? ⟨g6, 0, none⟩ = some (.float .f64 L) := (HS.out.1.cell 5 (by simp)).1
    have c_g7 : W.cell? ⟨g7, 0, none⟩ = some (.float .f64 A) := (HS.out.1.cell 4 (by simp)).1
    have c_g8 : W.cell? ⟨g8, 0, none⟩ = some (.float .f64 B) := (HS.out.1.cell 3 (by simp)).1
    refine bodyPost_ret (v := .tuple #[.agg #[.float .f64 L], .agg #[.float .f64 A], .agg #[.float .f64 B]]) (by simp [results, Try.results47, go_sem, c_g6, c_g7, c_g8]) rfl ⟨rfl, HS.out.1.below.2⟩
set_option maxRecDepth 100000 in
set_option maxHeartbeats 4000000 in
theorem xl_ftf (x y z x1 z1 m0 a0 f0 f1 m2 a2 f2 p L d1 A d2 B base : Nat) (w : World) (H : Hid (base = w.heap.size)) (Hx1 : Hid (Ieee.double.div x 4606860822843362778 = some x1)) (Hz1 : Hid (Ieee.double.div z 4605607101106091996 = some z1)) (Hq0 : Hid (gtB x1 4576259018578689238 = false)) (Hm0 : Hid (Ieee.double.mul x1 4651156694067819558 = some m0)) (Ha0 : Hid (Ieee.double.add m0 4625196817309499392 = some a0)) (Hf0 : Hid (Ieee.double.div a0 4637863191261478912 = some f0)) (Hq1 : Hid (gtB y 4576259018578689238 = true)) (HC1 : Hid (∀ w, Calls Try.prog 67 #[.agg #[.float .f64 y]] w fun e w' => e = .returned (.agg #[.float .f64 f1]) ∧ Below w.heap.size w w')) (Hq2 : Hid (gtB z1 4576259018578689238 = false)) (Hm2 : Hid (Ieee.double.mul z1 4651156694067819558 = some m2)) (Ha2 : Hid (Ieee.double.add m2 4625196817309499392 = some a2)) (Hf2 : Hid (Ieee.double.div a2 4637863191261478912 = some f2)) (Hp : Hid (Ieee.double.mul f1 4637863191261478912 = some p)) (HL : Hid (Ieee.double.sub p 4625196817309499392 = some L)) (Hd1 : Hid (Ieee.double.sub f0 f1 = some d1)) (HA : Hid (Ieee.double.mul d1 4647503709213818880 = some A)) (Hd2 : Hid (Ieee.double.sub f1 f2 = some d2)) (HB : Hid (Ieee.double.mul d2 4641240890982006784 = some B)) :
    Calls Try.prog 47 #[.agg #[.float .f64 x], .agg #[.float .f64 y], .agg #[.float .f64 z]] w fun e w' => e = .returned (.tuple #[.agg #[.float .f64 L], .agg #[.float .f64 A], .agg #[.float .f64 B]]) ∧ Below base w w' := by
  go_enter Try.func47, Try.ntmps47
  go_upto_region 1 with fail
  generalize hW : World.alloc _ _ = W at *
  have hS : Bx base w [(w.heap.size + 1 + 1 + 1 + 1 + 1, 0), (w.heap.size + 1 + 1 + 1 + 1, 0), (w.heap.size + 1 + 1 + 1, 0), (w.heap.size + 1 + 1, z), (w.heap.size + 1, y), (w.heap.size, x)] W := by
    subst hW
    have := (((((((Bx.start w).alloc x 41).alloc y 41).alloc z 41).alloc 0 41).alloc 0 41).alloc 0 41)
    rw [H.out]
    simpa using this
  have hA : Apart base [(w.heap.size + 1 + 1 + 1 + 1 + 1, 0), (w.heap.size + 1 + 1 + 1 + 1, 0), (w.heap.size + 1 + 1 + 1, 0), (w.heap.size + 1 + 1, z), (w.heap.size + 1, y), (w.heap.size, x)] := by
    rw [H.out]
    simp [Apart]; try omega
  have HS := Lib.hid (And.intro hS hA)
  clear hS hA hW H
  generalize w.heap.size + 1 + 1 + 1 + 1 + 1 = g8 at *
  generalize w.heap.size + 1 + 1 + 1 + 1 = g7 at *
  generalize w.heap.size + 1 + 1 + 1 = g6 at *
  generalize w.heap.size + 1 + 1 = g5 at *
  generalize w.heap.size + 1 = g4 at *
  generalize hgg : w.heap.size = g3 at *
  clear hgg
  have c_g3 : W.cell? ⟨g3, 0, none⟩ = some (.float .f64 x) := (HS.out.1.cell 5 (by simp)).1
  go_wp2_with fail
  refine (DivConst_any x 4606860822843362778 x1 Hx1.out _).mono ?_
  rintro e w1 ⟨rfl, hb⟩
  have hS := HS.out.1.keep hb
  have hA := HS.out.2
  clear HS hb c_g3
  have s0 : (w1).cell? ⟨g3, 0, none⟩ = some (.float .f64 x) := (hS.cell 5 (by simp)).1
  have t0 : (w1).frozen? ⟨g3, 0, none⟩ = false := (hS.cell 5 (by simp)).2
  replace hS : Bx base w [(g8, 0), (g7, 0), (g6, 0), (g5, z), (g4, y), (g3, x1)] ((w1).setCell ⟨g3, 0, none⟩ (.float .f64 x1)) := hS.set x1 hA 5 (by simp)
  replace hA : Apart base [(g8, 0), (g7, 0), (g6, 0), (g5, z), (g4, y), (g3, x1)] := Apart.of_fst (by rfl) hA
  have HS := Lib.hid (And.intro hS hA)
  clear hS hA
  go_upto_region 2 with fail
  clear s0 t0
  generalize World.setCell _ _ _ = W at *
  clear w1
  have c_g5 : W.cell? ⟨g5, 0, none⟩ = some (.float .f64 z) := (HS.out.1.cell 3 (by simp)).1
  go_wp2_with fail
  refine (DivConst_any z 4605607101106091996 z1 Hz1.out _).mono ?_
  rintro e w1 ⟨rfl, hb⟩
  have hS := HS.out.1.keep hb
  have hA := HS.out.2
  clear HS hb c_g5
  have s0 : (w1).cell? ⟨g5, 0, none⟩ = some (.float .f64 z) := (hS.cell 3 (by simp)).1
  have t0 : (w1).frozen? ⟨g5, 0, none⟩ = false := (hS.cell 3 (by simp)).2
  replace hS : Bx base w [(g8, 0), (g7, 0), (g6, 0), (g5, z1), (g4, y), (g3, x1)] ((w1).setCell ⟨g5, 0, none⟩ (.float .f64 z1)) := hS.set z1 hA 3 (by simp)
  replace hA : Apart base [(g8, 0), (g7, 0), (g6, 0), (g5, z1), (g4, y), (g3, x1)] := Apart.of_fst (by rfl) hA
  have HS := Lib.hid (And.intro hS hA)
  clear hS hA
  go_upto_region 3 with fail
  clear s0 t0
  generalize World.setCell _ _ _ = W at *
  clear w1
  have hS := HS.out.1
  have hA := HS.out.2
  clear HS
  generalize W = w1 at *
  have HS := Lib.hid (And.intro hS hA)
  clear hS hA
  go_upto_region 4 with fail
  have hS := HS.out.1
  have hA := HS.out.2
  clear HS
  generalize hW : World.alloc _ _ = W at *
  have hS2 : Bx base w [(w1.heap.size + 1 + 1, 0), (w1.heap.size + 1, 0), (w1.heap.size, 0), (g8, 0), (g7, 0), (g6, 0), (g5, z1), (g4, y), (g3, x1)] W := by
    subst hW
    have := (((hS.alloc 0 41).alloc 0 41).alloc 0 41)
    simpa using this
  have hA2 : Apart base [(w1.heap.size + 1 + 1, 0), (w1.heap.size + 1, 0), (w1.heap.size, 0), (g8, 0), (g7, 0), (g6, 0), (g5, z1), (g4, y), (g3, x1)] := by
    have := (((hA.alloc hS 0).alloc (hS.alloc 0 41) 0).alloc ((hS.alloc 0 41).alloc 0 41) 0)
    simpa using this
  have HS := Lib.hid (And.intro hS2 hA2)
  clear hS hA hS2 hA2 hW
  generalize w1.heap.size + 1 + 1 = g11 at *
  generalize w1.heap.size + 1 = g10 at *
  generalize w1.heap.size = g9 at *
  clear w1
  have q0 : (FloatKind.f64.format.order x1 4576259018578689238 == some .gt) = false := Hq0.out
  have c_g3 : W.cell? ⟨g3, 0, none⟩ = some (.float .f64 x1) := (HS.out.1.cell 8 (by simp)).1
  go_wp2_with fail
  refine (Value_any x1 _).mono ?_
  rintro e w1 ⟨rfl, hb⟩
  have hS := HS.out.1.keep hb
  have hA := HS.out.2
  clear HS hb c_g3
  have HS := Lib.hid (And.intro hS hA)
  clear hS hA
  go_upto_region 6 with fail
  generalize w1 = W at *
  clear q0
  have c_g3 : W.cell? ⟨g3, 0, none⟩ = some (.float .f64 x1) := (HS.out.1.cell 8 (by simp)).1
  go_wp2_with fail
  refine (MulConst_any x1 4651156694067819558 m0 Hm0.out _).mono ?_
  rintro e w1 ⟨rfl, hb⟩
  have hS := HS.out.1.keep hb
  have hA := HS.out.2
  clear HS hb c_g3
  have HS := Lib.hid (And.intro hS hA)
  clear hS hA
  go_wp2_with fail
  refine (AddConst_any m0 4625196817309499392 a0 Ha0.out _).mono ?_
  rintro e w2 ⟨rfl, hb⟩
  have hS := HS.out.1.keep hb
  have hA := HS.out.2
  clear HS hb 
  clear w1
  generalize w2 = w1 at *
  have HS := Lib.hid (And.intro hS hA)
  clear hS hA
  go_wp2_with fail
  refine (DivConst_any a0 4637863191261478912 f0 Hf0.out _).mono ?_
  rintro e w2 ⟨rfl, hb⟩
  have hS := HS.out.1.keep hb
  have hA := HS.out.2
  clear HS hb 
  clear w1
  generalize w2 = w1 at *
  have s0 : (w1).cell? ⟨g9, 0, none⟩ = some (.float .f64 0) := (hS.cell 2 (by simp)).1
  have t0 : (w1).frozen? ⟨g9, 0, none⟩ = false := (hS.cell 2 (by simp)).2
  replace hS : Bx base w [(g11, 0), (g10, 0), (g9, f0), (g8, 0), (g7, 0), (g6, 0), (g5, z1), (g4, y), (g3, x1)] ((w1).setCell ⟨g9, 0, none⟩ (.float .f64 f0)) := hS.set f0 hA 2 (by simp)
  replace hA : Apart base [(g11, 0), (g10, 0), (g9, f0), (g8, 0), (g7, 0), (g6, 0), (g5, z1), (g4, y), (g3, x1)] := Apart.of_fst (by rfl) hA
  have HS := Lib.hid (And.intro hS hA)
  clear hS hA
  go_upto_region 7 with fail
  clear s0 t0
  generalize World.setCell _ _ _ = W at *
  clear w1
  have q1 : (FloatKind.f64.format.order y 4576259018578689238 == some .gt) = true := Hq1.out
  have c_g4 : W.cell? ⟨g4, 0, none⟩ = some (.float .f64 y) := (HS.out.1.cell 7 (by simp)).1
  go_wp2_with fail
  refine (Value_any y _).mono ?_
  rintro e w1 ⟨rfl, hb⟩
  have hS := HS.out.1.keep hb
  have hA := HS.out.2
  clear HS hb c_g4
  have HS := Lib.hid (And.intro hS hA)
  clear hS hA
  go_upto_region 8 with fail
  generalize w1 = W at *
  clear q1
  have c_g4 : W.cell? ⟨g4, 0, none⟩ = some (.float .f64 y) := (HS.out.1.cell 7 (by simp)).1
  go_wp2_with fail
  refine (HC1.out _).mono ?_
  rintro e w1 ⟨rfl, hb⟩
  have hS := HS.out.1.keep hb
  have hA := HS.out.2
  clear HS hb c_g4
  have s0 : (w1).cell? ⟨g10, 0, none⟩ = some (.float .f64 0) := (hS.cell 1 (by simp)).1
  have t0 : (w1).frozen? ⟨g10, 0, none⟩ = false := (hS.cell 1 (by simp)).2
  replace hS : Bx base w [(g11, 0), (g10, f1), (g9, f0), (g8, 0), (g7, 0), (g6, 0), (g5, z1), (g4, y), (g3, x1)] ((w1).setCell ⟨g10, 0, none⟩ (.float .f64 f1)) := hS.set f1 hA 1 (by simp)
  replace hA : Apart base [(g11, 0), (g10, f1), (g9, f0), (g8, 0), (g7, 0), (g6, 0), (g5, z1), (g4, y), (g3, x1)] := Apart.of_fst (by rfl) hA
  have HS := Lib.hid (And.intro hS hA)
  clear hS hA
  go_upto_region 10 with fail
  clear s0 t0
  generalize World.setCell _ _ _ = W at *
  clear w1
  have q2 : (FloatKind.f64.format.order z1 4576259018578689238 == some .gt) = false := Hq2.out
  have c_g5 : W.cell? ⟨g5, 0, none⟩ = some (.float .f64 z1) := (HS.out.1.cell 6 (by simp)).1
  go_wp2_with fail
  refine (Value_any z1 _).mono ?_
  rintro e w1 ⟨rfl, hb⟩
  have hS := HS.out.1.keep hb
  have hA := HS.out.2
  clear HS hb c_g5
  have HS := Lib.hid (And.intro hS hA)
  clear hS hA
  go_upto_region 12 with fail
  generalize w1 = W at *
  clear q2
  have c_g5 : W.cell? ⟨g5, 0, none⟩ = some (.float .f64 z1) := (HS.out.1.cell 6 (by simp)).1
  go_wp2_with fail
  refine (MulConst_any z1 4651156694067819558 m2 Hm2.out _).mono ?_
  rintro e w1 ⟨rfl, hb⟩
  have hS := HS.out.1.keep hb
  have hA := HS.out.2
  clear HS hb c_g5
  have HS := Lib.hid (And.intro hS hA)
  clear hS hA
  go_wp2_with fail
  refine (AddConst_any m2 4625196817309499392 a2 Ha2.out _).mono ?_
  rintro e w2 ⟨rfl, hb⟩
  have hS := HS.out.1.keep hb
  have hA := HS.out.2
  clear HS hb 
  clear w1
  generalize w2 = w1 at *
  have HS := Lib.hid (And.intro hS hA)
  clear hS hA
  go_wp2_with fail
  refine (DivConst_any a2 4637863191261478912 f2 Hf2.out _).mono ?_
  rintro e w2 ⟨rfl, hb⟩
  have hS := HS.out.1.keep hb
  have hA := HS.out.2
  clear HS hb 
  clear w1
  generalize w2 = w1 at *
  have s0 : (w1).cell? ⟨g11, 0, none⟩ = some (.float .f64 0) := (hS.cell 0 (by simp)).1
  have t0 : (w1).frozen? ⟨g11, 0, none⟩ = false := (hS.cell 0 (by simp)).2
  replace hS : Bx base w [(g11, f2), (g10, f1), (g9, f0), (g8, 0), (g7, 0), (g6, 0), (g5, z1), (g4, y), (g3, x1)] ((w1).setCell ⟨g11, 0, none⟩ (.float .f64 f2)) := hS.set f2 hA 0 (by simp)
  replace hA : Apart base [(g11, f2), (g10, f1), (g9, f0), (g8, 0), (g7, 0), (g6, 0), (g5, z1), (g4, y), (g3, x1)] := Apart.of_fst (by rfl) hA
  have HS := Lib.hid (And.intro hS hA)
  clear hS hA
  go_upto_region 13 with fail
  clear s0 t0
  generalize World.setCell _ _ _ = W at *
  clear w1
  refine wp_region_plan 11 (by kernel_rfl) (by kernel_rfl) (PI base w [(g11, f2), (g10, f1), (g9, f0), (g8, 0), (g7, 0), (g6, 0), (g5, z1), (g4, y), (g3, x1)] [some 43, some 44, some 45, some 46, some 47, some 48, some 49, some 50, some 51, some 52, some 53] [] (fun i => [.agg #[.float .f64 f1], .agg #[.float .f64 p], .agg #[.float .f64 L], .agg #[.float .f64 f0], .agg #[.float .f64 f1], .agg #[.float .f64 d1], .agg #[.float .f64 A], .agg #[.float .f64 f1], .agg #[.float .f64 f2], .agg #[.float .f64 d2], .agg #[.float .f64 B]].getD i (.bool false)) _) (PI.start HS.out.1) ?_ ?_
  · intro i o b' a' w' hi ho hb he hI
    rcases (by omega : i = 0 ∨ i = 1 ∨ i = 2 ∨ i = 3 ∨ i = 4 ∨ i = 5 ∨ i = 6 ∨ i = 7 ∨ i = 8 ∨ i = 9 ∨ i = 10) with rfl | rfl | rfl | rfl | rfl | rfl | rfl | rfl | rfl | rfl | rfl
    · obtain rfl := Option.some.inj ho
      exact hI.stepQuiet hb rfl rfl rfl (op_load _ _ _ g10 f1 _ rfl ((hI.old rfl).trans rfl) (hI.bx.cell 1 (by simp)).1)
    · obtain rfl := Option.some.inj ho
      have e0 := hI.new 0 (edge he 0 (by kernel_rfl)) rfl rfl rfl (by show 43 < 54; decide)
      refine hI.stepCall hb rfl rfl rfl (op_call _ _ 63 Try.f63 _ _ _ rfl Try.func63 (by kernel_rfl) (by kernel_rfl)) ?_
      have hm : Array.map a'.eval #[.tmp 43, .const ((Value.float FloatKind.f64 4637863191261478912))] = #[.agg #[.float .f64 f1], (Value.float FloatKind.f64 4637863191261478912)] := by simp [e0, ev_const]
      rw [hm]
      exact MulConst_any f1 4637863191261478912 p Hp.out _
    · obtain rfl := Option.some.inj ho
      have e0 := hI.new 1 (edge he 1 (by kernel_rfl)) rfl rfl rfl (by show 44 < 54; decide)
      refine hI.stepCall hb rfl rfl rfl (op_call _ _ 65 Try.f65 _ _ _ rfl Try.func65 (by kernel_rfl) (by kernel_rfl)) ?_
      have hm : Array.map a'.eval #[.tmp 44, .const ((Value.float FloatKind.f64 4625196817309499392))] = #[.agg #[.float .f64 p], (Value.float FloatKind.f64 4625196817309499392)] := by simp [e0, ev_const]
      rw [hm]
      exact SubConst_any p 4625196817309499392 L HL.out _
    · obtain rfl := Option.some.inj ho
      exact hI.stepQuiet hb rfl rfl rfl (op_load _ _ _ g9 f0 _ rfl ((hI.old rfl).trans rfl) (hI.bx.cell 2 (by simp)).1)
    · obtain rfl := Option.some.inj ho
      exact hI.stepQuiet hb rfl rfl rfl (op_load _ _ _ g10 f1 _ rfl ((hI.old rfl).trans rfl) (hI.bx.cell 1 (by simp)).1)
    · obtain rfl := Option.some.inj ho
      have e0 := hI.new 3 (edge he 3 (by kernel_rfl)) rfl rfl rfl (by show 46 < 54; decide)
      have e1 := hI.new 4 (edge he 4 (by kernel_rfl)) rfl rfl rfl (by show 47 < 54; decide)
      refine hI.stepCall hb rfl rfl rfl (op_call _ _ 62 Try.f62 _ _ _ rfl Try.func62 (by kernel_rfl) (by kernel_rfl)) ?_
      have hm : Array.map a'.eval #[.tmp 46, .tmp 47] = #[.agg #[.float .f64 f0], .agg #[.float .f64 f1]] := by simp [e0, e1]
      rw [hm]
      exact Sub_any f0 f1 d1 Hd1.out _
    · obtain rfl := Option.some.inj ho
      have e0 := hI.new 5 (edge he 5 (by kernel_rfl)) rfl rfl rfl (by show 48 < 54; decide)
      refine hI.stepCall hb rfl rfl rfl (op_call _ _ 63 Try.f63 _ _ _ rfl Try.func63 (by kernel_rfl) (by kernel_rfl)) ?_
      have hm : Array.map a'.eval #[.tmp 48, .const ((Value.float FloatKind.f64 4647503709213818880))] = #[.agg #[.float .f64 d1], (Value.float FloatKind.f64 4647503709213818880)] := by simp [e0, ev_const]
      rw [hm]
      exact MulConst_any d1 4647503709213818880 A HA.out _
    · obtain rfl := Option.some.inj ho
      exact hI.stepQuiet hb rfl rfl rfl (op_load _ _ _ g10 f1 _ rfl ((hI.old rfl).trans rfl) (hI.bx.cell 1 (by simp)).1)
    · obtain rfl := Option.some.inj ho
      exact hI.stepQuiet hb rfl rfl rfl (op_load _ _ _ g11 f2 _ rfl ((hI.old rfl).trans rfl) (hI.bx.cell 0 (by simp)).1)
    · obtain rfl := Option.some.inj ho
      have e0 := hI.new 7 (edge he 7 (by kernel_rfl)) rfl rfl rfl (by show 50 < 54; decide)
      have e1 := hI.new 8 (edge he 8 (by kernel_rfl)) rfl rfl rfl (by show 51 < 54; decide)
      refine hI.stepCall hb rfl rfl rfl (op_call _ _ 62 Try.f62 _ _ _ rfl Try.func62 (by kernel_rfl) (by kernel_rfl)) ?_
      have hm : Array.map a'.eval #[.tmp 50, .tmp 51] = #[.agg #[.float .f64 f1], .agg #[.float .f64 f2]] := by simp [e0, e1]
      rw [hm]
      exact Sub_any f1 f2 d2 Hd2.out _
    · obtain rfl := Option.some.inj ho
      have e0 := hI.new 9 (edge he 9 (by kernel_rfl)) rfl rfl rfl (by show 52 < 54; decide)
      refine hI.stepCall hb rfl rfl rfl (op_call _ _ 63 Try.f63 _ _ _ rfl Try.func63 (by kernel_rfl) (by kernel_rfl)) ?_
      have hm : Array.map a'.eval #[.tmp 52, .const ((Value.float FloatKind.f64 4641240890982006784))] = #[.agg #[.float .f64 d2], (Value.float FloatKind.f64 4641240890982006784)] := by simp [e0, ev_const]
      rw [hm]
      exact MulConst_any d2 4641240890982006784 B HB.out _
  · intro b' a' w1 hb hI
    obtain ⟨ρ, rfl, hS, hC, hN⟩ := hI
    have hA := HS.out.2
    clear HS
    have p0 := hb 0 (by decide)
    have p1 := hb 1 (by decide)
    have p2 := hb 2 (by decide)
    have p3 := hb 3 (by decide)
    have p4 := hb 4 (by decide)
    have p5 := hb 5 (by decide)
    have p6 := hb 6 (by decide)
    have p7 := hb 7 (by decide)
    have p8 := hb 8 (by decide)
    have p9 := hb 9 (by decide)
    have p10 := hb 10 (by decide)
    have v0 : vals [] (fun i => [.agg #[.float .f64 f1], .agg #[.float .f64 p], .agg #[.float .f64 L], .agg #[.float .f64 f0], .agg #[.float .f64 f1], .agg #[.float .f64 d1], .agg #[.float .f64 A], .agg #[.float .f64 f1], .agg #[.float .f64 f2], .agg #[.float .f64 d2], .agg #[.float .f64 B]].getD i (.bool false)) ρ 0 = .agg #[.float .f64 f1] := rfl
    have v1 : vals [] (fun i => [.agg #[.float .f64 f1], .agg #[.float .f64 p], .agg #[.float .f64 L], .agg #[.float .f64 f0], .agg #[.float .f64 f1], .agg #[.float .f64 d1], .agg #[.float .f64 A], .agg #[.float .f64 f1], .agg #[.float .f64 f2], .agg #[.float .f64 d2], .agg #[.float .f64 B]].getD i (.bool false)) ρ 1 = .agg #[.float .f64 p] := rfl
    have v2 : vals [] (fun i => [.agg #[.float .f64 f1], .agg #[.float .f64 p], .agg #[.float .f64 L], .agg #[.float .f64 f0], .agg #[.float .f64 f1], .agg #[.float .f64 d1], .agg #[.float .f64 A], .agg #[.float .f64 f1], .agg #[.float .f64 f2], .agg #[.float .f64 d2], .agg #[.float .f64 B]].getD i (.bool false)) ρ 2 = .agg #[.float .f64 L] := rfl
    have v3 : vals [] (fun i => [.agg #[.float .f64 f1], .agg #[.float .f64 p], .agg #[.float .f64 L], .agg #[.float .f64 f0], .agg #[.float .f64 f1], .agg #[.float .f64 d1], .agg #[.float .f64 A], .agg #[.float .f64 f1], .agg #[.float .f64 f2], .agg #[.float .f64 d2], .agg #[.float .f64 B]].getD i (.bool false)) ρ 3 = .agg #[.float .f64 f0] := rfl
    have v4 : vals [] (fun i => [.agg #[.float .f64 f1], .agg #[.float .f64 p], .agg #[.float .f64 L], .agg #[.float .f64 f0], .agg #[.float .f64 f1], .agg #[.float .f64 d1], .agg #[.float .f64 A], .agg #[.float .f64 f1], .agg #[.float .f64 f2], .agg #[.float .f64 d2], .agg #[.float .f64 B]].getD i (.bool false)) ρ 4 = .agg #[.float .f64 f1] := rfl
    have v5 : vals [] (fun i => [.agg #[.float .f64 f1], .agg #[.float .f64 p], .agg #[.float .f64 L], .agg #[.float .f64 f0], .agg #[.float .f64 f1], .agg #[.float .f64 d1], .agg #[.float .f64 A], .agg #[.float .f64 f1], .agg #[.float .f64 f2], .agg #[.float .f64 d2], .agg #[.float .f64 B]].getD i (.bool false)) ρ 5 = .agg #[.float .f64 d1] := rfl
    have v6 : vals [] (fun i => [.agg #[.float .f64 f1], .agg #[.float .f64 p], .agg #[.float .f64 L], .agg #[.float .f64 f0], .agg #[.float .f64 f1], .agg #[.float .f64 d1], .agg #[.float .f64 A], .agg #[.float .f64 f1], .agg #[.float .f64 f2], .agg #[.float .f64 d2], .agg #[.float .f64 B]].getD i (.bool false)) ρ 6 = .agg #[.float .f64 A] := rfl
    have v7 : vals [] (fun i => [.agg #[.float .f64 f1], .agg #[.float .f64 p], .agg #[.float .f64 L], .agg #[.float .f64 f0], .agg #[.float .f64 f1], .agg #[.float .f64 d1], .agg #[.float .f64 A], .agg #[.float .f64 f1], .agg #[.float .f64 f2], .agg #[.float .f64 d2], .agg #[.float .f64 B]].getD i (.bool false)) ρ 7 = .agg #[.float .f64 f1] := rfl
    have v8 : vals [] (fun i => [.agg #[.float .f64 f1], .agg #[.float .f64 p], .agg #[.float .f64 L], .agg #[.float .f64 f0], .agg #[.float .f64 f1], .agg #[.float .f64 d1], .agg #[.float .f64 A], .agg #[.float .f64 f1], .agg #[.float .f64 f2], .agg #[.float .f64 d2], .agg #[.float .f64 B]].getD i (.bool false)) ρ 8 = .agg #[.float .f64 f2] := rfl
    have v9 : vals [] (fun i => [.agg #[.float .f64 f1], .agg #[.float .f64 p], .agg #[.float .f64 L], .agg #[.float .f64 f0], .agg #[.float .f64 f1], .agg #[.float .f64 d1], .agg #[.float .f64 A], .agg #[.float .f64 f1], .agg #[.float .f64 f2], .agg #[.float .f64 d2], .agg #[.float .f64 B]].getD i (.bool false)) ρ 9 = .agg #[.float .f64 d2] := rfl
    have v10 : vals [] (fun i => [.agg #[.float .f64 f1], .agg #[.float .f64 p], .agg #[.float .f64 L], .agg #[.float .f64 f0], .agg #[.float .f64 f1], .agg #[.float .f64 d1], .agg #[.float .f64 A], .agg #[.float .f64 f1], .agg #[.float .f64 f2], .agg #[.float .f64 d2], .agg #[.float .f64 B]].getD i (.bool false)) ρ 10 = .agg #[.float .f64 B] := rfl
    simp only [puts, Nat.zero_add, p0, p1, p2, p3, p4, p5, p6, p7, p8, p9, p10, v0, v1, v2, v3, v4, v5, v6, v7, v8, v9, v10, if_true, List.drop_succ_cons, List.drop_zero, Nat.reduceAdd]
    clear hb hC hN p0 p1 p2 p3 p4 p5 p6 p7 p8 p9 p10 v0 v1 v2 v3 v4 v5 v6 v7 v8 v9 v10
    clear ρ b'
    have s0 : (w1).cell? ⟨g6, 0, none⟩ = some (.float .f64 0) := (hS.cell 5 (by simp)).1
    have t0 : (w1).frozen? ⟨g6, 0, none⟩ = false := (hS.cell 5 (by simp)).2
    replace hS : Bx base w [(g11, f2), (g10, f1), (g9, f0), (g8, 0), (g7, 0), (g6, L), (g5, z1), (g4, y), (g3, x1)] ((w1).setCell ⟨g6, 0, none⟩ (.float .f64 L)) := hS.set L hA 5 (by simp)
    replace hA : Apart base [(g11, f2), (g10, f1), (g9, f0), (g8, 0), (g7, 0), (g6, L), (g5, z1), (g4, y), (g3, x1)] := Apart.of_fst (by rfl) hA
    have s1 : ((w1).setCell ⟨g6, 0, none⟩ (.float .f64 L)).cell? ⟨g7, 0, none⟩ = some (.float .f64 0) := (hS.cell 4 (by simp)).1
    have t1 : ((w1).setCell ⟨g6, 0, none⟩ (.float .f64 L)).frozen? ⟨g7, 0, none⟩ = false := (hS.cell 4 (by simp)).2
    replace hS : Bx base w [(g11, f2), (g10, f1), (g9, f0), (g8, 0), (g7, A), (g6, L), (g5, z1), (g4, y), (g3, x1)] (((w1).setCell ⟨g6, 0, none⟩ (.float .f64 L)).setCell ⟨g7, 0, none⟩ (.float .f64 A)) := hS.set A hA 4 (by simp)
    replace hA : Apart base [(g11, f2), (g10, f1), (g9, f0), (g8, 0), (g7, A), (g6, L), (g5, z1), (g4, y), (g3, x1)] := Apart.of_fst (by rfl) hA
    have s2 : (((w1).setCell ⟨g6, 0, none⟩ (.float .f64 L)).setCell ⟨g7, 0, none⟩ (.float .f64 A)).cell? ⟨g8, 0, none⟩ = some (.float .f64 0) := (hS.cell 3 (by simp)).1
    have t2 : (((w1).setCell ⟨g6, 0, none⟩ (.float .f64 L)).setCell ⟨g7, 0, none⟩ (.float .f64 A)).frozen? ⟨g8, 0, none⟩ = false := (hS.cell 3 (by simp)).2
    replace hS : Bx base w [(g11, f2), (g10, f1), (g9, f0), (g8, B), (g7, A), (g6, L), (g5, z1), (g4, y), (g3, x1)] ((((w1).setCell ⟨g6, 0, none⟩ (.float .f64 L)).setCell ⟨g7, 0, none⟩ (.float .f64 A)).setCell ⟨g8, 0, none⟩ (.float .f64 B)) := hS.set B hA 3 (by simp)
    replace hA : Apart base [(g11, f2), (g10, f1), (g9, f0), (g8, B), (g7, A), (g6, L), (g5, z1), (g4, y), (g3, x1)] := Apart.of_fst (by rfl) hA
    have HS := Lib.hid (And.intro hS hA)
    clear hS hA
    go_wp2_with fail
    clear s0 t0 s1 t1 s2 t2
    generalize World.setCell _ _ _ = W at *
    clear w1
    have c_g6 : W.cell? ⟨g6, 0, none⟩ = some (.float .f64 L) := (HS.out.1.cell 5 (by simp)).1
    have c_g7 : W.cell? ⟨g7, 0, none⟩ = some (.float .f64 A) := (HS.out.1.cell 4 (by simp)).1
    have c_g8 : W.cell? ⟨g8, 0, none⟩ = some (.float .f64 B) := (HS.out.1.cell 3 (by simp)).1
    refine bodyPost_ret (v := .tuple #[.agg #[.float .f64 L], .agg #[.float .f64 A], .agg #[.float .f64 B]]) (by simp [results, Try.results47, go_sem, c_g6, c_g7, c_g8]) rfl ⟨rfl, HS.out.1.below.2⟩
set_option maxRecDepth 100000 in
set_option maxHeartbeats 4000000 in
theorem xl_fft (x y z x1 z1 m0 a0 f0 m1 a1 f1 f2 p L d1 A d2 B base : Nat) (w : World) (H : Hid (base = w.heap.size)) (Hx1 : Hid (Ieee.double.div x 4606860822843362778 = some x1)) (Hz1 : Hid (Ieee.double.div z 4605607101106091996 = some z1)) (Hq0 : Hid (gtB x1 4576259018578689238 = false)) (Hm0 : Hid (Ieee.double.mul x1 4651156694067819558 = some m0)) (Ha0 : Hid (Ieee.double.add m0 4625196817309499392 = some a0)) (Hf0 : Hid (Ieee.double.div a0 4637863191261478912 = some f0)) (Hq1 : Hid (gtB y 4576259018578689238 = false)) (Hm1 : Hid (Ieee.double.mul y 4651156694067819558 = some m1)) (Ha1 : Hid (Ieee.double.add m1 4625196817309499392 = some a1)) (Hf1 : Hid (Ieee.double.div a1 4637863191261478912 = some f1)) (Hq2 : Hid (gtB z1 4576259018578689238 = true)) (HC2 : Hid (∀ w, Calls Try.prog 67 #[.agg #[.float .f64 z1]] w fun e w' => e = .returned (.agg #[.float .f64 f2]) ∧ Below w.heap.size w w')) (Hp : Hid (Ieee.double.mul f1 4637863191261478912 = some p)) (HL : Hid (Ieee.double.sub p 4625196817309499392 = some L)) (Hd1 : Hid (Ieee.double.sub f0 f1 = some d1)) (HA : Hid (Ieee.double.mul d1 4647503709213818880 = some A)) (Hd2 : Hid (Ieee.double.sub f1 f2 = some d2)) (HB : Hid (Ieee.double.mul d2 4641240890982006784 = some B)) :
    Calls Try.prog 47 #[.agg #[.float .f64 x], .agg #[.float .f64 y], .agg #[.float .f64 z]] w fun e w' => e = .returned (.tuple #[.agg #[.float .f64 L], .agg #[.float .f64 A], .agg #[.float .f64 B]]) ∧ Below base w w' := by
  go_enter Try.func47, Try.ntmps47
  go_upto_region 1 with fail
  generalize hW : World.alloc _ _ = W at *
  have hS : Bx base w [(w.heap.size + 1 + 1 + 1 + 1 + 1, 0), (w.heap.size + 1 + 1 + 1 + 1, 0), (w.heap.size + 1 + 1 + 1, 0), (w.heap.size + 1 + 1, z), (w.heap.size + 1, y), (w.heap.size, x)] W := by
    subst hW
    have := (((((((Bx.start w).alloc x 41).alloc y 41).alloc z 41).alloc 0 41).alloc 0 41).alloc 0 41)
    rw [H.out]
    simpa using this
  have hA : Apart base [(w.heap.size + 1 + 1 + 1 + 1 + 1, 0), (w.heap.size + 1 + 1 + 1 + 1, 0), (w.heap.size + 1 + 1 + 1, 0), (w.heap.size + 1 + 1, z), (w.heap.size + 1, y), (w.heap.size, x)] := by
    rw [H.out]
    simp [Apart]; try omega
  have HS := Lib.hid (And.intro hS hA)
  clear hS hA hW H
  generalize w.heap.size + 1 + 1 + 1 + 1 + 1 = g8 at *
  generalize w.heap.size + 1 + 1 + 1 + 1 = g7 at *
  generalize w.heap.size + 1 + 1 + 1 = g6 at *
  generalize w.heap.size + 1 + 1 = g5 at *
  generalize w.heap.size + 1 = g4 at *
  generalize hgg : w.heap.size = g3 at *
  clear hgg
  have c_g3 : W.cell? ⟨g3, 0, none⟩ = some (.float .f64 x) := (HS.out.1.cell 5 (by simp)).1
  go_wp2_with fail
  refine (DivConst_any x 4606860822843362778 x1 Hx1.out _).mono ?_
  rintro e w1 ⟨rfl, hb⟩
  have hS := HS.out.1.keep hb
  have hA := HS.out.2
  clear HS hb c_g3
  have s0 : (w1).cell? ⟨g3, 0, none⟩ = some (.float .f64 x) := (hS.cell 5 (by simp)).1
  have t0 : (w1).frozen? ⟨g3, 0, none⟩ = false := (hS.cell 5 (by simp)).2
  replace hS : Bx base w [(g8, 0), (g7, 0), (g6, 0), (g5, z), (g4, y), (g3, x1)] ((w1).setCell ⟨g3, 0, none⟩ (.float .f64 x1)) := hS.set x1 hA 5 (by simp)
  replace hA : Apart base [(g8, 0), (g7, 0), (g6, 0), (g5, z), (g4, y), (g3, x1)] := Apart.of_fst (by rfl) hA
  have HS := Lib.hid (And.intro hS hA)
  clear hS hA
  go_upto_region 2 with fail
  clear s0 t0
  generalize World.setCell _ _ _ = W at *
  clear w1
  have c_g5 : W.cell? ⟨g5, 0, none⟩ = some (.float .f64 z) := (HS.out.1.cell 3 (by simp)).1
  go_wp2_with fail
  refine (DivConst_any z 4605607101106091996 z1 Hz1.out _).mono ?_
  rintro e w1 ⟨rfl, hb⟩
  have hS := HS.out.1.keep hb
  have hA := HS.out.2
  clear HS hb c_g5
  have s0 : (w1).cell? ⟨g5, 0, none⟩ = some (.float .f64 z) := (hS.cell 3 (by simp)).1
  have t0 : (w1).frozen? ⟨g5, 0, none⟩ = false := (hS.cell 3 (by simp)).2
  replace hS : Bx base w [(g8, 0), (g7, 0), (g6, 0), (g5, z1), (g4, y), (g3, x1)] ((w1).setCell ⟨g5, 0, none⟩ (.float .f64 z1)) := hS.set z1 hA 3 (by simp)
  replace hA : Apart base [(g8, 0), (g7, 0), (g6, 0), (g5, z1), (g4, y), (g3, x1)] := Apart.of_fst (by rfl) hA
  have HS := Lib.hid (And.intro hS hA)
  clear hS hA
  go_upto_region 3 with fail
  clear s0 t0
  generalize World.setCell _ _ _ = W at *
  clear w1
  have hS := HS.out.1
  have hA := HS.out.2
  clear HS
  generalize W = w1 at *
  have HS := Lib.hid (And.intro hS hA)
  clear hS hA
  go_upto_region 4 with fail
  have hS := HS.out.1
  have hA := HS.out.2
  clear HS
  generalize hW : World.alloc _ _ = W at *
  have hS2 : Bx base w [(w1.heap.size + 1 + 1, 0), (w1.heap.size + 1, 0), (w1.heap.size, 0), (g8, 0), (g7, 0), (g6, 0), (g5, z1), (g4, y), (g3, x1)] W := by
    subst hW
    have := (((hS.alloc 0 41).alloc 0 41).alloc 0 41)
    simpa using this
  have hA2 : Apart base [(w1.heap.size + 1 + 1, 0), (w1.heap.size + 1, 0), (w1.heap.size, 0), (g8, 0), (g7, 0), (g6, 0), (g5, z1), (g4, y), (g3, x1)] := by
    have := (((hA.alloc hS 0).alloc (hS.alloc 0 41) 0).alloc ((hS.alloc 0 41).alloc 0 41) 0)
    simpa using this
  have HS := Lib.hid (And.intro hS2 hA2)
  clear hS hA hS2 hA2 hW
  generalize w1.heap.size + 1 + 1 = g11 at *
  generalize w1.heap.size + 1 = g10 at *
  generalize w1.heap.size = g9 at *
  clear w1
  have q0 : (FloatKind.f64.format.order x1 4576259018578689238 == some .gt) = false := Hq0.out
  have c_g3 : W.cell? ⟨g3, 0, none⟩ = some (.float .f64 x1) := (HS.out.1.cell 8 (by simp)).1
  go_wp2_with fail
  refine (Value_any x1 _).mono ?_
  rintro e w1 ⟨rfl, hb⟩
  have hS := HS.out.1.keep hb
  have hA := HS.out.2
  clear HS hb c_g3
  have HS := Lib.hid (And.intro hS hA)
  clear hS hA
  go_upto_region 6 with fail
  generalize w1 = W at *
  clear q0
  have c_g3 : W.cell? ⟨g3, 0, none⟩ = some (.float .f64 x1) := (HS.out.1.cell 8 (by simp)).1
  go_wp2_with fail
  refine (MulConst_any x1 4651156694067819558 m0 Hm0.out _).mono ?_
  rintro e w1 ⟨rfl, hb⟩
  have hS := HS.out.1.keep hb
  have hA := HS.out.2
  clear HS hb c_g3
  have HS := Lib.hid (And.intro hS hA)
  clear hS hA
  go_wp2_with fail
  refine (AddConst_any m0 4625196817309499392 a0 Ha0.out _).mono ?_
  rintro e w2 ⟨rfl, hb⟩
  have hS := HS.out.1.keep hb
  have hA := HS.out.2
  clear HS hb 
  clear w1
  generalize w2 = w1 at *
  have HS := Lib.hid (And.intro hS hA)
  clear hS hA
  go_wp2_with fail
  refine (DivConst_any a0 4637863191261478912 f0 Hf0.out _).mono ?_
  rintro e w2 ⟨rfl, hb⟩
  have hS := HS.out.1.keep hb
  have hA := HS.out.2
  clear HS hb 
  clear w1
  generalize w2 = w1 at *
  have s0 : (w1).cell? ⟨g9, 0, none⟩ = some (.float .f64 0) := (hS.cell 2 (by simp)).1
  have t0 : (w1).frozen? ⟨g9, 0, none⟩ = false := (hS.cell 2 (by simp)).2
  replace hS : Bx base w [(g11, 0), (g10, 0), (g9, f0), (g8, 0), (g7, 0), (g6, 0), (g5, z1), (g4, y), (g3, x1)] ((w1).setCell ⟨g9, 0, none⟩ (.float .f64 f0)) := hS.set f0 hA 2 (by simp)
  replace hA : Apart base [(g11, 0), (g10, 0), (g9, f0), (g8, 0), (g7, 0), (g6, 0), (g5, z1), (g4, y), (g3, x1)] := Apart.of_fst (by rfl) hA
  have HS := Lib.hid (And.intro hS hA)
  clear hS hA
  go_upto_region 7 with fail
  clear s0 t0
  generalize World.setCell _ _ _ = W at *
  clear w1
  have q1 : (FloatKind.f64.format.order y 4576259018578689238 == some .gt) = false := Hq1.out
  have c_g4 : W.cell? ⟨g4, 0, none⟩ = some (.float .f64 y) := (HS.out.1.cell 7 (by simp)).1
  go_wp2_with fail
  refine (Value_any y _).mono ?_
  rintro e w1 ⟨rfl, hb⟩
  have hS := HS.out.1.keep hb
  have hA := HS.out.2
  clear HS hb c_g4
  have HS := Lib.hid (And.intro hS hA)
  clear hS hA
  go_upto_region 9 with fail
  generalize w1 = W at *
  clear q1
  have c_g4 : W.cell? ⟨g4, 0, none⟩ = some (.float .f64 y) := (HS.out.1.cell 7 (by simp)).1
  go_wp2_with fail
  refine (MulConst_any y 4651156694067819558 m1 Hm1.out _).mono ?_
  rintro e w1 ⟨rfl, hb⟩
  have hS := HS.out.1.keep hb
  have hA := HS.out.2
  clear HS hb c_g4
  have HS := Lib.hid (And.intro hS hA)
  clear hS hA
  go_wp2_with fail
  refine (AddConst_any m1 4625196817309499392 a1 Ha1.out _).mono ?_
  rintro e w2 ⟨rfl, hb⟩
  have hS := HS.out.1.keep hb
  have hA := HS.out.2
  clear HS hb 
  clear w1
  generalize w2 = w1 at *
  have HS := Lib.hid (And.intro hS hA)
  clear hS hA
  go_wp2_with fail
  refine (DivConst_any a1 4637863191261478912 f1 Hf1.out _).mono ?_
  rintro e w2 ⟨rfl, hb⟩
  have hS := HS.out.1.keep hb
  have hA := HS.out.2
  clear HS hb 
  clear w1
  generalize w2 = w1 at *
  have s0 : (w1).cell? ⟨g10, 0, none⟩ = some (.float .f64 0) := (hS.cell 1 (by simp)).1
  have t0 : (w1).frozen? ⟨g10, 0, none⟩ = false := (hS.cell 1 (by simp)).2
  replace hS : Bx base w [(g11, 0), (g10, f1), (g9, f0), (g8, 0), (g7, 0), (g6, 0), (g5, z1), (g4, y), (g3, x1)] ((w1).setCell ⟨g10, 0, none⟩ (.float .f64 f1)) := hS.set f1 hA 1 (by simp)
  replace hA : Apart base [(g11, 0), (g10, f1), (g9, f0), (g8, 0), (g7, 0), (g6, 0), (g5, z1), (g4, y), (g3, x1)] := Apart.of_fst (by rfl) hA
  have HS := Lib.hid (And.intro hS hA)
  clear hS hA
  go_upto_region 10 with fail
  clear s0 t0
  generalize World.setCell _ _ _ = W at *
  clear w1
  have q2 : (FloatKind.f64.format.order z1 4576259018578689238 == some .gt) = true := Hq2.out
  have c_g5 : W.cell? ⟨g5, 0, none⟩ = some (.float .f64 z1) := (HS.out.1.cell 6 (by simp)).1
  go_wp2_with fail
  refine (Value_any z1 _).mono ?_
  rintro e w1 ⟨rfl, hb⟩
  have hS := HS.out.1.keep hb
  have hA := HS.out.2
  clear HS hb c_g5
  have HS := Lib.hid (And.intro hS hA)
  clear hS hA
  go_upto_region 11 with fail
  generalize w1 = W at *
  clear q2
  have c_g5 : W.cell? ⟨g5, 0, none⟩ = some (.float .f64 z1) := (HS.out.1.cell 6 (by simp)).1
  go_wp2_with fail
  refine (HC2.out _).mono ?_
  rintro e w1 ⟨rfl, hb⟩
  have hS := HS.out.1.keep hb
  have hA := HS.out.2
  clear HS hb c_g5
  have s0 : (w1).cell? ⟨g11, 0, none⟩ = some (.float .f64 0) := (hS.cell 0 (by simp)).1
  have t0 : (w1).frozen? ⟨g11, 0, none⟩ = false := (hS.cell 0 (by simp)).2
  replace hS : Bx base w [(g11, f2), (g10, f1), (g9, f0), (g8, 0), (g7, 0), (g6, 0), (g5, z1), (g4, y), (g3, x1)] ((w1).setCell ⟨g11, 0, none⟩ (.float .f64 f2)) := hS.set f2 hA 0 (by simp)
  replace hA : Apart base [(g11, f2), (g10, f1), (g9, f0), (g8, 0), (g7, 0), (g6, 0), (g5, z1), (g4, y), (g3, x1)] := Apart.of_fst (by rfl) hA
  have HS := Lib.hid (And.intro hS hA)
  clear hS hA
  go_upto_region 13 with fail
  clear s0 t0
  generalize World.setCell _ _ _ = W at *
  clear w1
  refine wp_region_plan 11 (by kernel_rfl) (by kernel_rfl) (PI base w [(g11, f2), (g10, f1), (g9, f0), (g8, 0), (g7, 0), (g6, 0), (g5, z1), (g4, y), (g3, x1)] [some 43, some 44, some 45, some 46, some 47, some 48, some 49, some 50, some 51, some 52, some 53] [] (fun i => [.agg #[.float .f64 f1], .agg #[.float .f64 p], .agg #[.float .f64 L], .agg #[.float .f64 f0], .agg #[.float .f64 f1], .agg #[.float .f64 d1], .agg #[.float .f64 A], .agg #[.float .f64 f1], .agg #[.float .f64 f2], .agg #[.float .f64 d2], .agg #[.float .f64 B]].getD i (.bool false)) _) (PI.start HS.out.1) ?_ ?_
  · intro i o b' a' w' hi ho hb he hI
    rcases (by omega : i = 0 ∨ i = 1 ∨ i = 2 ∨ i = 3 ∨ i = 4 ∨ i = 5 ∨ i = 6 ∨ i = 7 ∨ i = 8 ∨ i = 9 ∨ i = 10) with rfl | rfl | rfl | rfl | rfl | rfl | rfl | rfl | rfl | rfl | rfl
    · obtain rfl := Option.some.inj ho
      exact hI.stepQuiet hb rfl rfl rfl (op_load _ _ _ g10 f1 _ rfl ((hI.old rfl).trans rfl) (hI.bx.cell 1 (by simp)).1)
    · obtain rfl := Option.some.inj ho
      have e0 := hI.new 0 (edge he 0 (by kernel_rfl)) rfl rfl rfl (by show 43 < 54; decide)
      refine hI.stepCall hb rfl rfl rfl (op_call _ _ 63 Try.f63 _ _ _ rfl Try.func63 (by kernel_rfl) (by kernel_rfl)) ?_
      have hm : Array.map a'.eval #[.tmp 43, .const ((Value.float FloatKind.f64 4637863191261478912))] = #[.agg #[.float .f64 f1], (Value.float FloatKind.f64 4637863191261478912)] := by simp [e0, ev_const]
      rw [hm]
      exact MulConst_any f1 4637863191261478912 p Hp.out _
    · obtain rfl := Option.some.inj ho
      have e0 := hI.new 1 (edge he 1 (by kernel_rfl)) rfl rfl rfl (by show 44 < 54; decide)
      refine hI.stepCall hb rfl rfl rfl (op_call _ _ 65 Try.f65 _ _ _ rfl Try.func65 (by kernel_rfl) (by kernel_rfl)) ?_
      have hm : Array.map a'.eval #[.tmp 44, .const ((Value.float FloatKind.f64 4625196817309499392))] = #[.agg #[.float .f64 p], (Value.float FloatKind.f64 4625196817309499392)] := by simp [e0, ev_const]
      rw [hm]
      exact SubConst_any p 4625196817309499392 L HL.out _
    · obtain rfl := Option.some.inj ho
      exact hI.stepQuiet hb rfl rfl rfl (op_load _ _ _ g9 f0 _ rfl ((hI.old rfl).trans rfl) (hI.bx.cell 2 (by simp)).1)
    · obtain rfl := Option.some.inj ho
      exact hI.stepQuiet hb rfl rfl rfl (op_load _ _ _ g10 f1 _ rfl ((hI.old rfl).trans rfl) (hI.bx.cell 1 (by simp)).1)
    · obtain rfl := Option.some.inj ho
      have e0 := hI.new 3 (edge he 3 (by kernel_rfl)) rfl rfl rfl (by show 46 < 54; decide)
      have e1 := hI.new 4 (edge he 4 (by kernel_rfl)) rfl rfl rfl (by show 47 < 54; decide)
      refine hI.stepCall hb rfl rfl rfl (op_call _ _ 62 Try.f62 _ _ _ rfl Try.func62 (by kernel_rfl) (by kernel_rfl)) ?_
      have hm : Array.map a'.eval #[.tmp 46, .tmp 47] = #[.agg #[.float .f64 f0], .agg #[.float .f64 f1]] := by simp [e0, e1]
      rw [hm]
      exact Sub_any f0 f1 d1 Hd1.out _
    · obtain rfl := Option.some.inj ho
      have e0 := hI.new 5 (edge he 5 (by kernel_rfl)) rfl rfl rfl (by show 48 < 54; decide)
      refine hI.stepCall hb rfl rfl rfl (op_call _ _ 63 Try.f63 _ _ _ rfl Try.func63 (by kernel_rfl) (by kernel_rfl)) ?_
      have hm : Array.map a'.eval #[.tmp 48, .const ((Value.float FloatKind.f64 4647503709213818880))] = #[.agg #[.float .f64 d1], (Value.float FloatKind.f64 4647503709213818880)] := by simp [e0, ev_const]
      rw [hm]
      exact MulConst_any d1 4647503709213818880 A HA.out _
    · obtain rfl := Option.some.inj ho
      exact hI.stepQuiet hb rfl rfl rfl (op_load _ _ _ g10 f1 _ rfl ((hI.old rfl).trans rfl) (hI.bx.cell 1 (by simp)).1)
    · obtain rfl := Option.some.inj ho
      exact hI.stepQuiet hb rfl rfl rfl (op_load _ _ _ g11 f2 _ rfl ((hI.old rfl).trans rfl) (hI.bx.cell 0 (by simp)).1)
    · obtain rfl := Option.some.inj ho
      have e0 := hI.new 7 (edge he 7 (by kernel_rfl)) rfl rfl rfl (by show 50 < 54; decide)
      have e1 := hI.new 8 (edge he 8 (by kernel_rfl)) rfl rfl rfl (by show 51 < 54; decide)
      refine hI.stepCall hb rfl rfl rfl (op_call _ _ 62 Try.f62 _ _ _ rfl Try.func62 (by kernel_rfl) (by kernel_rfl)) ?_
      have hm : Array.map a'.eval #[.tmp 50, .tmp 51] = #[.agg #[.float .f64 f1], .agg #[.float .f64 f2]] := by simp [e0, e1]
      rw [hm]
      exact Sub_any f1 f2 d2 Hd2.out _
    · obtain rfl := Option.some.inj ho
      have e0 := hI.new 9 (edge he 9 (by kernel_rfl)) rfl rfl rfl (by show 52 < 54; decide)
      refine hI.stepCall hb rfl rfl rfl (op_call _ _ 63 Try.f63 _ _ _ rfl Try.func63 (by kernel_rfl) (by kernel_rfl)) ?_
      have hm : Array.map a'.eval #[.tmp 52, .const ((Value.float FloatKind.f64 4641240890982006784))] = #[.agg #[.float .f64 d2], (Value.float FloatKind.f64 4641240890982006784)] := by simp [e0, ev_const]
      rw [hm]
      exact MulConst_any d2 4641240890982006784 B HB.out _
  · intro b' a' w1 hb hI
    obtain ⟨ρ, rfl, hS, hC, hN⟩ := hI
    have hA := HS.out.2
    clear HS
    have p0 := hb 0 (by decide)
    have p1 := hb 1 (by decide)
    have p2 := hb 2 (by decide)
    have p3 := hb 3 (by decide)
    have p4 := hb 4 (by decide)
    have p5 := hb 5 (by decide)
    have p6 := hb 6 (by decide)
    have p7 := hb 7 (by decide)
    have p8 := hb 8 (by decide)
    have p9 := hb 9 (by decide)
    have p10 := hb 10 (by decide)
    have v0 : vals [] (fun i => [.agg #[.float .f64 f1], .agg #[.float .f64 p], .agg #[.float .f64 L], .agg #[.float .f64 f0], .agg #[.float .f64 f1], .agg #[.float .f64 d1], .agg #[.float .f64 A], .agg #[.float .f64 f1], .agg #[.float .f64 f2], .agg #[.float .f64 d2], .agg #[.float .f64 B]].getD i (.bool false)) ρ 0 = .agg #[.float .f64 f1] := rfl
    have v1 : vals [] (fun i => [.agg #[.float .f64 f1], .agg #[.float .f64 p], .agg #[.float .f64 L], .agg #[.float .f64 f0], .agg #[.float .f64 f1], .agg #[.float .f64 d1], .agg #[.float .f64 A], .agg #[.float .f64 f1], .agg #[.float .f64 f2], .agg #[.float .f64 d2], .agg #[.float .f64 B]].getD i (.bool false)) ρ 1 = .agg #[.float .f64 p] := rfl
    have v2 : vals [] (fun i => [.agg #[.float .f64 f1], .agg #[.float .f64 p], .agg #[.float .f64 L], .agg #[.float .f64 f0], .agg #[.float .f64 f1], .agg #[.float .f64 d1], .agg #[.float .f64 A], .agg #[.float .f64 f1], .agg #[.float .f64 f2], .agg #[.float .f64 d2], .agg #[.float .f64 B]].getD i (.bool false)) ρ 2 = .agg #[.float .f64 L] := rfl
    have v3 : vals [] (fun i => [.agg #[.float .f64 f1], .agg #[.float .f64 p], .agg #[.float .f64 L], .agg #[.float .f64 f0], .agg #[.float .f64 f1], .agg #[.float .f64 d1], .agg #[.float .f64 A], .agg #[.float .f64 f1], .agg #[.float .f64 f2], .agg #[.float .f64 d2], .agg #[.float .f64 B]].getD i (.bool false)) ρ 3 = .agg #[.float .f64 f0] := rfl
    have v4 : vals [] (fun i => [.agg #[.float .f64 f1], .agg #[.float .f64 p], .agg #[.float .f64 L], .agg #[.float .f64 f0], .agg #[.float .f64 f1], .agg #[.float .f64 d1], .agg #[.float .f64 A], .agg #[.float .f64 f1], .agg #[.float .f64 f2], .agg #[.float .f64 d2], .agg #[.float .f64 B]].getD i (.bool false)) ρ 4 = .agg #[.float .f64 f1] := rfl
    have v5 : vals [] (fun i => [.agg #[.float .f64 f1], .agg #[.float .f64 p], .agg #[.float .f64 L], .agg #[.float .f64 f0], .agg #[.float .f64 f1], .agg #[.float .f64 d1], .agg #[.float .f64 A], .agg #[.float .f64 f1], .agg #[.float .f64 f2], .agg #[.float .f64 d2], .agg #[.float .f64 B]].getD i (.bool false)) ρ 5 = .agg #[.float .f64 d1] := rfl
    have v6 : vals [] (fun i => [.agg #[.float .f64 f1], .agg #[.float .f64 p], .agg #[.float .f64 L], .agg #[.float .f64 f0], .agg #[.float .f64 f1], .agg #[.float .f64 d1], .agg #[.float .f64 A], .agg #[.float .f64 f1], .agg #[.float .f64 f2], .agg #[.float .f64 d2], .agg #[.float .f64 B]].getD i (.bool false)) ρ 6 = .agg #[.float .f64 A] := rfl
    have v7 : vals [] (fun i => [.agg #[.float .f64 f1], .agg #[.float .f64 p], .agg #[.float .f64 L], .agg #[.float .f64 f0], .agg #[.float .f64 f1], .agg #[.float .f64 d1], .agg #[.float .f64 A], .agg #[.float .f64 f1], .agg #[.float .f64 f2], .agg #[.float .f64 d2], .agg #[.float .f64 B]].getD i (.bool false)) ρ 7 = .agg #[.float .f64 f1] := rfl
    have v8 : vals [] (fun i => [.agg #[.float .f64 f1], .agg #[.float .f64 p], .agg #[.float .f64 L], .agg #[.float .f64 f0], .agg #[.float .f64 f1], .agg #[.float .f64 d1], .agg #[.float .f64 A], .agg #[.float .f64 f1], .agg #[.float .f64 f2], .agg #[.float .f64 d2], .agg #[.float .f64 B]].getD i (.bool false)) ρ 8 = .agg #[.float .f64 f2] := rfl
    have v9 : vals [] (fun i => [.agg #[.float .f64 f1], .agg #[.float .f64 p], .agg #[.float .f64 L], .agg #[.float .f64 f0], .agg #[.float .f64 f1], .agg #[.float .f64 d1], .agg #[.float .f64 A], .agg #[.float .f64 f1], .agg #[.float .f64 f2], .agg #[.float .f64 d2], .agg #[.float .f64 B]].getD i (.bool false)) ρ 9 = .agg #[.float .f64 d2] := rfl
    have v10 : vals [] (fun i => [.agg #[.float .f64 f1], .agg #[.float .f64 p], .agg #[.float .f64 L], .agg #[.float .f64 f0], .agg #[.float .f64 f1], .agg #[.float .f64 d1], .agg #[.float .f64 A], .agg #[.float .f64 f1], .agg #[.float .f64 f2], .agg #[.float .f64 d2], .agg #[.float .f64 B]].getD i (.bool false)) ρ 10 = .agg #[.float .f64 B] := rfl
    simp only [puts, Nat.zero_add, p0, p1, p2, p3, p4, p5, p6, p7, p8, p9, p10, v0, v1, v2, v3, v4, v5, v6, v7, v8, v9, v10, if_true, List.drop_succ_cons, List.drop_zero, Nat.reduceAdd]
    clear hb hC hN p0 p1 p2 p3 p4 p5 p6 p7 p8 p9 p10 v0 v1 v2 v3 v4 v5 v6 v7 v8 v9 v10
    clear ρ b'
    have s0 : (w1).cell? ⟨g6, 0, none⟩ = some (.float .f64 0) := (hS.cell 5 (by simp)).1
    have t0 : (w1).frozen? ⟨g6, 0, none⟩ = false := (hS.cell 5 (by simp)).2
    replace hS : Bx base w [(g11, f2), (g10, f1), (g9, f0), (g8, 0), (g7, 0), (g6, L), (g5, z1), (g4, y), (g3, x1)] ((w1).setCell ⟨g6, 0, none⟩ (.float .f64 L)) := hS.set L hA 5 (by simp)
    replace hA : Apart base [(g11, f2), (g10, f1), (g9, f0), (g8, 0), (g7, 0), (g6, L), (g5, z1), (g4, y), (g3, x1)] := Apart.of_fst (by rfl) hA
    have s1 : ((w1).setCell ⟨g6, 0, none⟩ (.float .f64 L)).cell? ⟨g7, 0, none⟩ = some (.float .f64 0) := (hS.cell 4 (by simp)).1
    have t1 : ((w1).setCell ⟨g6, 0, none⟩ (.float .f64 L)).frozen? ⟨g7, 0, none⟩ = false := (hS.cell 4 (by simp)).2
    replace hS : Bx base w [(g11, f2), (g10, f1), (g9, f0), (g8, 0), (g7, A), (g6, L), (g5, z1), (g4, y), (g3, x1)] (((w1).setCell ⟨g6, 0, none⟩ (.float .f64 L)).setCell ⟨g7, 0, none⟩ (.float .f64 A)) := hS.set A hA 4 (by simp)
    replace hA : Apart base [(g11, f2), (g10, f1), (g9, f0), (g8, 0), (g7, A), (g6, L), (g5, z1), (g4, y), (g3, x1)] := Apart.of_fst (by rfl) hA
    have s2 : (((w1).setCell ⟨g6, 0, none⟩ (.float .f64 L)).setCell ⟨g7, 0, none⟩ (.float .f64 A)).cell? ⟨g8, 0, none⟩ = some (.float .f64 0) := (hS.cell 3 (by simp)).1
    have t2 : (((w1).setCell ⟨g6, 0, none⟩ (.float .f64 L)).setCell ⟨g7, 0, none⟩ (.float .f64 A)).frozen? ⟨g8, 0, none⟩ = false := (hS.cell 3 (by simp)).2
    replace hS : Bx base w [(g11, f2), (g10, f1), (g9, f0), (g8, B), (g7, A), (g6, L), (g5, z1), (g4, y), (g3, x1)] ((((w1).setCell ⟨g6, 0, none⟩ (.float .f64 L)).setCell ⟨g7, 0, none⟩ (.float .f64 A)).setCell ⟨g8, 0, none⟩ (.float .f64 B)) := hS.set B hA 3 (by simp)
    replace hA : Apart base [(g11, f2), (g10, f1), (g9, f0), (g8, B), (g7, A), (g6, L), (g5, z1), (g4, y), (g3, x1)] := Apart.of_fst (by rfl) hA
    have HS := Lib.hid (And.intro hS hA)
    clear hS hA
    go_wp2_with fail
    clear s0 t0 s1 t1 s2 t2
    generalize World.setCell _ _ _ = W at *
    clear w1
    have c_g6 : W.cell? ⟨g6, 0, none⟩ = some (.float .f64 L) := (HS.out.1.cell 5 (by simp)).1
    have c_g7 : W.cell? ⟨g7, 0, none⟩ = some (.float .f64 A) := (HS.out.1.cell 4 (by simp)).1
    have c_g8 : W.cell? ⟨g8, 0, none⟩ = some (.float .f64 B) := (HS.out.1.cell 3 (by simp)).1
    refine bodyPost_ret (v := .tuple #[.agg #[.float .f64 L], .agg #[.float .f64 A], .agg #[.float .f64 B]]) (by simp [results, Try.results47, go_sem, c_g6, c_g7, c_g8]) rfl ⟨rfl, HS.out.1.below.2⟩
set_option maxRecDepth 100000 in
set_option maxHeartbeats 4000000 in
theorem xl_fff (x y z x1 z1 m0 a0 f0 m1 a1 f1 m2 a2 f2 p L d1 A d2 B base : Nat) (w : World) (H : Hid (base = w.heap.size)) (Hx1 : Hid (Ieee.double.div x 4606860822843362778 = some x1)) (Hz1 : Hid (Ieee.double.div z 4605607101106091996 = some z1)) (Hq0 : Hid (gtB x1 4576259018578689238 = false)) (Hm0 : Hid (Ieee.double.mul x1 4651156694067819558 = some m0)) (Ha0 : Hid (Ieee.double.add m0 4625196817309499392 = some a0)) (Hf0 : Hid (Ieee.double.div a0 4637863191261478912 = some f0)) (Hq1 : Hid (gtB y 4576259018578689238 = false)) (Hm1 : Hid (Ieee.double.mul y 4651156694067819558 = some m1)) (Ha1 : Hid (Ieee.double.add m1 4625196817309499392 = some a1)) (Hf1 : Hid (Ieee.double.div a1 4637863191261478912 = some f1)) (Hq2 : Hid (gtB z1 4576259018578689238 = false)) (Hm2 : Hid (Ieee.double.mul z1 4651156694067819558 = some m2)) (Ha2 : Hid (Ieee.double.add m2 4625196817309499392 = some a2)) (Hf2 : Hid (Ieee.double.div a2 4637863191261478912 = some f2)) (Hp : Hid (Ieee.double.mul f1 4637863191261478912 = some p)) (HL : Hid (Ieee.double.sub p 4625196817309499392 = some L)) (Hd1 : Hid (Ieee.double.sub f0 f1 = some d1)) (HA : Hid (Ieee.double.mul d1 4647503709213818880 = some A)) (Hd2 : Hid (Ieee.double.sub f1 f2 = some d2)) (HB : Hid (Ieee.double.mul d2 4641240890982006784 = some B)) :
    Calls Try.prog 47 #[.agg #[.float .f64 x], .agg #[.float .f64 y], .agg #[.float .f64 z]] w fun e w' => e = .returned (.tuple #[.agg #[.float .f64 L], .agg #[.float .f64 A], .agg #[.float .f64 B]]) ∧ Below base w w' := by
  go_enter Try.func47, Try.ntmps47
  go_upto_region 1 with fail
  generalize hW : World.alloc _ _ = W at *
  have hS : Bx base w [(w.heap.size + 1 + 1 + 1 + 1 + 1, 0), (w.heap.size + 1 + 1 + 1 + 1, 0), (w.heap.size + 1 + 1 + 1, 0), (w.heap.size + 1 + 1, z), (w.heap.size + 1, y), (w.heap.size, x)] W := by
    subst hW
    have := (((((((Bx.start w).alloc x 41).alloc y 41).alloc z 41).alloc 0 41).alloc 0 41).alloc 0 41)
    rw [H.out]
    simpa using this
  have hA : Apart base [(w.heap.size + 1 + 1 + 1 + 1 + 1, 0), (w.heap.size + 1 + 1 + 1 + 1, 0), (w.heap.size + 1 + 1 + 1, 0), (w.heap.size + 1 + 1, z), (w.heap.size + 1, y), (w.heap.size, x)] := by
    rw [H.out]
    simp [Apart]; try omega
  have HS := Lib.hid (And.intro hS hA)
  clear hS hA hW H
  generalize w.heap.size + 1 + 1 + 1 + 1 + 1 = g8 at *
  generalize w.heap.size + 1 + 1 + 1 + 1 = g7 at *
  generalize w.heap.size + 1 + 1 + 1 = g6 at *
  generalize w.heap.size + 1 + 1 = g5 at *
  generalize w.heap.size + 1 = g4 at *
  generalize hgg : w.heap.size = g3 at *
  clear hgg
  have c_g3 : W.cell? ⟨g3, 0, none⟩ = some (.float .f64 x) := (HS.out.1.cell 5 (by simp)).1
  go_wp2_with fail
  refine (DivConst_any x 4606860822843362778 x1 Hx1.out _).mono ?_
  rintro e w1 ⟨rfl, hb⟩
  have hS := HS.out.1.keep hb
  have hA := HS.out.2
  clear HS hb c_g3
  have s0 : (w1).cell? ⟨g3, 0, none⟩ = some (.float .f64 x) := (hS.cell 5 (by simp)).1
  have t0 : (w1).frozen? ⟨g3, 0, none⟩ = false := (hS.cell 5 (by simp)).2
  replace hS : Bx base w [(g8, 0), (g7, 0), (g6, 0), (g5, z), (g4, y), (g3, x1)] ((w1).setCell ⟨g3, 0, none⟩ (.float .f64 x1)) := hS.set x1 hA 5 (by simp)
  replace hA : Apart base [(g8, 0), (g7, 0), (g6, 0), (g5, z), (g4, y), (g3, x1)] := Apart.of_fst (by rfl) hA
  have HS := Lib.hid (And.intro hS hA)
  clear hS hA
  go_upto_region 2 with fail
  clear s0 t0
  generalize World.setCell _ _ _ = W at *
  clear w1
  have c_g5 : W.cell? ⟨g5, 0, none⟩ = some (.float .f64 z) := (HS.out.1.cell 3 (by simp)).1
  go_wp2_with fail
  refine (DivConst_any z 4605607101106091996 z1 Hz1.out _).mono ?_
  rintro e w1 ⟨rfl, hb⟩
  have hS := HS.out.1.keep hb
  have hA := HS.out.2
  clear HS hb c_g5
  have s0 : (w1).cell? ⟨g5, 0, none⟩ = some (.float .f64 z) := (hS.cell 3 (by simp)).1
  have t0 : (w1).frozen? ⟨g5, 0, none⟩ = false := (hS.cell 3 (by simp)).2
  replace hS : Bx base w [(g8, 0), (g7, 0), (g6, 0), (g5, z1), (g4, y), (g3, x1)] ((w1).setCell ⟨g5, 0, none⟩ (.float .f64 z1)) := hS.set z1 hA 3 (by simp)
  replace hA : Apart base [(g8, 0), (g7, 0), (g6, 0), (g5, z1), (g4, y), (g3, x1)] := Apart.of_fst (by rfl) hA
  have HS := Lib.hid (And.intro hS hA)
  clear hS hA
  go_upto_region 3 with fail
  clear s0 t0
  generalize World.setCell _ _ _ = W at *
  clear w1
  have hS := HS.out.1
  have hA := HS.out.2
  clear HS
  generalize W = w1 at *
  have HS := Lib.hid (And.intro hS hA)
  clear hS hA
  go_upto_region 4 with fail
  have hS := HS.out.1
  have hA := HS.out.2
  clear HS
  generalize hW : World.alloc _ _ = W at *
  have hS2 : Bx base w [(w1.heap.size + 1 + 1, 0), (w1.heap.size + 1, 0), (w1.heap.size, 0), (g8, 0), (g7, 0), (g6, 0), (g5, z1), (g4, y), (g3, x1)] W := by
    subst hW
    have := (((hS.alloc 0 41).alloc 0 41).alloc 0 41)
    simpa using this
  have hA2 : Apart base [(w1.heap.size + 1 + 1, 0), (w1.heap.size + 1, 0), (w1.heap.size, 0), (g8, 0), (g7, 0), (g6, 0), (g5, z1), (g4, y), (g3, x1)] := by
    have := (((hA.alloc hS 0).alloc (hS.alloc 0 41) 0).alloc ((hS.alloc 0 41).alloc 0 41) 0)
    simpa using this
  have HS := Lib.hid (And.intro hS2 hA2)
  clear hS hA hS2 hA2 hW
  generalize w1.heap.size + 1 + 1 = g11 at *
  generalize w1.heap.size + 1 = g10 at *
  generalize w1.heap.size = g9 at *
  clear w1
  have q0 : (FloatKind.f64.format.order x1 4576259018578689238 == some .gt) = false := Hq0.out
  have c_g3 : W.cell? ⟨g3, 0, none⟩ = some (.float .f64 x1) := (HS.out.1.cell 8 (by simp)).1
  go_wp2_with fail
  refine (Value_any x1 _).mono ?_
  rintro e w1 ⟨rfl, hb⟩
  have hS := HS.out.1.keep hb
  have hA := HS.out.2
  clear HS hb c_g3
  have HS := Lib.hid (And.intro hS hA)
  clear hS hA
  go_upto_region 6 with fail
  generalize w1 = W at *
  clear q0
  have c_g3 : W.cell? ⟨g3, 0, none⟩ = some (.float .f64 x1) := (HS.out.1.cell 8 (by simp)).1
  go_wp2_with fail
  refine (MulConst_any x1 4651156694067819558 m0 Hm0.out _).mono ?_
  rintro e w1 ⟨rfl, hb⟩
  have hS := HS.out.1.keep hb
  have hA := HS.out.2
  clear HS hb c_g3
  have HS := Lib.hid (And.intro hS hA)
  clear hS hA
  go_wp2_with fail
  refine (AddConst_any m0 4625196817309499392 a0 Ha0.out _).mono ?_
  rintro e w2 ⟨rfl, hb⟩
  have hS := HS.out.1.keep hb
  have hA := HS.out.2
  clear HS hb 
  clear w1
  generalize w2 = w1 at *
  have HS := Lib.hid (And.intro hS hA)
  clear hS hA
  go_wp2_with fail
  refine (DivConst_any a0 4637863191261478912 f0 Hf0.out _).mono ?_
  rintro e w2 ⟨rfl, hb⟩
  have hS := HS.out.1.keep hb
  have hA := HS.out.2
  clear HS hb 
  clear w1
  generalize w2 = w1 at *
  have s0 : (w1).cell? ⟨g9, 0, none⟩ = some (.float .f64 0) := (hS.cell 2 (by simp)).1
  have t0 : (w1).frozen? ⟨g9, 0, none⟩ = false := (hS.cell 2 (by simp)).2
  replace hS : Bx base w [(g11, 0), (g10, 0), (g9, f0), (g8, 0), (g7, 0), (g6, 0), (g5, z1), (g4, y), (g3, x1)] ((w1).setCell ⟨g9, 0, none⟩ (.float .f64 f0)) := hS.set f0 hA 2 (by simp)
  replace hA : Apart base [(g11, 0), (g10, 0), (g9, f0), (g8, 0), (g7, 0), (g6, 0), (g5, z1), (g4, y), (g3, x1)] := Apart.of_fst (by rfl) hA
  have HS := Lib.hid (And.intro hS hA)
  clear hS hA
  go_upto_region 7 with fail
  clear s0 t0
  generalize World.setCell _ _ _ = W at *
  clear w1
  have q1 : (FloatKind.f64.format.order y 4576259018578689238 == some .gt) = false := Hq1.out
  have c_g4 : W.cell? ⟨g4, 0, none⟩ = some (.float .f64 y) := (HS.out.1.cell 7 (by simp)).1
  go_wp2_with fail
  refine (Value_any y _).mono ?_
  rintro e w1 ⟨rfl, hb⟩
  have hS := HS.out.1.keep hb
  have hA := HS.out.2
  clear HS hb c_g4
  have HS := Lib.hid (And.intro hS hA)
  clear hS hA
  go_upto_region 9 with fail
  generalize w1 = W at *
  clear q1
  have c_g4 : W.cell? ⟨g4, 0, none⟩ = some (.float .f64 y) := (HS.out.1.cell 7 (by simp)).1
  go_wp2_with fail
  refine (MulConst_any y 4651156694067819558 m1 Hm1.out _).mono ?_
  rintro e w1 ⟨rfl, hb⟩
  have hS := HS.out.1.keep hb
  have hA := HS.out.2
  clear HS hb c_g4
  have HS := Lib.hid (And.intro hS hA)
  clear hS hA
  go_wp2_with fail
  refine (AddConst_any m1 4625196817309499392 a1 Ha1.out _).mono ?_
  rintro e w2 ⟨rfl, hb⟩
  have hS := HS.out.1.keep hb
  have hA := HS.out.2
  clear HS hb 
  clear w1
  generalize w2 = w1 at *
  have HS := Lib.hid (And.intro hS hA)
  clear hS hA
  go_wp2_with fail
  refine (DivConst_any a1 4637863191261478912 f1 Hf1.out _).mono ?_
  rintro e w2 ⟨rfl, hb⟩
  have hS := HS.out.1.keep hb
  have hA := HS.out.2
  clear HS hb 
  clear w1
  generalize w2 = w1 at *
  have s0 : (w1).cell? ⟨g10, 0, none⟩ = some (.float .f64 0) := (hS.cell 1 (by simp)).1
  have t0 : (w1).frozen? ⟨g10, 0, none⟩ = false := (hS.cell 1 (by simp)).2
  replace hS : Bx base w [(g11, 0), (g10, f1), (g9, f0), (g8, 0), (g7, 0), (g6, 0), (g5, z1), (g4, y), (g3, x1)] ((w1).setCell ⟨g10, 0, none⟩ (.float .f64 f1)) := hS.set f1 hA 1 (by simp)
  replace hA : Apart base [(g11, 0), (g10, f1), (g9, f0), (g8, 0), (g7, 0), (g6, 0), (g5, z1), (g4, y), (g3, x1)] := Apart.of_fst (by rfl) hA
  have HS := Lib.hid (And.intro hS hA)
  clear hS hA
  go_upto_region 10 with fail
  clear s0 t0
  generalize World.setCell _ _ _ = W at *
  clear w1
  have q2 : (FloatKind.f64.format.order z1 4576259018578689238 == some .gt) = false := Hq2.out
  have c_g5 : W.cell? ⟨g5, 0, none⟩ = some (.float .f64 z1) := (HS.out.1.cell 6 (by simp)).1
  go_wp2_with fail
  refine (Value_any z1 _).mono ?_
  rintro e w1 ⟨rfl, hb⟩
  have hS := HS.out.1.keep hb
  have hA := HS.out.2
  clear HS hb c_g5
  have HS := Lib.hid (And.intro hS hA)
  clear hS hA
  go_upto_region 12 with fail
  generalize w1 = W at *
  clear q2
  have c_g5 : W.cell? ⟨g5, 0, none⟩ = some (.float .f64 z1) := (HS.out.1.cell 6 (by simp)).1
  go_wp2_with fail
  refine (MulConst_any z1 4651156694067819558 m2 Hm2.out _).mono ?_
  rintro e w1 ⟨rfl, hb⟩
  have hS := HS.out.1.keep hb
  have hA := HS.out.2
  clear HS hb c_g5
  have HS := Lib.hid (And.intro hS hA)
  clear hS hA
  go_wp2_with fail
  refine (AddConst_any m2 4625196817309499392 a2 Ha2.out _).mono ?_
  rintro e w2 ⟨rfl, hb⟩
  have hS := HS.out.1.keep hb
  have hA := HS.out.2
  clear HS hb 
  clear w1
  generalize w2 = w1 at *
  have HS := Lib.hid (And.intro hS hA)
  clear hS hA
  go_wp2_with fail
  refine (DivConst_any a2 4637863191261478912 f2 Hf2.out _).mono ?_
  rintro e w2 ⟨rfl, hb⟩
  have hS := HS.out.1.keep hb
  have hA := HS.out.2
  clear HS hb 
  clear w1
  generalize w2 = w1 at *
  have s0 : (w1).cell? ⟨g11, 0, none⟩ = some (.float .f64 0) := (hS.cell 0 (by simp)).1
  have t0 : (w1).frozen? ⟨g11, 0, none⟩ = false := (hS.cell 0 (by simp)).2
  replace hS : Bx base w [(g11, f2), (g10, f1), (g9, f0), (g8, 0), (g7, 0), (g6, 0), (g5, z1), (g4, y), (g3, x1)] ((w1).setCell ⟨g11, 0, none⟩ (.float .f64 f2)) := hS.set f2 hA 0 (by simp)
  replace hA : Apart base [(g11, f2), (g10, f1), (g9, f0), (g8, 0), (g7, 0), (g6, 0), (g5, z1), (g4, y), (g3, x1)] := Apart.of_fst (by rfl) hA
  have HS := Lib.hid (And.intro hS hA)
  clear hS hA
  go_upto_region 13 with fail
  clear s0 t0
  generalize World.setCell _ _ _ = W at *
  clear w1
  refine wp_region_plan 11 (by kernel_rfl) (by kernel_rfl) (PI base w [(g11, f2), (g10, f1), (g9, f0), (g8, 0), (g7, 0), (g6, 0), (g5, z1), (g4, y), (g3, x1)] [some 43, some 44, some 45, some 46, some 47, some 48, some 49, some 50, some 51, some 52, some 53] [] (fun i => [.agg #[.float .f64 f1], .agg #[.float .f64 p], .agg #[.float .f64 L], .agg #[.float .f64 f0], .agg #[.float .f64 f1], .agg #[.float .f64 d1], .agg #[.float .f64 A], .agg #[.float .f64 f1], .agg #[.float .f64 f2], .agg #[.float .f64 d2], .agg #[.float .f64 B]].getD i (.bool false)) _) (PI.start HS.out.1) ?_ ?_
  · intro i o b' a' w' hi ho hb he hI
    rcases (by omega : i = 0 ∨ i = 1 ∨ i = 2 ∨ i = 3 ∨ i = 4 ∨ i = 5 ∨ i = 6 ∨ i = 7 ∨ i = 8 ∨ i = 9 ∨ i = 10) with rfl | rfl | rfl | rfl | rfl | rfl | rfl | rfl | rfl | rfl | rfl
    · obtain rfl := Option.some.inj ho
      exact hI.stepQuiet hb rfl rfl rfl (op_load _ _ _ g10 f1 _ rfl ((hI.old rfl).trans rfl) (hI.bx.cell 1 (by simp)).1)
    · obtain rfl := Option.some.inj ho
      have e0 := hI.new 0 (edge he 0 (by kernel_rfl)) rfl rfl rfl (by show 43 < 54; decide)
      refine hI.stepCall hb rfl rfl rfl (op_call _ _ 63 Try.f63 _ _ _ rfl Try.func63 (by kernel_rfl) (by kernel_rfl)) ?_
      have hm : Array.map a'.eval #[.tmp 43, .const ((Value.float FloatKind.f64 4637863191261478912))] = #[.agg #[.float .f64 f1], (Value.float FloatKind.f64 4637863191261478912)] := by simp [e0, ev_const]
      rw [hm]
      exact MulConst_any f1 4637863191261478912 p Hp.out _
    · obtain rfl := Option.some.inj ho
      have e0 := hI.new 1 (edge he 1 (by kernel_rfl)) rfl rfl rfl (by show 44 < 54; decide)
      refine hI.stepCall hb rfl rfl rfl (op_call _ _ 65 Try.f65 _ _ _ rfl Try.func65 (by kernel_rfl) (by kernel_rfl)) ?_
      have hm : Array.map a'.eval #[.tmp 44, .const ((Value.float FloatKind.f64 4625196817309499392))] = #[.agg #[.float .f64 p], (Value.float FloatKind.f64 4625196817309499392)] := by simp [e0, ev_const]
      rw [hm]
      exact SubConst_any p 4625196817309499392 L HL.out _
    · obtain rfl := Option.some.inj ho
      exact hI.stepQuiet hb rfl rfl rfl (op_load _ _ _ g9 f0 _ rfl ((hI.old rfl).trans rfl) (hI.bx.cell 2 (by simp)).1)
    · obtain rfl := Option.some.inj ho
      exact hI.stepQuiet hb rfl rfl rfl (op_load _ _ _ g10 f1 _ rfl ((hI.old rfl).trans rfl) (hI.bx.cell 1 (by simp)).1)
    · obtain rfl := Option.some.inj ho
      have e0 := hI.new 3 (edge he 3 (by kernel_rfl)) rfl rfl rfl (by show 46 < 54; decide)
      have e1 := hI.new 4 (edge he 4 (by kernel_rfl)) rfl rfl rfl (by show 47 < 54; decide)
      refine hI.stepCall hb rfl rfl rfl (op_call _ _ 62 Try.f62 _ _ _ rfl Try.func62 (by kernel_rfl) (by kernel_rfl)) ?_
      have hm : Array.map a'.eval #[.tmp 46, .tmp 47] = #[.agg #[.float .f64 f0], .agg #[.float .f64 f1]] := by simp [e0, e1]
      rw [hm]
      exact Sub_any f0 f1 d1 Hd1.out _
    · obtain rfl := Option.some.inj ho
      have e0 := hI.new 5 (edge he 5 (by kernel_rfl)) rfl rfl rfl (by show 48 < 54; decide)
      refine hI.stepCall hb rfl rfl rfl (op_call _ _ 63 Try.f63 _ _ _ rfl Try.func63 (by kernel_rfl) (by kernel_rfl)) ?_
      have hm : Array.map a'.eval #[.tmp 48, .const ((Value.float FloatKind.f64 4647503709213818880))] = #[.agg #[.float .f64 d1], (Value.float FloatKind.f64 4647503709213818880)] := by simp [e0, ev_const]
      rw [hm]
      exact MulConst_any d1 4647503709213818880 A HA.out _
    · obtain rfl := Option.some.inj ho
      exact hI.stepQuiet hb rfl rfl rfl (op_load _ _ _ g10 f1 _ rfl ((hI.old rfl).trans rfl) (hI.bx.cell 1 (by simp)).1)
    · obtain rfl := Option.some.inj ho
      exact hI.stepQuiet hb rfl rfl rfl (op_load _ _ _ g11 f2 _ rfl ((hI.old rfl).trans rfl) (hI.bx.cell 0 (by simp)).1)
    · obtain rfl := Option.some.inj ho
      have e0 := hI.new 7 (edge he 7 (by kernel_rfl)) rfl rfl rfl (by show 50 < 54; decide)
      have e1 := hI.new 8 (edge he 8 (by kernel_rfl)) rfl rfl rfl (by show 51 < 54; decide)
      refine hI.stepCall hb rfl rfl rfl (op_call _ _ 62 Try.f62 _ _ _ rfl Try.func62 (by kernel_rfl) (by kernel_rfl)) ?_
      have hm : Array.map a'.eval #[.tmp 50, .tmp 51] = #[.agg #[.float .f64 f1], .agg #[.float .f64 f2]] := by simp [e0, e1]
      rw [hm]
      exact Sub_any f1 f2 d2 Hd2.out _
    · obtain rfl := Option.some.inj ho
      have e0 := hI.new 9 (edge he 9 (by kernel_rfl)) rfl rfl rfl (by show 52 < 54; decide)
      refine hI.stepCall hb rfl rfl rfl (op_call _ _ 63 Try.f63 _ _ _ rfl Try.func63 (by kernel_rfl) (by kernel_rfl)) ?_
      have hm : Array.map a'.eval #[.tmp 52, .const ((Value.float FloatKind.f64 4641240890982006784))] = #[.agg #[.float .f64 d2], (Value.float FloatKind.f64 4641240890982006784)] := by simp [e0, ev_const]
      rw [hm]
      exact MulConst_any d2 4641240890982006784 B HB.out _
  · intro b' a' w1 hb hI
    obtain ⟨ρ, rfl, hS, hC, hN⟩ := hI
    have hA := HS.out.2
    clear HS
    have p0 := hb 0 (by decide)
    have p1 := hb 1 (by decide)
    have p2 := hb 2 (by decide)
    have p3 := hb 3 (by decide)
    have p4 := hb 4 (by decide)
    have p5 := hb 5 (by decide)
    have p6 := hb 6 (by decide)
    have p7 := hb 7 (by decide)
    have p8 := hb 8 (by decide)
    have p9 := hb 9 (by decide)
    have p10 := hb 10 (by decide)
    have v0 : vals [] (fun i => [.agg #[.float .f64 f1], .agg #[.float .f64 p], .agg #[.float .f64 L], .agg #[.float .f64 f0], .agg #[.float .f64 f1], .agg #[.float .f64 d1], .agg #[.float .f64 A], .agg #[.float .f64 f1], .agg #[.float .f64 f2], .agg #[.float .f64 d2], .agg #[.float .f64 B]].getD i (.bool false)) ρ 0 = .agg #[.float .f64 f1] := rfl
    have v1 : vals [] (fun i => [.agg #[.float .f64 f1], .agg #[.float .f64 p], .agg #[.float .f64 L], .agg #[.float .f64 f0], .agg #[.float .f64 f1], .agg #[.float .f64 d1], .agg #[.float .f64 A], .agg #[.float .f64 f1], .agg #[.float .f64 f2], .agg #[.float .f64 d2], .agg #[.float .f64 B]].getD i (.bool false)) ρ 1 = .agg #[.float .f64 p] := rfl
    have v2 : vals [] (fun i => [.agg #[.float .f64 f1], .agg #[.float .f64 p], .agg #[.float .f64 L], .agg #[.float .f64 f0], .agg #[.float .f64 f1], .agg #[.float .f64 d1], .agg #[.float .f64 A], .agg #[.float .f64 f1], .agg #[.float .f64 f2], .agg #[.float .f64 d2], .agg #[.float .f64 B]].getD i (.bool false)) ρ 2 = .agg #[.float .f64 L] := rfl
    have v3 : vals [] (fun i => [.agg #[.float .f64 f1], .agg #[.float .f64 p], .agg #[.float .f64 L], .agg #[.float .f64 f0], .agg #[.float .f64 f1], .agg #[.float .f64 d1], .agg #[.float .f64 A], .agg #[.float .f64 f1], .agg #[.float .f64 f2], .agg #[.float .f64 d2], .agg #[.float .f64 B]].getD i (.bool false)) ρ 3 = .agg #[.float .f64 f0] := rfl
    have v4 : vals [] (fun i => [.agg #[.float .f64 f1], .agg #[.float .f64 p], .agg #[.float .f64 L], .agg #[.float .f64 f0], .agg #[.float .f64 f1], .agg #[.float .f64 d1], .agg #[.float .f64 A], .agg #[.float .f64 f1], .agg #[.float .f64 f2], .agg #[.float .f64 d2], .agg #[.float .f64 B]].getD i (.bool false)) ρ 4 = .agg #[.float .f64 f1] := rfl
    have v5 : vals [] (fun i => [.agg #[.float .f64 f1], .agg #[.float .f64 p], .agg #[.float .f64 L], .agg #[.float .f64 f0], .agg #[.float .f64 f1], .agg #[.float .f64 d1], .agg #[.float .f64 A], .agg #[.float .f64 f1], .agg #[.float .f64 f2], .agg #[.float .f64 d2], .agg #[.float .f64 B]].getD i (.bool false)) ρ 5 = .agg #[.float .f64 d1] := rfl
    have v6 : vals [] (fun i => [.agg #[.float .f64 f1], .agg #[.float .f64 p], .agg #[.float .f64 L], .agg #[.float .f64 f0], .agg #[.float .f64 f1], .agg #[.float .f64 d1], .agg #[.float .f64 A], .agg #[.float .f64 f1], .agg #[.float .f64 f2], .agg #[.float .f64 d2], .agg #[.float .f64 B]].getD i (.bool false)) ρ 6 = .agg #[.float .f64 A] := rfl
    have v7 : vals [] (fun i => [.agg #[.float .f64 f1], .agg #[.float .f64 p], .agg #[.float .f64 L], .agg #[.float .f64 f0], .agg #[.float .f64 f1], .agg #[.float .f64 d1], .agg #[.float .f64 A], .agg #[.float .f64 f1], .agg #[.float .f64 f2], .agg #[.float .f64 d2], .agg #[.float .f64 B]].getD i (.bool false)) ρ 7 = .agg #[.float .f64 f1] := rfl
    have v8 : vals [] (fun i => [.agg #[.float .f64 f1], .agg #[.float .f64 p], .agg #[.float .f64 L], .agg #[.float .f64 f0], .agg #[.float .f64 f1], .agg #[.float .f64 d1], .agg #[.float .f64 A], .agg #[.float .f64 f1], .agg #[.float .f64 f2], .agg #[.float .f64 d2], .agg #[.float .f64 B]].getD i (.bool false)) ρ 8 = .agg #[.float .f64 f2] := rfl
    have v9 : vals [] (fun i => [.agg #[.float .f64 f1], .agg #[.float .f64 p], .agg #[.float .f64 L], .agg #[.float .f64 f0], .agg #[.float .f64 f1], .agg #[.float .f64 d1], .agg #[.float .f64 A], .agg #[.float .f64 f1], .agg #[.float .f64 f2], .agg #[.float .f64 d2], .agg #[.float .f64 B]].getD i (.bool false)) ρ 9 = .agg #[.float .f64 d2] := rfl
    have v10 : vals [] (fun i => [.agg #[.float .f64 f1], .agg #[.float .f64 p], .agg #[.float .f64 L], .agg #[.float .f64 f0], .agg #[.float .f64 f1], .agg #[.float .f64 d1], .agg #[.float .f64 A], .agg #[.float .f64 f1], .agg #[.float .f64 f2], .agg #[.float .f64 d2], .agg #[.float .f64 B]].getD i (.bool false)) ρ 10 = .agg #[.float .f64 B] := rfl
    simp only [puts, Nat.zero_add, p0, p1, p2, p3, p4, p5, p6, p7, p8, p9, p10, v0, v1, v2, v3, v4, v5, v6, v7, v8, v9, v10, if_true, List.drop_succ_cons, List.drop_zero, Nat.reduceAdd]
    clear hb hC hN p0 p1 p2 p3 p4 p5 p6 p7 p8 p9 p10 v0 v1 v2 v3 v4 v5 v6 v7 v8 v9 v10
    clear ρ b'
    have s0 : (w1).cell? ⟨g6, 0, none⟩ = some (.float .f64 0) := (hS.cell 5 (by simp)).1
    have t0 : (w1).frozen? ⟨g6, 0, none⟩ = false := (hS.cell 5 (by simp)).2
    replace hS : Bx base w [(g11, f2), (g10, f1), (g9, f0), (g8, 0), (g7, 0), (g6, L), (g5, z1), (g4, y), (g3, x1)] ((w1).setCell ⟨g6, 0, none⟩ (.float .f64 L)) := hS.set L hA 5 (by simp)
    replace hA : Apart base [(g11, f2), (g10, f1), (g9, f0), (g8, 0), (g7, 0), (g6, L), (g5, z1), (g4, y), (g3, x1)] := Apart.of_fst (by rfl) hA
    have s1 : ((w1).setCell ⟨g6, 0, none⟩ (.float .f64 L)).cell? ⟨g7, 0, none⟩ = some (.float .f64 0) := (hS.cell 4 (by simp)).1
    have t1 : ((w1).setCell ⟨g6, 0, none⟩ (.float .f64 L)).frozen? ⟨g7, 0, none⟩ = false := (hS.cell 4 (by simp)).2
    replace hS : Bx base w [(g11, f2), (g10, f1), (g9, f0), (g8, 0), (g7, A), (g6, L), (g5, z1), (g4, y), (g3, x1)] (((w1).setCell ⟨g6, 0, none⟩ (.float .f64 L)).setCell ⟨g7, 0, none⟩ (.float .f64 A)) := hS.set A hA 4 (by simp)
    replace hA : Apart base [(g11, f2), (g10, f1), (g9, f0), (g8, 0), (g7, A), (g6, L), (g5, z1), (g4, y), (g3, x1)] := Apart.of_fst (by rfl) hA
    have s2 : (((w1).setCell ⟨g6, 0, none⟩ (.float .f64 L)).setCell ⟨g7, 0, none⟩ (.float .f64 A)).cell? ⟨g8, 0, none⟩ = some (.float .f64 0) := (hS.cell 3 (by simp)).1
    have t2 : (((w1).setCell ⟨g6, 0, none⟩ (.float .f64 L)).setCell ⟨g7, 0, none⟩ (.float .f64 A)).frozen? ⟨g8, 0, none⟩ = false := (hS.cell 3 (by simp)).2
    replace hS : Bx base w [(g11, f2), (g10, f1), (g9, f0), (g8, B), (g7, A), (g6, L), (g5, z1), (g4, y), (g3, x1)] ((((w1).setCell ⟨g6, 0, none⟩ (.float .f64 L)).setCell ⟨g7, 0, none⟩ (.float .f64 A)).setCell ⟨g8, 0, none⟩ (.float .f64 B)) := hS.set B hA 3 (by simp)
    replace hA : Apart base [(g11, f2), (g10, f1), (g9, f0), (g8, B), (g7, A), (g6, L), (g5, z1), (g4, y), (g3, x1)] := Apart.of_fst (by rfl) hA
    have HS := Lib.hid (And.intro hS hA)
    clear hS hA
    go_wp2_with fail
    clear s0 t0 s1 t1 s2 t2
    generalize World.setCell _ _ _ = W at *
    clear w1
    have c_g6 : W.cell? ⟨g6, 0, none⟩ = some (.float .f64 L) := (HS.out.1.cell 5 (by simp)).1
    have c_g7 : W.cell? ⟨g7, 0, none⟩ = some (.float .f64 A) := (HS.out.1.cell 4 (by simp)).1
    have c_g8 : W.cell? ⟨g8, 0, none⟩ = some (.float .f64 B) := (HS.out.1.cell 3 (by simp)).1
    refine bodyPost_ret (v := .tuple #[.agg #[.float .f64 L], .agg #[.float .f64 A], .agg #[.float .f64 B]]) (by simp [results, Try.results47, go_sem, c_g6, c_g7, c_g8]) rfl ⟨rfl, HS.out.1.below.2⟩
end Go.Proofs.Ytafeeebgleecfaa.Mat
