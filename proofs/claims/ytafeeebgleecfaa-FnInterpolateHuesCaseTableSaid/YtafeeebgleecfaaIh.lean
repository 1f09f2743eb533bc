/-
  interpolateHues: every way through it, told by the numbers that it reckons.
-/
import Derived.Test.YtafeeebgleecfaaPd
namespace Go.Proofs.Ytafeeebgleecfaa.Mat
open Go.ChangeShapes Go.WideShapes Go.ChangeAt Go.RowKit
open FL Pl
set_option linter.unusedVariables false
attribute [local go_sem] run_store_float
set_option maxRecDepth 100000 in
set_option maxHeartbeats 4000000 in
theorem ih0_hi (a b t qa qb fa fb ra rb p q r z d ra1 base : Nat) (w : World) (H : Hid (base = w.heap.size)) (Hqa : Hid (Ieee.double.div a 4645040803167600640 = some qa)) (Hqb : Hid (Ieee.double.div b 4645040803167600640 = some qb)) (Hfa : Hid (Finite qa ∧ floorW qa = fa)) (Hfb : Hid (Finite qb ∧ floorW qb = fb)) (Hra : Hid (Ieee.double.sub qa fa = some ra)) (Hrb : Hid (Ieee.double.sub qb fb = some rb)) (Hd : Hid (Ieee.double.sub rb ra = some d)) (Hra1 : Hid (Ieee.double.add ra 4607182418800017408 = some ra1)) (Hq1 : Hid (gtB d 4602678819172646912 = true)) (Hq2 : Hid (ltB d 13826050856027422720 = false)) (Hp : Hid (Ieee.double.sub rb ra1 = some p)) (Hq : Hid (Ieee.double.mul p t = some q)) (Hr : Hid (Ieee.double.add q ra1 = some r)) (Hz : Hid (Ieee.double.mul r 4645040803167600640 = some z)) :
    Calls Try.prog 55 #[.agg #[.float .f64 a], .agg #[.float .f64 b], .agg #[.float .f64 t], .int .u8 0] w fun e w' => e = .returned (.agg #[.float .f64 z]) ∧ Below base w w' := by
  go_enter Try.func55, Try.ntmps55
  go_upto_region 1 with fail
  generalize hW : World.alloc _ _ = W at *
  have hS : Bx base w [(w.heap.size + 1 + 1 + 1, 0), (w.heap.size + 1 + 1, t), (w.heap.size + 1, b), (w.heap.size, a)] W := by
    subst hW
    have := (((((Bx.start w).alloc a 41).alloc b 41).alloc t 41).alloc 0 41)
    rw [H.out]
    simpa using this
  have hA : Apart base [(w.heap.size + 1 + 1 + 1, 0), (w.heap.size + 1 + 1, t), (w.heap.size + 1, b), (w.heap.size, a)] := by
    rw [H.out]
    simp [Apart]; try omega
  have HS := Lib.hid (And.intro hS hA)
  clear hS hA hW H
  generalize w.heap.size + 1 + 1 + 1 = g8 at *
  generalize w.heap.size + 1 + 1 = g6 at *
  generalize w.heap.size + 1 = g5 at *
  generalize hgg : w.heap.size = g4 at *
  clear hgg
  have c_g4 : W.cell? ⟨g4, 0, none⟩ = some (.float .f64 a) := (HS.out.1.cell 3 (by simp)).1
  go_wp2_with fail
  refine (DivConst_any a 4645040803167600640 qa Hqa.out _).mono ?_
  rintro e w1 ⟨rfl, hb⟩
  have hS := HS.out.1.keep hb
  have hA := HS.out.2
  clear HS hb c_g4
  have s0 : (w1).cell? ⟨g4, 0, none⟩ = some (.float .f64 a) := (hS.cell 3 (by simp)).1
  have t0 : (w1).frozen? ⟨g4, 0, none⟩ = false := (hS.cell 3 (by simp)).2
  replace hS : Bx base w [(g8, 0), (g6, t), (g5, b), (g4, qa)] ((w1).setCell ⟨g4, 0, none⟩ (.float .f64 qa)) := hS.set qa hA 3 (by simp)
  replace hA : Apart base [(g8, 0), (g6, t), (g5, b), (g4, qa)] := Apart.of_fst (by rfl) hA
  have HS := Lib.hid (And.intro hS hA)
  clear hS hA
  go_upto_region 2 with fail
  clear s0 t0
  generalize World.setCell _ _ _ = W at *
  clear w1
  have c_g5 : W.cell? ⟨g5, 0, none⟩ = some (.float .f64 b) := (HS.out.1.cell 2 (by simp)).1
  go_wp2_with fail
  refine (DivConst_any b 4645040803167600640 qb Hqb.out _).mono ?_
  rintro e w1 ⟨rfl, hb⟩
  have hS := HS.out.1.keep hb
  have hA := HS.out.2
  clear HS hb c_g5
  have s0 : (w1).cell? ⟨g5, 0, none⟩ = some (.float .f64 b) := (hS.cell 2 (by simp)).1
  have t0 : (w1).frozen? ⟨g5, 0, none⟩ = false := (hS.cell 2 (by simp)).2
  replace hS : Bx base w [(g8, 0), (g6, t), (g5, qb), (g4, qa)] ((w1).setCell ⟨g5, 0, none⟩ (.float .f64 qb)) := hS.set qb hA 2 (by simp)
  replace hA : Apart base [(g8, 0), (g6, t), (g5, qb), (g4, qa)] := Apart.of_fst (by rfl) hA
  have HS := Lib.hid (And.intro hS hA)
  clear hS hA
  go_upto_region 3 with fail
  clear s0 t0
  generalize World.setCell _ _ _ = W at *
  clear w1
  refine wp_region_plan 4 (by kernel_rfl) (by kernel_rfl) (PI base w [(g8, 0), (g6, t), (g5, qb), (g4, qa)] [some 15, some 16, some 17, some 18] [] (fun i => [.agg #[.float .f64 qa], .agg #[.float .f64 qa], .agg #[.float .f64 fa], .agg #[.float .f64 ra]].getD i (.bool false)) _) (PI.start HS.out.1) ?_ ?_
  · intro i o b' a' w' hi ho hb he hI
    rcases (by omega : i = 0 ∨ i = 1 ∨ i = 2 ∨ i = 3) with rfl | rfl | rfl | rfl
    · obtain rfl := Option.some.inj ho
      exact hI.stepQuiet hb rfl rfl rfl (op_load _ _ _ g4 qa _ rfl ((hI.old rfl).trans rfl) (hI.bx.cell 3 (by simp)).1)
    · obtain rfl := Option.some.inj ho
      exact hI.stepQuiet hb rfl rfl rfl (op_load _ _ _ g4 qa _ rfl ((hI.old rfl).trans rfl) (hI.bx.cell 3 (by simp)).1)
    · obtain rfl := Option.some.inj ho
      have e0 := hI.new 1 (edge he 1 (by kernel_rfl)) rfl rfl rfl (by show 16 < 87; decide)
      refine hI.stepCall hb rfl rfl rfl (op_call _ _ 74 Try.f74 _ _ _ rfl Try.func74 (by kernel_rfl) (by kernel_rfl)) ?_
      have hm : Array.map a'.eval #[.tmp 16] = #[.agg #[.float .f64 qa]] := by simp [e0]
      rw [hm]
      exact Floor_as qa fa Hfa.out.1 Hfa.out.2 _
    · obtain rfl := Option.some.inj ho
      have e0 := hI.new 0 (edge he 0 (by kernel_rfl)) rfl rfl rfl (by show 15 < 87; decide)
      have e1 := hI.new 2 (edge he 2 (by kernel_rfl)) rfl rfl rfl (by show 17 < 87; decide)
      refine hI.stepCall hb rfl rfl rfl (op_call _ _ 62 Try.f62 _ _ _ rfl Try.func62 (by kernel_rfl) (by kernel_rfl)) ?_
      have hm : Array.map a'.eval #[.tmp 15, .tmp 17] = #[.agg #[.float .f64 qa], .agg #[.float .f64 fa]] := by simp [e0, e1]
      rw [hm]
      exact Sub_any qa fa ra Hra.out _
  · intro b' a' w1 hb hI
    obtain ⟨ρ, rfl, hS, hC, hN⟩ := hI
    have hA := HS.out.2
    clear HS
    have p0 := hb 0 (by decide)
    have p1 := hb 1 (by decide)
    have p2 := hb 2 (by decide)
    have p3 := hb 3 (by decide)
    have v0 : vals [] (fun i => [.agg #[.float .f64 qa], .agg #[.float .f64 qa], .agg #[.float .f64 fa], .agg #[.float .f64 ra]].getD i (.bool false)) ρ 0 = .agg #[.float .f64 qa] := rfl
    have v1 : vals [] (fun i => [.agg #[.float .f64 qa], .agg #[.float .f64 qa], .agg #[.float .f64 fa], .agg #[.float .f64 ra]].getD i (.bool false)) ρ 1 = .agg #[.float .f64 qa] := rfl
    have v2 : vals [] (fun i => [.agg #[.float .f64 qa], .agg #[.float .f64 qa], .agg #[.float .f64 fa], .agg #[.float .f64 ra]].getD i (.bool false)) ρ 2 = .agg #[.float .f64 fa] := rfl
    have v3 : vals [] (fun i => [.agg #[.float .f64 qa], .agg #[.float .f64 qa], .agg #[.float .f64 fa], .agg #[.float .f64 ra]].getD i (.bool false)) ρ 3 = .agg #[.float .f64 ra] := rfl
    simp only [puts, Nat.zero_add, p0, p1, p2, p3, v0, v1, v2, v3, if_true, List.drop_succ_cons, List.drop_zero, Nat.reduceAdd]
    clear hb hC hN p0 p1 p2 p3 v0 v1 v2 v3
    clear ρ b'
    have s0 : (w1).cell? ⟨g4, 0, none⟩ = some (.float .f64 qa) := (hS.cell 3 (by simp)).1
    have t0 : (w1).frozen? ⟨g4, 0, none⟩ = false := (hS.cell 3 (by simp)).2
    replace hS : Bx base w [(g8, 0), (g6, t), (g5, qb), (g4, ra)] ((w1).setCell ⟨g4, 0, none⟩ (.float .f64 ra)) := hS.set ra hA 3 (by simp)
    replace hA : Apart base [(g8, 0), (g6, t), (g5, qb), (g4, ra)] := Apart.of_fst (by rfl) hA
    have HS := Lib.hid (And.intro hS hA)
    clear hS hA
    go_upto_region 4 with fail
    clear s0 t0
    generalize World.setCell _ _ _ = W at *
    clear w1
    refine wp_region_plan 4 (by kernel_rfl) (by kernel_rfl) (PI base w [(g8, 0), (g6, t), (g5, qb), (g4, ra)] [some 19, some 20, some 21, some 22] [] (fun i => [.agg #[.float .f64 qb], .agg #[.float .f64 qb], .agg #[.float .f64 fb], .agg #[.float .f64 rb]].getD i (.bool false)) _) (PI.start HS.out.1) ?_ ?_
    · intro i o b' a' w' hi ho hb he hI
      rcases (by omega : i = 0 ∨ i = 1 ∨ i = 2 ∨ i = 3) with rfl | rfl | rfl | rfl
      · obtain rfl := Option.some.inj ho
        exact hI.stepQuiet hb rfl rfl rfl (op_load _ _ _ g5 qb _ rfl ((hI.old rfl).trans rfl) (hI.bx.cell 2 (by simp)).1)
      · obtain rfl := Option.some.inj ho
        exact hI.stepQuiet hb rfl rfl rfl (op_load _ _ _ g5 qb _ rfl ((hI.old rfl).trans rfl) (hI.bx.cell 2 (by simp)).1)
      · obtain rfl := Option.some.inj ho
        have e0 := hI.new 1 (edge he 1 (by kernel_rfl)) rfl rfl rfl (by show 20 < 87; decide)
        refine hI.stepCall hb rfl rfl rfl (op_call _ _ 74 Try.f74 _ _ _ rfl Try.func74 (by kernel_rfl) (by kernel_rfl)) ?_
        have hm : Array.map a'.eval #[.tmp 20] = #[.agg #[.float .f64 qb]] := by simp [e0]
        rw [hm]
        exact Floor_as qb fb Hfb.out.1 Hfb.out.2 _
      · obtain rfl := Option.some.inj ho
        have e0 := hI.new 0 (edge he 0 (by kernel_rfl)) rfl rfl rfl (by show 19 < 87; decide)
        have e1 := hI.new 2 (edge he 2 (by kernel_rfl)) rfl rfl rfl (by show 21 < 87; decide)
        refine hI.stepCall hb rfl rfl rfl (op_call _ _ 62 Try.f62 _ _ _ rfl Try.func62 (by kernel_rfl) (by kernel_rfl)) ?_
        have hm : Array.map a'.eval #[.tmp 19, .tmp 21] = #[.agg #[.float .f64 qb], .agg #[.float .f64 fb]] := by simp [e0, e1]
        rw [hm]
        exact Sub_any qb fb rb Hrb.out _
    · intro b' a' w1 hb hI
      obtain ⟨ρ, rfl, hS, hC, hN⟩ := hI
      have hA := HS.out.2
      clear HS
      have p0 := hb 0 (by decide)
      have p1 := hb 1 (by decide)
      have p2 := hb 2 (by decide)
      have p3 := hb 3 (by decide)
      have v0 : vals [] (fun i => [.agg #[.float .f64 qb], .agg #[.float .f64 qb], .agg #[.float .f64 fb], .agg #[.float .f64 rb]].getD i (.bool false)) ρ 0 = .agg #[.float .f64 qb] := rfl
      have v1 : vals [] (fun i => [.agg #[.float .f64 qb], .agg #[.float .f64 qb], .agg #[.float .f64 fb], .agg #[.float .f64 rb]].getD i (.bool false)) ρ 1 = .agg #[.float .f64 qb] := rfl
      have v2 : vals [] (fun i => [.agg #[.float .f64 qb], .agg #[.float .f64 qb], .agg #[.float .f64 fb], .agg #[.float .f64 rb]].getD i (.bool false)) ρ 2 = .agg #[.float .f64 fb] := rfl
      have v3 : vals [] (fun i => [.agg #[.float .f64 qb], .agg #[.float .f64 qb], .agg #[.float .f64 fb], .agg #[.float .f64 rb]].getD i (.bool false)) ρ 3 = .agg #[.float .f64 rb] := rfl
      simp only [puts, Nat.zero_add, p0, p1, p2, p3, v0, v1, v2, v3, if_true, List.drop_succ_cons, List.drop_zero, Nat.reduceAdd]
      clear hb hC hN p0 p1 p2 p3 v0 v1 v2 v3
      clear ρ b'
      have s0 : (w1).cell? ⟨g5, 0, none⟩ = some (.float .f64 qb) := (hS.cell 2 (by simp)).1
      have t0 : (w1).frozen? ⟨g5, 0, none⟩ = false := (hS.cell 2 (by simp)).2
      replace hS : Bx base w [(g8, 0), (g6, t), (g5, rb), (g4, ra)] ((w1).setCell ⟨g5, 0, none⟩ (.float .f64 rb)) := hS.set rb hA 2 (by simp)
      replace hA : Apart base [(g8, 0), (g6, t), (g5, rb), (g4, ra)] := Apart.of_fst (by rfl) hA
      have HS := Lib.hid (And.intro hS hA)
      clear hS hA
      go_upto_region 5 with fail
      clear s0 t0
      generalize World.setCell _ _ _ = W at *
      clear w1
      go_upto_region 6 with fail
      go_upto_region 7 with fail
      have c_g5 : W.cell? ⟨g5, 0, none⟩ = some (.float .f64 rb) := (HS.out.1.cell 2 (by simp)).1
      have c_g4 : W.cell? ⟨g4, 0, none⟩ = some (.float .f64 ra) := (HS.out.1.cell 3 (by simp)).1
      go_wp2_with fail
      refine (Sub_any rb ra d Hd.out _).mono ?_
      rintro e w1 ⟨rfl, hb⟩
      have hS := HS.out.1.keep hb
      have hA := HS.out.2
      clear HS hb c_g5 c_g4
      replace hA := hA.alloc hS d
      replace hS := hS.alloc d 41
      have HS := Lib.hid (And.intro hS hA)
      clear hS hA
      go_upto_region 8 with fail
      generalize World.alloc _ _ = W at *
      generalize w1.heap.size = g9 at *
      clear w1
      have q1 : (FloatKind.f64.format.order d 4602678819172646912 == some .gt) = true := Hq1.out
      have c_g9 : W.cell? ⟨g9, 0, none⟩ = some (.float .f64 d) := (HS.out.1.cell 0 (by simp)).1
      go_wp2_with fail
      refine (Value_any d _).mono ?_
      rintro e w1 ⟨rfl, hb⟩
      have hS := HS.out.1.keep hb
      have hA := HS.out.2
      clear HS hb c_g9
      have HS := Lib.hid (And.intro hS hA)
      clear hS hA
      go_upto_region 9 with fail
      generalize w1 = W at *
      clear q1
      have c_g4 : W.cell? ⟨g4, 0, none⟩ = some (.float .f64 ra) := (HS.out.1.cell 4 (by simp)).1
      go_wp2_with fail
      refine (AddConst_any ra 4607182418800017408 ra1 Hra1.out _).mono ?_
      rintro e w1 ⟨rfl, hb⟩
      have hS := HS.out.1.keep hb
      have hA := HS.out.2
      clear HS hb c_g4
      have s0 : (w1).cell? ⟨g4, 0, none⟩ = some (.float .f64 ra) := (hS.cell 4 (by simp)).1
      have t0 : (w1).frozen? ⟨g4, 0, none⟩ = false := (hS.cell 4 (by simp)).2
      replace hS : Bx base w [(g9, d), (g8, 0), (g6, t), (g5, rb), (g4, ra1)] ((w1).setCell ⟨g4, 0, none⟩ (.float .f64 ra1)) := hS.set ra1 hA 4 (by simp)
      replace hA : Apart base [(g9, d), (g8, 0), (g6, t), (g5, rb), (g4, ra1)] := Apart.of_fst (by rfl) hA
      have HS := Lib.hid (And.intro hS hA)
      clear hS hA
      go_upto_region 10 with fail
      clear s0 t0
      generalize World.setCell _ _ _ = W at *
      clear w1
      have q2 : (FloatKind.f64.format.order d 13826050856027422720 == some .lt) = false := Hq2.out
      have c_g9 : W.cell? ⟨g9, 0, none⟩ = some (.float .f64 d) := (HS.out.1.cell 0 (by simp)).1
      go_wp2_with fail
      refine (Value_any d _).mono ?_
      rintro e w1 ⟨rfl, hb⟩
      have hS := HS.out.1.keep hb
      have hA := HS.out.2
      clear HS hb c_g9
      have HS := Lib.hid (And.intro hS hA)
      clear hS hA
      go_upto_region 24 with fail
      generalize w1 = W at *
      clear q2
      have c_g4 : W.cell? ⟨g4, 0, none⟩ = some (.float .f64 ra1) := (HS.out.1.cell 4 (by simp)).1
      have c_g5 : W.cell? ⟨g5, 0, none⟩ = some (.float .f64 rb) := (HS.out.1.cell 3 (by simp)).1
      have c_g6 : W.cell? ⟨g6, 0, none⟩ = some (.float .f64 t) := (HS.out.1.cell 2 (by simp)).1
      go_wp2_with fail
      refine (Lerp_any ra1 rb t p q r Hp.out Hq.out Hr.out _).mono ?_
      rintro e w1 ⟨rfl, hb⟩
      have hS := HS.out.1.keep hb
      have hA := HS.out.2
      clear HS hb c_g4 c_g5 c_g6
      have HS := Lib.hid (And.intro hS hA)
      clear hS hA
      go_wp2_with fail
      refine (MulConst_any r 4645040803167600640 z Hz.out _).mono ?_
      rintro e w2 ⟨rfl, hb⟩
      have hS := HS.out.1.keep hb
      have hA := HS.out.2
      clear HS hb 
      clear w1
      generalize w2 = w1 at *
      have s0 : (w1).cell? ⟨g8, 0, none⟩ = some (.float .f64 0) := (hS.cell 1 (by simp)).1
      have t0 : (w1).frozen? ⟨g8, 0, none⟩ = false := (hS.cell 1 (by simp)).2
      replace hS : Bx base w [(g9, d), (g8, z), (g6, t), (g5, rb), (g4, ra1)] ((w1).setCell ⟨g8, 0, none⟩ (.float .f64 z)) := hS.set z hA 1 (by simp)
      replace hA : Apart base [(g9, d), (g8, z), (g6, t), (g5, rb), (g4, ra1)] := Apart.of_fst (by rfl) hA
      have HS := Lib.hid (And.intro hS hA)
      clear hS hA
      go_wp2_with fail
      clear s0 t0
      generalize World.setCell _ _ _ = W at *
      clear w1
      have c_g8 : W.cell? ⟨g8, 0, none⟩ = some (.float .f64 z) := (HS.out.1.cell 1 (by simp)).1
      refine bodyPost_ret (v := .agg #[.float .f64 z]) (by simp [results, Try.results55, go_sem, c_g8]) rfl ⟨rfl, HS.out.1.below.2⟩
set_option maxRecDepth 100000 in
set_option maxHeartbeats 4000000 in
theorem ih0_lo (a b t qa qb fa fb ra rb p q r z d rb1 base : Nat) (w : World) (H : Hid (base = w.heap.size)) (Hqa : Hid (Ieee.double.div a 4645040803167600640 = some qa)) (Hqb : Hid (Ieee.double.div b 4645040803167600640 = some qb)) (Hfa : Hid (Finite qa ∧ floorW qa = fa)) (Hfb : Hid (Finite qb ∧ floorW qb = fb)) (Hra : Hid (Ieee.double.sub qa fa = some ra)) (Hrb : Hid (Ieee.double.sub qb fb = some rb)) (Hd : Hid (Ieee.double.sub rb ra = some d)) (Hrb1 : Hid (Ieee.double.add rb 4607182418800017408 = some rb1)) (Hq1 : Hid (gtB d 4602678819172646912 = false)) (Hq2 : Hid (ltB d 13826050856027422720 = true)) (Hp : Hid (Ieee.double.sub rb1 ra = some p)) (Hq : Hid (Ieee.double.mul p t = some q)) (Hr : Hid (Ieee.double.add q ra = some r)) (Hz : Hid (Ieee.double.mul r 4645040803167600640 = some z)) :
    Calls Try.prog 55 #[.agg #[.float .f64 a], .agg #[.float .f64 b], .agg #[.float .f64 t], .int .u8 0] w fun e w' => e = .returned (.agg #[.float .f64 z]) ∧ Below base w w' := by
  go_enter Try.func55, Try.ntmps55
  go_upto_region 1 with fail
  generalize hW : World.alloc _ _ = W at *
  have hS : Bx base w [(w.heap.size + 1 + 1 + 1, 0), (w.heap.size + 1 + 1, t), (w.heap.size + 1, b), (w.heap.size, a)] W := by
    subst hW
    have := (((((Bx.start w).alloc a 41).alloc b 41).alloc t 41).alloc 0 41)
    rw [H.out]
    simpa using this
  have hA : Apart base [(w.heap.size + 1 + 1 + 1, 0), (w.heap.size + 1 + 1, t), (w.heap.size + 1, b), (w.heap.size, a)] := by
    rw [H.out]
    simp [Apart]; try omega
  have HS := Lib.hid (And.intro hS hA)
  clear hS hA hW H
  generalize w.heap.size + 1 + 1 + 1 = g8 at *
  generalize w.heap.size + 1 + 1 = g6 at *
  generalize w.heap.size + 1 = g5 at *
  generalize hgg : w.heap.size = g4 at *
  clear hgg
  have c_g4 : W.cell? ⟨g4, 0, none⟩ = some (.float .f64 a) := (HS.out.1.cell 3 (by simp)).1
  go_wp2_with fail
  refine (DivConst_any a 4645040803167600640 qa Hqa.out _).mono ?_
  rintro e w1 ⟨rfl, hb⟩
  have hS := HS.out.1.keep hb
  have hA := HS.out.2
  clear HS hb c_g4
  have s0 : (w1).cell? ⟨g4, 0, none⟩ = some (.float .f64 a) := (hS.cell 3 (by simp)).1
  have t0 : (w1).frozen? ⟨g4, 0, none⟩ = false := (hS.cell 3 (by simp)).2
  replace hS : Bx base w [(g8, 0), (g6, t), (g5, b), (g4, qa)] ((w1).setCell ⟨g4, 0, none⟩ (.float .f64 qa)) := hS.set qa hA 3 (by simp)
  replace hA : Apart base [(g8, 0), (g6, t), (g5, b), (g4, qa)] := Apart.of_fst (by rfl) hA
  have HS := Lib.hid (And.intro hS hA)
  clear hS hA
  go_upto_region 2 with fail
  clear s0 t0
  generalize World.setCell _ _ _ = W at *
  clear w1
  have c_g5 : W.cell? ⟨g5, 0, none⟩ = some (.float .f64 b) := (HS.out.1.cell 2 (by simp)).1
  go_wp2_with fail
  refine (DivConst_any b 4645040803167600640 qb Hqb.out _).mono ?_
  rintro e w1 ⟨rfl, hb⟩
  have hS := HS.out.1.keep hb
  have hA := HS.out.2
  clear HS hb c_g5
  have s0 : (w1).cell? ⟨g5, 0, none⟩ = some (.float .f64 b) := (hS.cell 2 (by simp)).1
  have t0 : (w1).frozen? ⟨g5, 0, none⟩ = false := (hS.cell 2 (by simp)).2
  replace hS : Bx base w [(g8, 0), (g6, t), (g5, qb), (g4, qa)] ((w1).setCell ⟨g5, 0, none⟩ (.float .f64 qb)) := hS.set qb hA 2 (by simp)
  replace hA : Apart base [(g8, 0), (g6, t), (g5, qb), (g4, qa)] := Apart.of_fst (by rfl) hA
  have HS := Lib.hid (And.intro hS hA)
  clear hS hA
  go_upto_region 3 with fail
  clear s0 t0
  generalize World.setCell _ _ _ = W at *
  clear w1
  refine wp_region_plan 4 (by kernel_rfl) (by kernel_rfl) (PI base w [(g8, 0), (g6, t), (g5, qb), (g4, qa)] [some 15, some 16, some 17, some 18] [] (fun i => [.agg #[.float .f64 qa], .agg #[.float .f64 qa], .agg #[.float .f64 fa], .agg #[.float .f64 ra]].getD i (.bool false)) _) (PI.start HS.out.1) ?_ ?_
  · intro i o b' a' w' hi ho hb he hI
    rcases (by omega : i = 0 ∨ i = 1 ∨ i = 2 ∨ i = 3) with rfl | rfl | rfl | rfl
    · obtain rfl := Option.some.inj ho
      exact hI.stepQuiet hb rfl rfl rfl (op_load _ _ _ g4 qa _ rfl ((hI.old rfl).trans rfl) (hI.bx.cell 3 (by simp)).1)
    · obtain rfl := Option.some.inj ho
      exact hI.stepQuiet hb rfl rfl rfl (op_load _ _ _ g4 qa _ rfl ((hI.old rfl).trans rfl) (hI.bx.cell 3 (by simp)).1)
    · obtain rfl := Option.some.inj ho
      have e0 := hI.new 1 (edge he 1 (by kernel_rfl)) rfl rfl rfl (by show 16 < 87; decide)
      refine hI.stepCall hb rfl rfl rfl (op_call _ _ 74 Try.f74 _ _ _ rfl Try.func74 (by kernel_rfl) (by kernel_rfl)) ?_
      have hm : Array.map a'.eval #[.tmp 16] = #[.agg #[.float .f64 qa]] := by simp [e0]
      rw [hm]
      exact Floor_as qa fa Hfa.out.1 Hfa.out.2 _
    · obtain rfl := Option.some.inj ho
      have e0 := hI.new 0 (edge he 0 (by kernel_rfl)) rfl rfl rfl (by show 15 < 87; decide)
      have e1 := hI.new 2 (edge he 2 (by kernel_rfl)) rfl rfl rfl (by show 17 < 87; decide)
      refine hI.stepCall hb rfl rfl rfl (op_call _ _ 62 Try.f62 _ _ _ rfl Try.func62 (by kernel_rfl) (by kernel_rfl)) ?_
      have hm : Array.map a'.eval #[.tmp 15, .tmp 17] = #[.agg #[.float .f64 qa], .agg #[.float .f64 fa]] := by simp [e0, e1]
      rw [hm]
      exact Sub_any qa fa ra Hra.out _
  · intro b' a' w1 hb hI
    obtain ⟨ρ, rfl, hS, hC, hN⟩ := hI
    have hA := HS.out.2
    clear HS
    have p0 := hb 0 (by decide)
    have p1 := hb 1 (by decide)
    have p2 := hb 2 (by decide)
    have p3 := hb 3 (by decide)
    have v0 : vals [] (fun i => [.agg #[.float .f64 qa], .agg #[.float .f64 qa], .agg #[.float .f64 fa], .agg #[.float .f64 ra]].getD i (.bool false)) ρ 0 = .agg #[.float .f64 qa] := rfl
    have v1 : vals [] (fun i => [.agg #[.float .f64 qa], .agg #[.float .f64 qa], .agg #[.float .f64 fa], .agg #[.float .f64 ra]].getD i (.bool false)) ρ 1 = .agg #[.float .f64 qa] := rfl
    have v2 : vals [] (fun i => [.agg #[.float .f64 qa], .agg #[.float .f64 qa], .agg #[.float .f64 fa], .agg #[.float .f64 ra]].getD i (.bool false)) ρ 2 = .agg #[.float .f64 fa] := rfl
    have v3 : vals [] (fun i => [.agg #[.float .f64 qa], .agg #[.float .f64 qa], .agg #[.float .f64 fa], .agg #[.float .f64 ra]].getD i (.bool false)) ρ 3 = .agg #[.float .f64 ra] := rfl
    simp only [puts, Nat.zero_add, p0, p1, p2, p3, v0, v1, v2, v3, if_true, List.drop_succ_cons, List.drop_zero, Nat.reduceAdd]
    clear hb hC hN p0 p1 p2 p3 v0 v1 v2 v3
    clear ρ b'
    have s0 : (w1).cell? ⟨g4, 0, none⟩ = some (.float .f64 qa) := (hS.cell 3 (by simp)).1
    have t0 : (w1).frozen? ⟨g4, 0, none⟩ = false := (hS.cell 3 (by simp)).2
    replace hS : Bx base w [(g8, 0), (g6, t), (g5, qb), (g4, ra)] ((w1).setCell ⟨g4, 0, none⟩ (.float .f64 ra)) := hS.set ra hA 3 (by simp)
    replace hA : Apart base [(g8, 0), (g6, t), (g5, qb), (g4, ra)] := Apart.of_fst (by rfl) hA
    have HS := Lib.hid (And.intro hS hA)
    clear hS hA
    go_upto_region 4 with fail
    clear s0 t0
    generalize World.setCell _ _ _ = W at *
    clear w1
    refine wp_region_plan 4 (by kernel_rfl) (by kernel_rfl) (PI base w [(g8, 0), (g6, t), (g5, qb), (g4, ra)] [some 19, some 20, some 21, some 22] [] (fun i => [.agg #[.float .f64 qb], .agg #[.float .f64 qb], .agg #[.float .f64 fb], .agg #[.float .f64 rb]].getD i (.bool false)) _) (PI.start HS.out.1) ?_ ?_
    · intro i o b' a' w' hi ho hb he hI
      rcases (by omega : i = 0 ∨ i = 1 ∨ i = 2 ∨ i = 3) with rfl | rfl | rfl | rfl
      · obtain rfl := Option.some.inj ho
        exact hI.stepQuiet hb rfl rfl rfl (op_load _ _ _ g5 qb _ rfl ((hI.old rfl).trans rfl) (hI.bx.cell 2 (by simp)).1)
      · obtain rfl := Option.some.inj ho
        exact hI.stepQuiet hb rfl rfl rfl (op_load _ _ _ g5 qb _ rfl ((hI.old rfl).trans rfl) (hI.bx.cell 2 (by simp)).1)
      · obtain rfl := Option.some.inj ho
        have e0 := hI.new 1 (edge he 1 (by kernel_rfl)) rfl rfl rfl (by show 20 < 87; decide)
        refine hI.stepCall hb rfl rfl rfl (op_call _ _ 74 Try.f74 _ _ _ rfl Try.func74 (by kernel_rfl) (by kernel_rfl)) ?_
        have hm : Array.map a'.eval #[.tmp 20] = #[.agg #[.float .f64 qb]] := by simp [e0]
        rw [hm]
        exact Floor_as qb fb Hfb.out.1 Hfb.out.2 _
      · obtain rfl := Option.some.inj ho
        have e0 := hI.new 0 (edge he 0 (by kernel_rfl)) rfl rfl rfl (by show 19 < 87; decide)
        have e1 := hI.new 2 (edge he 2 (by kernel_rfl)) rfl rfl rfl (by show 21 < 87; decide)
        refine hI.stepCall hb rfl rfl rfl (op_call _ _ 62 Try.f62 _ _ _ rfl Try.func62 (by kernel_rfl) (by kernel_rfl)) ?_
        have hm : Array.map a'.eval #[.tmp 19, .tmp 21] = #[.agg #[.float .f64 qb], .agg #[.float .f64 fb]] := by simp [e0, e1]
        rw [hm]
        exact Sub_any qb fb rb Hrb.out _
    · intro b' a' w1 hb hI
      obtain ⟨ρ, rfl, hS, hC, hN⟩ := hI
      have hA := HS.out.2
      clear HS
      have p0 := hb 0 (by decide)
      have p1 := hb 1 (by decide)
      have p2 := hb 2 (by decide)
      have p3 := hb 3 (by decide)
      have v0 : vals [] (fun i => [.agg #[.float .f64 qb], .agg #[.float .f64 qb], .agg #[.float .f64 fb], .agg #[.float .f64 rb]].getD i (.bool false)) ρ 0 = .agg #[.float .f64 qb] := rfl
      have v1 : vals [] (fun i => [.agg #[.float .f64 qb], .agg #[.float .f64 qb], .agg #[.float .f64 fb], .agg #[.float .f64 rb]].getD i (.bool false)) ρ 1 = .agg #[.float .f64 qb] := rfl
      have v2 : vals [] (fun i => [.agg #[.float .f64 qb], .agg #[.float .f64 qb], .agg #[.float .f64 fb], .agg #[.float .f64 rb]].getD i (.bool false)) ρ 2 = .agg #[.float .f64 fb] := rfl
      have v3 : vals [] (fun i => [.agg #[.float .f64 qb], .agg #[.float .f64 qb], .agg #[.float .f64 fb], .agg #[.float .f64 rb]].getD i (.bool false)) ρ 3 = .agg #[.float .f64 rb] := rfl
      simp only [puts, Nat.zero_add, p0, p1, p2, p3, v0, v1, v2, v3, if_true, List.drop_succ_cons, List.drop_zero, Nat.reduceAdd]
      clear hb hC hN p0 p1 p2 p3 v0 v1 v2 v3
      clear ρ b'
      have s0 : (w1).cell? ⟨g5, 0, none⟩ = some (.float .f64 qb) := (hS.cell 2 (by simp)).1
      have t0 : (w1).frozen? ⟨g5, 0, none⟩ = false := (hS.cell 2 (by simp)).2
      replace hS : Bx base w [(g8, 0), (g6, t), (g5, rb), (g4, ra)] ((w1).setCell ⟨g5, 0, none⟩ (.float .f64 rb)) := hS.set rb hA 2 (by simp)
      replace hA : Apart base [(g8, 0), (g6, t), (g5, rb), (g4, ra)] := Apart.of_fst (by rfl) hA
      have HS := Lib.hid (And.intro hS hA)
      clear hS hA
      go_upto_region 5 with fail
      clear s0 t0
      generalize World.setCell _ _ _ = W at *
      clear w1
      go_upto_region 6 with fail
      go_upto_region 7 with fail
      have c_g5 : W.cell? ⟨g5, 0, none⟩ = some (.float .f64 rb) := (HS.out.1.cell 2 (by simp)).1
      have c_g4 : W.cell? ⟨g4, 0, none⟩ = some (.float .f64 ra) := (HS.out.1.cell 3 (by simp)).1
      go_wp2_with fail
      refine (Sub_any rb ra d Hd.out _).mono ?_
      rintro e w1 ⟨rfl, hb⟩
      have hS := HS.out.1.keep hb
      have hA := HS.out.2
      clear HS hb c_g5 c_g4
      replace hA := hA.alloc hS d
      replace hS := hS.alloc d 41
      have HS := Lib.hid (And.intro hS hA)
      clear hS hA
      go_upto_region 8 with fail
      generalize World.alloc _ _ = W at *
      generalize w1.heap.size = g9 at *
      clear w1
      have q1 : (FloatKind.f64.format.order d 4602678819172646912 == some .gt) = false := Hq1.out
      have c_g9 : W.cell? ⟨g9, 0, none⟩ = some (.float .f64 d) := (HS.out.1.cell 0 (by simp)).1
      go_wp2_with fail
      refine (Value_any d _).mono ?_
      rintro e w1 ⟨rfl, hb⟩
      have hS := HS.out.1.keep hb
      have hA := HS.out.2
      clear HS hb c_g9
      have HS := Lib.hid (And.intro hS hA)
      clear hS hA
      go_upto_region 10 with fail
      generalize w1 = W at *
      clear q1
      have q2 : (FloatKind.f64.format.order d 13826050856027422720 == some .lt) = true := Hq2.out
      have c_g9 : W.cell? ⟨g9, 0, none⟩ = some (.float .f64 d) := (HS.out.1.cell 0 (by simp)).1
      go_wp2_with fail
      refine (Value_any d _).mono ?_
      rintro e w1 ⟨rfl, hb⟩
      have hS := HS.out.1.keep hb
      have hA := HS.out.2
      clear HS hb c_g9
      have HS := Lib.hid (And.intro hS hA)
      clear hS hA
      go_upto_region 11 with fail
      generalize w1 = W at *
      clear q2
      have c_g5 : W.cell? ⟨g5, 0, none⟩ = some (.float .f64 rb) := (HS.out.1.cell 3 (by simp)).1
      go_wp2_with fail
      refine (AddConst_any rb 4607182418800017408 rb1 Hrb1.out _).mono ?_
      rintro e w1 ⟨rfl, hb⟩
      have hS := HS.out.1.keep hb
      have hA := HS.out.2
      clear HS hb c_g5
      have s0 : (w1).cell? ⟨g5, 0, none⟩ = some (.float .f64 rb) := (hS.cell 3 (by simp)).1
      have t0 : (w1).frozen? ⟨g5, 0, none⟩ = false := (hS.cell 3 (by simp)).2
      replace hS : Bx base w [(g9, d), (g8, 0), (g6, t), (g5, rb1), (g4, ra)] ((w1).setCell ⟨g5, 0, none⟩ (.float .f64 rb1)) := hS.set rb1 hA 3 (by simp)
      replace hA : Apart base [(g9, d), (g8, 0), (g6, t), (g5, rb1), (g4, ra)] := Apart.of_fst (by rfl) hA
      have HS := Lib.hid (And.intro hS hA)
      clear hS hA
      go_upto_region 24 with fail
      clear s0 t0
      generalize World.setCell _ _ _ = W at *
      clear w1
      have c_g4 : W.cell? ⟨g4, 0, none⟩ = some (.float .f64 ra) := (HS.out.1.cell 4 (by simp)).1
      have c_g5 : W.cell? ⟨g5, 0, none⟩ = some (.float .f64 rb1) := (HS.out.1.cell 3 (by simp)).1
      have c_g6 : W.cell? ⟨g6, 0, none⟩ = some (.float .f64 t) := (HS.out.1.cell 2 (by simp)).1
      go_wp2_with fail
      refine (Lerp_any ra rb1 t p q r Hp.out Hq.out Hr.out _).mono ?_
      rintro e w1 ⟨rfl, hb⟩
      have hS := HS.out.1.keep hb
      have hA := HS.out.2
      clear HS hb c_g4 c_g5 c_g6
      have HS := Lib.hid (And.intro hS hA)
      clear hS hA
      go_wp2_with fail
      refine (MulConst_any r 4645040803167600640 z Hz.out _).mono ?_
      rintro e w2 ⟨rfl, hb⟩
      have hS := HS.out.1.keep hb
      have hA := HS.out.2
      clear HS hb 
      clear w1
      generalize w2 = w1 at *
      have s0 : (w1).cell? ⟨g8, 0, none⟩ = some (.float .f64 0) := (hS.cell 1 (by simp)).1
      have t0 : (w1).frozen? ⟨g8, 0, none⟩ = false := (hS.cell 1 (by simp)).2
      replace hS : Bx base w [(g9, d), (g8, z), (g6, t), (g5, rb1), (g4, ra)] ((w1).setCell ⟨g8, 0, none⟩ (.float .f64 z)) := hS.set z hA 1 (by simp)
      replace hA : Apart base [(g9, d), (g8, z), (g6, t), (g5, rb1), (g4, ra)] := Apart.of_fst (by rfl) hA
      have HS := Lib.hid (And.intro hS hA)
      clear hS hA
      go_wp2_with fail
      clear s0 t0
      generalize World.setCell _ _ _ = W at *
      clear w1
      have c_g8 : W.cell? ⟨g8, 0, none⟩ = some (.float .f64 z) := (HS.out.1.cell 1 (by simp)).1
      refine bodyPost_ret (v := .agg #[.float .f64 z]) (by simp [results, Try.results55, go_sem, c_g8]) rfl ⟨rfl, HS.out.1.below.2⟩
set_option maxRecDepth 100000 in
set_option maxHeartbeats 4000000 in
theorem ih0_no (a b t qa qb fa fb ra rb p q r z d base : Nat) (w : World) (H : Hid (base = w.heap.size)) (Hqa : Hid (Ieee.double.div a 4645040803167600640 = some qa)) (Hqb : Hid (Ieee.double.div b 4645040803167600640 = some qb)) (Hfa : Hid (Finite qa ∧ floorW qa = fa)) (Hfb : Hid (Finite qb ∧ floorW qb = fb)) (Hra : Hid (Ieee.double.sub qa fa = some ra)) (Hrb : Hid (Ieee.double.sub qb fb = some rb)) (Hd : Hid (Ieee.double.sub rb ra = some d)) (Hq1 : Hid (gtB d 4602678819172646912 = false)) (Hq2 : Hid (ltB d 13826050856027422720 = false)) (Hp : Hid (Ieee.double.sub rb ra = some p)) (Hq : Hid (Ieee.double.mul p t = some q)) (Hr : Hid (Ieee.double.add q ra = some r)) (Hz : Hid (Ieee.double.mul r 4645040803167600640 = some z)) :
    Calls Try.prog 55 #[.agg #[.float .f64 a], .agg #[.float .f64 b], .agg #[.float .f64 t], .int .u8 0] w fun e w' => e = .returned (.agg #[.float .f64 z]) ∧ Below base w w' := by
  go_enter Try.func55, Try.ntmps55
  go_upto_region 1 with fail
  generalize hW : World.alloc _ _ = W at *
  have hS : Bx base w [(w.heap.size + 1 + 1 + 1, 0), (w.heap.size + 1 + 1, t), (w.heap.size + 1, b), (w.heap.size, a)] W := by
    subst hW
    have := (((((Bx.start w).alloc a 41).alloc b 41).alloc t 41).alloc 0 41)
    rw [H.out]
    simpa using this
  have hA : Apart base [(w.heap.size + 1 + 1 + 1, 0), (w.heap.size + 1 + 1, t), (w.heap.size + 1, b), (w.heap.size, a)] := by
    rw [H.out]
    simp [Apart]; try omega
  have HS := Lib.hid (And.intro hS hA)
  clear hS hA hW H
  generalize w.heap.size + 1 + 1 + 1 = g8 at *
  generalize w.heap.size + 1 + 1 = g6 at *
  generalize w.heap.size + 1 = g5 at *
  generalize hgg : w.heap.size = g4 at *
  clear hgg
  have c_g4 : W.cell? ⟨g4, 0, none⟩ = some (.float .f64 a) := (HS.out.1.cell 3 (by simp)).1
  go_wp2_with fail
  refine (DivConst_any a 4645040803167600640 qa Hqa.out _).mono ?_
  rintro e w1 ⟨rfl, hb⟩
  have hS := HS.out.1.keep hb
  have hA := HS.out.2
  clear HS hb c_g4
  have s0 : (w1).cell? ⟨g4, 0, none⟩ = some (.float .f64 a) := (hS.cell 3 (by simp)).1
  have t0 : (w1).frozen? ⟨g4, 0, none⟩ = false := (hS.cell 3 (by simp)).2
  replace hS : Bx base w [(g8, 0), (g6, t), (g5, b), (g4, qa)] ((w1).setCell ⟨g4, 0, none⟩ (.float .f64 qa)) := hS.set qa hA 3 (by simp)
  replace hA : Apart base [(g8, 0), (g6, t), (g5, b), (g4, qa)] := Apart.of_fst (by rfl) hA
  have HS := Lib.hid (And.intro hS hA)
  clear hS hA
  go_upto_region 2 with fail
  clear s0 t0
  generalize World.setCell _ _ _ = W at *
  clear w1
  have c_g5 : W.cell? ⟨g5, 0, none⟩ = some (.float .f64 b) := (HS.out.1.cell 2 (by simp)).1
  go_wp2_with fail
  refine (DivConst_any b 4645040803167600640 qb Hqb.out _).mono ?_
  rintro e w1 ⟨rfl, hb⟩
  have hS := HS.out.1.keep hb
  have hA := HS.out.2
  clear HS hb c_g5
  have s0 : (w1).cell? ⟨g5, 0, none⟩ = some (.float .f64 b) := (hS.cell 2 (by simp)).1
  have t0 : (w1).frozen? ⟨g5, 0, none⟩ = false := (hS.cell 2 (by simp)).2
  replace hS : Bx base w [(g8, 0), (g6, t), (g5, qb), (g4, qa)] ((w1).setCell ⟨g5, 0, none⟩ (.float .f64 qb)) := hS.set qb hA 2 (by simp)
  replace hA : Apart base [(g8, 0), (g6, t), (g5, qb), (g4, qa)] := Apart.of_fst (by rfl) hA
  have HS := Lib.hid (And.intro hS hA)
  clear hS hA
  go_upto_region 3 with fail
  clear s0 t0
  generalize World.setCell _ _ _ = W at *
  clear w1
  refine wp_region_plan 4 (by kernel_rfl) (by kernel_rfl) (PI base w [(g8, 0), (g6, t), (g5, qb), (g4, qa)] [some 15, some 16, some 17, some 18] [] (fun i => [.agg #[.float .f64 qa], .agg #[.float .f64 qa], .agg #[.float .f64 fa], .agg #[.float .f64 ra]].getD i (.bool false)) _) (PI.start HS.out.1) ?_ ?_
  · intro i o b' a' w' hi ho hb he hI
    rcases (by omega : i = 0 ∨ i = 1 ∨ i = 2 ∨ i = 3) with rfl | rfl | rfl | rfl
    · obtain rfl := Option.some.inj ho
      exact hI.stepQuiet hb rfl rfl rfl (op_load _ _ _ g4 qa _ rfl ((hI.old rfl).trans rfl) (hI.bx.cell 3 (by simp)).1)
    · obtain rfl := Option.some.inj ho
      exact hI.stepQuiet hb rfl rfl rfl (op_load _ _ _ g4 qa _ rfl ((hI.old rfl).trans rfl) (hI.bx.cell 3 (by simp)).1)
    · obtain rfl := Option.some.inj ho
      have e0 := hI.new 1 (edge he 1 (by kernel_rfl)) rfl rfl rfl (by show 16 < 87; decide)
      refine hI.stepCall hb rfl rfl rfl (op_call _ _ 74 Try.f74 _ _ _ rfl Try.func74 (by kernel_rfl) (by kernel_rfl)) ?_
      have hm : Array.map a'.eval #[.tmp 16] = #[.agg #[.float .f64 qa]] := by simp [e0]
      rw [hm]
      exact Floor_as qa fa Hfa.out.1 Hfa.out.2 _
    · obtain rfl := Option.some.inj ho
      have e0 := hI.new 0 (edge he 0 (by kernel_rfl)) rfl rfl rfl (by show 15 < 87; decide)
      have e1 := hI.new 2 (edge he 2 (by kernel_rfl)) rfl rfl rfl (by show 17 < 87; decide)
      refine hI.stepCall hb rfl rfl rfl (op_call _ _ 62 Try.f62 _ _ _ rfl Try.func62 (by kernel_rfl) (by kernel_rfl)) ?_
      have hm : Array.map a'.eval #[.tmp 15, .tmp 17] = #[.agg #[.float .f64 qa], .agg #[.float .f64 fa]] := by simp [e0, e1]
      rw [hm]
      exact Sub_any qa fa ra Hra.out _
  · intro b' a' w1 hb hI
    obtain ⟨ρ, rfl, hS, hC, hN⟩ := hI
    have hA := HS.out.2
    clear HS
    have p0 := hb 0 (by decide)
    have p1 := hb 1 (by decide)
    have p2 := hb 2 (by decide)
    have p3 := hb 3 (by decide)
    have v0 : vals [] (fun i => [.agg #[.float .f64 qa], .agg #[.float .f64 qa], .agg #[.float .f64 fa], .agg #[.float .f64 ra]].getD i (.bool false)) ρ 0 = .agg #[.float .f64 qa] := rfl
    have v1 : vals [] (fun i => [.agg #[.float .f64 qa], .agg #[.float .f64 qa], .agg #[.float .f64 fa], .agg #[.float .f64 ra]].getD i (.bool false)) ρ 1 = .agg #[.float .f64 qa] := rfl
    have v2 : vals [] (fun i => [.agg #[.float .f64 qa], .agg #[.float .f64 qa], .agg #[.float .f64 fa], .agg #[.float .f64 ra]].getD i (.bool false)) ρ 2 = .agg #[.float .f64 fa] := rfl
    have v3 : vals [] (fun i => [.agg #[.float .f64 qa], .agg #[.float .f64 qa], .agg #[.float .f64 fa], .agg #[.float .f64 ra]].getD i (.bool false)) ρ 3 = .agg #[.float .f64 ra] := rfl
    simp only [puts, Nat.zero_add, p0, p1, p2, p3, v0, v1, v2, v3, if_true, List.drop_succ_cons, List.drop_zero, Nat.reduceAdd]
    clear hb hC hN p0 p1 p2 p3 v0 v1 v2 v3
    clear ρ b'
    have s0 : (w1).cell? ⟨g4, 0, none⟩ = some (.float .f64 qa) := (hS.cell 3 (by simp)).1
    have t0 : (w1).frozen? ⟨g4, 0, none⟩ = false := (hS.cell 3 (by simp)).2
    replace hS : Bx base w [(g8, 0), (g6, t), (g5, qb), (g4, ra)] ((w1).setCell ⟨g4, 0, none⟩ (.float .f64 ra)) := hS.set ra hA 3 (by simp)
    replace hA : Apart base [(g8, 0), (g6, t), (g5, qb), (g4, ra)] := Apart.of_fst (by rfl) hA
    have HS := Lib.hid (And.intro hS hA)
    clear hS hA
    go_upto_region 4 with fail
    clear s0 t0
    generalize World.setCell _ _ _ = W at *
    clear w1
    refine wp_region_plan 4 (by kernel_rfl) (by kernel_rfl) (PI base w [(g8, 0), (g6, t), (g5, qb), (g4, ra)] [some 19, some 20, some 21, some 22] [] (fun i => [.agg #[.float .f64 qb], .agg #[.float .f64 qb], .agg #[.float .f64 fb], .agg #[.float .f64 rb]].getD i (.bool false)) _) (PI.start HS.out.1) ?_ ?_
    · intro i o b' a' w' hi ho hb he hI
      rcases (by omega : i = 0 ∨ i = 1 ∨ i = 2 ∨ i = 3) with rfl | rfl | rfl | rfl
      · obtain rfl := Option.some.inj ho
        exact hI.stepQuiet hb rfl rfl rfl (op_load _ _ _ g5 qb _ rfl ((hI.old rfl).trans rfl) (hI.bx.cell 2 (by simp)).1)
      · obtain rfl := Option.some.inj ho
        exact hI.stepQuiet hb rfl rfl rfl (op_load _ _ _ g5 qb _ rfl ((hI.old rfl).trans rfl) (hI.bx.cell 2 (by simp)).1)
      · obtain rfl := Option.some.inj ho
        have e0 := hI.new 1 (edge he 1 (by kernel_rfl)) rfl rfl rfl (by show 20 < 87; decide)
        refine hI.stepCall hb rfl rfl rfl (op_call _ _ 74 Try.f74 _ _ _ rfl Try.func74 (by kernel_rfl) (by kernel_rfl)) ?_
        have hm : Array.map a'.eval #[.tmp 20] = #[.agg #[.float .f64 qb]] := by simp [e0]
        rw [hm]
        exact Floor_as qb fb Hfb.out.1 Hfb.out.2 _
      · obtain rfl := Option.some.inj ho
        have e0 := hI.new 0 (edge he 0 (by kernel_rfl)) rfl rfl rfl (by show 19 < 87; decide)
        have e1 := hI.new 2 (edge he 2 (by kernel_rfl)) rfl rfl rfl (by show 21 < 87; decide)
        refine hI.stepCall hb rfl rfl rfl (op_call _ _ 62 Try.f62 _ _ _ rfl Try.func62 (by kernel_rfl) (by kernel_rfl)) ?_
        have hm : Array.map a'.eval #[.tmp 19, .tmp 21] = #[.agg #[.float .f64 qb], .agg #[.float .f64 fb]] := by simp [e0, e1]
        rw [hm]
        exact Sub_any qb fb rb Hrb.out _
    · intro b' a' w1 hb hI
      obtain ⟨ρ, rfl, hS, hC, hN⟩ := hI
      have hA := HS.out.2
      clear HS
      have p0 := hb 0 (by decide)
      have p1 := hb 1 (by decide)
      have p2 := hb 2 (by decide)
      have p3 := hb 3 (by decide)
      have v0 : vals [] (fun i => [.agg #[.float .f64 qb], .agg #[.float .f64 qb], .agg #[.float .f64 fb], .agg #[.float .f64 rb]].getD i (.bool false)) ρ 0 = .agg #[.float .f64 qb] := rfl
      have v1 : vals [] (fun i => [.agg #[.float .f64 qb], .agg #[.float .f64 qb], .agg #[.float .f64 fb], .agg #[.float .f64 rb]].getD i (.bool false)) ρ 1 = .agg #[.float .f64 qb] := rfl
      have v2 : vals [] (fun i => [.agg #[.float .f64 qb], .agg #[.float .f64 qb], .agg #[.float .f64 fb], .agg #[.float .f64 rb]].getD i (.bool false)) ρ 2 = .agg #[.float .f64 fb] := rfl
      have v3 : vals [] (fun i => [.agg #[.float .f64 qb], .agg #[.float .f64 qb], .agg #[.float .f64 fb], .agg #[.float .f64 rb]].getD i (.bool false)) ρ 3 = .agg #[.float .f64 rb] := rfl
      simp only [puts, Nat.zero_add, p0, p1, p2, p3, v0, v1, v2, v3, if_true, List.drop_succ_cons, List.drop_zero, Nat.reduceAdd]
      clear hb hC hN p0 p1 p2 p3 v0 v1 v2 v3
      clear ρ b'
      have s0 : (w1).cell? ⟨g5, 0, none⟩ = some (.float .f64 qb) := (hS.cell 2 (by simp)).1
      have t0 : (w1).frozen? ⟨g5, 0, none⟩ = false := (hS.cell 2 (by simp)).2
      replace hS : Bx base w [(g8, 0), (g6, t), (g5, rb), (g4, ra)] ((w1).setCell ⟨g5, 0, none⟩ (.float .f64 rb)) := hS.set rb hA 2 (by simp)
      replace hA : Apart base [(g8, 0), (g6, t), (g5, rb), (g4, ra)] := Apart.of_fst (by rfl) hA
      have HS := Lib.hid (And.intro hS hA)
      clear hS hA
      go_upto_region 5 with fail
      clear s0 t0
      generalize World.setCell _ _ _ = W at *
      clear w1
      go_upto_region 6 with fail
      go_upto_region 7 with fail
      have c_g5 : W.cell? ⟨g5, 0, none⟩ = some (.float .f64 rb) := (HS.out.1.cell 2 (by simp)).1
      have c_g4 : W.cell? ⟨g4, 0, none⟩ = some (.float .f64 ra) := (HS.out.1.cell 3 (by simp)).1
      go_wp2_with fail
      refine (Sub_any rb ra d Hd.out _).mono ?_
      rintro e w1 ⟨rfl, hb⟩
      have hS := HS.out.1.keep hb
      have hA := HS.out.2
      clear HS hb c_g5 c_g4
      replace hA := hA.alloc hS d
      replace hS := hS.alloc d 41
      have HS := Lib.hid (And.intro hS hA)
      clear hS hA
      go_upto_region 8 with fail
      generalize World.alloc _ _ = W at *
      generalize w1.heap.size = g9 at *
      clear w1
      have q1 : (FloatKind.f64.format.order d 4602678819172646912 == some .gt) = false := Hq1.out
      have c_g9 : W.cell? ⟨g9, 0, none⟩ = some (.float .f64 d) := (HS.out.1.cell 0 (by simp)).1
      go_wp2_with fail
      refine (Value_any d _).mono ?_
      rintro e w1 ⟨rfl, hb⟩
      have hS := HS.out.1.keep hb
      have hA := HS.out.2
      clear HS hb c_g9
      have HS := Lib.hid (And.intro hS hA)
      clear hS hA
      go_upto_region 10 with fail
      generalize w1 = W at *
      clear q1
      have q2 : (FloatKind.f64.format.order d 13826050856027422720 == some .lt) = false := Hq2.out
      have c_g9 : W.cell? ⟨g9, 0, none⟩ = some (.float .f64 d) := (HS.out.1.cell 0 (by simp)).1
      go_wp2_with fail
      refine (Value_any d _).mono ?_
      rintro e w1 ⟨rfl, hb⟩
      have hS := HS.out.1.keep hb
      have hA := HS.out.2
      clear HS hb c_g9
      have HS := Lib.hid (And.intro hS hA)
      clear hS hA
      go_upto_region 24 with fail
      generalize w1 = W at *
      clear q2
      have c_g4 : W.cell? ⟨g4, 0, none⟩ = some (.float .f64 ra) := (HS.out.1.cell 4 (by simp)).1
      have c_g5 : W.cell? ⟨g5, 0, none⟩ = some (.float .f64 rb) := (HS.out.1.cell 3 (by simp)).1
      have c_g6 : W.cell? ⟨g6, 0, none⟩ = some (.float .f64 t) := (HS.out.1.cell 2 (by simp)).1
      go_wp2_with fail
      refine (Lerp_any ra rb t p q r Hp.out Hq.out Hr.out _).mono ?_
      rintro e w1 ⟨rfl, hb⟩
      have hS := HS.out.1.keep hb
      have hA := HS.out.2
      clear HS hb c_g4 c_g5 c_g6
      have HS := Lib.hid (And.intro hS hA)
      clear hS hA
      go_wp2_with fail
      refine (MulConst_any r 4645040803167600640 z Hz.out _).mono ?_
      rintro e w2 ⟨rfl, hb⟩
      have hS := HS.out.1.keep hb
      have hA := HS.out.2
      clear HS hb 
      clear w1
      generalize w2 = w1 at *
      have s0 : (w1).cell? ⟨g8, 0, none⟩ = some (.float .f64 0) := (hS.cell 1 (by simp)).1
      have t0 : (w1).frozen? ⟨g8, 0, none⟩ = false := (hS.cell 1 (by simp)).2
      replace hS : Bx base w [(g9, d), (g8, z), (g6, t), (g5, rb), (g4, ra)] ((w1).setCell ⟨g8, 0, none⟩ (.float .f64 z)) := hS.set z hA 1 (by simp)
      replace hA : Apart base [(g9, d), (g8, z), (g6, t), (g5, rb), (g4, ra)] := Apart.of_fst (by rfl) hA
      have HS := Lib.hid (And.intro hS hA)
      clear hS hA
      go_wp2_with fail
      clear s0 t0
      generalize World.setCell _ _ _ = W at *
      clear w1
      have c_g8 : W.cell? ⟨g8, 0, none⟩ = some (.float .f64 z) := (HS.out.1.cell 1 (by simp)).1
      refine bodyPost_ret (v := .agg #[.float .f64 z]) (by simp [results, Try.results55, go_sem, c_g8]) rfl ⟨rfl, HS.out.1.below.2⟩
set_option maxRecDepth 100000 in
set_option maxHeartbeats 4000000 in
theorem ih1_hi (a b t qa qb fa fb ra rb p q r z d ra1 base : Nat) (w : World) (H : Hid (base = w.heap.size)) (Hqa : Hid (Ieee.double.div a 4645040803167600640 = some qa)) (Hqb : Hid (Ieee.double.div b 4645040803167600640 = some qb)) (Hfa : Hid (Finite qa ∧ floorW qa = fa)) (Hfb : Hid (Finite qb ∧ floorW qb = fb)) (Hra : Hid (Ieee.double.sub qa fa = some ra)) (Hrb : Hid (Ieee.double.sub qb fb = some rb)) (Hd : Hid (Ieee.double.sub rb ra = some d)) (Hra1 : Hid (Ieee.double.add ra 4607182418800017408 = some ra1)) (Hq1 : Hid (gtB d 0 = true)) (Hq2 : Hid (ltB d 4602678819172646912 = true)) (Hq3 : Hid (gtB d 13826050856027422720 = true)) (Hq4 : Hid (leB d 0 = false)) (Hp : Hid (Ieee.double.sub rb ra1 = some p)) (Hq : Hid (Ieee.double.mul p t = some q)) (Hr : Hid (Ieee.double.add q ra1 = some r)) (Hz : Hid (Ieee.double.mul r 4645040803167600640 = some z)) :
    Calls Try.prog 55 #[.agg #[.float .f64 a], .agg #[.float .f64 b], .agg #[.float .f64 t], .int .u8 1] w fun e w' => e = .returned (.agg #[.float .f64 z]) ∧ Below base w w' := by
  go_enter Try.func55, Try.ntmps55
  go_upto_region 1 with fail
  generalize hW : World.alloc _ _ = W at *
  have hS : Bx base w [(w.heap.size + 1 + 1 + 1, 0), (w.heap.size + 1 + 1, t), (w.heap.size + 1, b), (w.heap.size, a)] W := by
    subst hW
    have := (((((Bx.start w).alloc a 41).alloc b 41).alloc t 41).alloc 0 41)
    rw [H.out]
    simpa using this
  have hA : Apart base [(w.heap.size + 1 + 1 + 1, 0), (w.heap.size + 1 + 1, t), (w.heap.size + 1, b), (w.heap.size, a)] := by
    rw [H.out]
    simp [Apart]; try omega
  have HS := Lib.hid (And.intro hS hA)
  clear hS hA hW H
  generalize w.heap.size + 1 + 1 + 1 = g8 at *
  generalize w.heap.size + 1 + 1 = g6 at *
  generalize w.heap.size + 1 = g5 at *
  generalize hgg : w.heap.size = g4 at *
  clear hgg
  have c_g4 : W.cell? ⟨g4, 0, none⟩ = some (.float .f64 a) := (HS.out.1.cell 3 (by simp)).1
  go_wp2_with fail
  refine (DivConst_any a 4645040803167600640 qa Hqa.out _).mono ?_
  rintro e w1 ⟨rfl, hb⟩
  have hS := HS.out.1.keep hb
  have hA := HS.out.2
  clear HS hb c_g4
  have s0 : (w1).cell? ⟨g4, 0, none⟩ = some (.float .f64 a) := (hS.cell 3 (by simp)).1
  have t0 : (w1).frozen? ⟨g4, 0, none⟩ = false := (hS.cell 3 (by simp)).2
  replace hS : Bx base w [(g8, 0), (g6, t), (g5, b), (g4, qa)] ((w1).setCell ⟨g4, 0, none⟩ (.float .f64 qa)) := hS.set qa hA 3 (by simp)
  replace hA : Apart base [(g8, 0), (g6, t), (g5, b), (g4, qa)] := Apart.of_fst (by rfl) hA
  have HS := Lib.hid (And.intro hS hA)
  clear hS hA
  go_upto_region 2 with fail
  clear s0 t0
  generalize World.setCell _ _ _ = W at *
  clear w1
  have c_g5 : W.cell? ⟨g5, 0, none⟩ = some (.float .f64 b) := (HS.out.1.cell 2 (by simp)).1
  go_wp2_with fail
  refine (DivConst_any b 4645040803167600640 qb Hqb.out _).mono ?_
  rintro e w1 ⟨rfl, hb⟩
  have hS := HS.out.1.keep hb
  have hA := HS.out.2
  clear HS hb c_g5
  have s0 : (w1).cell? ⟨g5, 0, none⟩ = some (.float .f64 b) := (hS.cell 2 (by simp)).1
  have t0 : (w1).frozen? ⟨g5, 0, none⟩ = false := (hS.cell 2 (by simp)).2
  replace hS : Bx base w [(g8, 0), (g6, t), (g5, qb), (g4, qa)] ((w1).setCell ⟨g5, 0, none⟩ (.float .f64 qb)) := hS.set qb hA 2 (by simp)
  replace hA : Apart base [(g8, 0), (g6, t), (g5, qb), (g4, qa)] := Apart.of_fst (by rfl) hA
  have HS := Lib.hid (And.intro hS hA)
  clear hS hA
  go_upto_region 3 with fail
  clear s0 t0
  generalize World.setCell _ _ _ = W at *
  clear w1
  refine wp_region_plan 4 (by kernel_rfl) (by kernel_rfl) (PI base w [(g8, 0), (g6, t), (g5, qb), (g4, qa)] [some 15, some 16, some 17, some 18] [] (fun i => [.agg #[.float .f64 qa], .agg #[.float .f64 qa], .agg #[.float .f64 fa], .agg #[.float .f64 ra]].getD i (.bool false)) _) (PI.start HS.out.1) ?_ ?_
  · intro i o b' a' w' hi ho hb he hI
    rcases (by omega : i = 0 ∨ i = 1 ∨ i = 2 ∨ i = 3) with rfl | rfl | rfl | rfl
    · obtain rfl := Option.some.inj ho
      exact hI.stepQuiet hb rfl rfl rfl (op_load _ _ _ g4 qa _ rfl ((hI.old rfl).trans rfl) (hI.bx.cell 3 (by simp)).1)
    · obtain rfl := Option.some.inj ho
      exact hI.stepQuiet hb rfl rfl rfl (op_load _ _ _ g4 qa _ rfl ((hI.old rfl).trans rfl) (hI.bx.cell 3 (by simp)).1)
    · obtain rfl := Option.some.inj ho
      have e0 := hI.new 1 (edge he 1 (by kernel_rfl)) rfl rfl rfl (by show 16 < 87; decide)
      refine hI.stepCall hb rfl rfl rfl (op_call _ _ 74 Try.f74 _ _ _ rfl Try.func74 (by kernel_rfl) (by kernel_rfl)) ?_
      have hm : Array.map a'.eval #[.tmp 16] = #[.agg #[.float .f64 qa]] := by simp [e0]
      rw [hm]
      exact Floor_as qa fa Hfa.out.1 Hfa.out.2 _
    · obtain rfl := Option.some.inj ho
      have e0 := hI.new 0 (edge he 0 (by kernel_rfl)) rfl rfl rfl (by show 15 < 87; decide)
      have e1 := hI.new 2 (edge he 2 (by kernel_rfl)) rfl rfl rfl (by show 17 < 87; decide)
      refine hI.stepCall hb rfl rfl rfl (op_call _ _ 62 Try.f62 _ _ _ rfl Try.func62 (by kernel_rfl) (by kernel_rfl)) ?_
      have hm : Array.map a'.eval #[.tmp 15, .tmp 17] = #[.agg #[.float .f64 qa], .agg #[.float .f64 fa]] := by simp [e0, e1]
      rw [hm]
      exact Sub_any qa fa ra Hra.out _
  · intro b' a' w1 hb hI
    obtain ⟨ρ, rfl, hS, hC, hN⟩ := hI
    have hA := HS.out.2
    clear HS
    have p0 := hb 0 (by decide)
    have p1 := hb 1 (by decide)
    have p2 := hb 2 (by decide)
    have p3 := hb 3 (by decide)
    have v0 : vals [] (fun i => [.agg #[.float .f64 qa], .agg #[.float .f64 qa], .agg #[.float .f64 fa], .agg #[.float .f64 ra]].getD i (.bool false)) ρ 0 = .agg #[.float .f64 qa] := rfl
    have v1 : vals [] (fun i => [.agg #[.float .f64 qa], .agg #[.float .f64 qa], .agg #[.float .f64 fa], .agg #[.float .f64 ra]].getD i (.bool false)) ρ 1 = .agg #[.float .f64 qa] := rfl
    have v2 : vals [] (fun i => [.agg #[.float .f64 qa], .agg #[.float .f64 qa], .agg #[.float .f64 fa], .agg #[.float .f64 ra]].getD i (.bool false)) ρ 2 = .agg #[.float .f64 fa] := rfl
    have v3 : vals [] (fun i => [.agg #[.float .f64 qa], .agg #[.float .f64 qa], .agg #[.float .f64 fa], .agg #[.float .f64 ra]].getD i (.bool false)) ρ 3 = .agg #[.float .f64 ra] := rfl
    simp only [puts, Nat.zero_add, p0, p1, p2, p3, v0, v1, v2, v3, if_true, List.drop_succ_cons, List.drop_zero, Nat.reduceAdd]
    clear hb hC hN p0 p1 p2 p3 v0 v1 v2 v3
    clear ρ b'
    have s0 : (w1).cell? ⟨g4, 0, none⟩ = some (.float .f64 qa) := (hS.cell 3 (by simp)).1
    have t0 : (w1).frozen? ⟨g4, 0, none⟩ = false := (hS.cell 3 (by simp)).2
    replace hS : Bx base w [(g8, 0), (g6, t), (g5, qb), (g4, ra)] ((w1).setCell ⟨g4, 0, none⟩ (.float .f64 ra)) := hS.set ra hA 3 (by simp)
    replace hA : Apart base [(g8, 0), (g6, t), (g5, qb), (g4, ra)] := Apart.of_fst (by rfl) hA
    have HS := Lib.hid (And.intro hS hA)
    clear hS hA
    go_upto_region 4 with fail
    clear s0 t0
    generalize World.setCell _ _ _ = W at *
    clear w1
    refine wp_region_plan 4 (by kernel_rfl) (by kernel_rfl) (PI base w [(g8, 0), (g6, t), (g5, qb), (g4, ra)] [some 19, some 20, some 21, some 22] [] (fun i => [.agg #[.float .f64 qb], .agg #[.float .f64 qb], .agg #[.float .f64 fb], .agg #[.float .f64 rb]].getD i (.bool false)) _) (PI.start HS.out.1) ?_ ?_
    · intro i o b' a' w' hi ho hb he hI
      rcases (by omega : i = 0 ∨ i = 1 ∨ i = 2 ∨ i = 3) with rfl | rfl | rfl | rfl
      · obtain rfl := Option.some.inj ho
        exact hI.stepQuiet hb rfl rfl rfl (op_load _ _ _ g5 qb _ rfl ((hI.old rfl).trans rfl) (hI.bx.cell 2 (by simp)).1)
      · obtain rfl := Option.some.inj ho
        exact hI.stepQuiet hb rfl rfl rfl (op_load _ _ _ g5 qb _ rfl ((hI.old rfl).trans rfl) (hI.bx.cell 2 (by simp)).1)
      · obtain rfl := Option.some.inj ho
        have e0 := hI.new 1 (edge he 1 (by kernel_rfl)) rfl rfl rfl (by show 20 < 87; decide)
        refine hI.stepCall hb rfl rfl rfl (op_call _ _ 74 Try.f74 _ _ _ rfl Try.func74 (by kernel_rfl) (by kernel_rfl)) ?_
        have hm : Array.map a'.eval #[.tmp 20] = #[.agg #[.float .f64 qb]] := by simp [e0]
        rw [hm]
        exact Floor_as qb fb Hfb.out.1 Hfb.out.2 _
      · obtain rfl := Option.some.inj ho
        have e0 := hI.new 0 (edge he 0 (by kernel_rfl)) rfl rfl rfl (by show 19 < 87; decide)
        have e1 := hI.new 2 (edge he 2 (by kernel_rfl)) rfl rfl rfl (by show 21 < 87; decide)
        refine hI.stepCall hb rfl rfl rfl (op_call _ _ 62 Try.f62 _ _ _ rfl Try.func62 (by kernel_rfl) (by kernel_rfl)) ?_
        have hm : Array.map a'.eval #[.tmp 19, .tmp 21] = #[.agg #[.float .f64 qb], .agg #[.float .f64 fb]] := by simp [e0, e1]
        rw [hm]
        exact Sub_any qb fb rb Hrb.out _
    · intro b' a' w1 hb hI
      obtain ⟨ρ, rfl, hS, hC, hN⟩ := hI
      have hA := HS.out.2
      clear HS
      have p0 := hb 0 (by decide)
      have p1 := hb 1 (by decide)
      have p2 := hb 2 (by decide)
      have p3 := hb 3 (by decide)
      have v0 : vals [] (fun i => [.agg #[.float .f64 qb], .agg #[.float .f64 qb], .agg #[.float .f64 fb], .agg #[.float .f64 rb]].getD i (.bool false)) ρ 0 = .agg #[.float .f64 qb] := rfl
      have v1 : vals [] (fun i => [.agg #[.float .f64 qb], .agg #[.float .f64 qb], .agg #[.float .f64 fb], .agg #[.float .f64 rb]].getD i (.bool false)) ρ 1 = .agg #[.float .f64 qb] := rfl
      have v2 : vals [] (fun i => [.agg #[.float .f64 qb], .agg #[.float .f64 qb], .agg #[.float .f64 fb], .agg #[.float .f64 rb]].getD i (.bool false)) ρ 2 = .agg #[.float .f64 fb] := rfl
      have v3 : vals [] (fun i => [.agg #[.float .f64 qb], .agg #[.float .f64 qb], .agg #[.float .f64 fb], .agg #[.float .f64 rb]].getD i (.bool false)) ρ 3 = .agg #[.float .f64 rb] := rfl
      simp only [puts, Nat.zero_add, p0, p1, p2, p3, v0, v1, v2, v3, if_true, List.drop_succ_cons, List.drop_zero, Nat.reduceAdd]
      clear hb hC hN p0 p1 p2 p3 v0 v1 v2 v3
      clear ρ b'
      have s0 : (w1).cell? ⟨g5, 0, none⟩ = some (.float .f64 qb) := (hS.cell 2 (by simp)).1
      have t0 : (w1).frozen? ⟨g5, 0, none⟩ = false := (hS.cell 2 (by simp)).2
      replace hS : Bx base w [(g8, 0), (g6, t), (g5, rb), (g4, ra)] ((w1).setCell ⟨g5, 0, none⟩ (.float .f64 rb)) := hS.set rb hA 2 (by simp)
      replace hA : Apart base [(g8, 0), (g6, t), (g5, rb), (g4, ra)] := Apart.of_fst (by rfl) hA
      have HS := Lib.hid (And.intro hS hA)
      clear hS hA
      go_upto_region 5 with fail
      clear s0 t0
      generalize World.setCell _ _ _ = W at *
      clear w1
      go_upto_region 6 with fail
      go_upto_region 12 with fail
      go_upto_region 13 with fail
      have c_g5 : W.cell? ⟨g5, 0, none⟩ = some (.float .f64 rb) := (HS.out.1.cell 2 (by simp)).1
      have c_g4 : W.cell? ⟨g4, 0, none⟩ = some (.float .f64 ra) := (HS.out.1.cell 3 (by simp)).1
      go_wp2_with fail
      refine (Sub_any rb ra d Hd.out _).mono ?_
      rintro e w1 ⟨rfl, hb⟩
      have hS := HS.out.1.keep hb
      have hA := HS.out.2
      clear HS hb c_g5 c_g4
      replace hA := hA.alloc hS d
      replace hS := hS.alloc d 41
      have HS := Lib.hid (And.intro hS hA)
      clear hS hA
      go_upto_region 14 with fail
      generalize World.alloc _ _ = W at *
      generalize w1.heap.size = g10 at *
      clear w1
      have q1 : (FloatKind.f64.format.order d 0 == some .gt) = true := Hq1.out
      have q2 : (FloatKind.f64.format.order d 4602678819172646912 == some .lt) = true := Hq2.out
      have c_g10 : W.cell? ⟨g10, 0, none⟩ = some (.float .f64 d) := (HS.out.1.cell 0 (by simp)).1
      go_wp2_with fail
      refine (Value_any d _).mono ?_
      rintro e w1 ⟨rfl, hb⟩
      have hS := HS.out.1.keep hb
      have hA := HS.out.2
      clear HS hb c_g10
      have c_g10 : w1.cell? ⟨g10, 0, none⟩ = some (.float .f64 d) := (hS.cell 0 (by simp)).1
      have HS := Lib.hid (And.intro hS hA)
      clear hS hA
      go_wp2_with fail
      refine (Value_any d _).mono ?_
      rintro e w2 ⟨rfl, hb⟩
      have hS := HS.out.1.keep hb
      have hA := HS.out.2
      clear HS hb c_g10
      clear w1
      generalize w2 = w1 at *
      have HS := Lib.hid (And.intro hS hA)
      clear hS hA
      go_upto_region 15 with fail
      generalize w1 = W at *
      clear q1 q2
      have c_g4 : W.cell? ⟨g4, 0, none⟩ = some (.float .f64 ra) := (HS.out.1.cell 4 (by simp)).1
      go_wp2_with fail
      refine (AddConst_any ra 4607182418800017408 ra1 Hra1.out _).mono ?_
      rintro e w1 ⟨rfl, hb⟩
      have hS := HS.out.1.keep hb
      have hA := HS.out.2
      clear HS hb c_g4
      have s0 : (w1).cell? ⟨g4, 0, none⟩ = some (.float .f64 ra) := (hS.cell 4 (by simp)).1
      have t0 : (w1).frozen? ⟨g4, 0, none⟩ = false := (hS.cell 4 (by simp)).2
      replace hS : Bx base w [(g10, d), (g8, 0), (g6, t), (g5, rb), (g4, ra1)] ((w1).setCell ⟨g4, 0, none⟩ (.float .f64 ra1)) := hS.set ra1 hA 4 (by simp)
      replace hA : Apart base [(g10, d), (g8, 0), (g6, t), (g5, rb), (g4, ra1)] := Apart.of_fst (by rfl) hA
      have HS := Lib.hid (And.intro hS hA)
      clear hS hA
      go_upto_region 16 with fail
      clear s0 t0
      generalize World.setCell _ _ _ = W at *
      clear w1
      have q3 : (FloatKind.f64.format.order d 13826050856027422720 == some .gt) = true := Hq3.out
      have q4 : (FloatKind.f64.format.order d 0 == some .lt || FloatKind.f64.format.order d 0 == some .eq) = false := Hq4.out
      have c_g10 : W.cell? ⟨g10, 0, none⟩ = some (.float .f64 d) := (HS.out.1.cell 0 (by simp)).1
      go_wp2_with fail
      refine (Value_any d _).mono ?_
      rintro e w1 ⟨rfl, hb⟩
      have hS := HS.out.1.keep hb
      have hA := HS.out.2
      clear HS hb c_g10
      have c_g10 : w1.cell? ⟨g10, 0, none⟩ = some (.float .f64 d) := (hS.cell 0 (by simp)).1
      have HS := Lib.hid (And.intro hS hA)
      clear hS hA
      go_wp2_with fail
      refine (Value_any d _).mono ?_
      rintro e w2 ⟨rfl, hb⟩
      have hS := HS.out.1.keep hb
      have hA := HS.out.2
      clear HS hb c_g10
      clear w1
      generalize w2 = w1 at *
      have HS := Lib.hid (And.intro hS hA)
      clear hS hA
      go_upto_region 24 with fail
      generalize w1 = W at *
      clear q3 q4
      have c_g4 : W.cell? ⟨g4, 0, none⟩ = some (.float .f64 ra1) := (HS.out.1.cell 4 (by simp)).1
      have c_g5 : W.cell? ⟨g5, 0, none⟩ = some (.float .f64 rb) := (HS.out.1.cell 3 (by simp)).1
      have c_g6 : W.cell? ⟨g6, 0, none⟩ = some (.float .f64 t) := (HS.out.1.cell 2 (by simp)).1
      go_wp2_with fail
      refine (Lerp_any ra1 rb t p q r Hp.out Hq.out Hr.out _).mono ?_
      rintro e w1 ⟨rfl, hb⟩
      have hS := HS.out.1.keep hb
      have hA := HS.out.2
      clear HS hb c_g4 c_g5 c_g6
      have HS := Lib.hid (And.intro hS hA)
      clear hS hA
      go_wp2_with fail
      refine (MulConst_any r 4645040803167600640 z Hz.out _).mono ?_
      rintro e w2 ⟨rfl, hb⟩
      have hS := HS.out.1.keep hb
      have hA := HS.out.2
      clear HS hb 
      clear w1
      generalize w2 = w1 at *
      have s0 : (w1).cell? ⟨g8, 0, none⟩ = some (.float .f64 0) := (hS.cell 1 (by simp)).1
      have t0 : (w1).frozen? ⟨g8, 0, none⟩ = false := (hS.cell 1 (by simp)).2
      replace hS : Bx base w [(g10, d), (g8, z), (g6, t), (g5, rb), (g4, ra1)] ((w1).setCell ⟨g8, 0, none⟩ (.float .f64 z)) := hS.set z hA 1 (by simp)
      replace hA : Apart base [(g10, d), (g8, z), (g6, t), (g5, rb), (g4, ra1)] := Apart.of_fst (by rfl) hA
      have HS := Lib.hid (And.intro hS hA)
      clear hS hA
      go_wp2_with fail
      clear s0 t0
      generalize World.setCell _ _ _ = W at *
      clear w1
      have c_g8 : W.cell? ⟨g8, 0, none⟩ = some (.float .f64 z) := (HS.out.1.cell 1 (by simp)).1
      refine bodyPost_ret (v := .agg #[.float .f64 z]) (by simp [results, Try.results55, go_sem, c_g8]) rfl ⟨rfl, HS.out.1.below.2⟩
set_option maxRecDepth 100000 in
set_option maxHeartbeats 4000000 in
theorem ih1_up (a b t qa qb fa fb ra rb p q r z d base : Nat) (w : World) (H : Hid (base = w.heap.size)) (Hqa : Hid (Ieee.double.div a 4645040803167600640 = some qa)) (Hqb : Hid (Ieee.double.div b 4645040803167600640 = some qb)) (Hfa : Hid (Finite qa ∧ floorW qa = fa)) (Hfb : Hid (Finite qb ∧ floorW qb = fb)) (Hra : Hid (Ieee.double.sub qa fa = some ra)) (Hrb : Hid (Ieee.double.sub qb fb = some rb)) (Hd : Hid (Ieee.double.sub rb ra = some d)) (Hq1 : Hid (gtB d 0 = true)) (Hq2 : Hid (ltB d 4602678819172646912 = false)) (Hq3 : Hid (gtB d 13826050856027422720 = true)) (Hq4 : Hid (leB d 0 = false)) (Hp : Hid (Ieee.double.sub rb ra = some p)) (Hq : Hid (Ieee.double.mul p t = some q)) (Hr : Hid (Ieee.double.add q ra = some r)) (Hz : Hid (Ieee.double.mul r 4645040803167600640 = some z)) :
    Calls Try.prog 55 #[.agg #[.float .f64 a], .agg #[.float .f64 b], .agg #[.float .f64 t], .int .u8 1] w fun e w' => e = .returned (.agg #[.float .f64 z]) ∧ Below base w w' := by
  go_enter Try.func55, Try.ntmps55
  go_upto_region 1 with fail
  generalize hW : World.alloc _ _ = W at *
  have hS : Bx base w [(w.heap.size + 1 + 1 + 1, 0), (w.heap.size + 1 + 1, t), (w.heap.size + 1, b), (w.heap.size, a)] W := by
    subst hW
    have := (((((Bx.start w).alloc a 41).alloc b 41).alloc t 41).alloc 0 41)
    rw [H.out]
    simpa using this
  have hA : Apart base [(w.heap.size + 1 + 1 + 1, 0), (w.heap.size + 1 + 1, t), (w.heap.size + 1, b), (w.heap.size, a)] := by
    rw [H.out]
    simp [Apart]; try omega
  have HS := Lib.hid (And.intro hS hA)
  clear hS hA hW H
  generalize w.heap.size + 1 + 1 + 1 = g8 at *
  generalize w.heap.size + 1 + 1 = g6 at *
  generalize w.heap.size + 1 = g5 at *
  generalize hgg : w.heap.size = g4 at *
  clear hgg
  have c_g4 : W.cell? ⟨g4, 0, none⟩ = some (.float .f64 a) := (HS.out.1.cell 3 (by simp)).1
  go_wp2_with fail
  refine (DivConst_any a 4645040803167600640 qa Hqa.out _).mono ?_
  rintro e w1 ⟨rfl, hb⟩
  have hS := HS.out.1.keep hb
  have hA := HS.out.2
  clear HS hb c_g4
  have s0 : (w1).cell? ⟨g4, 0, none⟩ = some (.float .f64 a) := (hS.cell 3 (by simp)).1
  have t0 : (w1).frozen? ⟨g4, 0, none⟩ = false := (hS.cell 3 (by simp)).2
  replace hS : Bx base w [(g8, 0), (g6, t), (g5, b), (g4, qa)] ((w1).setCell ⟨g4, 0, none⟩ (.float .f64 qa)) := hS.set qa hA 3 (by simp)
  replace hA : Apart base [(g8, 0), (g6, t), (g5, b), (g4, qa)] := Apart.of_fst (by rfl) hA
  have HS := Lib.hid (And.intro hS hA)
  clear hS hA
  go_upto_region 2 with fail
  clear s0 t0
  generalize World.setCell _ _ _ = W at *
  clear w1
  have c_g5 : W.cell? ⟨g5, 0, none⟩ = some (.float .f64 b) := (HS.out.1.cell 2 (by simp)).1
  go_wp2_with fail
  refine (DivConst_any b 4645040803167600640 qb Hqb.out _).mono ?_
  rintro e w1 ⟨rfl, hb⟩
  have hS := HS.out.1.keep hb
  have hA := HS.out.2
  clear HS hb c_g5
  have s0 : (w1).cell? ⟨g5, 0, none⟩ = some (.float .f64 b) := (hS.cell 2 (by simp)).1
  have t0 : (w1).frozen? ⟨g5, 0, none⟩ = false := (hS.cell 2 (by simp)).2
  replace hS : Bx base w [(g8, 0), (g6, t), (g5, qb), (g4, qa)] ((w1).setCell ⟨g5, 0, none⟩ (.float .f64 qb)) := hS.set qb hA 2 (by simp)
  replace hA : Apart base [(g8, 0), (g6, t), (g5, qb), (g4, qa)] := Apart.of_fst (by rfl) hA
  have HS := Lib.hid (And.intro hS hA)
  clear hS hA
  go_upto_region 3 with fail
  clear s0 t0
  generalize World.setCell _ _ _ = W at *
  clear w1
  refine wp_region_plan 4 (by kernel_rfl) (by kernel_rfl) (PI base w [(g8, 0), (g6, t), (g5, qb), (g4, qa)] [some 15, some 16, some 17, some 18] [] (fun i => [.agg #[.float .f64 qa], .agg #[.float .f64 qa], .agg #[.float .f64 fa], .agg #[.float .f64 ra]].getD i (.bool false)) _) (PI.start HS.out.1) ?_ ?_
  · intro i o b' a' w' hi ho hb he hI
    rcases (by omega : i = 0 ∨ i = 1 ∨ i = 2 ∨ i = 3) with rfl | rfl | rfl | rfl
    · obtain rfl := Option.some.inj ho
      exact hI.stepQuiet hb rfl rfl rfl (op_load _ _ _ g4 qa _ rfl ((hI.old rfl).trans rfl) (hI.bx.cell 3 (by simp)).1)
    · obtain rfl := Option.some.inj ho
      exact hI.stepQuiet hb rfl rfl rfl (op_load _ _ _ g4 qa _ rfl ((hI.old rfl).trans rfl) (hI.bx.cell 3 (by simp)).1)
    · obtain rfl := Option.some.inj ho
      have e0 := hI.new 1 (edge he 1 (by kernel_rfl)) rfl rfl rfl (by show 16 < 87; decide)
      refine hI.stepCall hb rfl rfl rfl (op_call _ _ 74 Try.f74 _ _ _ rfl Try.func74 (by kernel_rfl) (by kernel_rfl)) ?_
      have hm : Array.map a'.eval #[.tmp 16] = #[.agg #[.float .f64 qa]] := by simp [e0]
      rw [hm]
      exact Floor_as qa fa Hfa.out.1 Hfa.out.2 _
    · obtain rfl := Option.some.inj ho
      have e0 := hI.new 0 (edge he 0 (by kernel_rfl)) rfl rfl rfl (by show 15 < 87; decide)
      have e1 := hI.new 2 (edge he 2 (by kernel_rfl)) rfl rfl rfl (by show 17 < 87; decide)
      refine hI.stepCall hb rfl rfl rfl (op_call _ _ 62 Try.f62 _ _ _ rfl Try.func62 (by kernel_rfl) (by kernel_rfl)) ?_
      have hm : Array.map a'.eval #[.tmp 15, .tmp 17] = #[.agg #[.float .f64 qa], .agg #[.float .f64 fa]] := by simp [e0, e1]
      rw [hm]
      exact Sub_any qa fa ra Hra.out _
  · intro b' a' w1 hb hI
    obtain ⟨ρ, rfl, hS, hC, hN⟩ := hI
    have hA := HS.out.2
    clear HS
    have p0 := hb 0 (by decide)
    have p1 := hb 1 (by decide)
    have p2 := hb 2 (by decide)
    have p3 := hb 3 (by decide)
    have v0 : vals [] (fun i => [.agg #[.float .f64 qa], .agg #[.float .f64 qa], .agg #[.float .f64 fa], .agg #[.float .f64 ra]].getD i (.bool false)) ρ 0 = .agg #[.float .f64 qa] := rfl
    have v1 : vals [] (fun i => [.agg #[.float .f64 qa], .agg #[.float .f64 qa], .agg #[.float .f64 fa], .agg #[.float .f64 ra]].getD i (.bool false)) ρ 1 = .agg #[.float .f64 qa] := rfl
    have v2 : vals [] (fun i => [.agg #[.float .f64 qa], .agg #[.float .f64 qa], .agg #[.float .f64 fa], .agg #[.float .f64 ra]].getD i (.bool false)) ρ 2 = .agg #[.float .f64 fa] := rfl
    have v3 : vals [] (fun i => [.agg #[.float .f64 qa], .agg #[.float .f64 qa], .agg #[.float .f64 fa], .agg #[.float .f64 ra]].getD i (.bool false)) ρ 3 = .agg #[.float .f64 ra] := rfl
    simp only [puts, Nat.zero_add, p0, p1, p2, p3, v0, v1, v2, v3, if_true, List.drop_succ_cons, List.drop_zero, Nat.reduceAdd]
    clear hb hC hN p0 p1 p2 p3 v0 v1 v2 v3
    clear ρ b'
    have s0 : (w1).cell? ⟨g4, 0, none⟩ = some (.float .f64 qa) := (hS.cell 3 (by simp)).1
    have t0 : (w1).frozen? ⟨g4, 0, none⟩ = false := (hS.cell 3 (by simp)).2
    replace hS : Bx base w [(g8, 0), (g6, t), (g5, qb), (g4, ra)] ((w1).setCell ⟨g4, 0, none⟩ (.float .f64 ra)) := hS.set ra hA 3 (by simp)
    replace hA : Apart base [(g8, 0), (g6, t), (g5, qb), (g4, ra)] := Apart.of_fst (by rfl) hA
    have HS := Lib.hid (And.intro hS hA)
    clear hS hA
    go_upto_region 4 with fail
    clear s0 t0
    generalize World.setCell _ _ _ = W at *
    clear w1
    refine wp_region_plan 4 (by kernel_rfl) (by kernel_rfl) (PI base w [(g8, 0), (g6, t), (g5, qb), (g4, ra)] [some 19, some 20, some 21, some 22] [] (fun i => [.agg #[.float .f64 qb], .agg #[.float .f64 qb], .agg #[.float .f64 fb], .agg #[.float .f64 rb]].getD i (.bool false)) _) (PI.start HS.out.1) ?_ ?_
    · intro i o b' a' w' hi ho hb he hI
      rcases (by omega : i = 0 ∨ i = 1 ∨ i = 2 ∨ i = 3) with rfl | rfl | rfl | rfl
      · obtain rfl := Option.some.inj ho
        exact hI.stepQuiet hb rfl rfl rfl (op_load _ _ _ g5 qb _ rfl ((hI.old rfl).trans rfl) (hI.bx.cell 2 (by simp)).1)
      · obtain rfl := Option.some.inj ho
        exact hI.stepQuiet hb rfl rfl rfl (op_load _ _ _ g5 qb _ rfl ((hI.old rfl).trans rfl) (hI.bx.cell 2 (by simp)).1)
      · obtain rfl := Option.some.inj ho
        have e0 := hI.new 1 (edge he 1 (by kernel_rfl)) rfl rfl rfl (by show 20 < 87; decide)
        refine hI.stepCall hb rfl rfl rfl (op_call _ _ 74 Try.f74 _ _ _ rfl Try.func74 (by kernel_rfl) (by kernel_rfl)) ?_
        have hm : Array.map a'.eval #[.tmp 20] = #[.agg #[.float .f64 qb]] := by simp [e0]
        rw [hm]
        exact Floor_as qb fb Hfb.out.1 Hfb.out.2 _
      · obtain rfl := Option.some.inj ho
        have e0 := hI.new 0 (edge he 0 (by kernel_rfl)) rfl rfl rfl (by show 19 < 87; decide)
        have e1 := hI.new 2 (edge he 2 (by kernel_rfl)) rfl rfl rfl (by show 21 < 87; decide)
        refine hI.stepCall hb rfl rfl rfl (op_call _ _ 62 Try.f62 _ _ _ rfl Try.func62 (by kernel_rfl) (by kernel_rfl)) ?_
        have hm : Array.map a'.eval #[.tmp 19, .tmp 21] = #[.agg #[.float .f64 qb], .agg #[.float .f64 fb]] := by simp [e0, e1]
        rw [hm]
        exact Sub_any qb fb rb Hrb.out _
    · intro b' a' w1 hb hI
      obtain ⟨ρ, rfl, hS, hC, hN⟩ := hI
      have hA := HS.out.2
      clear HS
      have p0 := hb 0 (by decide)
      have p1 := hb 1 (by decide)
      have p2 := hb 2 (by decide)
      have p3 := hb 3 (by decide)
      have v0 : vals [] (fun i => [.agg #[.float .f64 qb], .agg #[.float .f64 qb], .agg #[.float .f64 fb], .agg #[.float .f64 rb]].getD i (.bool false)) ρ 0 = .agg #[.float .f64 qb] := rfl
      have v1 : vals [] (fun i => [.agg #[.float .f64 qb], .agg #[.float .f64 qb], .agg #[.float .f64 fb], .agg #[.float .f64 rb]].getD i (.bool false)) ρ 1 = .agg #[.float .f64 qb] := rfl
      have v2 : vals [] (fun i => [.agg #[.float .f64 qb], .agg #[.float .f64 qb], .agg #[.float .f64 fb], .agg #[.float .f64 rb]].getD i (.bool false)) ρ 2 = .agg #[.float .f64 fb] := rfl
      have v3 : vals [] (fun i => [.agg #[.float .f64 qb], .agg #[.float .f64 qb], .agg #[.float .f64 fb], .agg #[.float .f64 rb]].getD i (.bool false)) ρ 3 = .agg #[.float .f64 rb] := rfl
      simp only [puts, Nat.zero_add, p0, p1, p2, p3, v0, v1, v2, v3, if_true, List.drop_succ_cons, List.drop_zero, Nat.reduceAdd]
      clear hb hC hN p0 p1 p2 p3 v0 v1 v2 v3
      clear ρ b'
      have s0 : (w1).cell? ⟨g5, 0, none⟩ = some (.float .f64 qb) := (hS.cell 2 (by simp)).1
      have t0 : (w1).frozen? ⟨g5, 0, none⟩ = false := (hS.cell 2 (by simp)).2
      replace hS : Bx base w [(g8, 0), (g6, t), (g5, rb), (g4, ra)] ((w1).setCell ⟨g5, 0, none⟩ (.float .f64 rb)) := hS.set rb hA 2 (by simp)
      replace hA : Apart base [(g8, 0), (g6, t), (g5, rb), (g4, ra)] := Apart.of_fst (by rfl) hA
      have HS := Lib.hid (And.intro hS hA)
      clear hS hA
      go_upto_region 5 with fail
      clear s0 t0
      generalize World.setCell _ _ _ = W at *
      clear w1
      go_upto_region 6 with fail
      go_upto_region 12 with fail
      go_upto_region 13 with fail
      have c_g5 : W.cell? ⟨g5, 0, none⟩ = some (.float .f64 rb) := (HS.out.1.cell 2 (by simp)).1
      have c_g4 : W.cell? ⟨g4, 0, none⟩ = some (.float .f64 ra) := (HS.out.1.cell 3 (by simp)).1
      go_wp2_with fail
      refine (Sub_any rb ra d Hd.out _).mono ?_
      rintro e w1 ⟨rfl, hb⟩
      have hS := HS.out.1.keep hb
      have hA := HS.out.2
      clear HS hb c_g5 c_g4
      replace hA := hA.alloc hS d
      replace hS := hS.alloc d 41
      have HS := Lib.hid (And.intro hS hA)
      clear hS hA
      go_upto_region 14 with fail
      generalize World.alloc _ _ = W at *
      generalize w1.heap.size = g10 at *
      clear w1
      have q1 : (FloatKind.f64.format.order d 0 == some .gt) = true := Hq1.out
      have q2 : (FloatKind.f64.format.order d 4602678819172646912 == some .lt) = false := Hq2.out
      have c_g10 : W.cell? ⟨g10, 0, none⟩ = some (.float .f64 d) := (HS.out.1.cell 0 (by simp)).1
      go_wp2_with fail
      refine (Value_any d _).mono ?_
      rintro e w1 ⟨rfl, hb⟩
      have hS := HS.out.1.keep hb
      have hA := HS.out.2
      clear HS hb c_g10
      have c_g10 : w1.cell? ⟨g10, 0, none⟩ = some (.float .f64 d) := (hS.cell 0 (by simp)).1
      have HS := Lib.hid (And.intro hS hA)
      clear hS hA
      go_wp2_with fail
      refine (Value_any d _).mono ?_
      rintro e w2 ⟨rfl, hb⟩
      have hS := HS.out.1.keep hb
      have hA := HS.out.2
      clear HS hb c_g10
      clear w1
      generalize w2 = w1 at *
      have HS := Lib.hid (And.intro hS hA)
      clear hS hA
      go_upto_region 16 with fail
      generalize w1 = W at *
      clear q1 q2
      have q3 : (FloatKind.f64.format.order d 13826050856027422720 == some .gt) = true := Hq3.out
      have q4 : (FloatKind.f64.format.order d 0 == some .lt || FloatKind.f64.format.order d 0 == some .eq) = false := Hq4.out
      have c_g10 : W.cell? ⟨g10, 0, none⟩ = some (.float .f64 d) := (HS.out.1.cell 0 (by simp)).1
      go_wp2_with fail
      refine (Value_any d _).mono ?_
      rintro e w1 ⟨rfl, hb⟩
      have hS := HS.out.1.keep hb
      have hA := HS.out.2
      clear HS hb c_g10
      have c_g10 : w1.cell? ⟨g10, 0, none⟩ = some (.float .f64 d) := (hS.cell 0 (by simp)).1
      have HS := Lib.hid (And.intro hS hA)
      clear hS hA
      go_wp2_with fail
      refine (Value_any d _).mono ?_
      rintro e w2 ⟨rfl, hb⟩
      have hS := HS.out.1.keep hb
      have hA := HS.out.2
      clear HS hb c_g10
      clear w1
      generalize w2 = w1 at *
      have HS := Lib.hid (And.intro hS hA)
      clear hS hA
      go_upto_region 24 with fail
      generalize w1 = W at *
      clear q3 q4
      have c_g4 : W.cell? ⟨g4, 0, none⟩ = some (.float .f64 ra) := (HS.out.1.cell 4 (by simp)).1
      have c_g5 : W.cell? ⟨g5, 0, none⟩ = some (.float .f64 rb) := (HS.out.1.cell 3 (by simp)).1
      have c_g6 : W.cell? ⟨g6, 0, none⟩ = some (.float .f64 t) := (HS.out.1.cell 2 (by simp)).1
      go_wp2_with fail
      refine (Lerp_any ra rb t p q r Hp.out Hq.out Hr.out _).mono ?_
      rintro e w1 ⟨rfl, hb⟩
      have hS := HS.out.1.keep hb
      have hA := HS.out.2
      clear HS hb c_g4 c_g5 c_g6
      have HS := Lib.hid (And.intro hS hA)
      clear hS hA
      go_wp2_with fail
      refine (MulConst_any r 4645040803167600640 z Hz.out _).mono ?_
      rintro e w2 ⟨rfl, hb⟩
      have hS := HS.out.1.keep hb
      have hA := HS.out.2
      clear HS hb 
      clear w1
      generalize w2 = w1 at *
      have s0 : (w1).cell? ⟨g8, 0, none⟩ = some (.float .f64 0) := (hS.cell 1 (by simp)).1
      have t0 : (w1).frozen? ⟨g8, 0, none⟩ = false := (hS.cell 1 (by simp)).2
      replace hS : Bx base w [(g10, d), (g8, z), (g6, t), (g5, rb), (g4, ra)] ((w1).setCell ⟨g8, 0, none⟩ (.float .f64 z)) := hS.set z hA 1 (by simp)
      replace hA : Apart base [(g10, d), (g8, z), (g6, t), (g5, rb), (g4, ra)] := Apart.of_fst (by rfl) hA
      have HS := Lib.hid (And.intro hS hA)
      clear hS hA
      go_wp2_with fail
      clear s0 t0
      generalize World.setCell _ _ _ = W at *
      clear w1
      have c_g8 : W.cell? ⟨g8, 0, none⟩ = some (.float .f64 z) := (HS.out.1.cell 1 (by simp)).1
      refine bodyPost_ret (v := .agg #[.float .f64 z]) (by simp [results, Try.results55, go_sem, c_g8]) rfl ⟨rfl, HS.out.1.below.2⟩
set_option maxRecDepth 100000 in
set_option maxHeartbeats 4000000 in
theorem ih1_lo (a b t qa qb fa fb ra rb p q r z d rb1 base : Nat) (w : World) (H : Hid (base = w.heap.size)) (Hqa : Hid (Ieee.double.div a 4645040803167600640 = some qa)) (Hqb : Hid (Ieee.double.div b 4645040803167600640 = some qb)) (Hfa : Hid (Finite qa ∧ floorW qa = fa)) (Hfb : Hid (Finite qb ∧ floorW qb = fb)) (Hra : Hid (Ieee.double.sub qa fa = some ra)) (Hrb : Hid (Ieee.double.sub qb fb = some rb)) (Hd : Hid (Ieee.double.sub rb ra = some d)) (Hrb1 : Hid (Ieee.double.add rb 4607182418800017408 = some rb1)) (Hq1 : Hid (gtB d 0 = false)) (Hq3 : Hid (gtB d 13826050856027422720 = true)) (Hq4 : Hid (leB d 0 = true)) (Hp : Hid (Ieee.double.sub rb1 ra = some p)) (Hq : Hid (Ieee.double.mul p t = some q)) (Hr : Hid (Ieee.double.add q ra = some r)) (Hz : Hid (Ieee.double.mul r 4645040803167600640 = some z)) :
    Calls Try.prog 55 #[.agg #[.float .f64 a], .agg #[.float .f64 b], .agg #[.float .f64 t], .int .u8 1] w fun e w' => e = .returned (.agg #[.float .f64 z]) ∧ Below base w w' := by
  go_enter Try.func55, Try.ntmps55
  go_upto_region 1 with fail
  generalize hW : World.alloc _ _ = W at *
  have hS : Bx base w [(w.heap.size + 1 + 1 + 1, 0), (w.heap.size + 1 + 1, t), (w.heap.size + 1, b), (w.heap.size, a)] W := by
    subst hW
    have := (((((Bx.start w).alloc a 41).alloc b 41).alloc t 41).alloc 0 41)
    rw [H.out]
    simpa using this
  have hA : Apart base [(w.heap.size + 1 + 1 + 1, 0), (w.heap.size + 1 + 1, t), (w.heap.size + 1, b), (w.heap.size, a)] := by
    rw [H.out]
    simp [Apart]; try omega
  have HS := Lib.hid (And.intro hS hA)
  clear hS hA hW H
  generalize w.heap.size + 1 + 1 + 1 = g8 at *
  generalize w.heap.size + 1 + 1 = g6 at *
  generalize w.heap.size + 1 = g5 at *
  generalize hgg : w.heap.size = g4 at *
  clear hgg
  have c_g4 : W.cell? ⟨g4, 0, none⟩ = some (.float .f64 a) := (HS.out.1.cell 3 (by simp)).1
  go_wp2_with fail
  refine (DivConst_any a 4645040803167600640 qa Hqa.out _).mono ?_
  rintro e w1 ⟨rfl, hb⟩
  have hS := HS.out.1.keep hb
  have hA := HS.out.2
  clear HS hb c_g4
  have s0 : (w1).cell? ⟨g4, 0, none⟩ = some (.float .f64 a) := (hS.cell 3 (by simp)).1
  have t0 : (w1).frozen? ⟨g4, 0, none⟩ = false := (hS.cell 3 (by simp)).2
  replace hS : Bx base w [(g8, 0), (g6, t), (g5, b), (g4, qa)] ((w1).setCell ⟨g4, 0, none⟩ (.float .f64 qa)) := hS.set qa hA 3 (by simp)
  replace hA : Apart base [(g8, 0), (g6, t), (g5, b), (g4, qa)] := Apart.of_fst (by rfl) hA
  have HS := Lib.hid (And.intro hS hA)
  clear hS hA
  go_upto_region 2 with fail
  clear s0 t0
  generalize World.setCell _ _ _ = W at *
  clear w1
  have c_g5 : W.cell? ⟨g5, 0, none⟩ = some (.float .f64 b) := (HS.out.1.cell 2 (by simp)).1
  go_wp2_with fail
  refine (DivConst_any b 4645040803167600640 qb Hqb.out _).mono ?_
  rintro e w1 ⟨rfl, hb⟩
  have hS := HS.out.1.keep hb
  have hA := HS.out.2
  clear HS hb c_g5
  have s0 : (w1).cell? ⟨g5, 0, none⟩ = some (.float .f64 b) := (hS.cell 2 (by simp)).1
  have t0 : (w1).frozen? ⟨g5, 0, none⟩ = false := (hS.cell 2 (by simp)).2
  replace hS : Bx base w [(g8, 0), (g6, t), (g5, qb), (g4, qa)] ((w1).setCell ⟨g5, 0, none⟩ (.float .f64 qb)) := hS.set qb hA 2 (by simp)
  replace hA : Apart base [(g8, 0), (g6, t), (g5, qb), (g4, qa)] := Apart.of_fst (by rfl) hA
  have HS := Lib.hid (And.intro hS hA)
  clear hS hA
  go_upto_region 3 with fail
  clear s0 t0
  generalize World.setCell _ _ _ = W at *
  clear w1
  refine wp_region_plan 4 (by kernel_rfl) (by kernel_rfl) (PI base w [(g8, 0), (g6, t), (g5, qb), (g4, qa)] [some 15, some 16, some 17, some 18] [] (fun i => [.agg #[.float .f64 qa], .agg #[.float .f64 qa], .agg #[.float .f64 fa], .agg #[.float .f64 ra]].getD i (.bool false)) _) (PI.start HS.out.1) ?_ ?_
  · intro i o b' a' w' hi ho hb he hI
    rcases (by omega : i = 0 ∨ i = 1 ∨ i = 2 ∨ i = 3) with rfl | rfl | rfl | rfl
    · obtain rfl := Option.some.inj ho
      exact hI.stepQuiet hb rfl rfl rfl (op_load _ _ _ g4 qa _ rfl ((hI.old rfl).trans rfl) (hI.bx.cell 3 (by simp)).1)
    · obtain rfl := Option.some.inj ho
      exact hI.stepQuiet hb rfl rfl rfl (op_load _ _ _ g4 qa _ rfl ((hI.old rfl).trans rfl) (hI.bx.cell 3 (by simp)).1)
    · obtain rfl := Option.some.inj ho
      have e0 := hI.new 1 (edge he 1 (by kernel_rfl)) rfl rfl rfl (by show 16 < 87; decide)
      refine hI.stepCall hb rfl rfl rfl (op_call _ _ 74 Try.f74 _ _ _ rfl Try.func74 (by kernel_rfl) (by kernel_rfl)) ?_
      have hm : Array.map a'.eval #[.tmp 16] = #[.agg #[.float .f64 qa]] := by simp [e0]
      rw [hm]
      exact Floor_as qa fa Hfa.out.1 Hfa.out.2 _
    · obtain rfl := Option.some.inj ho
      have e0 := hI.new 0 (edge he 0 (by kernel_rfl)) rfl rfl rfl (by show 15 < 87; decide)
      have e1 := hI.new 2 (edge he 2 (by kernel_rfl)) rfl rfl rfl (by show 17 < 87; decide)
      refine hI.stepCall hb rfl rfl rfl (op_call _ _ 62 Try.f62 _ _ _ rfl Try.func62 (by kernel_rfl) (by kernel_rfl)) ?_
      have hm : Array.map a'.eval #[.tmp 15, .tmp 17] = #[.agg #[.float .f64 qa], .agg #[.float .f64 fa]] := by simp [e0, e1]
      rw [hm]
      exact Sub_any qa fa ra Hra.out _
  · intro b' a' w1 hb hI
    obtain ⟨ρ, rfl, hS, hC, hN⟩ := hI
    have hA := HS.out.2
    clear HS
    have p0 := hb 0 (by decide)
    have p1 := hb 1 (by decide)
    have p2 := hb 2 (by decide)
    have p3 := hb 3 (by decide)
    have v0 : vals [] (fun i => [.agg #[.float .f64 qa], .agg #[.float .f64 qa], .agg #[.float .f64 fa], .agg #[.float .f64 ra]].getD i (.bool false)) ρ 0 = .agg #[.float .f64 qa] := rfl
    have v1 : vals [] (fun i => [.agg #[.float .f64 qa], .agg #[.float .f64 qa], .agg #[.float .f64 fa], .agg #[.float .f64 ra]].getD i (.bool false)) ρ 1 = .agg #[.float .f64 qa] := rfl
    have v2 : vals [] (fun i => [.agg #[.float .f64 qa], .agg #[.float .f64 qa], .agg #[.float .f64 fa], .agg #[.float .f64 ra]].getD i (.bool false)) ρ 2 = .agg #[.float .f64 fa] := rfl
    have v3 : vals [] (fun i => [.agg #[.float .f64 qa], .agg #[.float .f64 qa], .agg #[.float .f64 fa], .agg #[.float .f64 ra]].getD i (.bool false)) ρ 3 = .agg #[.float .f64 ra] := rfl
    simp only [puts, Nat.zero_add, p0, p1, p2, p3, v0, v1, v2, v3, if_true, List.drop_succ_cons, List.drop_zero, Nat.reduceAdd]
    clear hb hC hN p0 p1 p2 p3 v0 v1 v2 v3
    clear ρ b'
    have s0 : (w1).cell? ⟨g4, 0, none⟩ = some (.float .f64 qa) := (hS.cell 3 (by simp)).1
    have t0 : (w1).frozen? ⟨g4, 0, none⟩ = false := (hS.cell 3 (by simp)).2
    replace hS : Bx base w [(g8, 0), (g6, t), (g5, qb), (g4, ra)] ((w1).setCell ⟨g4, 0, none⟩ (.float .f64 ra)) := hS.set ra hA 3 (by simp)
    replace hA : Apart base [(g8, 0), (g6, t), (g5, qb), (g4, ra)] := Apart.of_fst (by rfl) hA
    have HS := Lib.hid (And.intro hS hA)
    clear hS hA
    go_upto_region 4 with fail
    clear s0 t0
    generalize World.setCell _ _ _ = W at *
    clear w1
    refine wp_region_plan 4 (by kernel_rfl) (by kernel_rfl) (PI base w [(g8, 0), (g6, t), (g5, qb), (g4, ra)] [some 19, some 20, some 21, some 22] [] (fun i => [.agg #[.float .f64 qb], .agg #[.float .f64 qb], .agg #[.float .f64 fb], .agg #[.float .f64 rb]].getD i (.bool false)) _) (PI.start HS.out.1) ?_ ?_
    · intro i o b' a' w' hi ho hb he hI
      rcases (by omega : i = 0 ∨ i = 1 ∨ i = 2 ∨ i = 3) with rfl | rfl | rfl | rfl
      · obtain rfl := Option.some.inj ho
        exact hI.stepQuiet hb rfl rfl rfl (op_load _ _ _ g5 qb _ rfl ((hI.old rfl).trans rfl) (hI.bx.cell 2 (by simp)).1)
      · obtain rfl := Option.some.inj ho
        exact hI.stepQuiet hb rfl rfl rfl (op_load _ _ _ g5 qb _ rfl ((hI.old rfl).trans rfl) (hI.bx.cell 2 (by simp)).1)
      · obtain rfl := Option.some.inj ho
        have e0 := hI.new 1 (edge he 1 (by kernel_rfl)) rfl rfl rfl (by show 20 < 87; decide)
        refine hI.stepCall hb rfl rfl rfl (op_call _ _ 74 Try.f74 _ _ _ rfl Try.func74 (by kernel_rfl) (by kernel_rfl)) ?_
        have hm : Array.map a'.eval #[.tmp 20] = #[.agg #[.float .f64 qb]] := by simp [e0]
        rw [hm]
        exact Floor_as qb fb Hfb.out.1 Hfb.out.2 _
      · obtain rfl := Option.some.inj ho
        have e0 := hI.new 0 (edge he 0 (by kernel_rfl)) rfl rfl rfl (by show 19 < 87; decide)
        have e1 := hI.new 2 (edge he 2 (by kernel_rfl)) rfl rfl rfl (by show 21 < 87; decide)
        refine hI.stepCall hb rfl rfl rfl (op_call _ _ 62 Try.f62 _ _ _ rfl Try.func62 (by kernel_rfl) (by kernel_rfl)) ?_
        have hm : Array.map a'.eval #[.tmp 19, .tmp 21] = #[.agg #[.float .f64 qb], .agg #[.float .f64 fb]] := by simp [e0, e1]
        rw [hm]
        exact Sub_any qb fb rb Hrb.out _
    · intro b' a' w1 hb hI
      obtain ⟨ρ, rfl, hS, hC, hN⟩ := hI
      have hA := HS.out.2
      clear HS
      have p0 := hb 0 (by decide)
      have p1 := hb 1 (by decide)
      have p2 := hb 2 (by decide)
      have p3 := hb 3 (by decide)
      have v0 : vals [] (fun i => [.agg #[.float .f64 qb], .agg #[.float .f64 qb], .agg #[.float .f64 fb], .agg #[.float .f64 rb]].getD i (.bool false)) ρ 0 = .agg #[.float .f64 qb] := rfl
      have v1 : vals [] (fun i => [.agg #[.float .f64 qb], .agg #[.float .f64 qb], .agg #[.float .f64 fb], .agg #[.float .f64 rb]].getD i (.bool false)) ρ 1 = .agg #[.float .f64 qb] := rfl
      have v2 : vals [] (fun i => [.agg #[.float .f64 qb], .agg #[.float .f64 qb], .agg #[.float .f64 fb], .agg #[.float .f64 rb]].getD i (.bool false)) ρ 2 = .agg #[.float .f64 fb] := rfl
      have v3 : vals [] (fun i => [.agg #[.float .f64 qb], .agg #[.float .f64 qb], .agg #[.float .f64 fb], .agg #[.float .f64 rb]].getD i (.bool false)) ρ 3 = .agg #[.float .f64 rb] := rfl
      simp only [puts, Nat.zero_add, p0, p1, p2, p3, v0, v1, v2, v3, if_true, List.drop_succ_cons, List.drop_zero, Nat.reduceAdd]
      clear hb hC hN p0 p1 p2 p3 v0 v1 v2 v3
      clear ρ b'
      have s0 : (w1).cell? ⟨g5, 0, none⟩ = some (.float .f64 qb) := (hS.cell 2 (by simp)).1
      have t0 : (w1).frozen? ⟨g5, 0, none⟩ = false := (hS.cell 2 (by simp)).2
      replace hS : Bx base w [(g8, 0), (g6, t), (g5, rb), (g4, ra)] ((w1).setCell ⟨g5, 0, none⟩ (.float .f64 rb)) := hS.set rb hA 2 (by simp)
      replace hA : Apart base [(g8, 0), (g6, t), (g5, rb), (g4, ra)] := Apart.of_fst (by rfl) hA
      have HS := Lib.hid (And.intro hS hA)
      clear hS hA
      go_upto_region 5 with fail
      clear s0 t0
      generalize World.setCell _ _ _ = W at *
      clear w1
      go_upto_region 6 with fail
      go_upto_region 12 with fail
      go_upto_region 13 with fail
      have c_g5 : W.cell? ⟨g5, 0, none⟩ = some (.float .f64 rb) := (HS.out.1.cell 2 (by simp)).1
      have c_g4 : W.cell? ⟨g4, 0, none⟩ = some (.float .f64 ra) := (HS.out.1.cell 3 (by simp)).1
      go_wp2_with fail
      refine (Sub_any rb ra d Hd.out _).mono ?_
      rintro e w1 ⟨rfl, hb⟩
      have hS := HS.out.1.keep hb
      have hA := HS.out.2
      clear HS hb c_g5 c_g4
      replace hA := hA.alloc hS d
      replace hS := hS.alloc d 41
      have HS := Lib.hid (And.intro hS hA)
      clear hS hA
      go_upto_region 14 with fail
      generalize World.alloc _ _ = W at *
      generalize w1.heap.size = g10 at *
      clear w1
      have q1 : (FloatKind.f64.format.order d 0 == some .gt) = false := Hq1.out
      have c_g10 : W.cell? ⟨g10, 0, none⟩ = some (.float .f64 d) := (HS.out.1.cell 0 (by simp)).1
      go_wp2_with fail
      refine (Value_any d _).mono ?_
      rintro e w1 ⟨rfl, hb⟩
      have hS := HS.out.1.keep hb
      have hA := HS.out.2
      clear HS hb c_g10
      have HS := Lib.hid (And.intro hS hA)
      clear hS hA
      go_upto_region 16 with fail
      generalize w1 = W at *
      clear q1
      have q3 : (FloatKind.f64.format.order d 13826050856027422720 == some .gt) = true := Hq3.out
      have q4 : (FloatKind.f64.format.order d 0 == some .lt || FloatKind.f64.format.order d 0 == some .eq) = true := Hq4.out
      have c_g10 : W.cell? ⟨g10, 0, none⟩ = some (.float .f64 d) := (HS.out.1.cell 0 (by simp)).1
      go_wp2_with fail
      refine (Value_any d _).mono ?_
      rintro e w1 ⟨rfl, hb⟩
      have hS := HS.out.1.keep hb
      have hA := HS.out.2
      clear HS hb c_g10
      have c_g10 : w1.cell? ⟨g10, 0, none⟩ = some (.float .f64 d) := (hS.cell 0 (by simp)).1
      have HS := Lib.hid (And.intro hS hA)
      clear hS hA
      go_wp2_with fail
      refine (Value_any d _).mono ?_
      rintro e w2 ⟨rfl, hb⟩
      have hS := HS.out.1.keep hb
      have hA := HS.out.2
      clear HS hb c_g10
      clear w1
      generalize w2 = w1 at *
      have HS := Lib.hid (And.intro hS hA)
      clear hS hA
      go_upto_region 17 with fail
      generalize w1 = W at *
      clear q3 q4
      have c_g5 : W.cell? ⟨g5, 0, none⟩ = some (.float .f64 rb) := (HS.out.1.cell 3 (by simp)).1
      go_wp2_with fail
      refine (AddConst_any rb 4607182418800017408 rb1 Hrb1.out _).mono ?_
      rintro e w1 ⟨rfl, hb⟩
      have hS := HS.out.1.keep hb
      have hA := HS.out.2
      clear HS hb c_g5
      have s0 : (w1).cell? ⟨g5, 0, none⟩ = some (.float .f64 rb) := (hS.cell 3 (by simp)).1
      have t0 : (w1).frozen? ⟨g5, 0, none⟩ = false := (hS.cell 3 (by simp)).2
      replace hS : Bx base w [(g10, d), (g8, 0), (g6, t), (g5, rb1), (g4, ra)] ((w1).setCell ⟨g5, 0, none⟩ (.float .f64 rb1)) := hS.set rb1 hA 3 (by simp)
      replace hA : Apart base [(g10, d), (g8, 0), (g6, t), (g5, rb1), (g4, ra)] := Apart.of_fst (by rfl) hA
      have HS := Lib.hid (And.intro hS hA)
      clear hS hA
      go_upto_region 24 with fail
      clear s0 t0
      generalize World.setCell _ _ _ = W at *
      clear w1
      have c_g4 : W.cell? ⟨g4, 0, none⟩ = some (.float .f64 ra) := (HS.out.1.cell 4 (by simp)).1
      have c_g5 : W.cell? ⟨g5, 0, none⟩ = some (.float .f64 rb1) := (HS.out.1.cell 3 (by simp)).1
      have c_g6 : W.cell? ⟨g6, 0, none⟩ = some (.float .f64 t) := (HS.out.1.cell 2 (by simp)).1
      go_wp2_with fail
      refine (Lerp_any ra rb1 t p q r Hp.out Hq.out Hr.out _).mono ?_
      rintro e w1 ⟨rfl, hb⟩
      have hS := HS.out.1.keep hb
      have hA := HS.out.2
      clear HS hb c_g4 c_g5 c_g6
      have HS := Lib.hid (And.intro hS hA)
      clear hS hA
      go_wp2_with fail
      refine (MulConst_any r 4645040803167600640 z Hz.out _).mono ?_
      rintro e w2 ⟨rfl, hb⟩
      have hS := HS.out.1.keep hb
      have hA := HS.out.2
      clear HS hb 
      clear w1
      generalize w2 = w1 at *
      have s0 : (w1).cell? ⟨g8, 0, none⟩ = some (.float .f64 0) := (hS.cell 1 (by simp)).1
      have t0 : (w1).frozen? ⟨g8, 0, none⟩ = false := (hS.cell 1 (by simp)).2
      replace hS : Bx base w [(g10, d), (g8, z), (g6, t), (g5, rb1), (g4, ra)] ((w1).setCell ⟨g8, 0, none⟩ (.float .f64 z)) := hS.set z hA 1 (by simp)
      replace hA : Apart base [(g10, d), (g8, z), (g6, t), (g5, rb1), (g4, ra)] := Apart.of_fst (by rfl) hA
      have HS := Lib.hid (And.intro hS hA)
      clear hS hA
      go_wp2_with fail
      clear s0 t0
      generalize World.setCell _ _ _ = W at *
      clear w1
      have c_g8 : W.cell? ⟨g8, 0, none⟩ = some (.float .f64 z) := (HS.out.1.cell 1 (by simp)).1
      refine bodyPost_ret (v := .agg #[.float .f64 z]) (by simp [results, Try.results55, go_sem, c_g8]) rfl ⟨rfl, HS.out.1.below.2⟩
set_option maxRecDepth 100000 in
set_option maxHeartbeats 4000000 in
theorem ih1_dn (a b t qa qb fa fb ra rb p q r z d base : Nat) (w : World) (H : Hid (base = w.heap.size)) (Hqa : Hid (Ieee.double.div a 4645040803167600640 = some qa)) (Hqb : Hid (Ieee.double.div b 4645040803167600640 = some qb)) (Hfa : Hid (Finite qa ∧ floorW qa = fa)) (Hfb : Hid (Finite qb ∧ floorW qb = fb)) (Hra : Hid (Ieee.double.sub qa fa = some ra)) (Hrb : Hid (Ieee.double.sub qb fb = some rb)) (Hd : Hid (Ieee.double.sub rb ra = some d)) (Hq1 : Hid (gtB d 0 = false)) (Hq3 : Hid (gtB d 13826050856027422720 = false)) (Hp : Hid (Ieee.double.sub rb ra = some p)) (Hq : Hid (Ieee.double.mul p t = some q)) (Hr : Hid (Ieee.double.add q ra = some r)) (Hz : Hid (Ieee.double.mul r 4645040803167600640 = some z)) :
    Calls Try.prog 55 #[.agg #[.float .f64 a], .agg #[.float .f64 b], .agg #[.float .f64 t], .int .u8 1] w fun e w' => e = .returned (.agg #[.float .f64 z]) ∧ Below base w w' := by
  go_enter Try.func55, Try.ntmps55
  go_upto_region 1 with fail
  generalize hW : World.alloc _ _ = W at *
  have hS : Bx base w [(w.heap.size + 1 + 1 + 1, 0), (w.heap.size + 1 + 1, t), (w.heap.size + 1, b), (w.heap.size, a)] W := by
    subst hW
    have := (((((Bx.start w).alloc a 41).alloc b 41).alloc t 41).alloc 0 41)
    rw [H.out]
    simpa using this
  have hA : Apart base [(w.heap.size + 1 + 1 + 1, 0), (w.heap.size + 1 + 1, t), (w.heap.size + 1, b), (w.heap.size, a)] := by
    rw [H.out]
    simp [Apart]; try omega
  have HS := Lib.hid (And.intro hS hA)
  clear hS hA hW H
  generalize w.heap.size + 1 + 1 + 1 = g8 at *
  generalize w.heap.size + 1 + 1 = g6 at *
  generalize w.heap.size + 1 = g5 at *
  generalize hgg : w.heap.size = g4 at *
  clear hgg
  have c_g4 : W.cell? ⟨g4, 0, none⟩ = some (.float .f64 a) := (HS.out.1.cell 3 (by simp)).1
  go_wp2_with fail
  refine (DivConst_any a 4645040803167600640 qa Hqa.out _).mono ?_
  rintro e w1 ⟨rfl, hb⟩
  have hS := HS.out.1.keep hb
  have hA := HS.out.2
  clear HS hb c_g4
  have s0 : (w1).cell? ⟨g4, 0, none⟩ = some (.float .f64 a) := (hS.cell 3 (by simp)).1
  have t0 : (w1).frozen? ⟨g4, 0, none⟩ = false := (hS.cell 3 (by simp)).2
  replace hS : Bx base w [(g8, 0), (g6, t), (g5, b), (g4, qa)] ((w1).setCell ⟨g4, 0, none⟩ (.float .f64 qa)) := hS.set qa hA 3 (by simp)
  replace hA : Apart base [(g8, 0), (g6, t), (g5, b), (g4, qa)] := Apart.of_fst (by rfl) hA
  have HS := Lib.hid (And.intro hS hA)
  clear hS hA
  go_upto_region 2 with fail
  clear s0 t0
  generalize World.setCell _ _ _ = W at *
  clear w1
  have c_g5 : W.cell? ⟨g5, 0, none⟩ = some (.float .f64 b) := (HS.out.1.cell 2 (by simp)).1
  go_wp2_with fail
  refine (DivConst_any b 4645040803167600640 qb Hqb.out _).mono ?_
  rintro e w1 ⟨rfl, hb⟩
  have hS := HS.out.1.keep hb
  have hA := HS.out.2
  clear HS hb c_g5
  have s0 : (w1).cell? ⟨g5, 0, none⟩ = some (.float .f64 b) := (hS.cell 2 (by simp)).1
  have t0 : (w1).frozen? ⟨g5, 0, none⟩ = false := (hS.cell 2 (by simp)).2
  replace hS : Bx base w [(g8, 0), (g6, t), (g5, qb), (g4, qa)] ((w1).setCell ⟨g5, 0, none⟩ (.float .f64 qb)) := hS.set qb hA 2 (by simp)
  replace hA : Apart base [(g8, 0), (g6, t), (g5, qb), (g4, qa)] := Apart.of_fst (by rfl) hA
  have HS := Lib.hid (And.intro hS hA)
  clear hS hA
  go_upto_region 3 with fail
  clear s0 t0
  generalize World.setCell _ _ _ = W at *
  clear w1
  refine wp_region_plan 4 (by kernel_rfl) (by kernel_rfl) (PI base w [(g8, 0), (g6, t), (g5, qb), (g4, qa)] [some 15, some 16, some 17, some 18] [] (fun i => [.agg #[.float .f64 qa], .agg #[.float .f64 qa], .agg #[.float .f64 fa], .agg #[.float .f64 ra]].getD i (.bool false)) _) (PI.start HS.out.1) ?_ ?_
  · intro i o b' a' w' hi ho hb he hI
    rcases (by omega : i = 0 ∨ i = 1 ∨ i = 2 ∨ i = 3) with rfl | rfl | rfl | rfl
    · obtain rfl := Option.some.inj ho
      exact hI.stepQuiet hb rfl rfl rfl (op_load _ _ _ g4 qa _ rfl ((hI.old rfl).trans rfl) (hI.bx.cell 3 (by simp)).1)
    · obtain rfl := Option.some.inj ho
      exact hI.stepQuiet hb rfl rfl rfl (op_load _ _ _ g4 qa _ rfl ((hI.old rfl).trans rfl) (hI.bx.cell 3 (by simp)).1)
    · obtain rfl := Option.some.inj ho
      have e0 := hI.new 1 (edge he 1 (by kernel_rfl)) rfl rfl rfl (by show 16 < 87; decide)
      refine hI.stepCall hb rfl rfl rfl (op_call _ _ 74 Try.f74 _ _ _ rfl Try.func74 (by kernel_rfl) (by kernel_rfl)) ?_
      have hm : Array.map a'.eval #[.tmp 16] = #[.agg #[.float .f64 qa]] := by simp [e0]
      rw [hm]
      exact Floor_as qa fa Hfa.out.1 Hfa.out.2 _
    · obtain rfl := Option.some.inj ho
      have e0 := hI.new 0 (edge he 0 (by kernel_rfl)) rfl rfl rfl (by show 15 < 87; decide)
      have e1 := hI.new 2 (edge he 2 (by kernel_rfl)) rfl rfl rfl (by show 17 < 87; decide)
      refine hI.stepCall hb rfl rfl rfl (op_call _ _ 62 Try.f62 _ _ _ rfl Try.func62 (by kernel_rfl) (by kernel_rfl)) ?_
      have hm : Array.map a'.eval #[.tmp 15, .tmp 17] = #[.agg #[.float .f64 qa], .agg #[.float .f64 fa]] := by simp [e0, e1]
      rw [hm]
      exact Sub_any qa fa ra Hra.out _
  · intro b' a' w1 hb hI
    obtain ⟨ρ, rfl, hS, hC, hN⟩ := hI
    have hA := HS.out.2
    clear HS
    have p0 := hb 0 (by decide)
    have p1 := hb 1 (by decide)
    have p2 := hb 2 (by decide)
    have p3 := hb 3 (by decide)
    have v0 : vals [] (fun i => [.agg #[.float .f64 qa], .agg #[.float .f64 qa], .agg #[.float .f64 fa], .agg #[.float .f64 ra]].getD i (.bool false)) ρ 0 = .agg #[.float .f64 qa] := rfl
    have v1 : vals [] (fun i => [.agg #[.float .f64 qa], .agg #[.float .f64 qa], .agg #[.float .f64 fa], .agg #[.float .f64 ra]].getD i (.bool false)) ρ 1 = .agg #[.float .f64 qa] := rfl
    have v2 : vals [] (fun i => [.agg #[.float .f64 qa], .agg #[.float .f64 qa], .agg #[.float .f64 fa], .agg #[.float .f64 ra]].getD i (.bool false)) ρ 2 = .agg #[.float .f64 fa] := rfl
    have v3 : vals [] (fun i => [.agg #[.float .f64 qa], .agg #[.float .f64 qa], .agg #[.float .f64 fa], .agg #[.float .f64 ra]].getD i (.bool false)) ρ 3 = .agg #[.float .f64 ra] := rfl
    simp only [puts, Nat.zero_add, p0, p1, p2, p3, v0, v1, v2, v3, if_true, List.drop_succ_cons, List.drop_zero, Nat.reduceAdd]
    clear hb hC hN p0 p1 p2 p3 v0 v1 v2 v3
    clear ρ b'
    have s0 : (w1).cell? ⟨g4, 0, none⟩ = some (.float .f64 qa) := (hS.cell 3 (by simp)).1
    have t0 : (w1).frozen? ⟨g4, 0, none⟩ = false := (hS.cell 3 (by simp)).2
    replace hS : Bx base w [(g8, 0), (g6, t), (g5, qb), (g4, ra)] ((w1).setCell ⟨g4, 0, none⟩ (.float .f64 ra)) := hS.set ra hA 3 (by simp)
    replace hA : Apart base [(g8, 0), (g6, t), (g5, qb), (g4, ra)] := Apart.of_fst (by rfl) hA
    have HS := Lib.hid (And.intro hS hA)
    clear hS hA
    go_upto_region 4 with fail
    clear s0 t0
    generalize World.setCell _ _ _ = W at *
    clear w1
    refine wp_region_plan 4 (by kernel_rfl) (by kernel_rfl) (PI base w [(g8, 0), (g6, t), (g5, qb), (g4, ra)] [some 19, some 20, some 21, some 22] [] (fun i => [.agg #[.float .f64 qb], .agg #[.float .f64 qb], .agg #[.float .f64 fb], .agg #[.float .f64 rb]].getD i (.bool false)) _) (PI.start HS.out.1) ?_ ?_
    · intro i o b' a' w' hi ho hb he hI
      rcases (by omega : i = 0 ∨ i = 1 ∨ i = 2 ∨ i = 3) with rfl | rfl | rfl | rfl
      · obtain rfl := Option.some.inj ho
        exact hI.stepQuiet hb rfl rfl rfl (op_load _ _ _ g5 qb _ rfl ((hI.old rfl).trans rfl) (hI.bx.cell 2 (by simp)).1)
      · obtain rfl := Option.some.inj ho
        exact hI.stepQuiet hb rfl rfl rfl (op_load _ _ _ g5 qb _ rfl ((hI.old rfl).trans rfl) (hI.bx.cell 2 (by simp)).1)
      · obtain rfl := Option.some.inj ho
        have e0 := hI.new 1 (edge he 1 (by kernel_rfl)) rfl rfl rfl (by show 20 < 87; decide)
        refine hI.stepCall hb rfl rfl rfl (op_call _ _ 74 Try.f74 _ _ _ rfl Try.func74 (by kernel_rfl) (by kernel_rfl)) ?_
        have hm : Array.map a'.eval #[.tmp 20] = #[.agg #[.float .f64 qb]] := by simp [e0]
        rw [hm]
        exact Floor_as qb fb Hfb.out.1 Hfb.out.2 _
      · obtain rfl := Option.some.inj ho
        have e0 := hI.new 0 (edge he 0 (by kernel_rfl)) rfl rfl rfl (by show 19 < 87; decide)
        have e1 := hI.new 2 (edge he 2 (by kernel_rfl)) rfl rfl rfl (by show 21 < 87; decide)
        refine hI.stepCall hb rfl rfl rfl (op_call _ _ 62 Try.f62 _ _ _ rfl Try.func62 (by kernel_rfl) (by kernel_rfl)) ?_
        have hm : Array.map a'.eval #[.tmp 19, .tmp 21] = #[.agg #[.float .f64 qb], .agg #[.float .f64 fb]] := by simp [e0, e1]
        rw [hm]
        exact Sub_any qb fb rb Hrb.out _
    · intro b' a' w1 hb hI
      obtain ⟨ρ, rfl, hS, hC, hN⟩ := hI
      have hA := HS.out.2
      clear HS
      have p0 := hb 0 (by decide)
      have p1 := hb 1 (by decide)
      have p2 := hb 2 (by decide)
      have p3 := hb 3 (by decide)
      have v0 : vals [] (fun i => [.agg #[.float .f64 qb], .agg #[.float .f64 qb], .agg #[.float .f64 fb], .agg #[.float .f64 rb]].getD i (.bool false)) ρ 0 = .agg #[.float .f64 qb] := rfl
      have v1 : vals [] (fun i => [.agg #[.float .f64 qb], .agg #[.float .f64 qb], .agg #[.float .f64 fb], .agg #[.float .f64 rb]].getD i (.bool false)) ρ 1 = .agg #[.float .f64 qb] := rfl
      have v2 : vals [] (fun i => [.agg #[.float .f64 qb], .agg #[.float .f64 qb], .agg #[.float .f64 fb], .agg #[.float .f64 rb]].getD i (.bool false)) ρ 2 = .agg #[.float .f64 fb] := rfl
      have v3 : vals [] (fun i => [.agg #[.float .f64 qb], .agg #[.float .f64 qb], .agg #[.float .f64 fb], .agg #[.float .f64 rb]].getD i (.bool false)) ρ 3 = .agg #[.float .f64 rb] := rfl
      simp only [puts, Nat.zero_add, p0, p1, p2, p3, v0, v1, v2, v3, if_true, List.drop_succ_cons, List.drop_zero, Nat.reduceAdd]
      clear hb hC hN p0 p1 p2 p3 v0 v1 v2 v3
      clear ρ b'
      have s0 : (w1).cell? ⟨g5, 0, none⟩ = some (.float .f64 qb) := (hS.cell 2 (by simp)).1
      have t0 : (w1).frozen? ⟨g5, 0, none⟩ = false := (hS.cell 2 (by simp)).2
      replace hS : Bx base w [(g8, 0), (g6, t), (g5, rb), (g4, ra)] ((w1).setCell ⟨g5, 0, none⟩ (.float .f64 rb)) := hS.set rb hA 2 (by simp)
      replace hA : Apart base [(g8, 0), (g6, t), (g5, rb), (g4, ra)] := Apart.of_fst (by rfl) hA
      have HS := Lib.hid (And.intro hS hA)
      clear hS hA
      go_upto_region 5 with fail
      clear s0 t0
      generalize World.setCell _ _ _ = W at *
      clear w1
      go_upto_region 6 with fail
      go_upto_region 12 with fail
      go_upto_region 13 with fail
      have c_g5 : W.cell? ⟨g5, 0, none⟩ = some (.float .f64 rb) := (HS.out.1.cell 2 (by simp)).1
      have c_g4 : W.cell? ⟨g4, 0, none⟩ = some (.float .f64 ra) := (HS.out.1.cell 3 (by simp)).1
      go_wp2_with fail
      refine (Sub_any rb ra d Hd.out _).mono ?_
      rintro e w1 ⟨rfl, hb⟩
      have hS := HS.out.1.keep hb
      have hA := HS.out.2
      clear HS hb c_g5 c_g4
      replace hA := hA.alloc hS d
      replace hS := hS.alloc d 41
      have HS := Lib.hid (And.intro hS hA)
      clear hS hA
      go_upto_region 14 with fail
      generalize World.alloc _ _ = W at *
      generalize w1.heap.size = g10 at *
      clear w1
      have q1 : (FloatKind.f64.format.order d 0 == some .gt) = false := Hq1.out
      have c_g10 : W.cell? ⟨g10, 0, none⟩ = some (.float .f64 d) := (HS.out.1.cell 0 (by simp)).1
      go_wp2_with fail
      refine (Value_any d _).mono ?_
      rintro e w1 ⟨rfl, hb⟩
      have hS := HS.out.1.keep hb
      have hA := HS.out.2
      clear HS hb c_g10
      have HS := Lib.hid (And.intro hS hA)
      clear hS hA
      go_upto_region 16 with fail
      generalize w1 = W at *
      clear q1
      have q3 : (FloatKind.f64.format.order d 13826050856027422720 == some .gt) = false := Hq3.out
      have c_g10 : W.cell? ⟨g10, 0, none⟩ = some (.float .f64 d) := (HS.out.1.cell 0 (by simp)).1
      go_wp2_with fail
      refine (Value_any d _).mono ?_
      rintro e w1 ⟨rfl, hb⟩
      have hS := HS.out.1.keep hb
      have hA := HS.out.2
      clear HS hb c_g10
      have HS := Lib.hid (And.intro hS hA)
      clear hS hA
      go_upto_region 24 with fail
      generalize w1 = W at *
      clear q3
      have c_g4 : W.cell? ⟨g4, 0, none⟩ = some (.float .f64 ra) := (HS.out.1.cell 4 (by simp)).1
      have c_g5 : W.cell? ⟨g5, 0, none⟩ = some (.float .f64 rb) := (HS.out.1.cell 3 (by simp)).1
      have c_g6 : W.cell? ⟨g6, 0, none⟩ = some (.float .f64 t) := (HS.out.1.cell 2 (by simp)).1
      go_wp2_with fail
      refine (Lerp_any ra rb t p q r Hp.out Hq.out Hr.out _).mono ?_
      rintro e w1 ⟨rfl, hb⟩
      have hS := HS.out.1.keep hb
      have hA := HS.out.2
      clear HS hb c_g4 c_g5 c_g6
      have HS := Lib.hid (And.intro hS hA)
      clear hS hA
      go_wp2_with fail
      refine (MulConst_any r 4645040803167600640 z Hz.out _).mono ?_
      rintro e w2 ⟨rfl, hb⟩
      have hS := HS.out.1.keep hb
      have hA := HS.out.2
      clear HS hb 
      clear w1
      generalize w2 = w1 at *
      have s0 : (w1).cell? ⟨g8, 0, none⟩ = some (.float .f64 0) := (hS.cell 1 (by simp)).1
      have t0 : (w1).frozen? ⟨g8, 0, none⟩ = false := (hS.cell 1 (by simp)).2
      replace hS : Bx base w [(g10, d), (g8, z), (g6, t), (g5, rb), (g4, ra)] ((w1).setCell ⟨g8, 0, none⟩ (.float .f64 z)) := hS.set z hA 1 (by simp)
      replace hA : Apart base [(g10, d), (g8, z), (g6, t), (g5, rb), (g4, ra)] := Apart.of_fst (by rfl) hA
      have HS := Lib.hid (And.intro hS hA)
      clear hS hA
      go_wp2_with fail
      clear s0 t0
      generalize World.setCell _ _ _ = W at *
      clear w1
      have c_g8 : W.cell? ⟨g8, 0, none⟩ = some (.float .f64 z) := (HS.out.1.cell 1 (by simp)).1
      refine bodyPost_ret (v := .agg #[.float .f64 z]) (by simp [results, Try.results55, go_sem, c_g8]) rfl ⟨rfl, HS.out.1.below.2⟩
set_option maxRecDepth 100000 in
set_option maxHeartbeats 4000000 in
theorem ih2_lo (a b t qa qb fa fb ra rb p q r z rb1 base : Nat) (w : World) (H : Hid (base = w.heap.size)) (Hqa : Hid (Ieee.double.div a 4645040803167600640 = some qa)) (Hqb : Hid (Ieee.double.div b 4645040803167600640 = some qb)) (Hfa : Hid (Finite qa ∧ floorW qa = fa)) (Hfb : Hid (Finite qb ∧ floorW qb = fb)) (Hra : Hid (Ieee.double.sub qa fa = some ra)) (Hrb : Hid (Ieee.double.sub qb fb = some rb)) (Hrb1 : Hid (Ieee.double.add rb 4607182418800017408 = some rb1)) (Hq1 : Hid (ltB rb ra = true)) (Hp : Hid (Ieee.double.sub rb1 ra = some p)) (Hq : Hid (Ieee.double.mul p t = some q)) (Hr : Hid (Ieee.double.add q ra = some r)) (Hz : Hid (Ieee.double.mul r 4645040803167600640 = some z)) :
    Calls Try.prog 55 #[.agg #[.float .f64 a], .agg #[.float .f64 b], .agg #[.float .f64 t], .int .u8 2] w fun e w' => e = .returned (.agg #[.float .f64 z]) ∧ Below base w w' := by
  go_enter Try.func55, Try.ntmps55
  go_upto_region 1 with fail
  generalize hW : World.alloc _ _ = W at *
  have hS : Bx base w [(w.heap.size + 1 + 1 + 1, 0), (w.heap.size + 1 + 1, t), (w.heap.size + 1, b), (w.heap.size, a)] W := by
    subst hW
    have := (((((Bx.start w).alloc a 41).alloc b 41).alloc t 41).alloc 0 41)
    rw [H.out]
    simpa using this
  have hA : Apart base [(w.heap.size + 1 + 1 + 1, 0), (w.heap.size + 1 + 1, t), (w.heap.size + 1, b), (w.heap.size, a)] := by
    rw [H.out]
    simp [Apart]; try omega
  have HS := Lib.hid (And.intro hS hA)
  clear hS hA hW H
  generalize w.heap.size + 1 + 1 + 1 = g8 at *
  generalize w.heap.size + 1 + 1 = g6 at *
  generalize w.heap.size + 1 = g5 at *
  generalize hgg : w.heap.size = g4 at *
  clear hgg
  have c_g4 : W.cell? ⟨g4, 0, none⟩ = some (.float .f64 a) := (HS.out.1.cell 3 (by simp)).1
  go_wp2_with fail
  refine (DivConst_any a 4645040803167600640 qa Hqa.out _).mono ?_
  rintro e w1 ⟨rfl, hb⟩
  have hS := HS.out.1.keep hb
  have hA := HS.out.2
  clear HS hb c_g4
  have s0 : (w1).cell? ⟨g4, 0, none⟩ = some (.float .f64 a) := (hS.cell 3 (by simp)).1
  have t0 : (w1).frozen? ⟨g4, 0, none⟩ = false := (hS.cell 3 (by simp)).2
  replace hS : Bx base w [(g8, 0), (g6, t), (g5, b), (g4, qa)] ((w1).setCell ⟨g4, 0, none⟩ (.float .f64 qa)) := hS.set qa hA 3 (by simp)
  replace hA : Apart base [(g8, 0), (g6, t), (g5, b), (g4, qa)] := Apart.of_fst (by rfl) hA
  have HS := Lib.hid (And.intro hS hA)
  clear hS hA
  go_upto_region 2 with fail
  clear s0 t0
  generalize World.setCell _ _ _ = W at *
  clear w1
  have c_g5 : W.cell? ⟨g5, 0, none⟩ = some (.float .f64 b) := (HS.out.1.cell 2 (by simp)).1
  go_wp2_with fail
  refine (DivConst_any b 4645040803167600640 qb Hqb.out _).mono ?_
  rintro e w1 ⟨rfl, hb⟩
  have hS := HS.out.1.keep hb
  have hA := HS.out.2
  clear HS hb c_g5
  have s0 : (w1).cell? ⟨g5, 0, none⟩ = some (.float .f64 b) := (hS.cell 2 (by simp)).1
  have t0 : (w1).frozen? ⟨g5, 0, none⟩ = false := (hS.cell 2 (by simp)).2
  replace hS : Bx base w [(g8, 0), (g6, t), (g5, qb), (g4, qa)] ((w1).setCell ⟨g5, 0, none⟩ (.float .f64 qb)) := hS.set qb hA 2 (by simp)
  replace hA : Apart base [(g8, 0), (g6, t), (g5, qb), (g4, qa)] := Apart.of_fst (by rfl) hA
  have HS := Lib.hid (And.intro hS hA)
  clear hS hA
  go_upto_region 3 with fail
  clear s0 t0
  generalize World.setCell _ _ _ = W at *
  clear w1
  refine wp_region_plan 4 (by kernel_rfl) (by kernel_rfl) (PI base w [(g8, 0), (g6, t), (g5, qb), (g4, qa)] [some 15, some 16, some 17, some 18] [] (fun i => [.agg #[.float .f64 qa], .agg #[.float .f64 qa], .agg #[.float .f64 fa], .agg #[.float .f64 ra]].getD i (.bool false)) _) (PI.start HS.out.1) ?_ ?_
  · intro i o b' a' w' hi ho hb he hI
    rcases (by omega : i = 0 ∨ i = 1 ∨ i = 2 ∨ i = 3) with rfl | rfl | rfl | rfl
    · obtain rfl := Option.some.inj ho
      exact hI.stepQuiet hb rfl rfl rfl (op_load _ _ _ g4 qa _ rfl ((hI.old rfl).trans rfl) (hI.bx.cell 3 (by simp)).1)
    · obtain rfl := Option.some.inj ho
      exact hI.stepQuiet hb rfl rfl rfl (op_load _ _ _ g4 qa _ rfl ((hI.old rfl).trans rfl) (hI.bx.cell 3 (by simp)).1)
    · obtain rfl := Option.some.inj ho
      have e0 := hI.new 1 (edge he 1 (by kernel_rfl)) rfl rfl rfl (by show 16 < 87; decide)
      refine hI.stepCall hb rfl rfl rfl (op_call _ _ 74 Try.f74 _ _ _ rfl Try.func74 (by kernel_rfl) (by kernel_rfl)) ?_
      have hm : Array.map a'.eval #[.tmp 16] = #[.agg #[.float .f64 qa]] := by simp [e0]
      rw [hm]
      exact Floor_as qa fa Hfa.out.1 Hfa.out.2 _
    · obtain rfl := Option.some.inj ho
      have e0 := hI.new 0 (edge he 0 (by kernel_rfl)) rfl rfl rfl (by show 15 < 87; decide)
      have e1 := hI.new 2 (edge he 2 (by kernel_rfl)) rfl rfl rfl (by show 17 < 87; decide)
      refine hI.stepCall hb rfl rfl rfl (op_call _ _ 62 Try.f62 _ _ _ rfl Try.func62 (by kernel_rfl) (by kernel_rfl)) ?_
      have hm : Array.map a'.eval #[.tmp 15, .tmp 17] = #[.agg #[.float .f64 qa], .agg #[.float .f64 fa]] := by simp [e0, e1]
      rw [hm]
      exact Sub_any qa fa ra Hra.out _
  · intro b' a' w1 hb hI
    obtain ⟨ρ, rfl, hS, hC, hN⟩ := hI
    have hA := HS.out.2
    clear HS
    have p0 := hb 0 (by decide)
    have p1 := hb 1 (by decide)
    have p2 := hb 2 (by decide)
    have p3 := hb 3 (by decide)
    have v0 : vals [] (fun i => [.agg #[.float .f64 qa], .agg #[.float .f64 qa], .agg #[.float .f64 fa], .agg #[.float .f64 ra]].getD i (.bool false)) ρ 0 = .agg #[.float .f64 qa] := rfl
    have v1 : vals [] (fun i => [.agg #[.float .f64 qa], .agg #[.float .f64 qa], .agg #[.float .f64 fa], .agg #[.float .f64 ra]].getD i (.bool false)) ρ 1 = .agg #[.float .f64 qa] := rfl
    have v2 : vals [] (fun i => [.agg #[.float .f64 qa], .agg #[.float .f64 qa], .agg #[.float .f64 fa], .agg #[.float .f64 ra]].getD i (.bool false)) ρ 2 = .agg #[.float .f64 fa] := rfl
    have v3 : vals [] (fun i => [.agg #[.float .f64 qa], .agg #[.float .f64 qa], .agg #[.float .f64 fa], .agg #[.float .f64 ra]].getD i (.bool false)) ρ 3 = .agg #[.float .f64 ra] := rfl
    simp only [puts, Nat.zero_add, p0, p1, p2, p3, v0, v1, v2, v3, if_true, List.drop_succ_cons, List.drop_zero, Nat.reduceAdd]
    clear hb hC hN p0 p1 p2 p3 v0 v1 v2 v3
    clear ρ b'
    have s0 : (w1).cell? ⟨g4, 0, none⟩ = some (.float .f64 qa) := (hS.cell 3 (by simp)).1
    have t0 : (w1).frozen? ⟨g4, 0, none⟩ = false := (hS.cell 3 (by simp)).2
    replace hS : Bx base w [(g8, 0), (g6, t), (g5, qb), (g4, ra)] ((w1).setCell ⟨g4, 0, none⟩ (.float .f64 ra)) := hS.set ra hA 3 (by simp)
    replace hA : Apart base [(g8, 0), (g6, t), (g5, qb), (g4, ra)] := Apart.of_fst (by rfl) hA
    have HS := Lib.hid (And.intro hS hA)
    clear hS hA
    go_upto_region 4 with fail
    clear s0 t0
    generalize World.setCell _ _ _ = W at *
    clear w1
    refine wp_region_plan 4 (by kernel_rfl) (by kernel_rfl) (PI base w [(g8, 0), (g6, t), (g5, qb), (g4, ra)] [some 19, some 20, some 21, some 22] [] (fun i => [.agg #[.float .f64 qb], .agg #[.float .f64 qb], .agg #[.float .f64 fb], .agg #[.float .f64 rb]].getD i (.bool false)) _) (PI.start HS.out.1) ?_ ?_
    · intro i o b' a' w' hi ho hb he hI
      rcases (by omega : i = 0 ∨ i = 1 ∨ i = 2 ∨ i = 3) with rfl | rfl | rfl | rfl
      · obtain rfl := Option.some.inj ho
        exact hI.stepQuiet hb rfl rfl rfl (op_load _ _ _ g5 qb _ rfl ((hI.old rfl).trans rfl) (hI.bx.cell 2 (by simp)).1)
      · obtain rfl := Option.some.inj ho
        exact hI.stepQuiet hb rfl rfl rfl (op_load _ _ _ g5 qb _ rfl ((hI.old rfl).trans rfl) (hI.bx.cell 2 (by simp)).1)
      · obtain rfl := Option.some.inj ho
        have e0 := hI.new 1 (edge he 1 (by kernel_rfl)) rfl rfl rfl (by show 20 < 87; decide)
        refine hI.stepCall hb rfl rfl rfl (op_call _ _ 74 Try.f74 _ _ _ rfl Try.func74 (by kernel_rfl) (by kernel_rfl)) ?_
        have hm : Array.map a'.eval #[.tmp 20] = #[.agg #[.float .f64 qb]] := by simp [e0]
        rw [hm]
        exact Floor_as qb fb Hfb.out.1 Hfb.out.2 _
      · obtain rfl := Option.some.inj ho
        have e0 := hI.new 0 (edge he 0 (by kernel_rfl)) rfl rfl rfl (by show 19 < 87; decide)
        have e1 := hI.new 2 (edge he 2 (by kernel_rfl)) rfl rfl rfl (by show 21 < 87; decide)
        refine hI.stepCall hb rfl rfl rfl (op_call _ _ 62 Try.f62 _ _ _ rfl Try.func62 (by kernel_rfl) (by kernel_rfl)) ?_
        have hm : Array.map a'.eval #[.tmp 19, .tmp 21] = #[.agg #[.float .f64 qb], .agg #[.float .f64 fb]] := by simp [e0, e1]
        rw [hm]
        exact Sub_any qb fb rb Hrb.out _
    · intro b' a' w1 hb hI
      obtain ⟨ρ, rfl, hS, hC, hN⟩ := hI
      have hA := HS.out.2
      clear HS
      have p0 := hb 0 (by decide)
      have p1 := hb 1 (by decide)
      have p2 := hb 2 (by decide)
      have p3 := hb 3 (by decide)
      have v0 : vals [] (fun i => [.agg #[.float .f64 qb], .agg #[.float .f64 qb], .agg #[.float .f64 fb], .agg #[.float .f64 rb]].getD i (.bool false)) ρ 0 = .agg #[.float .f64 qb] := rfl
      have v1 : vals [] (fun i => [.agg #[.float .f64 qb], .agg #[.float .f64 qb], .agg #[.float .f64 fb], .agg #[.float .f64 rb]].getD i (.bool false)) ρ 1 = .agg #[.float .f64 qb] := rfl
      have v2 : vals [] (fun i => [.agg #[.float .f64 qb], .agg #[.float .f64 qb], .agg #[.float .f64 fb], .agg #[.float .f64 rb]].getD i (.bool false)) ρ 2 = .agg #[.float .f64 fb] := rfl
      have v3 : vals [] (fun i => [.agg #[.float .f64 qb], .agg #[.float .f64 qb], .agg #[.float .f64 fb], .agg #[.float .f64 rb]].getD i (.bool false)) ρ 3 = .agg #[.float .f64 rb] := rfl
      simp only [puts, Nat.zero_add, p0, p1, p2, p3, v0, v1, v2, v3, if_true, List.drop_succ_cons, List.drop_zero, Nat.reduceAdd]
      clear hb hC hN p0 p1 p2 p3 v0 v1 v2 v3
      clear ρ b'
      have s0 : (w1).cell? ⟨g5, 0, none⟩ = some (.float .f64 qb) := (hS.cell 2 (by simp)).1
      have t0 : (w1).frozen? ⟨g5, 0, none⟩ = false := (hS.cell 2 (by simp)).2
      replace hS : Bx base w [(g8, 0), (g6, t), (g5, rb), (g4, ra)] ((w1).setCell ⟨g5, 0, none⟩ (.float .f64 rb)) := hS.set rb hA 2 (by simp)
      replace hA : Apart base [(g8, 0), (g6, t), (g5, rb), (g4, ra)] := Apart.of_fst (by rfl) hA
      have HS := Lib.hid (And.intro hS hA)
      clear hS hA
      go_upto_region 5 with fail
      clear s0 t0
      generalize World.setCell _ _ _ = W at *
      clear w1
      go_upto_region 6 with fail
      go_upto_region 12 with fail
      go_upto_region 18 with fail
      go_upto_region 19 with fail
      have q1 : (FloatKind.f64.format.order rb ra == some .lt) = true := Hq1.out
      refine wp_region_plan 4 (by kernel_rfl) (by kernel_rfl) (PI base w [(g8, 0), (g6, t), (g5, rb), (g4, ra)] [some 66, some 67, some 68, some 69] [] (fun i => [.agg #[.float .f64 rb], .float .f64 rb, .agg #[.float .f64 ra], .float .f64 ra].getD i (.bool false)) _) (PI.start HS.out.1) ?_ ?_
      · intro i o b' a' w' hi ho hb he hI
        rcases (by omega : i = 0 ∨ i = 1 ∨ i = 2 ∨ i = 3) with rfl | rfl | rfl | rfl
        · obtain rfl := Option.some.inj ho
          exact hI.stepQuiet hb rfl rfl rfl (op_load _ _ _ g5 rb _ rfl ((hI.old rfl).trans rfl) (hI.bx.cell 2 (by simp)).1)
        · obtain rfl := Option.some.inj ho
          have e0 := hI.new 0 (edge he 0 (by kernel_rfl)) rfl rfl rfl (by show 66 < 87; decide)
          refine hI.stepCall hb rfl rfl rfl (op_call _ _ 43 Try.f43 _ _ _ rfl Try.func43 (by kernel_rfl) (by kernel_rfl)) ?_
          have hm : Array.map a'.eval #[.tmp 66] = #[.agg #[.float .f64 rb]] := by simp [e0]
          rw [hm]
          exact Value_any rb _
        · obtain rfl := Option.some.inj ho
          exact hI.stepQuiet hb rfl rfl rfl (op_load _ _ _ g4 ra _ rfl ((hI.old rfl).trans rfl) (hI.bx.cell 3 (by simp)).1)
        · obtain rfl := Option.some.inj ho
          have e0 := hI.new 2 (edge he 2 (by kernel_rfl)) rfl rfl rfl (by show 68 < 87; decide)
          refine hI.stepCall hb rfl rfl rfl (op_call _ _ 43 Try.f43 _ _ _ rfl Try.func43 (by kernel_rfl) (by kernel_rfl)) ?_
          have hm : Array.map a'.eval #[.tmp 68] = #[.agg #[.float .f64 ra]] := by simp [e0]
          rw [hm]
          exact Value_any ra _
      · intro b' a' w1 hb hI
        obtain ⟨ρ, rfl, hS, hC, hN⟩ := hI
        have hA := HS.out.2
        clear HS
        have p0 := hb 0 (by decide)
        have p1 := hb 1 (by decide)
        have p2 := hb 2 (by decide)
        have p3 := hb 3 (by decide)
        have v0 : vals [] (fun i => [.agg #[.float .f64 rb], .float .f64 rb, .agg #[.float .f64 ra], .float .f64 ra].getD i (.bool false)) ρ 0 = .agg #[.float .f64 rb] := rfl
        have v1 : vals [] (fun i => [.agg #[.float .f64 rb], .float .f64 rb, .agg #[.float .f64 ra], .float .f64 ra].getD i (.bool false)) ρ 1 = .float .f64 rb := rfl
        have v2 : vals [] (fun i => [.agg #[.float .f64 rb], .float .f64 rb, .agg #[.float .f64 ra], .float .f64 ra].getD i (.bool false)) ρ 2 = .agg #[.float .f64 ra] := rfl
        have v3 : vals [] (fun i => [.agg #[.float .f64 rb], .float .f64 rb, .agg #[.float .f64 ra], .float .f64 ra].getD i (.bool false)) ρ 3 = .float .f64 ra := rfl
        simp only [puts, Nat.zero_add, p0, p1, p2, p3, v0, v1, v2, v3, if_true, List.drop_succ_cons, List.drop_zero, Nat.reduceAdd]
        clear hb hC hN p0 p1 p2 p3 v0 v1 v2 v3
        clear ρ b'
        have HS := Lib.hid (And.intro hS hA)
        clear hS hA
        go_upto_region 20 with fail
        generalize w1 = W at *
        clear q1
        have c_g5 : W.cell? ⟨g5, 0, none⟩ = some (.float .f64 rb) := (HS.out.1.cell 2 (by simp)).1
        go_wp2_with fail
        refine (AddConst_any rb 4607182418800017408 rb1 Hrb1.out _).mono ?_
        rintro e w1 ⟨rfl, hb⟩
        have hS := HS.out.1.keep hb
        have hA := HS.out.2
        clear HS hb c_g5
        have s0 : (w1).cell? ⟨g5, 0, none⟩ = some (.float .f64 rb) := (hS.cell 2 (by simp)).1
        have t0 : (w1).frozen? ⟨g5, 0, none⟩ = false := (hS.cell 2 (by simp)).2
        replace hS : Bx base w [(g8, 0), (g6, t), (g5, rb1), (g4, ra)] ((w1).setCell ⟨g5, 0, none⟩ (.float .f64 rb1)) := hS.set rb1 hA 2 (by simp)
        replace hA : Apart base [(g8, 0), (g6, t), (g5, rb1), (g4, ra)] := Apart.of_fst (by rfl) hA
        have HS := Lib.hid (And.intro hS hA)
        clear hS hA
        go_upto_region 24 with fail
        clear s0 t0
        generalize World.setCell _ _ _ = W at *
        clear w1
        have c_g4 : W.cell? ⟨g4, 0, none⟩ = some (.float .f64 ra) := (HS.out.1.cell 3 (by simp)).1
        have c_g5 : W.cell? ⟨g5, 0, none⟩ = some (.float .f64 rb1) := (HS.out.1.cell 2 (by simp)).1
        have c_g6 : W.cell? ⟨g6, 0, none⟩ = some (.float .f64 t) := (HS.out.1.cell 1 (by simp)).1
        go_wp2_with fail
        refine (Lerp_any ra rb1 t p q r Hp.out Hq.out Hr.out _).mono ?_
        rintro e w1 ⟨rfl, hb⟩
        have hS := HS.out.1.keep hb
        have hA := HS.out.2
        clear HS hb c_g4 c_g5 c_g6
        have HS := Lib.hid (And.intro hS hA)
        clear hS hA
        go_wp2_with fail
        refine (MulConst_any r 4645040803167600640 z Hz.out _).mono ?_
        rintro e w2 ⟨rfl, hb⟩
        have hS := HS.out.1.keep hb
        have hA := HS.out.2
        clear HS hb 
        clear w1
        generalize w2 = w1 at *
        have s0 : (w1).cell? ⟨g8, 0, none⟩ = some (.float .f64 0) := (hS.cell 0 (by simp)).1
        have t0 : (w1).frozen? ⟨g8, 0, none⟩ = false := (hS.cell 0 (by simp)).2
        replace hS : Bx base w [(g8, z), (g6, t), (g5, rb1), (g4, ra)] ((w1).setCell ⟨g8, 0, none⟩ (.float .f64 z)) := hS.set z hA 0 (by simp)
        replace hA : Apart base [(g8, z), (g6, t), (g5, rb1), (g4, ra)] := Apart.of_fst (by rfl) hA
        have HS := Lib.hid (And.intro hS hA)
        clear hS hA
        go_wp2_with fail
        clear s0 t0
        generalize World.setCell _ _ _ = W at *
        clear w1
        have c_g8 : W.cell? ⟨g8, 0, none⟩ = some (.float .f64 z) := (HS.out.1.cell 0 (by simp)).1
        refine bodyPost_ret (v := .agg #[.float .f64 z]) (by simp [results, Try.results55, go_sem, c_g8]) rfl ⟨rfl, HS.out.1.below.2⟩
set_option maxRecDepth 100000 in
set_option maxHeartbeats 4000000 in
theorem ih2_no (a b t qa qb fa fb ra rb p q r z base : Nat) (w : World) (H : Hid (base = w.heap.size)) (Hqa : Hid (Ieee.double.div a 4645040803167600640 = some qa)) (Hqb : Hid (Ieee.double.div b 4645040803167600640 = some qb)) (Hfa : Hid (Finite qa ∧ floorW qa = fa)) (Hfb : Hid (Finite qb ∧ floorW qb = fb)) (Hra : Hid (Ieee.double.sub qa fa = some ra)) (Hrb : Hid (Ieee.double.sub qb fb = some rb)) (Hq1 : Hid (ltB rb ra = false)) (Hp : Hid (Ieee.double.sub rb ra = some p)) (Hq : Hid (Ieee.double.mul p t = some q)) (Hr : Hid (Ieee.double.add q ra = some r)) (Hz : Hid (Ieee.double.mul r 4645040803167600640 = some z)) :
    Calls Try.prog 55 #[.agg #[.float .f64 a], .agg #[.float .f64 b], .agg #[.float .f64 t], .int .u8 2] w fun e w' => e = .returned (.agg #[.float .f64 z]) ∧ Below base w w' := by
  go_enter Try.func55, Try.ntmps55
  go_upto_region 1 with fail
  generalize hW : World.alloc _ _ = W at *
  have hS : Bx base w [(w.heap.size + 1 + 1 + 1, 0), (w.heap.size + 1 + 1, t), (w.heap.size + 1, b), (w.heap.size, a)] W := by
    subst hW
    have := (((((Bx.start w).alloc a 41).alloc b 41).alloc t 41).alloc 0 41)
    rw [H.out]
    simpa using this
  have hA : Apart base [(w.heap.size + 1 + 1 + 1, 0), (w.heap.size + 1 + 1, t), (w.heap.size + 1, b), (w.heap.size, a)] := by
    rw [H.out]
    simp [Apart]; try omega
  have HS := Lib.hid (And.intro hS hA)
  clear hS hA hW H
  generalize w.heap.size + 1 + 1 + 1 = g8 at *
  generalize w.heap.size + 1 + 1 = g6 at *
  generalize w.heap.size + 1 = g5 at *
  generalize hgg : w.heap.size = g4 at *
  clear hgg
  have c_g4 : W.cell? ⟨g4, 0, none⟩ = some (.float .f64 a) := (HS.out.1.cell 3 (by simp)).1
  go_wp2_with fail
  refine (DivConst_any a 4645040803167600640 qa Hqa.out _).mono ?_
  rintro e w1 ⟨rfl, hb⟩
  have hS := HS.out.1.keep hb
  have hA := HS.out.2
  clear HS hb c_g4
  have s0 : (w1).cell? ⟨g4, 0, none⟩ = some (.float .f64 a) := (hS.cell 3 (by simp)).1
  have t0 : (w1).frozen? ⟨g4, 0, none⟩ = false := (hS.cell 3 (by simp)).2
  replace hS : Bx base w [(g8, 0), (g6, t), (g5, b), (g4, qa)] ((w1).setCell ⟨g4, 0, none⟩ (.float .f64 qa)) := hS.set qa hA 3 (by simp)
  replace hA : Apart base [(g8, 0), (g6, t), (g5, b), (g4, qa)] := Apart.of_fst (by rfl) hA
  have HS := Lib.hid (And.intro hS hA)
  clear hS hA
  go_upto_region 2 with fail
  clear s0 t0
  generalize World.setCell _ _ _ = W at *
  clear w1
  have c_g5 : W.cell? ⟨g5, 0, none⟩ = some (.float .f64 b) := (HS.out.1.cell 2 (by simp)).1
  go_wp2_with fail
  refine (DivConst_any b 4645040803167600640 qb Hqb.out _).mono ?_
  rintro e w1 ⟨rfl, hb⟩
  have hS := HS.out.1.keep hb
  have hA := HS.out.2
  clear HS hb c_g5
  have s0 : (w1).cell? ⟨g5, 0, none⟩ = some (.float .f64 b) := (hS.cell 2 (by simp)).1
  have t0 : (w1).frozen? ⟨g5, 0, none⟩ = false := (hS.cell 2 (by simp)).2
  replace hS : Bx base w [(g8, 0), (g6, t), (g5, qb), (g4, qa)] ((w1).setCell ⟨g5, 0, none⟩ (.float .f64 qb)) := hS.set qb hA 2 (by simp)
  replace hA : Apart base [(g8, 0), (g6, t), (g5, qb), (g4, qa)] := Apart.of_fst (by rfl) hA
  have HS := Lib.hid (And.intro hS hA)
  clear hS hA
  go_upto_region 3 with fail
  clear s0 t0
  generalize World.setCell _ _ _ = W at *
  clear w1
  refine wp_region_plan 4 (by kernel_rfl) (by kernel_rfl) (PI base w [(g8, 0), (g6, t), (g5, qb), (g4, qa)] [some 15, some 16, some 17, some 18] [] (fun i => [.agg #[.float .f64 qa], .agg #[.float .f64 qa], .agg #[.float .f64 fa], .agg #[.float .f64 ra]].getD i (.bool false)) _) (PI.start HS.out.1) ?_ ?_
  · intro i o b' a' w' hi ho hb he hI
    rcases (by omega : i = 0 ∨ i = 1 ∨ i = 2 ∨ i = 3) with rfl | rfl | rfl | rfl
    · obtain rfl := Option.some.inj ho
      exact hI.stepQuiet hb rfl rfl rfl (op_load _ _ _ g4 qa _ rfl ((hI.old rfl).trans rfl) (hI.bx.cell 3 (by simp)).1)
    · obtain rfl := Option.some.inj ho
      exact hI.stepQuiet hb rfl rfl rfl (op_load _ _ _ g4 qa _ rfl ((hI.old rfl).trans rfl) (hI.bx.cell 3 (by simp)).1)
    · obtain rfl := Option.some.inj ho
      have e0 := hI.new 1 (edge he 1 (by kernel_rfl)) rfl rfl rfl (by show 16 < 87; decide)
      refine hI.stepCall hb rfl rfl rfl (op_call _ _ 74 Try.f74 _ _ _ rfl Try.func74 (by kernel_rfl) (by kernel_rfl)) ?_
      have hm : Array.map a'.eval #[.tmp 16] = #[.agg #[.float .f64 qa]] := by simp [e0]
      rw [hm]
      exact Floor_as qa fa Hfa.out.1 Hfa.out.2 _
    · obtain rfl := Option.some.inj ho
      have e0 := hI.new 0 (edge he 0 (by kernel_rfl)) rfl rfl rfl (by show 15 < 87; decide)
      have e1 := hI.new 2 (edge he 2 (by kernel_rfl)) rfl rfl rfl (by show 17 < 87; decide)
      refine hI.stepCall hb rfl rfl rfl (op_call _ _ 62 Try.f62 _ _ _ rfl Try.func62 (by kernel_rfl) (by kernel_rfl)) ?_
      have hm : Array.map a'.eval #[.tmp 15, .tmp 17] = #[.agg #[.float .f64 qa], .agg #[.float .f64 fa]] := by simp [e0, e1]
      rw [hm]
      exact Sub_any qa fa ra Hra.out _
  · intro b' a' w1 hb hI
    obtain ⟨ρ, rfl, hS, hC, hN⟩ := hI
    have hA := HS.out.2
    clear HS
    have p0 := hb 0 (by decide)
    have p1 := hb 1 (by decide)
    have p2 := hb 2 (by decide)
    have p3 := hb 3 (by decide)
    have v0 : vals [] (fun i => [.agg #[.float .f64 qa], .agg #[.float .f64 qa], .agg #[.float .f64 fa], .agg #[.float .f64 ra]].getD i (.bool false)) ρ 0 = .agg #[.float .f64 qa] := rfl
    have v1 : vals [] (fun i => [.agg #[.float .f64 qa], .agg #[.float .f64 qa], .agg #[.float .f64 fa], .agg #[.float .f64 ra]].getD i (.bool false)) ρ 1 = .agg #[.float .f64 qa] := rfl
    have v2 : vals [] (fun i => [.agg #[.float .f64 qa], .agg #[.float .f64 qa], .agg #[.float .f64 fa], .agg #[.float .f64 ra]].getD i (.bool false)) ρ 2 = .agg #[.float .f64 fa] := rfl
    have v3 : vals [] (fun i => [.agg #[.float .f64 qa], .agg #[.float .f64 qa], .agg #[.float .f64 fa], .agg #[.float .f64 ra]].getD i (.bool false)) ρ 3 = .agg #[.float .f64 ra] := rfl
    simp only [puts, Nat.zero_add, p0, p1, p2, p3, v0, v1, v2, v3, if_true, List.drop_succ_cons, List.drop_zero, Nat.reduceAdd]
    clear hb hC hN p0 p1 p2 p3 v0 v1 v2 v3
    clear ρ b'
    have s0 : (w1).cell? ⟨g4, 0, none⟩ = some (.float .f64 qa) := (hS.cell 3 (by simp)).1
    have t0 : (w1).frozen? ⟨g4, 0, none⟩ = false := (hS.cell 3 (by simp)).2
    replace hS : Bx base w [(g8, 0), (g6, t), (g5, qb), (g4, ra)] ((w1).setCell ⟨g4, 0, none⟩ (.float .f64 ra)) := hS.set ra hA 3 (by simp)
    replace hA : Apart base [(g8, 0), (g6, t), (g5, qb), (g4, ra)] := Apart.of_fst (by rfl) hA
    have HS := Lib.hid (And.intro hS hA)
    clear hS hA
    go_upto_region 4 with fail
    clear s0 t0
    generalize World.setCell _ _ _ = W at *
    clear w1
    refine wp_region_plan 4 (by kernel_rfl) (by kernel_rfl) (PI base w [(g8, 0), (g6, t), (g5, qb), (g4, ra)] [some 19, some 20, some 21, some 22] [] (fun i => [.agg #[.float .f64 qb], .agg #[.float .f64 qb], .agg #[.float .f64 fb], .agg #[.float .f64 rb]].getD i (.bool false)) _) (PI.start HS.out.1) ?_ ?_
    · intro i o b' a' w' hi ho hb he hI
      rcases (by omega : i = 0 ∨ i = 1 ∨ i = 2 ∨ i = 3) with rfl | rfl | rfl | rfl
      · obtain rfl := Option.some.inj ho
        exact hI.stepQuiet hb rfl rfl rfl (op_load _ _ _ g5 qb _ rfl ((hI.old rfl).trans rfl) (hI.bx.cell 2 (by simp)).1)
      · obtain rfl := Option.some.inj ho
        exact hI.stepQuiet hb rfl rfl rfl (op_load _ _ _ g5 qb _ rfl ((hI.old rfl).trans rfl) (hI.bx.cell 2 (by simp)).1)
      · obtain rfl := Option.some.inj ho
        have e0 := hI.new 1 (edge he 1 (by kernel_rfl)) rfl rfl rfl (by show 20 < 87; decide)
        refine hI.stepCall hb rfl rfl rfl (op_call _ _ 74 Try.f74 _ _ _ rfl Try.func74 (by kernel_rfl) (by kernel_rfl)) ?_
        have hm : Array.map a'.eval #[.tmp 20] = #[.agg #[.float .f64 qb]] := by simp [e0]
        rw [hm]
        exact Floor_as qb fb Hfb.out.1 Hfb.out.2 _
      · obtain rfl := Option.some.inj ho
        have e0 := hI.new 0 (edge he 0 (by kernel_rfl)) rfl rfl rfl (by show 19 < 87; decide)
        have e1 := hI.new 2 (edge he 2 (by kernel_rfl)) rfl rfl rfl (by show 21 < 87; decide)
        refine hI.stepCall hb rfl rfl rfl (op_call _ _ 62 Try.f62 _ _ _ rfl Try.func62 (by kernel_rfl) (by kernel_rfl)) ?_
        have hm : Array.map a'.eval #[.tmp 19, .tmp 21] = #[.agg #[.float .f64 qb], .agg #[.float .f64 fb]] := by simp [e0, e1]
        rw [hm]
        exact Sub_any qb fb rb Hrb.out _
    · intro b' a' w1 hb hI
      obtain ⟨ρ, rfl, hS, hC, hN⟩ := hI
      have hA := HS.out.2
      clear HS
      have p0 := hb 0 (by decide)
      have p1 := hb 1 (by decide)
      have p2 := hb 2 (by decide)
      have p3 := hb 3 (by decide)
      have v0 : vals [] (fun i => [.agg #[.float .f64 qb], .agg #[.float .f64 qb], .agg #[.float .f64 fb], .agg #[.float .f64 rb]].getD i (.bool false)) ρ 0 = .agg #[.float .f64 qb] := rfl
      have v1 : vals [] (fun i => [.agg #[.float .f64 qb], .agg #[.float .f64 qb], .agg #[.float .f64 fb], .agg #[.float .f64 rb]].getD i (.bool false)) ρ 1 = .agg #[.float .f64 qb] := rfl
      have v2 : vals [] (fun i => [.agg #[.float .f64 qb], .agg #[.float .f64 qb], .agg #[.float .f64 fb], .agg #[.float .f64 rb]].getD i (.bool false)) ρ 2 = .agg #[.float .f64 fb] := rfl
      have v3 : vals [] (fun i => [.agg #[.float .f64 qb], .agg #[.float .f64 qb], .agg #[.float .f64 fb], .agg #[.float .f64 rb]].getD i (.bool false)) ρ 3 = .agg #[.float .f64 rb] := rfl
      simp only [puts, Nat.zero_add, p0, p1, p2, p3, v0, v1, v2, v3, if_true, List.drop_succ_cons, List.drop_zero, Nat.reduceAdd]
      clear hb hC hN p0 p1 p2 p3 v0 v1 v2 v3
      clear ρ b'
      have s0 : (w1).cell? ⟨g5, 0, none⟩ = some (.float .f64 qb) := (hS.cell 2 (by simp)).1
      have t0 : (w1).frozen? ⟨g5, 0, none⟩ = false := (hS.cell 2 (by simp)).2
      replace hS : Bx base w [(g8, 0), (g6, t), (g5, rb), (g4, ra)] ((w1).setCell ⟨g5, 0, none⟩ (.float .f64 rb)) := hS.set rb hA 2 (by simp)
      replace hA : Apart base [(g8, 0), (g6, t), (g5, rb), (g4, ra)] := Apart.of_fst (by rfl) hA
      have HS := Lib.hid (And.intro hS hA)
      clear hS hA
      go_upto_region 5 with fail
      clear s0 t0
      generalize World.setCell _ _ _ = W at *
      clear w1
      go_upto_region 6 with fail
      go_upto_region 12 with fail
      go_upto_region 18 with fail
      go_upto_region 19 with fail
      have q1 : (FloatKind.f64.format.order rb ra == some .lt) = false := Hq1.out
      refine wp_region_plan 4 (by kernel_rfl) (by kernel_rfl) (PI base w [(g8, 0), (g6, t), (g5, rb), (g4, ra)] [some 66, some 67, some 68, some 69] [] (fun i => [.agg #[.float .f64 rb], .float .f64 rb, .agg #[.float .f64 ra], .float .f64 ra].getD i (.bool false)) _) (PI.start HS.out.1) ?_ ?_
      · intro i o b' a' w' hi ho hb he hI
        rcases (by omega : i = 0 ∨ i = 1 ∨ i = 2 ∨ i = 3) with rfl | rfl | rfl | rfl
        · obtain rfl := Option.some.inj ho
          exact hI.stepQuiet hb rfl rfl rfl (op_load _ _ _ g5 rb _ rfl ((hI.old rfl).trans rfl) (hI.bx.cell 2 (by simp)).1)
        · obtain rfl := Option.some.inj ho
          have e0 := hI.new 0 (edge he 0 (by kernel_rfl)) rfl rfl rfl (by show 66 < 87; decide)
          refine hI.stepCall hb rfl rfl rfl (op_call _ _ 43 Try.f43 _ _ _ rfl Try.func43 (by kernel_rfl) (by kernel_rfl)) ?_
          have hm : Array.map a'.eval #[.tmp 66] = #[.agg #[.float .f64 rb]] := by simp [e0]
          rw [hm]
          exact Value_any rb _
        · obtain rfl := Option.some.inj ho
          exact hI.stepQuiet hb rfl rfl rfl (op_load _ _ _ g4 ra _ rfl ((hI.old rfl).trans rfl) (hI.bx.cell 3 (by simp)).1)
        · obtain rfl := Option.some.inj ho
          have e0 := hI.new 2 (edge he 2 (by kernel_rfl)) rfl rfl rfl (by show 68 < 87; decide)
          refine hI.stepCall hb rfl rfl rfl (op_call _ _ 43 Try.f43 _ _ _ rfl Try.func43 (by kernel_rfl) (by kernel_rfl)) ?_
          have hm : Array.map a'.eval #[.tmp 68] = #[.agg #[.float .f64 ra]] := by simp [e0]
          rw [hm]
          exact Value_any ra _
      · intro b' a' w1 hb hI
        obtain ⟨ρ, rfl, hS, hC, hN⟩ := hI
        have hA := HS.out.2
        clear HS
        have p0 := hb 0 (by decide)
        have p1 := hb 1 (by decide)
        have p2 := hb 2 (by decide)
        have p3 := hb 3 (by decide)
        have v0 : vals [] (fun i => [.agg #[.float .f64 rb], .float .f64 rb, .agg #[.float .f64 ra], .float .f64 ra].getD i (.bool false)) ρ 0 = .agg #[.float .f64 rb] := rfl
        have v1 : vals [] (fun i => [.agg #[.float .f64 rb], .float .f64 rb, .agg #[.float .f64 ra], .float .f64 ra].getD i (.bool false)) ρ 1 = .float .f64 rb := rfl
        have v2 : vals [] (fun i => [.agg #[.float .f64 rb], .float .f64 rb, .agg #[.float .f64 ra], .float .f64 ra].getD i (.bool false)) ρ 2 = .agg #[.float .f64 ra] := rfl
        have v3 : vals [] (fun i => [.agg #[.float .f64 rb], .float .f64 rb, .agg #[.float .f64 ra], .float .f64 ra].getD i (.bool false)) ρ 3 = .float .f64 ra := rfl
        simp only [puts, Nat.zero_add, p0, p1, p2, p3, v0, v1, v2, v3, if_true, List.drop_succ_cons, List.drop_zero, Nat.reduceAdd]
        clear hb hC hN p0 p1 p2 p3 v0 v1 v2 v3
        clear ρ b'
        have HS := Lib.hid (And.intro hS hA)
        clear hS hA
        go_upto_region 24 with fail
        generalize w1 = W at *
        clear q1
        have c_g4 : W.cell? ⟨g4, 0, none⟩ = some (.float .f64 ra) := (HS.out.1.cell 3 (by simp)).1
        have c_g5 : W.cell? ⟨g5, 0, none⟩ = some (.float .f64 rb) := (HS.out.1.cell 2 (by simp)).1
        have c_g6 : W.cell? ⟨g6, 0, none⟩ = some (.float .f64 t) := (HS.out.1.cell 1 (by simp)).1
        go_wp2_with fail
        refine (Lerp_any ra rb t p q r Hp.out Hq.out Hr.out _).mono ?_
        rintro e w1 ⟨rfl, hb⟩
        have hS := HS.out.1.keep hb
        have hA := HS.out.2
        clear HS hb c_g4 c_g5 c_g6
        have HS := Lib.hid (And.intro hS hA)
        clear hS hA
        go_wp2_with fail
        refine (MulConst_any r 4645040803167600640 z Hz.out _).mono ?_
        rintro e w2 ⟨rfl, hb⟩
        have hS := HS.out.1.keep hb
        have hA := HS.out.2
        clear HS hb 
        clear w1
        generalize w2 = w1 at *
        have s0 : (w1).cell? ⟨g8, 0, none⟩ = some (.float .f64 0) := (hS.cell 0 (by simp)).1
        have t0 : (w1).frozen? ⟨g8, 0, none⟩ = false := (hS.cell 0 (by simp)).2
        replace hS : Bx base w [(g8, z), (g6, t), (g5, rb), (g4, ra)] ((w1).setCell ⟨g8, 0, none⟩ (.float .f64 z)) := hS.set z hA 0 (by simp)
        replace hA : Apart base [(g8, z), (g6, t), (g5, rb), (g4, ra)] := Apart.of_fst (by rfl) hA
        have HS := Lib.hid (And.intro hS hA)
        clear hS hA
        go_wp2_with fail
        clear s0 t0
        generalize World.setCell _ _ _ = W at *
        clear w1
        have c_g8 : W.cell? ⟨g8, 0, none⟩ = some (.float .f64 z) := (HS.out.1.cell 0 (by simp)).1
        refine bodyPost_ret (v := .agg #[.float .f64 z]) (by simp [results, Try.results55, go_sem, c_g8]) rfl ⟨rfl, HS.out.1.below.2⟩
set_option maxRecDepth 100000 in
set_option maxHeartbeats 4000000 in
theorem ih3_hi (a b t qa qb fa fb ra rb p q r z ra1 base : Nat) (w : World) (H : Hid (base = w.heap.size)) (Hqa : Hid (Ieee.double.div a 4645040803167600640 = some qa)) (Hqb : Hid (Ieee.double.div b 4645040803167600640 = some qb)) (Hfa : Hid (Finite qa ∧ floorW qa = fa)) (Hfb : Hid (Finite qb ∧ floorW qb = fb)) (Hra : Hid (Ieee.double.sub qa fa = some ra)) (Hrb : Hid (Ieee.double.sub qb fb = some rb)) (Hra1 : Hid (Ieee.double.add ra 4607182418800017408 = some ra1)) (Hq1 : Hid (ltB ra rb = true)) (Hp : Hid (Ieee.double.sub rb ra1 = some p)) (Hq : Hid (Ieee.double.mul p t = some q)) (Hr : Hid (Ieee.double.add q ra1 = some r)) (Hz : Hid (Ieee.double.mul r 4645040803167600640 = some z)) :
    Calls Try.prog 55 #[.agg #[.float .f64 a], .agg #[.float .f64 b], .agg #[.float .f64 t], .int .u8 3] w fun e w' => e = .returned (.agg #[.float .f64 z]) ∧ Below base w w' := by
  go_enter Try.func55, Try.ntmps55
  go_upto_region 1 with fail
  generalize hW : World.alloc _ _ = W at *
  have hS : Bx base w [(w.heap.size + 1 + 1 + 1, 0), (w.heap.size + 1 + 1, t), (w.heap.size + 1, b), (w.heap.size, a)] W := by
    subst hW
    have := (((((Bx.start w).alloc a 41).alloc b 41).alloc t 41).alloc 0 41)
    rw [H.out]
    simpa using this
  have hA : Apart base [(w.heap.size + 1 + 1 + 1, 0), (w.heap.size + 1 + 1, t), (w.heap.size + 1, b), (w.heap.size, a)] := by
    rw [H.out]
    simp [Apart]; try omega
  have HS := Lib.hid (And.intro hS hA)
  clear hS hA hW H
  generalize w.heap.size + 1 + 1 + 1 = g8 at *
  generalize w.heap.size + 1 + 1 = g6 at *
  generalize w.heap.size + 1 = g5 at *
  generalize hgg : w.heap.size = g4 at *
  clear hgg
  have c_g4 : W.cell? ⟨g4, 0, none⟩ = some (.float .f64 a) := (HS.out.1.cell 3 (by simp)).1
  go_wp2_with fail
  refine (DivConst_any a 4645040803167600640 qa Hqa.out _).mono ?_
  rintro e w1 ⟨rfl, hb⟩
  have hS := HS.out.1.keep hb
  have hA := HS.out.2
  clear HS hb c_g4
  have s0 : (w1).cell? ⟨g4, 0, none⟩ = some (.float .f64 a) := (hS.cell 3 (by simp)).1
  have t0 : (w1).frozen? ⟨g4, 0, none⟩ = false := (hS.cell 3 (by simp)).2
  replace hS : Bx base w [(g8, 0), (g6, t), (g5, b), (g4, qa)] ((w1).setCell ⟨g4, 0, none⟩ (.float .f64 qa)) := hS.set qa hA 3 (by simp)
  replace hA : Apart base [(g8, 0), (g6, t), (g5, b), (g4, qa)] := Apart.of_fst (by rfl) hA
  have HS := Lib.hid (And.intro hS hA)
  clear hS hA
  go_upto_region 2 with fail
  clear s0 t0
  generalize World.setCell _ _ _ = W at *
  clear w1
  have c_g5 : W.cell? ⟨g5, 0, none⟩ = some (.float .f64 b) := (HS.out.1.cell 2 (by simp)).1
  go_wp2_with fail
  refine (DivConst_any b 4645040803167600640 qb Hqb.out _).mono ?_
  rintro e w1 ⟨rfl, hb⟩
  have hS := HS.out.1.keep hb
  have hA := HS.out.2
  clear HS hb c_g5
  have s0 : (w1).cell? ⟨g5, 0, none⟩ = some (.float .f64 b) := (hS.cell 2 (by simp)).1
  have t0 : (w1).frozen? ⟨g5, 0, none⟩ = false := (hS.cell 2 (by simp)).2
  replace hS : Bx base w [(g8, 0), (g6, t), (g5, qb), (g4, qa)] ((w1).setCell ⟨g5, 0, none⟩ (.float .f64 qb)) := hS.set qb hA 2 (by simp)
  replace hA : Apart base [(g8, 0), (g6, t), (g5, qb), (g4, qa)] := Apart.of_fst (by rfl) hA
  have HS := Lib.hid (And.intro hS hA)
  clear hS hA
  go_upto_region 3 with fail
  clear s0 t0
  generalize World.setCell _ _ _ = W at *
  clear w1
  refine wp_region_plan 4 (by kernel_rfl) (by kernel_rfl) (PI base w [(g8, 0), (g6, t), (g5, qb), (g4, qa)] [some 15, some 16, some 17, some 18] [] (fun i => [.agg #[.float .f64 qa], .agg #[.float .f64 qa], .agg #[.float .f64 fa], .agg #[.float .f64 ra]].getD i (.bool false)) _) (PI.start HS.out.1) ?_ ?_
  · intro i o b' a' w' hi ho hb he hI
    rcases (by omega : i = 0 ∨ i = 1 ∨ i = 2 ∨ i = 3) with rfl | rfl | rfl | rfl
    · obtain rfl := Option.some.inj ho
      exact hI.stepQuiet hb rfl rfl rfl (op_load _ _ _ g4 qa _ rfl ((hI.old rfl).trans rfl) (hI.bx.cell 3 (by simp)).1)
    · obtain rfl := Option.some.inj ho
      exact hI.stepQuiet hb rfl rfl rfl (op_load _ _ _ g4 qa _ rfl ((hI.old rfl).trans rfl) (hI.bx.cell 3 (by simp)).1)
    · obtain rfl := Option.some.inj ho
      have e0 := hI.new 1 (edge he 1 (by kernel_rfl)) rfl rfl rfl (by show 16 < 87; decide)
      refine hI.stepCall hb rfl rfl rfl (op_call _ _ 74 Try.f74 _ _ _ rfl Try.func74 (by kernel_rfl) (by kernel_rfl)) ?_
      have hm : Array.map a'.eval #[.tmp 16] = #[.agg #[.float .f64 qa]] := by simp [e0]
      rw [hm]
      exact Floor_as qa fa Hfa.out.1 Hfa.out.2 _
    · obtain rfl := Option.some.inj ho
      have e0 := hI.new 0 (edge he 0 (by kernel_rfl)) rfl rfl rfl (by show 15 < 87; decide)
      have e1 := hI.new 2 (edge he 2 (by kernel_rfl)) rfl rfl rfl (by show 17 < 87; decide)
      refine hI.stepCall hb rfl rfl rfl (op_call _ _ 62 Try.f62 _ _ _ rfl Try.func62 (by kernel_rfl) (by kernel_rfl)) ?_
      have hm : Array.map a'.eval #[.tmp 15, .tmp 17] = #[.agg #[.float .f64 qa], .agg #[.float .f64 fa]] := by simp [e0, e1]
      rw [hm]
      exact Sub_any qa fa ra Hra.out _
  · intro b' a' w1 hb hI
    obtain ⟨ρ, rfl, hS, hC, hN⟩ := hI
    have hA := HS.out.2
    clear HS
    have p0 := hb 0 (by decide)
    have p1 := hb 1 (by decide)
    have p2 := hb 2 (by decide)
    have p3 := hb 3 (by decide)
    have v0 : vals [] (fun i => [.agg #[.float .f64 qa], .agg #[.float .f64 qa], .agg #[.float .f64 fa], .agg #[.float .f64 ra]].getD i (.bool false)) ρ 0 = .agg #[.float .f64 qa] := rfl
    have v1 : vals [] (fun i => [.agg #[.float .f64 qa], .agg #[.float .f64 qa], .agg #[.float .f64 fa], .agg #[.float .f64 ra]].getD i (.bool false)) ρ 1 = .agg #[.float .f64 qa] := rfl
    have v2 : vals [] (fun i => [.agg #[.float .f64 qa], .agg #[.float .f64 qa], .agg #[.float .f64 fa], .agg #[.float .f64 ra]].getD i (.bool false)) ρ 2 = .agg #[.float .f64 fa] := rfl
    have v3 : vals [] (fun i => [.agg #[.float .f64 qa], .agg #[.float .f64 qa], .agg #[.float .f64 fa], .agg #[.float .f64 ra]].getD i (.bool false)) ρ 3 = .agg #[.float .f64 ra] := rfl
    simp only [puts, Nat.zero_add, p0, p1, p2, p3, v0, v1, v2, v3, if_true, List.drop_succ_cons, List.drop_zero, Nat.reduceAdd]
    clear hb hC hN p0 p1 p2 p3 v0 v1 v2 v3
    clear ρ b'
    have s0 : (w1).cell? ⟨g4, 0, none⟩ = some (.float .f64 qa) := (hS.cell 3 (by simp)).1
    have t0 : (w1).frozen? ⟨g4, 0, none⟩ = false := (hS.cell 3 (by simp)).2
    replace hS : Bx base w [(g8, 0), (g6, t), (g5, qb), (g4, ra)] ((w1).setCell ⟨g4, 0, none⟩ (.float .f64 ra)) := hS.set ra hA 3 (by simp)
    replace hA : Apart base [(g8, 0), (g6, t), (g5, qb), (g4, ra)] := Apart.of_fst (by rfl) hA
    have HS := Lib.hid (And.intro hS hA)
    clear hS hA
    go_upto_region 4 with fail
    clear s0 t0
    generalize World.setCell _ _ _ = W at *
    clear w1
    refine wp_region_plan 4 (by kernel_rfl) (by kernel_rfl) (PI base w [(g8, 0), (g6, t), (g5, qb), (g4, ra)] [some 19, some 20, some 21, some 22] [] (fun i => [.agg #[.float .f64 qb], .agg #[.float .f64 qb], .agg #[.float .f64 fb], .agg #[.float .f64 rb]].getD i (.bool false)) _) (PI.start HS.out.1) ?_ ?_
    · intro i o b' a' w' hi ho hb he hI
      rcases (by omega : i = 0 ∨ i = 1 ∨ i = 2 ∨ i = 3) with rfl | rfl | rfl | rfl
      · obtain rfl := Option.some.inj ho
        exact hI.stepQuiet hb rfl rfl rfl (op_load _ _ _ g5 qb _ rfl ((hI.old rfl).trans rfl) (hI.bx.cell 2 (by simp)).1)
      · obtain rfl := Option.some.inj ho
        exact hI.stepQuiet hb rfl rfl rfl (op_load _ _ _ g5 qb _ rfl ((hI.old rfl).trans rfl) (hI.bx.cell 2 (by simp)).1)
      · obtain rfl := Option.some.inj ho
        have e0 := hI.new 1 (edge he 1 (by kernel_rfl)) rfl rfl rfl (by show 20 < 87; decide)
        refine hI.stepCall hb rfl rfl rfl (op_call _ _ 74 Try.f74 _ _ _ rfl Try.func74 (by kernel_rfl) (by kernel_rfl)) ?_
        have hm : Array.map a'.eval #[.tmp 20] = #[.agg #[.float .f64 qb]] := by simp [e0]
        rw [hm]
        exact Floor_as qb fb Hfb.out.1 Hfb.out.2 _
      · obtain rfl := Option.some.inj ho
        have e0 := hI.new 0 (edge he 0 (by kernel_rfl)) rfl rfl rfl (by show 19 < 87; decide)
        have e1 := hI.new 2 (edge he 2 (by kernel_rfl)) rfl rfl rfl (by show 21 < 87; decide)
        refine hI.stepCall hb rfl rfl rfl (op_call _ _ 62 Try.f62 _ _ _ rfl Try.func62 (by kernel_rfl) (by kernel_rfl)) ?_
        have hm : Array.map a'.eval #[.tmp 19, .tmp 21] = #[.agg #[.float .f64 qb], .agg #[.float .f64 fb]] := by simp [e0, e1]
        rw [hm]
        exact Sub_any qb fb rb Hrb.out _
    · intro b' a' w1 hb hI
      obtain ⟨ρ, rfl, hS, hC, hN⟩ := hI
      have hA := HS.out.2
      clear HS
      have p0 := hb 0 (by decide)
      have p1 := hb 1 (by decide)
      have p2 := hb 2 (by decide)
      have p3 := hb 3 (by decide)
      have v0 : vals [] (fun i => [.agg #[.float .f64 qb], .agg #[.float .f64 qb], .agg #[.float .f64 fb], .agg #[.float .f64 rb]].getD i (.bool false)) ρ 0 = .agg #[.float .f64 qb] := rfl
      have v1 : vals [] (fun i => [.agg #[.float .f64 qb], .agg #[.float .f64 qb], .agg #[.float .f64 fb], .agg #[.float .f64 rb]].getD i (.bool false)) ρ 1 = .agg #[.float .f64 qb] := rfl
      have v2 : vals [] (fun i => [.agg #[.float .f64 qb], .agg #[.float .f64 qb], .agg #[.float .f64 fb], .agg #[.float .f64 rb]].getD i (.bool false)) ρ 2 = .agg #[.float .f64 fb] := rfl
      have v3 : vals [] (fun i => [.agg #[.float .f64 qb], .agg #[.float .f64 qb], .agg #[.float .f64 fb], .agg #[.float .f64 rb]].getD i (.bool false)) ρ 3 = .agg #[.float .f64 rb] := rfl
      simp only [puts, Nat.zero_add, p0, p1, p2, p3, v0, v1, v2, v3, if_true, List.drop_succ_cons, List.drop_zero, Nat.reduceAdd]
      clear hb hC hN p0 p1 p2 p3 v0 v1 v2 v3
      clear ρ b'
      have s0 : (w1).cell? ⟨g5, 0, none⟩ = some (.float .f64 qb) := (hS.cell 2 (by simp)).1
      have t0 : (w1).frozen? ⟨g5, 0, none⟩ = false := (hS.cell 2 (by simp)).2
      replace hS : Bx base w [(g8, 0), (g6, t), (g5, rb), (g4, ra)] ((w1).setCell ⟨g5, 0, none⟩ (.float .f64 rb)) := hS.set rb hA 2 (by simp)
      replace hA : Apart base [(g8, 0), (g6, t), (g5, rb), (g4, ra)] := Apart.of_fst (by rfl) hA
      have HS := Lib.hid (And.intro hS hA)
      clear hS hA
      go_upto_region 5 with fail
      clear s0 t0
      generalize World.setCell _ _ _ = W at *
      clear w1
      go_upto_region 6 with fail
      go_upto_region 12 with fail
      go_upto_region 18 with fail
      go_upto_region 21 with fail
      go_upto_region 22 with fail
      have q1 : (FloatKind.f64.format.order ra rb == some .lt) = true := Hq1.out
      refine wp_region_plan 4 (by kernel_rfl) (by kernel_rfl) (PI base w [(g8, 0), (g6, t), (g5, rb), (g4, ra)] [some 75, some 76, some 77, some 78] [] (fun i => [.agg #[.float .f64 ra], .float .f64 ra, .agg #[.float .f64 rb], .float .f64 rb].getD i (.bool false)) _) (PI.start HS.out.1) ?_ ?_
      · intro i o b' a' w' hi ho hb he hI
        rcases (by omega : i = 0 ∨ i = 1 ∨ i = 2 ∨ i = 3) with rfl | rfl | rfl | rfl
        · obtain rfl := Option.some.inj ho
          exact hI.stepQuiet hb rfl rfl rfl (op_load _ _ _ g4 ra _ rfl ((hI.old rfl).trans rfl) (hI.bx.cell 3 (by simp)).1)
        · obtain rfl := Option.some.inj ho
          have e0 := hI.new 0 (edge he 0 (by kernel_rfl)) rfl rfl rfl (by show 75 < 87; decide)
          refine hI.stepCall hb rfl rfl rfl (op_call _ _ 43 Try.f43 _ _ _ rfl Try.func43 (by kernel_rfl) (by kernel_rfl)) ?_
          have hm : Array.map a'.eval #[.tmp 75] = #[.agg #[.float .f64 ra]] := by simp [e0]
          rw [hm]
          exact Value_any ra _
        · obtain rfl := Option.some.inj ho
          exact hI.stepQuiet hb rfl rfl rfl (op_load _ _ _ g5 rb _ rfl ((hI.old rfl).trans rfl) (hI.bx.cell 2 (by simp)).1)
        · obtain rfl := Option.some.inj ho
          have e0 := hI.new 2 (edge he 2 (by kernel_rfl)) rfl rfl rfl (by show 77 < 87; decide)
          refine hI.stepCall hb rfl rfl rfl (op_call _ _ 43 Try.f43 _ _ _ rfl Try.func43 (by kernel_rfl) (by kernel_rfl)) ?_
          have hm : Array.map a'.eval #[.tmp 77] = #[.agg #[.float .f64 rb]] := by simp [e0]
          rw [hm]
          exact Value_any rb _
      · intro b' a' w1 hb hI
        obtain ⟨ρ, rfl, hS, hC, hN⟩ := hI
        have hA := HS.out.2
        clear HS
        have p0 := hb 0 (by decide)
        have p1 := hb 1 (by decide)
        have p2 := hb 2 (by decide)
        have p3 := hb 3 (by decide)
        have v0 : vals [] (fun i => [.agg #[.float .f64 ra], .float .f64 ra, .agg #[.float .f64 rb], .float .f64 rb].getD i (.bool false)) ρ 0 = .agg #[.float .f64 ra] := rfl
        have v1 : vals [] (fun i => [.agg #[.float .f64 ra], .float .f64 ra, .agg #[.float .f64 rb], .float .f64 rb].getD i (.bool false)) ρ 1 = .float .f64 ra := rfl
        have v2 : vals [] (fun i => [.agg #[.float .f64 ra], .float .f64 ra, .agg #[.float .f64 rb], .float .f64 rb].getD i (.bool false)) ρ 2 = .agg #[.float .f64 rb] := rfl
        have v3 : vals [] (fun i => [.agg #[.float .f64 ra], .float .f64 ra, .agg #[.float .f64 rb], .float .f64 rb].getD i (.bool false)) ρ 3 = .float .f64 rb := rfl
        simp only [puts, Nat.zero_add, p0, p1, p2, p3, v0, v1, v2, v3, if_true, List.drop_succ_cons, List.drop_zero, Nat.reduceAdd]
        clear hb hC hN p0 p1 p2 p3 v0 v1 v2 v3
        clear ρ b'
        have HS := Lib.hid (And.intro hS hA)
        clear hS hA
        go_upto_region 23 with fail
        generalize w1 = W at *
        clear q1
        have c_g4 : W.cell? ⟨g4, 0, none⟩ = some (.float .f64 ra) := (HS.out.1.cell 3 (by simp)).1
        go_wp2_with fail
        refine (AddConst_any ra 4607182418800017408 ra1 Hra1.out _).mono ?_
        rintro e w1 ⟨rfl, hb⟩
        have hS := HS.out.1.keep hb
        have hA := HS.out.2
        clear HS hb c_g4
        have s0 : (w1).cell? ⟨g4, 0, none⟩ = some (.float .f64 ra) := (hS.cell 3 (by simp)).1
        have t0 : (w1).frozen? ⟨g4, 0, none⟩ = false := (hS.cell 3 (by simp)).2
        replace hS : Bx base w [(g8, 0), (g6, t), (g5, rb), (g4, ra1)] ((w1).setCell ⟨g4, 0, none⟩ (.float .f64 ra1)) := hS.set ra1 hA 3 (by simp)
        replace hA : Apart base [(g8, 0), (g6, t), (g5, rb), (g4, ra1)] := Apart.of_fst (by rfl) hA
        have HS := Lib.hid (And.intro hS hA)
        clear hS hA
        go_upto_region 24 with fail
        clear s0 t0
        generalize World.setCell _ _ _ = W at *
        clear w1
        have c_g4 : W.cell? ⟨g4, 0, none⟩ = some (.float .f64 ra1) := (HS.out.1.cell 3 (by simp)).1
        have c_g5 : W.cell? ⟨g5, 0, none⟩ = some (.float .f64 rb) := (HS.out.1.cell 2 (by simp)).1
        have c_g6 : W.cell? ⟨g6, 0, none⟩ = some (.float .f64 t) := (HS.out.1.cell 1 (by simp)).1
        go_wp2_with fail
        refine (Lerp_any ra1 rb t p q r Hp.out Hq.out Hr.out _).mono ?_
        rintro e w1 ⟨rfl, hb⟩
        have hS := HS.out.1.keep hb
        have hA := HS.out.2
        clear HS hb c_g4 c_g5 c_g6
        have HS := Lib.hid (And.intro hS hA)
        clear hS hA
        go_wp2_with fail
        refine (MulConst_any r 4645040803167600640 z Hz.out _).mono ?_
        rintro e w2 ⟨rfl, hb⟩
        have hS := HS.out.1.keep hb
        have hA := HS.out.2
        clear HS hb 
        clear w1
        generalize w2 = w1 at *
        have s0 : (w1).cell? ⟨g8, 0, none⟩ = some (.float .f64 0) := (hS.cell 0 (by simp)).1
        have t0 : (w1).frozen? ⟨g8, 0, none⟩ = false := (hS.cell 0 (by simp)).2
        replace hS : Bx base w [(g8, z), (g6, t), (g5, rb), (g4, ra1)] ((w1).setCell ⟨g8, 0, none⟩ (.float .f64 z)) := hS.set z hA 0 (by simp)
        replace hA : Apart base [(g8, z), (g6, t), (g5, rb), (g4, ra1)] := Apart.of_fst (by rfl) hA
        have HS := Lib.hid (And.intro hS hA)
        clear hS hA
        go_wp2_with fail
        clear s0 t0
        generalize World.setCell _ _ _ = W at *
        clear w1
        have c_g8 : W.cell? ⟨g8, 0, none⟩ = some (.float .f64 z) := (HS.out.1.cell 0 (by simp)).1
        refine bodyPost_ret (v := .agg #[.float .f64 z]) (by simp [results, Try.results55, go_sem, c_g8]) rfl ⟨rfl, HS.out.1.below.2⟩
set_option maxRecDepth 100000 in
set_option maxHeartbeats 4000000 in
theorem ih3_no (a b t qa qb fa fb ra rb p q r z base : Nat) (w : World) (H : Hid (base = w.heap.size)) (Hqa : Hid (Ieee.double.div a 4645040803167600640 = some qa)) (Hqb : Hid (Ieee.double.div b 4645040803167600640 = some qb)) (Hfa : Hid (Finite qa ∧ floorW qa = fa)) (Hfb : Hid (Finite qb ∧ floorW qb = fb)) (Hra : Hid (Ieee.double.sub qa fa = some ra)) (Hrb : Hid (Ieee.double.sub qb fb = some rb)) (Hq1 : Hid (ltB ra rb = false)) (Hp : Hid (Ieee.double.sub rb ra = some p)) (Hq : Hid (Ieee.double.mul p t = some q)) (Hr : Hid (Ieee.double.add q ra = some r)) (Hz : Hid (Ieee.double.mul r 4645040803167600640 = some z)) :
    Calls Try.prog 55 #[.agg #[.float .f64 a], .agg #[.float .f64 b], .agg #[.float .f64 t], .int .u8 3] w fun e w' => e = .returned (.agg #[.float .f64 z]) ∧ Below base w w' := by
  go_enter Try.func55, Try.ntmps55
  go_upto_region 1 with fail
  generalize hW : World.alloc _ _ = W at *
  have hS : Bx base w [(w.heap.size + 1 + 1 + 1, 0), (w.heap.size + 1 + 1, t), (w.heap.size + 1, b), (w.heap.size, a)] W := by
    subst hW
    have := (((((Bx.start w).alloc a 41).alloc b 41).alloc t 41).alloc 0 41)
    rw [H.out]
    simpa using this
  have hA : Apart base [(w.heap.size + 1 + 1 + 1, 0), (w.heap.size + 1 + 1, t), (w.heap.size + 1, b), (w.heap.size, a)] := by
    rw [H.out]
    simp [Apart]; try omega
  have HS := Lib.hid (And.intro hS hA)
  clear hS hA hW H
  generalize w.heap.size + 1 + 1 + 1 = g8 at *
  generalize w.heap.size + 1 + 1 = g6 at *
  generalize w.heap.size + 1 = g5 at *
  generalize hgg : w.heap.size = g4 at *
  clear hgg
  have c_g4 : W.cell? ⟨g4, 0, none⟩ = some (.float .f64 a) := (HS.out.1.cell 3 (by simp)).1
  go_wp2_with fail
  refine (DivConst_any a 4645040803167600640 qa Hqa.out _).mono ?_
  rintro e w1 ⟨rfl, hb⟩
  have hS := HS.out.1.keep hb
  have hA := HS.out.2
  clear HS hb c_g4
  have s0 : (w1).cell? ⟨g4, 0, none⟩ = some (.float .f64 a) := (hS.cell 3 (by simp)).1
  have t0 : (w1).frozen? ⟨g4, 0, none⟩ = false := (hS.cell 3 (by simp)).2
  replace hS : Bx base w [(g8, 0), (g6, t), (g5, b), (g4, qa)] ((w1).setCell ⟨g4, 0, none⟩ (.float .f64 qa)) := hS.set qa hA 3 (by simp)
  replace hA : Apart base [(g8, 0), (g6, t), (g5, b), (g4, qa)] := Apart.of_fst (by rfl) hA
  have HS := Lib.hid (And.intro hS hA)
  clear hS hA
  go_upto_region 2 with fail
  clear s0 t0
  generalize World.setCell _ _ _ = W at *
  clear w1
  have c_g5 : W.cell? ⟨g5, 0, none⟩ = some (.float .f64 b) := (HS.out.1.cell 2 (by simp)).1
  go_wp2_with fail
  refine (DivConst_any b 4645040803167600640 qb Hqb.out _).mono ?_
  rintro e w1 ⟨rfl, hb⟩
  have hS := HS.out.1.keep hb
  have hA := HS.out.2
  clear HS hb c_g5
  have s0 : (w1).cell? ⟨g5, 0, none⟩ = some (.float .f64 b) := (hS.cell 2 (by simp)).1
  have t0 : (w1).frozen? ⟨g5, 0, none⟩ = false := (hS.cell 2 (by simp)).2
  replace hS : Bx base w [(g8, 0), (g6, t), (g5, qb), (g4, qa)] ((w1).setCell ⟨g5, 0, none⟩ (.float .f64 qb)) := hS.set qb hA 2 (by simp)
  replace hA : Apart base [(g8, 0), (g6, t), (g5, qb), (g4, qa)] := Apart.of_fst (by rfl) hA
  have HS := Lib.hid (And.intro hS hA)
  clear hS hA
  go_upto_region 3 with fail
  clear s0 t0
  generalize World.setCell _ _ _ = W at *
  clear w1
  refine wp_region_plan 4 (by kernel_rfl) (by kernel_rfl) (PI base w [(g8, 0), (g6, t), (g5, qb), (g4, qa)] [some 15, some 16, some 17, some 18] [] (fun i => [.agg #[.float .f64 qa], .agg #[.float .f64 qa], .agg #[.float .f64 fa], .agg #[.float .f64 ra]].getD i (.bool false)) _) (PI.start HS.out.1) ?_ ?_
  · intro i o b' a' w' hi ho hb he hI
    rcases (by omega : i = 0 ∨ i = 1 ∨ i = 2 ∨ i = 3) with rfl | rfl | rfl | rfl
    · obtain rfl := Option.some.inj ho
      exact hI.stepQuiet hb rfl rfl rfl (op_load _ _ _ g4 qa _ rfl ((hI.old rfl).trans rfl) (hI.bx.cell 3 (by simp)).1)
    · obtain rfl := Option.some.inj ho
      exact hI.stepQuiet hb rfl rfl rfl (op_load _ _ _ g4 qa _ rfl ((hI.old rfl).trans rfl) (hI.bx.cell 3 (by simp)).1)
    · obtain rfl := Option.some.inj ho
      have e0 := hI.new 1 (edge he 1 (by kernel_rfl)) rfl rfl rfl (by show 16 < 87; decide)
      refine hI.stepCall hb rfl rfl rfl (op_call _ _ 74 Try.f74 _ _ _ rfl Try.func74 (by kernel_rfl) (by kernel_rfl)) ?_
      have hm : Array.map a'.eval #[.tmp 16] = #[.agg #[.float .f64 qa]] := by simp [e0]
      rw [hm]
      exact Floor_as qa fa Hfa.out.1 Hfa.out.2 _
    · obtain rfl := Option.some.inj ho
      have e0 := hI.new 0 (edge he 0 (by kernel_rfl)) rfl rfl rfl (by show 15 < 87; decide)
      have e1 := hI.new 2 (edge he 2 (by kernel_rfl)) rfl rfl rfl (by show 17 < 87; decide)
      refine hI.stepCall hb rfl rfl rfl (op_call _ _ 62 Try.f62 _ _ _ rfl Try.func62 (by kernel_rfl) (by kernel_rfl)) ?_
      have hm : Array.map a'.eval #[.tmp 15, .tmp 17] = #[.agg #[.float .f64 qa], .agg #[.float .f64 fa]] := by simp [e0, e1]
      rw [hm]
      exact Sub_any qa fa ra Hra.out _
  · intro b' a' w1 hb hI
    obtain ⟨ρ, rfl, hS, hC, hN⟩ := hI
    have hA := HS.out.2
    clear HS
    have p0 := hb 0 (by decide)
    have p1 := hb 1 (by decide)
    have p2 := hb 2 (by decide)
    have p3 := hb 3 (by decide)
    have v0 : vals [] (fun i => [.agg #[.float .f64 qa], .agg #[.float .f64 qa], .agg #[.float .f64 fa], .agg #[.float .f64 ra]].getD i (.bool false)) ρ 0 = .agg #[.float .f64 qa] := rfl
    have v1 : vals [] (fun i => [.agg #[.float .f64 qa], .agg #[.float .f64 qa], .agg #[.float .f64 fa], .agg #[.float .f64 ra]].getD i (.bool false)) ρ 1 = .agg #[.float .f64 qa] := rfl
    have v2 : vals [] (fun i => [.agg #[.float .f64 qa], .agg #[.float .f64 qa], .agg #[.float .f64 fa], .agg #[.float .f64 ra]].getD i (.bool false)) ρ 2 = .agg #[.float .f64 fa] := rfl
    have v3 : vals [] (fun i => [.agg #[.float .f64 qa], .agg #[.float .f64 qa], .agg #[.float .f64 fa], .agg #[.float .f64 ra]].getD i (.bool false)) ρ 3 = .agg #[.float .f64 ra] := rfl
    simp only [puts, Nat.zero_add, p0, p1, p2, p3, v0, v1, v2, v3, if_true, List.drop_succ_cons, List.drop_zero, Nat.reduceAdd]
    clear hb hC hN p0 p1 p2 p3 v0 v1 v2 v3
    clear ρ b'
    have s0 : (w1).cell? ⟨g4, 0, none⟩ = some (.float .f64 qa) := (hS.cell 3 (by simp)).1
    have t0 : (w1).frozen? ⟨g4, 0, none⟩ = false := (hS.cell 3 (by simp)).2
    replace hS : Bx base w [(g8, 0), (g6, t), (g5, qb), (g4, ra)] ((w1).setCell ⟨g4, 0, none⟩ (.float .f64 ra)) := hS.set ra hA 3 (by simp)
    replace hA : Apart base [(g8, 0), (g6, t), (g5, qb), (g4, ra)] := Apart.of_fst (by rfl) hA
    have HS := Lib.hid (And.intro hS hA)
    clear hS hA
    go_upto_region 4 with fail
    clear s0 t0
    generalize World.setCell _ _ _ = W at *
    clear w1
    refine wp_region_plan 4 (by kernel_rfl) (by kernel_rfl) (PI base w [(g8, 0), (g6, t), (g5, qb), (g4, ra)] [some 19, some 20, some 21, some 22] [] (fun i => [.agg #[.float .f64 qb], .agg #[.float .f64 qb], .agg #[.float .f64 fb], .agg #[.float .f64 rb]].getD i (.bool false)) _) (PI.start HS.out.1) ?_ ?_
    · intro i o b' a' w' hi ho hb he hI
      rcases (by omega : i = 0 ∨ i = 1 ∨ i = 2 ∨ i = 3) with rfl | rfl | rfl | rfl
      · obtain rfl := Option.some.inj ho
        exact hI.stepQuiet hb rfl rfl rfl (op_load _ _ _ g5 qb _ rfl ((hI.old rfl).trans rfl) (hI.bx.cell 2 (by simp)).1)
      · obtain rfl := Option.some.inj ho
        exact hI.stepQuiet hb rfl rfl rfl (op_load _ _ _ g5 qb _ rfl ((hI.old rfl).trans rfl) (hI.bx.cell 2 (by simp)).1)
      · obtain rfl := Option.some.inj ho
        have e0 := hI.new 1 (edge he 1 (by kernel_rfl)) rfl rfl rfl (by show 20 < 87; decide)
        refine hI.stepCall hb rfl rfl rfl (op_call _ _ 74 Try.f74 _ _ _ rfl Try.func74 (by kernel_rfl) (by kernel_rfl)) ?_
        have hm : Array.map a'.eval #[.tmp 20] = #[.agg #[.float .f64 qb]] := by simp [e0]
        rw [hm]
        exact Floor_as qb fb Hfb.out.1 Hfb.out.2 _
      · obtain rfl := Option.some.inj ho
        have e0 := hI.new 0 (edge he 0 (by kernel_rfl)) rfl rfl rfl (by show 19 < 87; decide)
        have e1 := hI.new 2 (edge he 2 (by kernel_rfl)) rfl rfl rfl (by show 21 < 87; decide)
        refine hI.stepCall hb rfl rfl rfl (op_call _ _ 62 Try.f62 _ _ _ rfl Try.func62 (by kernel_rfl) (by kernel_rfl)) ?_
        have hm : Array.map a'.eval #[.tmp 19, .tmp 21] = #[.agg #[.float .f64 qb], .agg #[.float .f64 fb]] := by simp [e0, e1]
        rw [hm]
        exact Sub_any qb fb rb Hrb.out _
    · intro b' a' w1 hb hI
      obtain ⟨ρ, rfl, hS, hC, hN⟩ := hI
      have hA := HS.out.2
      clear HS
      have p0 := hb 0 (by decide)
      have p1 := hb 1 (by decide)
      have p2 := hb 2 (by decide)
      have p3 := hb 3 (by decide)
      have v0 : vals [] (fun i => [.agg #[.float .f64 qb], .agg #[.float .f64 qb], .agg #[.float .f64 fb], .agg #[.float .f64 rb]].getD i (.bool false)) ρ 0 = .agg #[.float .f64 qb] := rfl
      have v1 : vals [] (fun i => [.agg #[.float .f64 qb], .agg #[.float .f64 qb], .agg #[.float .f64 fb], .agg #[.float .f64 rb]].getD i (.bool false)) ρ 1 = .agg #[.float .f64 qb] := rfl
      have v2 : vals [] (fun i => [.agg #[.float .f64 qb], .agg #[.float .f64 qb], .agg #[.float .f64 fb], .agg #[.float .f64 rb]].getD i (.bool false)) ρ 2 = .agg #[.float .f64 fb] := rfl
      have v3 : vals [] (fun i => [.agg #[.float .f64 qb], .agg #[.float .f64 qb], .agg #[.float .f64 fb], .agg #[.float .f64 rb]].getD i (.bool false)) ρ 3 = .agg #[.float .f64 rb] := rfl
      simp only [puts, Nat.zero_add, p0, p1, p2, p3, v0, v1, v2, v3, if_true, List.drop_succ_cons, List.drop_zero, Nat.reduceAdd]
      clear hb hC hN p0 p1 p2 p3 v0 v1 v2 v3
      clear ρ b'
      have s0 : (w1).cell? ⟨g5, 0, none⟩ = some (.float .f64 qb) := (hS.cell 2 (by simp)).1
      have t0 : (w1).frozen? ⟨g5, 0, none⟩ = false := (hS.cell 2 (by simp)).2
      replace hS : Bx base w [(g8, 0), (g6, t), (g5, rb), (g4, ra)] ((w1).setCell ⟨g5, 0, none⟩ (.float .f64 rb)) := hS.set rb hA 2 (by simp)
      replace hA : Apart base [(g8, 0), (g6, t), (g5, rb), (g4, ra)] := Apart.of_fst (by rfl) hA
      have HS := Lib.hid (And.intro hS hA)
      clear hS hA
      go_upto_region 5 with fail
      clear s0 t0
      generalize World.setCell _ _ _ = W at *
      clear w1
      go_upto_region 6 with fail
      go_upto_region 12 with fail
      go_upto_region 18 with fail
      go_upto_region 21 with fail
      go_upto_region 22 with fail
      have q1 : (FloatKind.f64.format.order ra rb == some .lt) = false := Hq1.out
      refine wp_region_plan 4 (by kernel_rfl) (by kernel_rfl) (PI base w [(g8, 0), (g6, t), (g5, rb), (g4, ra)] [some 75, some 76, some 77, some 78] [] (fun i => [.agg #[.float .f64 ra], .float .f64 ra, .agg #[.float .f64 rb], .float .f64 rb].getD i (.bool false)) _) (PI.start HS.out.1) ?_ ?_
      · intro i o b' a' w' hi ho hb he hI
        rcases (by omega : i = 0 ∨ i = 1 ∨ i = 2 ∨ i = 3) with rfl | rfl | rfl | rfl
        · obtain rfl := Option.some.inj ho
          exact hI.stepQuiet hb rfl rfl rfl (op_load _ _ _ g4 ra _ rfl ((hI.old rfl).trans rfl) (hI.bx.cell 3 (by simp)).1)
        · obtain rfl := Option.some.inj ho
          have e0 := hI.new 0 (edge he 0 (by kernel_rfl)) rfl rfl rfl (by show 75 < 87; decide)
          refine hI.stepCall hb rfl rfl rfl (op_call _ _ 43 Try.f43 _ _ _ rfl Try.func43 (by kernel_rfl) (by kernel_rfl)) ?_
          have hm : Array.map a'.eval #[.tmp 75] = #[.agg #[.float .f64 ra]] := by simp [e0]
          rw [hm]
          exact Value_any ra _
        · obtain rfl := Option.some.inj ho
          exact hI.stepQuiet hb rfl rfl rfl (op_load _ _ _ g5 rb _ rfl ((hI.old rfl).trans rfl) (hI.bx.cell 2 (by simp)).1)
        · obtain rfl := Option.some.inj ho
          have e0 := hI.new 2 (edge he 2 (by kernel_rfl)) rfl rfl rfl (by show 77 < 87; decide)
          refine hI.stepCall hb rfl rfl rfl (op_call _ _ 43 Try.f43 _ _ _ rfl Try.func43 (by kernel_rfl) (by kernel_rfl)) ?_
          have hm : Array.map a'.eval #[.tmp 77] = #[.agg #[.float .f64 rb]] := by simp [e0]
          rw [hm]
          exact Value_any rb _
      · intro b' a' w1 hb hI
        obtain ⟨ρ, rfl, hS, hC, hN⟩ := hI
        have hA := HS.out.2
        clear HS
        have p0 := hb 0 (by decide)
        have p1 := hb 1 (by decide)
        have p2 := hb 2 (by decide)
        have p3 := hb 3 (by decide)
        have v0 : vals [] (fun i => [.agg #[.float .f64 ra], .float .f64 ra, .agg #[.float .f64 rb], .float .f64 rb].getD i (.bool false)) ρ 0 = .agg #[.float .f64 ra] := rfl
        have v1 : vals [] (fun i => [.agg #[.float .f64 ra], .float .f64 ra, .agg #[.float .f64 rb], .float .f64 rb].getD i (.bool false)) ρ 1 = .float .f64 ra := rfl
        have v2 : vals [] (fun i => [.agg #[.float .f64 ra], .float .f64 ra, .agg #[.float .f64 rb], .float .f64 rb].getD i (.bool false)) ρ 2 = .agg #[.float .f64 rb] := rfl
        have v3 : vals [] (fun i => [.agg #[.float .f64 ra], .float .f64 ra, .agg #[.float .f64 rb], .float .f64 rb].getD i (.bool false)) ρ 3 = .float .f64 rb := rfl
        simp only [puts, Nat.zero_add, p0, p1, p2, p3, v0, v1, v2, v3, if_true, List.drop_succ_cons, List.drop_zero, Nat.reduceAdd]
        clear hb hC hN p0 p1 p2 p3 v0 v1 v2 v3
        clear ρ b'
        have HS := Lib.hid (And.intro hS hA)
        clear hS hA
        go_upto_region 24 with fail
        generalize w1 = W at *
        clear q1
        have c_g4 : W.cell? ⟨g4, 0, none⟩ = some (.float .f64 ra) := (HS.out.1.cell 3 (by simp)).1
        have c_g5 : W.cell? ⟨g5, 0, none⟩ = some (.float .f64 rb) := (HS.out.1.cell 2 (by simp)).1
        have c_g6 : W.cell? ⟨g6, 0, none⟩ = some (.float .f64 t) := (HS.out.1.cell 1 (by simp)).1
        go_wp2_with fail
        refine (Lerp_any ra rb t p q r Hp.out Hq.out Hr.out _).mono ?_
        rintro e w1 ⟨rfl, hb⟩
        have hS := HS.out.1.keep hb
        have hA := HS.out.2
        clear HS hb c_g4 c_g5 c_g6
        have HS := Lib.hid (And.intro hS hA)
        clear hS hA
        go_wp2_with fail
        refine (MulConst_any r 4645040803167600640 z Hz.out _).mono ?_
        rintro e w2 ⟨rfl, hb⟩
        have hS := HS.out.1.keep hb
        have hA := HS.out.2
        clear HS hb 
        clear w1
        generalize w2 = w1 at *
        have s0 : (w1).cell? ⟨g8, 0, none⟩ = some (.float .f64 0) := (hS.cell 0 (by simp)).1
        have t0 : (w1).frozen? ⟨g8, 0, none⟩ = false := (hS.cell 0 (by simp)).2
        replace hS : Bx base w [(g8, z), (g6, t), (g5, rb), (g4, ra)] ((w1).setCell ⟨g8, 0, none⟩ (.float .f64 z)) := hS.set z hA 0 (by simp)
        replace hA : Apart base [(g8, z), (g6, t), (g5, rb), (g4, ra)] := Apart.of_fst (by rfl) hA
        have HS := Lib.hid (And.intro hS hA)
        clear hS hA
        go_wp2_with fail
        clear s0 t0
        generalize World.setCell _ _ _ = W at *
        clear w1
        have c_g8 : W.cell? ⟨g8, 0, none⟩ = some (.float .f64 z) := (HS.out.1.cell 0 (by simp)).1
        refine bodyPost_ret (v := .agg #[.float .f64 z]) (by simp [results, Try.results55, go_sem, c_g8]) rfl ⟨rfl, HS.out.1.below.2⟩
set_option maxRecDepth 100000 in
set_option maxHeartbeats 4000000 in
theorem ih4 (a b t qa qb fa fb ra rb p q r z base : Nat) (m : Int) (w : World) (H : Hid (base = w.heap.size)) (Hqa : Hid (Ieee.double.div a 4645040803167600640 = some qa)) (Hqb : Hid (Ieee.double.div b 4645040803167600640 = some qb)) (Hfa : Hid (Finite qa ∧ floorW qa = fa)) (Hfb : Hid (Finite qb ∧ floorW qb = fb)) (Hra : Hid (Ieee.double.sub qa fa = some ra)) (Hrb : Hid (Ieee.double.sub qb fb = some rb)) (hm : 4 ≤ m) (Hp : Hid (Ieee.double.sub rb ra = some p)) (Hq : Hid (Ieee.double.mul p t = some q)) (Hr : Hid (Ieee.double.add q ra = some r)) (Hz : Hid (Ieee.double.mul r 4645040803167600640 = some z)) :
    Calls Try.prog 55 #[.agg #[.float .f64 a], .agg #[.float .f64 b], .agg #[.float .f64 t], .int .u8 m] w fun e w' => e = .returned (.agg #[.float .f64 z]) ∧ Below base w w' := by
  have n0 : (m == 0) = false := by simp; omega
  have n1 : (m == 1) = false := by simp; omega
  have n2 : (m == 2) = false := by simp; omega
  have n3 : (m == 3) = false := by simp; omega
  clear hm
  go_enter Try.func55, Try.ntmps55
  go_upto_region 1 with fail
  generalize hW : World.alloc _ _ = W at *
  have hS : Bx base w [(w.heap.size + 1 + 1 + 1, 0), (w.heap.size + 1 + 1, t), (w.heap.size + 1, b), (w.heap.size, a)] W := by
    subst hW
    have := (((((Bx.start w).alloc a 41).alloc b 41).alloc t 41).alloc 0 41)
    rw [H.out]
    simpa using this
  have hA : Apart base [(w.heap.size + 1 + 1 + 1, 0), (w.heap.size + 1 + 1, t), (w.heap.size + 1, b), (w.heap.size, a)] := by
    rw [H.out]
    simp [Apart]; try omega
  have HS := Lib.hid (And.intro hS hA)
  clear hS hA hW H
  generalize w.heap.size + 1 + 1 + 1 = g8 at *
  generalize w.heap.size + 1 + 1 = g6 at *
  generalize w.heap.size + 1 = g5 at *
  generalize hgg : w.heap.size = g4 at *
  clear hgg
  have c_g4 : W.cell? ⟨g4, 0, none⟩ = some (.float .f64 a) := (HS.out.1.cell 3 (by simp)).1
  go_wp2_with fail
  refine (DivConst_any a 4645040803167600640 qa Hqa.out _).mono ?_
  rintro e w1 ⟨rfl, hb⟩
  have hS := HS.out.1.keep hb
  have hA := HS.out.2
  clear HS hb c_g4
  have s0 : (w1).cell? ⟨g4, 0, none⟩ = some (.float .f64 a) := (hS.cell 3 (by simp)).1
  have t0 : (w1).frozen? ⟨g4, 0, none⟩ = false := (hS.cell 3 (by simp)).2
  replace hS : Bx base w [(g8, 0), (g6, t), (g5, b), (g4, qa)] ((w1).setCell ⟨g4, 0, none⟩ (.float .f64 qa)) := hS.set qa hA 3 (by simp)
  replace hA : Apart base [(g8, 0), (g6, t), (g5, b), (g4, qa)] := Apart.of_fst (by rfl) hA
  have HS := Lib.hid (And.intro hS hA)
  clear hS hA
  go_upto_region 2 with fail
  clear s0 t0
  generalize World.setCell _ _ _ = W at *
  clear w1
  have c_g5 : W.cell? ⟨g5, 0, none⟩ = some (.float .f64 b) := (HS.out.1.cell 2 (by simp)).1
  go_wp2_with fail
  refine (DivConst_any b 4645040803167600640 qb Hqb.out _).mono ?_
  rintro e w1 ⟨rfl, hb⟩
  have hS := HS.out.1.keep hb
  have hA := HS.out.2
  clear HS hb c_g5
  have s0 : (w1).cell? ⟨g5, 0, none⟩ = some (.float .f64 b) := (hS.cell 2 (by simp)).1
  have t0 : (w1).frozen? ⟨g5, 0, none⟩ = false := (hS.cell 2 (by simp)).2
  replace hS : Bx base w [(g8, 0), (g6, t), (g5, qb), (g4, qa)] ((w1).setCell ⟨g5, 0, none⟩ (.float .f64 qb)) := hS.set qb hA 2 (by simp)
  replace hA : Apart base [(g8, 0), (g6, t), (g5, qb), (g4, qa)] := Apart.of_fst (by rfl) hA
  have HS := Lib.hid (And.intro hS hA)
  clear hS hA
  go_upto_region 3 with fail
  clear s0 t0
  generalize World.setCell _ _ _ = W at *
  clear w1
  refine wp_region_plan 4 (by kernel_rfl) (by kernel_rfl) (PI base w [(g8, 0), (g6, t), (g5, qb), (g4, qa)] [some 15, some 16, some 17, some 18] [] (fun i => [.agg #[.float .f64 qa], .agg #[.float .f64 qa], .agg #[.float .f64 fa], .agg #[.float .f64 ra]].getD i (.bool false)) _) (PI.start HS.out.1) ?_ ?_
  · intro i o b' a' w' hi ho hb he hI
    rcases (by omega : i = 0 ∨ i = 1 ∨ i = 2 ∨ i = 3) with rfl | rfl | rfl | rfl
    · obtain rfl := Option.some.inj ho
      exact hI.stepQuiet hb rfl rfl rfl (op_load _ _ _ g4 qa _ rfl ((hI.old rfl).trans rfl) (hI.bx.cell 3 (by simp)).1)
    · obtain rfl := Option.some.inj ho
      exact hI.stepQuiet hb rfl rfl rfl (op_load _ _ _ g4 qa _ rfl ((hI.old rfl).trans rfl) (hI.bx.cell 3 (by simp)).1)
    · obtain rfl := Option.some.inj ho
      have e0 := hI.new 1 (edge he 1 (by kernel_rfl)) rfl rfl rfl (by show 16 < 87; decide)
      refine hI.stepCall hb rfl rfl rfl (op_call _ _ 74 Try.f74 _ _ _ rfl Try.func74 (by kernel_rfl) (by kernel_rfl)) ?_
      have hm : Array.map a'.eval #[.tmp 16] = #[.agg #[.float .f64 qa]] := by simp [e0]
      rw [hm]
      exact Floor_as qa fa Hfa.out.1 Hfa.out.2 _
    · obtain rfl := Option.some.inj ho
      have e0 := hI.new 0 (edge he 0 (by kernel_rfl)) rfl rfl rfl (by show 15 < 87; decide)
      have e1 := hI.new 2 (edge he 2 (by kernel_rfl)) rfl rfl rfl (by show 17 < 87; decide)
      refine hI.stepCall hb rfl rfl rfl (op_call _ _ 62 Try.f62 _ _ _ rfl Try.func62 (by kernel_rfl) (by kernel_rfl)) ?_
      have hm : Array.map a'.eval #[.tmp 15, .tmp 17] = #[.agg #[.float .f64 qa], .agg #[.float .f64 fa]] := by simp [e0, e1]
      rw [hm]
      exact Sub_any qa fa ra Hra.out _
  · intro b' a' w1 hb hI
    obtain ⟨ρ, rfl, hS, hC, hN⟩ := hI
    have hA := HS.out.2
    clear HS
    have p0 := hb 0 (by decide)
    have p1 := hb 1 (by decide)
    have p2 := hb 2 (by decide)
    have p3 := hb 3 (by decide)
    have v0 : vals [] (fun i => [.agg #[.float .f64 qa], .agg #[.float .f64 qa], .agg #[.float .f64 fa], .agg #[.float .f64 ra]].getD i (.bool false)) ρ 0 = .agg #[.float .f64 qa] := rfl
    have v1 : vals [] (fun i => [.agg #[.float .f64 qa], .agg #[.float .f64 qa], .agg #[.float .f64 fa], .agg #[.float .f64 ra]].getD i (.bool false)) ρ 1 = .agg #[.float .f64 qa] := rfl
    have v2 : vals [] (fun i => [.agg #[.float .f64 qa], .agg #[.float .f64 qa], .agg #[.float .f64 fa], .agg #[.float .f64 ra]].getD i (.bool false)) ρ 2 = .agg #[.float .f64 fa] := rfl
    have v3 : vals [] (fun i => [.agg #[.float .f64 qa], .agg #[.float .f64 qa], .agg #[.float .f64 fa], .agg #[.float .f64 ra]].getD i (.bool false)) ρ 3 = .agg #[.float .f64 ra] := rfl
    simp only [puts, Nat.zero_add, p0, p1, p2, p3, v0, v1, v2, v3, if_true, List.drop_succ_cons, List.drop_zero, Nat.reduceAdd]
    clear hb hC hN p0 p1 p2 p3 v0 v1 v2 v3
    clear ρ b'
    have s0 : (w1).cell? ⟨g4, 0, none⟩ = some (.float .f64 qa) := (hS.cell 3 (by simp)).1
    have t0 : (w1).frozen? ⟨g4, 0, none⟩ = false := (hS.cell 3 (by simp)).2
    replace hS : Bx base w [(g8, 0), (g6, t), (g5, qb), (g4, ra)] ((w1).setCell ⟨g4, 0, none⟩ (.float .f64 ra)) := hS.set ra hA 3 (by simp)
    replace hA : Apart base [(g8, 0), (g6, t), (g5, qb), (g4, ra)] := Apart.of_fst (by rfl) hA
    have HS := Lib.hid (And.intro hS hA)
    clear hS hA
    go_upto_region 4 with fail
    clear s0 t0
    generalize World.setCell _ _ _ = W at *
    clear w1
    refine wp_region_plan 4 (by kernel_rfl) (by kernel_rfl) (PI base w [(g8, 0), (g6, t), (g5, qb), (g4, ra)] [some 19, some 20, some 21, some 22] [] (fun i => [.agg #[.float .f64 qb], .agg #[.float .f64 qb], .agg #[.float .f64 fb], .agg #[.float .f64 rb]].getD i (.bool false)) _) (PI.start HS.out.1) ?_ ?_
    · intro i o b' a' w' hi ho hb he hI
      rcases (by omega : i = 0 ∨ i = 1 ∨ i = 2 ∨ i = 3) with rfl | rfl | rfl | rfl
      · obtain rfl := Option.some.inj ho
        exact hI.stepQuiet hb rfl rfl rfl (op_load _ _ _ g5 qb _ rfl ((hI.old rfl).trans rfl) (hI.bx.cell 2 (by simp)).1)
      · obtain rfl := Option.some.inj ho
        exact hI.stepQuiet hb rfl rfl rfl (op_load _ _ _ g5 qb _ rfl ((hI.old rfl).trans rfl) (hI.bx.cell 2 (by simp)).1)
      · obtain rfl := Option.some.inj ho
        have e0 := hI.new 1 (edge he 1 (by kernel_rfl)) rfl rfl rfl (by show 20 < 87; decide)
        refine hI.stepCall hb rfl rfl rfl (op_call _ _ 74 Try.f74 _ _ _ rfl Try.func74 (by kernel_rfl) (by kernel_rfl)) ?_
        have hm : Array.map a'.eval #[.tmp 20] = #[.agg #[.float .f64 qb]] := by simp [e0]
        rw [hm]
        exact Floor_as qb fb Hfb.out.1 Hfb.out.2 _
      · obtain rfl := Option.some.inj ho
        have e0 := hI.new 0 (edge he 0 (by kernel_rfl)) rfl rfl rfl (by show 19 < 87; decide)
        have e1 := hI.new 2 (edge he 2 (by kernel_rfl)) rfl rfl rfl (by show 21 < 87; decide)
        refine hI.stepCall hb rfl rfl rfl (op_call _ _ 62 Try.f62 _ _ _ rfl Try.func62 (by kernel_rfl) (by kernel_rfl)) ?_
        have hm : Array.map a'.eval #[.tmp 19, .tmp 21] = #[.agg #[.float .f64 qb], .agg #[.float .f64 fb]] := by simp [e0, e1]
        rw [hm]
        exact Sub_any qb fb rb Hrb.out _
    · intro b' a' w1 hb hI
      obtain ⟨ρ, rfl, hS, hC, hN⟩ := hI
      have hA := HS.out.2
      clear HS
      have p0 := hb 0 (by decide)
      have p1 := hb 1 (by decide)
      have p2 := hb 2 (by decide)
      have p3 := hb 3 (by decide)
      have v0 : vals [] (fun i => [.agg #[.float .f64 qb], .agg #[.float .f64 qb], .agg #[.float .f64 fb], .agg #[.float .f64 rb]].getD i (.bool false)) ρ 0 = .agg #[.float .f64 qb] := rfl
      have v1 : vals [] (fun i => [.agg #[.float .f64 qb], .agg #[.float .f64 qb], .agg #[.float .f64 fb], .agg #[.float .f64 rb]].getD i (.bool false)) ρ 1 = .agg #[.float .f64 qb] := rfl
      have v2 : vals [] (fun i => [.agg #[.float .f64 qb], .agg #[.float .f64 qb], .agg #[.float .f64 fb], .agg #[.float .f64 rb]].getD i (.bool false)) ρ 2 = .agg #[.float .f64 fb] := rfl
      have v3 : vals [] (fun i => [.agg #[.float .f64 qb], .agg #[.float .f64 qb], .agg #[.float .f64 fb], .agg #[.float .f64 rb]].getD i (.bool false)) ρ 3 = .agg #[.float .f64 rb] := rfl
      simp only [puts, Nat.zero_add, p0, p1, p2, p3, v0, v1, v2, v3, if_true, List.drop_succ_cons, List.drop_zero, Nat.reduceAdd]
      clear hb hC hN p0 p1 p2 p3 v0 v1 v2 v3
      clear ρ b'
      have s0 : (w1).cell? ⟨g5, 0, none⟩ = some (.float .f64 qb) := (hS.cell 2 (by simp)).1
      have t0 : (w1).frozen? ⟨g5, 0, none⟩ = false := (hS.cell 2 (by simp)).2
      replace hS : Bx base w [(g8, 0), (g6, t), (g5, rb), (g4, ra)] ((w1).setCell ⟨g5, 0, none⟩ (.float .f64 rb)) := hS.set rb hA 2 (by simp)
      replace hA : Apart base [(g8, 0), (g6, t), (g5, rb), (g4, ra)] := Apart.of_fst (by rfl) hA
      have HS := Lib.hid (And.intro hS hA)
      clear hS hA
      go_upto_region 5 with fail
      clear s0 t0
      generalize World.setCell _ _ _ = W at *
      clear w1
      go_upto_region 6 with fail
      go_upto_region 12 with fail
      go_upto_region 18 with fail
      go_upto_region 21 with fail
      go_upto_region 24 with fail
      have c_g4 : W.cell? ⟨g4, 0, none⟩ = some (.float .f64 ra) := (HS.out.1.cell 3 (by simp)).1
      have c_g5 : W.cell? ⟨g5, 0, none⟩ = some (.float .f64 rb) := (HS.out.1.cell 2 (by simp)).1
      have c_g6 : W.cell? ⟨g6, 0, none⟩ = some (.float .f64 t) := (HS.out.1.cell 1 (by simp)).1
      go_wp2_with fail
      refine (Lerp_any ra rb t p q r Hp.out Hq.out Hr.out _).mono ?_
      rintro e w1 ⟨rfl, hb⟩
      have hS := HS.out.1.keep hb
      have hA := HS.out.2
      clear HS hb c_g4 c_g5 c_g6
      have HS := Lib.hid (And.intro hS hA)
      clear hS hA
      go_wp2_with fail
      refine (MulConst_any r 4645040803167600640 z Hz.out _).mono ?_
      rintro e w2 ⟨rfl, hb⟩
      have hS := HS.out.1.keep hb
      have hA := HS.out.2
      clear HS hb 
      clear w1
      generalize w2 = w1 at *
      have s0 : (w1).cell? ⟨g8, 0, none⟩ = some (.float .f64 0) := (hS.cell 0 (by simp)).1
      have t0 : (w1).frozen? ⟨g8, 0, none⟩ = false := (hS.cell 0 (by simp)).2
      replace hS : Bx base w [(g8, z), (g6, t), (g5, rb), (g4, ra)] ((w1).setCell ⟨g8, 0, none⟩ (.float .f64 z)) := hS.set z hA 0 (by simp)
      replace hA : Apart base [(g8, z), (g6, t), (g5, rb), (g4, ra)] := Apart.of_fst (by rfl) hA
      have HS := Lib.hid (And.intro hS hA)
      clear hS hA
      go_wp2_with fail
      clear s0 t0
      generalize World.setCell _ _ _ = W at *
      clear w1
      have c_g8 : W.cell? ⟨g8, 0, none⟩ = some (.float .f64 z) := (HS.out.1.cell 0 (by simp)).1
      refine bodyPost_ret (v := .agg #[.float .f64 z]) (by simp [results, Try.results55, go_sem, c_g8]) rfl ⟨rfl, HS.out.1.below.2⟩
end Go.Proofs.Ytafeeebgleecfaa.Mat
