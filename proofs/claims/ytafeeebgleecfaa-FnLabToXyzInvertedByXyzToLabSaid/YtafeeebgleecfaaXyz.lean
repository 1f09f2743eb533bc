/-
  lab_to_xyz, told by the numbers that it reckons: a way for each answer to its tests.
-/
import Derived.Test.YtafeeebgleecfaaPe
import Derived.Test.YtafeeebgleecfaaCb
namespace Go.Proofs.Ytafeeebgleecfaa.Mat
open Go.ChangeShapes Go.WideShapes Go.ChangeAt Go.RowKit
open FL Pl
set_option linter.unusedVariables false
attribute [local go_sem] run_store_float
theorem upd_imp {b : Nat → Bool} {i j k : Nat} (h : b j = true → b k = true) (hk : i = j → b k = true) : upd b i j = true → upd b i k = true := by
  unfold upd
  intro h1
  split
  · rfl
  · split at h1
    · rename_i e; exact hk e.symm
    · exact h h1
set_option maxRecDepth 100000 in
set_option maxHeartbeats 4000000 in
theorem lx_ttt (l a b s1 f1 da f0 db f2 p0 f03 p2 f23 py y X Z base : Nat) (w : World) (H : Hid (base = w.heap.size)) (Hs1 : Hid (Ieee.double.add l 4625196817309499392 = some s1)) (Hf1 : Hid (Ieee.double.div s1 4637863191261478912 = some f1)) (Hda : Hid (Ieee.double.div a 4647503709213818880 = some da)) (Hf0 : Hid (Ieee.double.add da f1 = some f0)) (Hdb : Hid (Ieee.double.div b 4641240890982006784 = some db)) (Hf2 : Hid (Ieee.double.sub f1 db = some f2)) (Hp0 : Hid (Ieee.double.mul f0 f0 = some p0)) (Hf03 : Hid (Ieee.double.mul p0 f0 = some f03)) (Hp2 : Hid (Ieee.double.mul f2 f2 = some p2)) (Hf23 : Hid (Ieee.double.mul p2 f2 = some f23)) (Hq0 : Hid (gtB f03 4576259018578689238 = true)) (Hq1 : Hid (gtB l 4620693217682128896 = true)) (Hpy : Hid (Ieee.double.mul f1 f1 = some py)) (Hy : Hid (Ieee.double.mul py f1 = some y)) (Hq2 : Hid (gtB f23 4576259018578689238 = true)) (HX : Hid (Ieee.double.mul f03 4606860822843362778 = some X)) (HZ : Hid (Ieee.double.mul f23 4605607101106091996 = some Z)) :
    Calls Try.prog 46 #[.agg #[.float .f64 l], .agg #[.float .f64 a], .agg #[.float .f64 b]] w fun e w' => e = .returned (.tuple #[.agg #[.float .f64 X], .agg #[.float .f64 y], .agg #[.float .f64 Z]]) ∧ Below base w w' := by
  go_enter Try.func46, Try.ntmps46
  go_upto_region 1 with fail
  generalize hW : World.alloc _ _ = W at *
  have hS : Bx base w [(w.heap.size + 1 + 1 + 1 + 1 + 1, 0), (w.heap.size + 1 + 1 + 1 + 1, 0), (w.heap.size + 1 + 1 + 1, 0), (w.heap.size + 1 + 1, b), (w.heap.size + 1, a), (w.heap.size, l)] W := by
    subst hW
    have := (((((((Bx.start w).alloc l 41).alloc a 41).alloc b 41).alloc 0 41).alloc 0 41).alloc 0 41)
    rw [H.out]
    simpa using this
  have hA : Apart base [(w.heap.size + 1 + 1 + 1 + 1 + 1, 0), (w.heap.size + 1 + 1 + 1 + 1, 0), (w.heap.size + 1 + 1 + 1, 0), (w.heap.size + 1 + 1, b), (w.heap.size + 1, a), (w.heap.size, l)] := by
    rw [H.out]
    simp [Apart]; try omega
  have HS := Lib.hid (And.intro hS hA)
  clear hS hA hW H
  generalize w.heap.size + 1 + 1 + 1 + 1 + 1 = g8 at *
  generalize w.heap.size + 1 + 1 + 1 + 1 = g7 at *
  generalize w.heap.size + 1 + 1 + 1 = g6 at *
  generalize w.heap.size + 1 + 1 = g5 at *
  generalize w.heap.size + 1 = g4 at *
  generalize hgg : w.heap.size = g3 at *
  clear hgg
  have c_g3 : W.cell? ⟨g3, 0, none⟩ = some (.float .f64 l) := (HS.out.1.cell 5 (by simp)).1
  go_wp2_with fail
  refine (AddConst_any l 4625196817309499392 s1 Hs1.out _).mono ?_
  rintro e w1 ⟨rfl, hb⟩
  have hS := HS.out.1.keep hb
  have hA := HS.out.2
  clear HS hb c_g3
  have HS := Lib.hid (And.intro hS hA)
  clear hS hA
  go_wp2_with fail
  refine (DivConst_any s1 4637863191261478912 f1 Hf1.out _).mono ?_
  rintro e w2 ⟨rfl, hb⟩
  have hS := HS.out.1.keep hb
  have hA := HS.out.2
  clear HS hb 
  clear w1
  generalize w2 = w1 at *
  replace hA := hA.alloc hS f1
  replace hS := hS.alloc f1 41
  have HS := Lib.hid (And.intro hS hA)
  clear hS hA
  go_upto_region 2 with fail
  generalize World.alloc _ _ = W at *
  generalize w1.heap.size = g9 at *
  clear w1
  refine wp_region_plan 5 (by kernel_rfl) (by kernel_rfl) (PI base w [(g9, f1), (g8, 0), (g7, 0), (g6, 0), (g5, b), (g4, a), (g3, l)] [some 17, some 18, some 19, some 20, some 10] [4] (fun i => [.agg #[.float .f64 a], .agg #[.float .f64 da], .agg #[.float .f64 f1], .agg #[.float .f64 f0], .bool false].getD i (.bool false)) _) (PI.start HS.out.1) ?_ ?_
  · intro i o b' a' w' hi ho hb he hI
    rcases (by omega : i = 0 ∨ i = 1 ∨ i = 2 ∨ i = 3 ∨ i = 4) with rfl | rfl | rfl | rfl | rfl
    · obtain rfl := Option.some.inj ho
      exact hI.stepQuiet hb rfl rfl rfl (op_load _ _ _ g4 a _ rfl ((hI.old rfl).trans rfl) (hI.bx.cell 5 (by simp)).1)
    · obtain rfl := Option.some.inj ho
      have e0 := hI.new 0 (edge he 0 (by kernel_rfl)) rfl rfl rfl (by show 17 < 60; decide)
      refine hI.stepCall hb rfl rfl rfl (op_call _ _ 58 Try.f58 _ _ _ rfl Try.func58 (by kernel_rfl) (by kernel_rfl)) ?_
      have hm : Array.map a'.eval #[.tmp 17, .const ((Value.float FloatKind.f64 4647503709213818880))] = #[.agg #[.float .f64 a], (Value.float FloatKind.f64 4647503709213818880)] := by simp [e0, ev_const]
      rw [hm]
      exact DivConst_any a 4647503709213818880 da Hda.out _
    · obtain rfl := Option.some.inj ho
      exact hI.stepQuiet hb rfl rfl rfl (op_load _ _ _ g9 f1 _ rfl ((hI.old rfl).trans rfl) (hI.bx.cell 0 (by simp)).1)
    · obtain rfl := Option.some.inj ho
      have e0 := hI.new 1 (edge he 1 (by kernel_rfl)) rfl rfl rfl (by show 18 < 60; decide)
      have e1 := hI.new 2 (edge he 2 (by kernel_rfl)) rfl rfl rfl (by show 19 < 60; decide)
      refine hI.stepCall hb rfl rfl rfl (op_call _ _ 61 Try.f61 _ _ _ rfl Try.func61 (by kernel_rfl) (by kernel_rfl)) ?_
      have hm : Array.map a'.eval #[.tmp 18, .tmp 19] = #[.agg #[.float .f64 da], .agg #[.float .f64 f1]] := by simp [e0, e1]
      rw [hm]
      exact Add_any da f1 f0 Hf0.out _
    · obtain rfl := Option.some.inj ho
      exact hI.stepAlloc 41 hb rfl rfl rfl rfl (op_alloc _ _ _ rfl)
  · intro b' a' w1 hb hI
    obtain ⟨ρ, rfl, hS, hC, hN⟩ := hI
    have hA := HS.out.2
    clear HS
    have p0 := hb 0 (by decide)
    have p1 := hb 1 (by decide)
    have p2 := hb 2 (by decide)
    have p3 := hb 3 (by decide)
    have p4 := hb 4 (by decide)
    obtain ⟨c4, f4, l4, n4⟩ := hC 4 (by simp) p4
    have v0 : vals [4] (fun i => [.agg #[.float .f64 a], .agg #[.float .f64 da], .agg #[.float .f64 f1], .agg #[.float .f64 f0], .bool false].getD i (.bool false)) ρ 0 = .agg #[.float .f64 a] := rfl
    have v1 : vals [4] (fun i => [.agg #[.float .f64 a], .agg #[.float .f64 da], .agg #[.float .f64 f1], .agg #[.float .f64 f0], .bool false].getD i (.bool false)) ρ 1 = .agg #[.float .f64 da] := rfl
    have v2 : vals [4] (fun i => [.agg #[.float .f64 a], .agg #[.float .f64 da], .agg #[.float .f64 f1], .agg #[.float .f64 f0], .bool false].getD i (.bool false)) ρ 2 = .agg #[.float .f64 f1] := rfl
    have v3 : vals [4] (fun i => [.agg #[.float .f64 a], .agg #[.float .f64 da], .agg #[.float .f64 f1], .agg #[.float .f64 f0], .bool false].getD i (.bool false)) ρ 3 = .agg #[.float .f64 f0] := rfl
    have v4 : vals [4] (fun i => [.agg #[.float .f64 a], .agg #[.float .f64 da], .agg #[.float .f64 f1], .agg #[.float .f64 f0], .bool false].getD i (.bool false)) ρ 4 = .pointer (some ⟨(ρ 4), 0, none⟩) := rfl
    simp only [puts, Nat.zero_add, p0, p1, p2, p3, p4, v0, v1, v2, v3, v4, if_true, List.drop_succ_cons, List.drop_zero, Nat.reduceAdd]
    clear hb hC hN p0 p1 p2 p3 p4 v0 v1 v2 v3 v4
    generalize ρ 4 = g10 at *
    replace hA : Apart base ((g10, 0) :: [(g9, f1), (g8, 0), (g7, 0), (g6, 0), (g5, b), (g4, a), (g3, l)]) := ⟨l4, n4, hA⟩
    replace hS : Bx base w ((g10, 0) :: [(g9, f1), (g8, 0), (g7, 0), (g6, 0), (g5, b), (g4, a), (g3, l)]) w1 := ⟨c4, f4, hS⟩
    clear c4 f4 l4 n4 
    clear ρ b'
    have s0 : (w1).cell? ⟨g10, 0, none⟩ = some (.float .f64 0) := (hS.cell 0 (by simp)).1
    have t0 : (w1).frozen? ⟨g10, 0, none⟩ = false := (hS.cell 0 (by simp)).2
    replace hS : Bx base w [(g10, f0), (g9, f1), (g8, 0), (g7, 0), (g6, 0), (g5, b), (g4, a), (g3, l)] ((w1).setCell ⟨g10, 0, none⟩ (.float .f64 f0)) := hS.set f0 hA 0 (by simp)
    replace hA : Apart base [(g10, f0), (g9, f1), (g8, 0), (g7, 0), (g6, 0), (g5, b), (g4, a), (g3, l)] := Apart.of_fst (by rfl) hA
    have HS := Lib.hid (And.intro hS hA)
    clear hS hA
    go_upto_region 3 with fail
    clear s0 t0
    generalize World.setCell _ _ _ = W at *
    clear w1
    refine wp_region_plan 5 (by kernel_rfl) (by kernel_rfl) (PI base w [(g10, f0), (g9, f1), (g8, 0), (g7, 0), (g6, 0), (g5, b), (g4, a), (g3, l)] [some 21, some 22, some 23, some 24, some 11] [4] (fun i => [.agg #[.float .f64 f1], .agg #[.float .f64 b], .agg #[.float .f64 db], .agg #[.float .f64 f2], .bool false].getD i (.bool false)) _) (PI.start HS.out.1) ?_ ?_
    · intro i o b' a' w' hi ho hb he hI
      rcases (by omega : i = 0 ∨ i = 1 ∨ i = 2 ∨ i = 3 ∨ i = 4) with rfl | rfl | rfl | rfl | rfl
      · obtain rfl := Option.some.inj ho
        exact hI.stepQuiet hb rfl rfl rfl (op_load _ _ _ g9 f1 _ rfl ((hI.old rfl).trans rfl) (hI.bx.cell 1 (by simp)).1)
      · obtain rfl := Option.some.inj ho
        exact hI.stepQuiet hb rfl rfl rfl (op_load _ _ _ g5 b _ rfl ((hI.old rfl).trans rfl) (hI.bx.cell 5 (by simp)).1)
      · obtain rfl := Option.some.inj ho
        have e0 := hI.new 1 (edge he 1 (by kernel_rfl)) rfl rfl rfl (by show 22 < 60; decide)
        refine hI.stepCall hb rfl rfl rfl (op_call _ _ 58 Try.f58 _ _ _ rfl Try.func58 (by kernel_rfl) (by kernel_rfl)) ?_
        have hm : Array.map a'.eval #[.tmp 22, .const ((Value.float FloatKind.f64 4641240890982006784))] = #[.agg #[.float .f64 b], (Value.float FloatKind.f64 4641240890982006784)] := by simp [e0, ev_const]
        rw [hm]
        exact DivConst_any b 4641240890982006784 db Hdb.out _
      · obtain rfl := Option.some.inj ho
        have e0 := hI.new 0 (edge he 0 (by kernel_rfl)) rfl rfl rfl (by show 21 < 60; decide)
        have e1 := hI.new 2 (edge he 2 (by kernel_rfl)) rfl rfl rfl (by show 23 < 60; decide)
        refine hI.stepCall hb rfl rfl rfl (op_call _ _ 62 Try.f62 _ _ _ rfl Try.func62 (by kernel_rfl) (by kernel_rfl)) ?_
        have hm : Array.map a'.eval #[.tmp 21, .tmp 23] = #[.agg #[.float .f64 f1], .agg #[.float .f64 db]] := by simp [e0, e1]
        rw [hm]
        exact Sub_any f1 db f2 Hf2.out _
      · obtain rfl := Option.some.inj ho
        exact hI.stepAlloc 41 hb rfl rfl rfl rfl (op_alloc _ _ _ rfl)
    · intro b' a' w1 hb hI
      obtain ⟨ρ, rfl, hS, hC, hN⟩ := hI
      have hA := HS.out.2
      clear HS
      have p0 := hb 0 (by decide)
      have p1 := hb 1 (by decide)
      have p2 := hb 2 (by decide)
      have p3 := hb 3 (by decide)
      have p4 := hb 4 (by decide)
      obtain ⟨c4, f4, l4, n4⟩ := hC 4 (by simp) p4
      have v0 : vals [4] (fun i => [.agg #[.float .f64 f1], .agg #[.float .f64 b], .agg #[.float .f64 db], .agg #[.float .f64 f2], .bool false].getD i (.bool false)) ρ 0 = .agg #[.float .f64 f1] := rfl
      have v1 : vals [4] (fun i => [.agg #[.float .f64 f1], .agg #[.float .f64 b], .agg #[.float .f64 db], .agg #[.float .f64 f2], .bool false].getD i (.bool false)) ρ 1 = .agg #[.float .f64 b] := rfl
      have v2 : vals [4] (fun i => [.agg #[.float .f64 f1], .agg #[.float .f64 b], .agg #[.float .f64 db], .agg #[.float .f64 f2], .bool false].getD i (.bool false)) ρ 2 = .agg #[.float .f64 db] := rfl
      have v3 : vals [4] (fun i => [.agg #[.float .f64 f1], .agg #[.float .f64 b], .agg #[.float .f64 db], .agg #[.float .f64 f2], .bool false].getD i (.bool false)) ρ 3 = .agg #[.float .f64 f2] := rfl
      have v4 : vals [4] (fun i => [.agg #[.float .f64 f1], .agg #[.float .f64 b], .agg #[.float .f64 db], .agg #[.float .f64 f2], .bool false].getD i (.bool false)) ρ 4 = .pointer (some ⟨(ρ 4), 0, none⟩) := rfl
      simp only [puts, Nat.zero_add, p0, p1, p2, p3, p4, v0, v1, v2, v3, v4, if_true, List.drop_succ_cons, List.drop_zero, Nat.reduceAdd]
      clear hb hC hN p0 p1 p2 p3 p4 v0 v1 v2 v3 v4
      generalize ρ 4 = g11 at *
      replace hA : Apart base ((g11, 0) :: [(g10, f0), (g9, f1), (g8, 0), (g7, 0), (g6, 0), (g5, b), (g4, a), (g3, l)]) := ⟨l4, n4, hA⟩
      replace hS : Bx base w ((g11, 0) :: [(g10, f0), (g9, f1), (g8, 0), (g7, 0), (g6, 0), (g5, b), (g4, a), (g3, l)]) w1 := ⟨c4, f4, hS⟩
      clear c4 f4 l4 n4 
      clear ρ b'
      have s0 : (w1).cell? ⟨g11, 0, none⟩ = some (.float .f64 0) := (hS.cell 0 (by simp)).1
      have t0 : (w1).frozen? ⟨g11, 0, none⟩ = false := (hS.cell 0 (by simp)).2
      replace hS : Bx base w [(g11, f2), (g10, f0), (g9, f1), (g8, 0), (g7, 0), (g6, 0), (g5, b), (g4, a), (g3, l)] ((w1).setCell ⟨g11, 0, none⟩ (.float .f64 f2)) := hS.set f2 hA 0 (by simp)
      replace hA : Apart base [(g11, f2), (g10, f0), (g9, f1), (g8, 0), (g7, 0), (g6, 0), (g5, b), (g4, a), (g3, l)] := Apart.of_fst (by rfl) hA
      have HS := Lib.hid (And.intro hS hA)
      clear hS hA
      go_upto_region 4 with fail
      clear s0 t0
      generalize World.setCell _ _ _ = W at *
      clear w1
      have c_g10 : W.cell? ⟨g10, 0, none⟩ = some (.float .f64 f0) := (HS.out.1.cell 1 (by simp)).1
      go_wp2_with fail
      refine (Cubed_any f0 p0 f03 Hp0.out Hf03.out _).mono ?_
      rintro e w1 ⟨rfl, hb⟩
      have hS := HS.out.1.keep hb
      have hA := HS.out.2
      clear HS hb c_g10
      replace hA := hA.alloc hS f03
      replace hS := hS.alloc f03 41
      have HS := Lib.hid (And.intro hS hA)
      clear hS hA
      go_upto_region 5 with fail
      generalize World.alloc _ _ = W at *
      generalize w1.heap.size = g12 at *
      clear w1
      have c_g11 : W.cell? ⟨g11, 0, none⟩ = some (.float .f64 f2) := (HS.out.1.cell 1 (by simp)).1
      go_wp2_with fail
      refine (Cubed_any f2 p2 f23 Hp2.out Hf23.out _).mono ?_
      rintro e w1 ⟨rfl, hb⟩
      have hS := HS.out.1.keep hb
      have hA := HS.out.2
      clear HS hb c_g11
      replace hA := hA.alloc hS f23
      replace hS := hS.alloc f23 41
      have HS := Lib.hid (And.intro hS hA)
      clear hS hA
      go_upto_region 6 with fail
      generalize World.alloc _ _ = W at *
      generalize w1.heap.size = g13 at *
      clear w1
      have q0 : (FloatKind.f64.format.order f03 4576259018578689238 == some .gt) = true := Hq0.out
      have c_g12 : W.cell? ⟨g12, 0, none⟩ = some (.float .f64 f03) := (HS.out.1.cell 1 (by simp)).1
      go_wp2_with fail
      refine (Value_any f03 _).mono ?_
      rintro e w1 ⟨rfl, hb⟩
      have hS := HS.out.1.keep hb
      have hA := HS.out.2
      clear HS hb c_g12
      have HS := Lib.hid (And.intro hS hA)
      clear hS hA
      go_upto_region 7 with fail
      generalize w1 = W at *
      clear q0
      have c_g12 : W.cell? ⟨g12, 0, none⟩ = some (.float .f64 f03) := (HS.out.1.cell 1 (by simp)).1
      have hS := HS.out.1
      have hA := HS.out.2
      clear HS
      generalize W = w1 at *
      have s0 : (w1).cell? ⟨g6, 0, none⟩ = some (.float .f64 0) := (hS.cell 7 (by simp)).1
      have t0 : (w1).frozen? ⟨g6, 0, none⟩ = false := (hS.cell 7 (by simp)).2
      replace hS : Bx base w [(g13, f23), (g12, f03), (g11, f2), (g10, f0), (g9, f1), (g8, 0), (g7, 0), (g6, f03), (g5, b), (g4, a), (g3, l)] ((w1).setCell ⟨g6, 0, none⟩ (.float .f64 f03)) := hS.set f03 hA 7 (by simp)
      replace hA : Apart base [(g13, f23), (g12, f03), (g11, f2), (g10, f0), (g9, f1), (g8, 0), (g7, 0), (g6, f03), (g5, b), (g4, a), (g3, l)] := Apart.of_fst (by rfl) hA
      have HS := Lib.hid (And.intro hS hA)
      clear hS hA
      go_upto_region 9 with fail
      clear s0 t0 c_g12
      generalize World.setCell _ _ _ = W at *
      clear w1
      have q1 : (FloatKind.f64.format.order l 4620693217682128896 == some .gt) = true := Hq1.out
      have c_g3 : W.cell? ⟨g3, 0, none⟩ = some (.float .f64 l) := (HS.out.1.cell 10 (by simp)).1
      go_wp2_with fail
      refine (Value_any l _).mono ?_
      rintro e w1 ⟨rfl, hb⟩
      have hS := HS.out.1.keep hb
      have hA := HS.out.2
      clear HS hb c_g3
      have HS := Lib.hid (And.intro hS hA)
      clear hS hA
      go_upto_region 10 with fail
      generalize w1 = W at *
      clear q1
      have c_g3 : W.cell? ⟨g3, 0, none⟩ = some (.float .f64 l) := (HS.out.1.cell 10 (by simp)).1
      go_wp2_with fail
      refine (AddConst_any l 4625196817309499392 s1 Hs1.out _).mono ?_
      rintro e w1 ⟨rfl, hb⟩
      have hS := HS.out.1.keep hb
      have hA := HS.out.2
      clear HS hb c_g3
      have HS := Lib.hid (And.intro hS hA)
      clear hS hA
      go_wp2_with fail
      refine (DivConst_any s1 4637863191261478912 f1 Hf1.out _).mono ?_
      rintro e w2 ⟨rfl, hb⟩
      have hS := HS.out.1.keep hb
      have hA := HS.out.2
      clear HS hb 
      clear w1
      generalize w2 = w1 at *
      have s0 : (w1).cell? ⟨g7, 0, none⟩ = some (.float .f64 0) := (hS.cell 6 (by simp)).1
      have t0 : (w1).frozen? ⟨g7, 0, none⟩ = false := (hS.cell 6 (by simp)).2
      replace hS : Bx base w [(g13, f23), (g12, f03), (g11, f2), (g10, f0), (g9, f1), (g8, 0), (g7, f1), (g6, f03), (g5, b), (g4, a), (g3, l)] ((w1).setCell ⟨g7, 0, none⟩ (.float .f64 f1)) := hS.set f1 hA 6 (by simp)
      replace hA : Apart base [(g13, f23), (g12, f03), (g11, f2), (g10, f0), (g9, f1), (g8, 0), (g7, f1), (g6, f03), (g5, b), (g4, a), (g3, l)] := Apart.of_fst (by rfl) hA
      have HS := Lib.hid (And.intro hS hA)
      clear hS hA
      go_upto_region 11 with fail
      clear s0 t0
      generalize World.setCell _ _ _ = W at *
      clear w1
      have c_g7 : W.cell? ⟨g7, 0, none⟩ = some (.float .f64 f1) := (HS.out.1.cell 6 (by simp)).1
      go_wp2_with fail
      refine (Cubed_any f1 py y Hpy.out Hy.out _).mono ?_
      rintro e w1 ⟨rfl, hb⟩
      have hS := HS.out.1.keep hb
      have hA := HS.out.2
      clear HS hb c_g7
      have s0 : (w1).cell? ⟨g7, 0, none⟩ = some (.float .f64 f1) := (hS.cell 6 (by simp)).1
      have t0 : (w1).frozen? ⟨g7, 0, none⟩ = false := (hS.cell 6 (by simp)).2
      replace hS : Bx base w [(g13, f23), (g12, f03), (g11, f2), (g10, f0), (g9, f1), (g8, 0), (g7, y), (g6, f03), (g5, b), (g4, a), (g3, l)] ((w1).setCell ⟨g7, 0, none⟩ (.float .f64 y)) := hS.set y hA 6 (by simp)
      replace hA : Apart base [(g13, f23), (g12, f03), (g11, f2), (g10, f0), (g9, f1), (g8, 0), (g7, y), (g6, f03), (g5, b), (g4, a), (g3, l)] := Apart.of_fst (by rfl) hA
      have HS := Lib.hid (And.intro hS hA)
      clear hS hA
      go_upto_region 13 with fail
      clear s0 t0
      generalize World.setCell _ _ _ = W at *
      clear w1
      have q2 : (FloatKind.f64.format.order f23 4576259018578689238 == some .gt) = true := Hq2.out
      have c_g13 : W.cell? ⟨g13, 0, none⟩ = some (.float .f64 f23) := (HS.out.1.cell 0 (by simp)).1
      go_wp2_with fail
      refine (Value_any f23 _).mono ?_
      rintro e w1 ⟨rfl, hb⟩
      have hS := HS.out.1.keep hb
      have hA := HS.out.2
      clear HS hb c_g13
      have HS := Lib.hid (And.intro hS hA)
      clear hS hA
      go_upto_region 14 with fail
      generalize w1 = W at *
      clear q2
      have c_g13 : W.cell? ⟨g13, 0, none⟩ = some (.float .f64 f23) := (HS.out.1.cell 0 (by simp)).1
      have hS := HS.out.1
      have hA := HS.out.2
      clear HS
      generalize W = w1 at *
      have s0 : (w1).cell? ⟨g8, 0, none⟩ = some (.float .f64 0) := (hS.cell 5 (by simp)).1
      have t0 : (w1).frozen? ⟨g8, 0, none⟩ = false := (hS.cell 5 (by simp)).2
      replace hS : Bx base w [(g13, f23), (g12, f03), (g11, f2), (g10, f0), (g9, f1), (g8, f23), (g7, y), (g6, f03), (g5, b), (g4, a), (g3, l)] ((w1).setCell ⟨g8, 0, none⟩ (.float .f64 f23)) := hS.set f23 hA 5 (by simp)
      replace hA : Apart base [(g13, f23), (g12, f03), (g11, f2), (g10, f0), (g9, f1), (g8, f23), (g7, y), (g6, f03), (g5, b), (g4, a), (g3, l)] := Apart.of_fst (by rfl) hA
      have HS := Lib.hid (And.intro hS hA)
      clear hS hA
      go_upto_region 16 with fail
      clear s0 t0 c_g13
      generalize World.setCell _ _ _ = W at *
      clear w1
      have hA := HS.out.2
      refine Plx.wp_region_planX 8 (by kernel_rfl) (by kernel_rfl) (fun bB aA wW => PI base w [(g13, f23), (g12, f03), (g11, f2), (g10, f0), (g9, f1), (g8, cond (bB 7) Z f23), (g7, cond (bB 6) y y), (g6, cond (bB 5) X f03), (g5, b), (g4, a), (g3, l)] [some 55, some 56, some 57, some 58, some 59, none, none, none] [] (fun i => [.agg #[.float .f64 f03], .agg #[.float .f64 X], .agg #[.float .f64 y], .agg #[.float .f64 f23], .agg #[.float .f64 Z], .bool false, .bool false, .bool false].getD i (.bool false)) _ bB aA wW ∧ (bB 5 = true → bB 0 = true) ∧ (bB 6 = true → bB 2 = true) ∧ (bB 7 = true → bB 3 = true)) ⟨PI.start HS.out.1, (fun h => by cases h), (fun h => by cases h), (fun h => by cases h)⟩ ?_ ?_
      · intro i o b' a' w' hi ho hb he hI
        rcases (by omega : i = 0 ∨ i = 1 ∨ i = 2 ∨ i = 3 ∨ i = 4 ∨ i = 5 ∨ i = 6 ∨ i = 7) with rfl | rfl | rfl | rfl | rfl | rfl | rfl | rfl
        · obtain rfl := Option.some.inj ho
          have hn : b' 5 = false := by cases hq : b' 5 with | false => rfl | true => (have := hI.2.1 hq; rw [hb] at this; cases this)
          have hc0 := (hI.1.bx.cell 7 (by simp)).1
          have hc1 : w'.cell? ⟨g6, 0, none⟩ = some (.float .f64 f03) := by simpa [hn] using hc0
          exact Oper.wp_mono (fun _ _ h => ⟨h, upd_imp hI.2.1 (fun e => absurd e (by decide)), upd_imp hI.2.2.1 (fun e => absurd e (by decide)), upd_imp hI.2.2.2 (fun e => absurd e (by decide))⟩) (hI.1.stepQuiet hb rfl rfl rfl (op_load _ _ _ g6 f03 _ rfl ((hI.1.old rfl).trans rfl) hc1))
        · obtain rfl := Option.some.inj ho
          have e0 := hI.1.new 0 (edge he 0 (by kernel_rfl)) rfl rfl rfl (by show 55 < 60; decide)
          refine Oper.wp_mono (fun _ _ h => ⟨h, upd_imp hI.2.1 (fun e => absurd e (by decide)), upd_imp hI.2.2.1 (fun e => absurd e (by decide)), upd_imp hI.2.2.2 (fun e => absurd e (by decide))⟩) (hI.1.stepCall hb rfl rfl rfl (op_call _ _ 63 Try.f63 _ _ _ rfl Try.func63 (by kernel_rfl) (by kernel_rfl)) ?_)
          have hm : Array.map a'.eval #[.tmp 55, .const ((Value.float FloatKind.f64 4606860822843362778))] = #[.agg #[.float .f64 f03], (Value.float FloatKind.f64 4606860822843362778)] := by simp [e0, ev_const]
          rw [hm]
          exact MulConst_any f03 4606860822843362778 X HX.out _
        · obtain rfl := Option.some.inj ho
          have hn : b' 6 = false := by cases hq : b' 6 with | false => rfl | true => (have := hI.2.2.1 hq; rw [hb] at this; cases this)
          have hc0 := (hI.1.bx.cell 6 (by simp)).1
          have hc1 : w'.cell? ⟨g7, 0, none⟩ = some (.float .f64 y) := by simpa [hn] using hc0
          exact Oper.wp_mono (fun _ _ h => ⟨h, upd_imp hI.2.1 (fun e => absurd e (by decide)), upd_imp hI.2.2.1 (fun e => absurd e (by decide)), upd_imp hI.2.2.2 (fun e => absurd e (by decide))⟩) (hI.1.stepQuiet hb rfl rfl rfl (op_load _ _ _ g7 y _ rfl ((hI.1.old rfl).trans rfl) hc1))
        · obtain rfl := Option.some.inj ho
          have hn : b' 7 = false := by cases hq : b' 7 with | false => rfl | true => (have := hI.2.2.2 hq; rw [hb] at this; cases this)
          have hc0 := (hI.1.bx.cell 5 (by simp)).1
          have hc1 : w'.cell? ⟨g8, 0, none⟩ = some (.float .f64 f23) := by simpa [hn] using hc0
          exact Oper.wp_mono (fun _ _ h => ⟨h, upd_imp hI.2.1 (fun e => absurd e (by decide)), upd_imp hI.2.2.1 (fun e => absurd e (by decide)), upd_imp hI.2.2.2 (fun e => absurd e (by decide))⟩) (hI.1.stepQuiet hb rfl rfl rfl (op_load _ _ _ g8 f23 _ rfl ((hI.1.old rfl).trans rfl) hc1))
        · obtain rfl := Option.some.inj ho
          have e0 := hI.1.new 3 (edge he 3 (by kernel_rfl)) rfl rfl rfl (by show 58 < 60; decide)
          refine Oper.wp_mono (fun _ _ h => ⟨h, upd_imp hI.2.1 (fun e => absurd e (by decide)), upd_imp hI.2.2.1 (fun e => absurd e (by decide)), upd_imp hI.2.2.2 (fun e => absurd e (by decide))⟩) (hI.1.stepCall hb rfl rfl rfl (op_call _ _ 63 Try.f63 _ _ _ rfl Try.func63 (by kernel_rfl) (by kernel_rfl)) ?_)
          have hm : Array.map a'.eval #[.tmp 58, .const ((Value.float FloatKind.f64 4605607101106091996))] = #[.agg #[.float .f64 f23], (Value.float FloatKind.f64 4605607101106091996)] := by simp [e0, ev_const]
          rw [hm]
          exact MulConst_any f23 4605607101106091996 Z HZ.out _
        · obtain rfl := Option.some.inj ho
          have e0 := hI.1.new 1 (edge he 1 (by kernel_rfl)) rfl rfl rfl (by show 56 < 60; decide)
          have hap : Apart base [(g13, f23), (g12, f03), (g11, f2), (g10, f0), (g9, f1), (g8, cond (b' 7) Z f23), (g7, cond (b' 6) y y), (g6, cond (b' 5) X f03), (g5, b), (g4, a), (g3, l)] := Apart.of_fst (by rfl) hA
          exact Oper.wp_mono (fun _ _ h => ⟨h, upd_imp hI.2.1 (fun e => edge he 0 (by kernel_rfl)), upd_imp hI.2.2.1 (fun e => absurd e (by decide)), upd_imp hI.2.2.2 (fun e => absurd e (by decide))⟩) (hI.1.stepStore (P := Try.prog) (k := 7) (y := X) hb rfl rfl rfl rfl hap (by simp) (op_store _ _ _ _ g6 X _ _ rfl ((hI.1.old (t := 6) rfl).trans rfl) e0 (hI.1.bx.cell 7 (by simp)).1 (hI.1.bx.cell 7 (by simp)).2))
        · obtain rfl := Option.some.inj ho
          have e0 := hI.1.new 2 (edge he 2 (by kernel_rfl)) rfl rfl rfl (by show 57 < 60; decide)
          have hap : Apart base [(g13, f23), (g12, f03), (g11, f2), (g10, f0), (g9, f1), (g8, cond (b' 7) Z f23), (g7, cond (b' 6) y y), (g6, cond (b' 5) X f03), (g5, b), (g4, a), (g3, l)] := Apart.of_fst (by rfl) hA
          exact Oper.wp_mono (fun _ _ h => ⟨h, upd_imp hI.2.1 (fun e => absurd e (by decide)), upd_imp hI.2.2.1 (fun e => edge he 2 (by kernel_rfl)), upd_imp hI.2.2.2 (fun e => absurd e (by decide))⟩) (hI.1.stepStore (P := Try.prog) (k := 6) (y := y) hb rfl rfl rfl rfl hap (by simp) (op_store _ _ _ _ g7 y _ _ rfl ((hI.1.old (t := 7) rfl).trans rfl) e0 (hI.1.bx.cell 6 (by simp)).1 (hI.1.bx.cell 6 (by simp)).2))
        · obtain rfl := Option.some.inj ho
          have e0 := hI.1.new 4 (edge he 4 (by kernel_rfl)) rfl rfl rfl (by show 59 < 60; decide)
          have hap : Apart base [(g13, f23), (g12, f03), (g11, f2), (g10, f0), (g9, f1), (g8, cond (b' 7) Z f23), (g7, cond (b' 6) y y), (g6, cond (b' 5) X f03), (g5, b), (g4, a), (g3, l)] := Apart.of_fst (by rfl) hA
          exact Oper.wp_mono (fun _ _ h => ⟨h, upd_imp hI.2.1 (fun e => absurd e (by decide)), upd_imp hI.2.2.1 (fun e => absurd e (by decide)), upd_imp hI.2.2.2 (fun e => edge he 3 (by kernel_rfl))⟩) (hI.1.stepStore (P := Try.prog) (k := 5) (y := Z) hb rfl rfl rfl rfl hap (by simp) (op_store _ _ _ _ g8 Z _ _ rfl ((hI.1.old (t := 8) rfl).trans rfl) e0 (hI.1.bx.cell 5 (by simp)).1 (hI.1.bx.cell 5 (by simp)).2))
      · intro b' a' w1 hb hI
        obtain ⟨⟨ρ, rfl, hS, -, -⟩, -, -, -⟩ := hI
        have p0 := hb 0 (by decide)
        have p1 := hb 1 (by decide)
        have p2 := hb 2 (by decide)
        have p3 := hb 3 (by decide)
        have p4 := hb 4 (by decide)
        have p5 := hb 5 (by decide)
        have p6 := hb 6 (by decide)
        have p7 := hb 7 (by decide)
        have v0 : vals [] (fun i => [.agg #[.float .f64 f03], .agg #[.float .f64 X], .agg #[.float .f64 y], .agg #[.float .f64 f23], .agg #[.float .f64 Z], .bool false, .bool false, .bool false].getD i (.bool false)) ρ 0 = .agg #[.float .f64 f03] := rfl
        have v1 : vals [] (fun i => [.agg #[.float .f64 f03], .agg #[.float .f64 X], .agg #[.float .f64 y], .agg #[.float .f64 f23], .agg #[.float .f64 Z], .bool false, .bool false, .bool false].getD i (.bool false)) ρ 1 = .agg #[.float .f64 X] := rfl
        have v2 : vals [] (fun i => [.agg #[.float .f64 f03], .agg #[.float .f64 X], .agg #[.float .f64 y], .agg #[.float .f64 f23], .agg #[.float .f64 Z], .bool false, .bool false, .bool false].getD i (.bool false)) ρ 2 = .agg #[.float .f64 y] := rfl
        have v3 : vals [] (fun i => [.agg #[.float .f64 f03], .agg #[.float .f64 X], .agg #[.float .f64 y], .agg #[.float .f64 f23], .agg #[.float .f64 Z], .bool false, .bool false, .bool false].getD i (.bool false)) ρ 3 = .agg #[.float .f64 f23] := rfl
        have v4 : vals [] (fun i => [.agg #[.float .f64 f03], .agg #[.float .f64 X], .agg #[.float .f64 y], .agg #[.float .f64 f23], .agg #[.float .f64 Z], .bool false, .bool false, .bool false].getD i (.bool false)) ρ 4 = .agg #[.float .f64 Z] := rfl
        have v5 : vals [] (fun i => [.agg #[.float .f64 f03], .agg #[.float .f64 X], .agg #[.float .f64 y], .agg #[.float .f64 f23], .agg #[.float .f64 Z], .bool false, .bool false, .bool false].getD i (.bool false)) ρ 5 = .bool false := rfl
        have v6 : vals [] (fun i => [.agg #[.float .f64 f03], .agg #[.float .f64 X], .agg #[.float .f64 y], .agg #[.float .f64 f23], .agg #[.float .f64 Z], .bool false, .bool false, .bool false].getD i (.bool false)) ρ 6 = .bool false := rfl
        have v7 : vals [] (fun i => [.agg #[.float .f64 f03], .agg #[.float .f64 X], .agg #[.float .f64 y], .agg #[.float .f64 f23], .agg #[.float .f64 Z], .bool false, .bool false, .bool false].getD i (.bool false)) ρ 7 = .bool false := rfl
        simp only [p5, p6, p7, cond_true] at hS
        simp only [puts, Nat.zero_add, p0, p1, p2, p3, p4, p5, p6, p7, v0, v1, v2, v3, v4, v5, v6, v7, if_true, List.drop_succ_cons, List.drop_zero, Nat.reduceAdd]
        have HS2 := Lib.hid (And.intro hS (show Apart base [(g13, f23), (g12, f03), (g11, f2), (g10, f0), (g9, f1), (g8, Z), (g7, y), (g6, X), (g5, b), (g4, a), (g3, l)] from Apart.of_fst (by rfl) hA))
        clear HS hS hA hb p0 p1 p2 p3 p4 p5 p6 p7 v0 v1 v2 v3 v4 v5 v6 v7
        have HS := HS2
        clear HS2 ρ b'
        clear W
        generalize w1 = W at *
        go_wp2_with fail
        have c_g6 : W.cell? ⟨g6, 0, none⟩ = some (.float .f64 X) := (HS.out.1.cell 7 (by simp)).1
        have c_g7 : W.cell? ⟨g7, 0, none⟩ = some (.float .f64 y) := (HS.out.1.cell 6 (by simp)).1
        have c_g8 : W.cell? ⟨g8, 0, none⟩ = some (.float .f64 Z) := (HS.out.1.cell 5 (by simp)).1
        refine bodyPost_ret (v := .tuple #[.agg #[.float .f64 X], .agg #[.float .f64 y], .agg #[.float .f64 Z]]) (by simp [results, Try.results46, go_sem, c_g6, c_g7, c_g8]) rfl ⟨rfl, HS.out.1.below.2⟩
set_option maxRecDepth 100000 in
set_option maxHeartbeats 4000000 in
theorem lx_ttf (l a b s1 f1 da f0 db f2 p0 f03 p2 f23 py y u2 v2 z X Z base : Nat) (w : World) (H : Hid (base = w.heap.size)) (Hs1 : Hid (Ieee.double.add l 4625196817309499392 = some s1)) (Hf1 : Hid (Ieee.double.div s1 4637863191261478912 = some f1)) (Hda : Hid (Ieee.double.div a 4647503709213818880 = some da)) (Hf0 : Hid (Ieee.double.add da f1 = some f0)) (Hdb : Hid (Ieee.double.div b 4641240890982006784 = some db)) (Hf2 : Hid (Ieee.double.sub f1 db = some f2)) (Hp0 : Hid (Ieee.double.mul f0 f0 = some p0)) (Hf03 : Hid (Ieee.double.mul p0 f0 = some f03)) (Hp2 : Hid (Ieee.double.mul f2 f2 = some p2)) (Hf23 : Hid (Ieee.double.mul p2 f2 = some f23)) (Hq0 : Hid (gtB f03 4576259018578689238 = true)) (Hq1 : Hid (gtB l 4620693217682128896 = true)) (Hpy : Hid (Ieee.double.mul f1 f1 = some py)) (Hy : Hid (Ieee.double.mul py f1 = some y)) (Hq2 : Hid (gtB f23 4576259018578689238 = false)) (Hu2 : Hid (Ieee.double.mul f2 4637863191261478912 = some u2)) (Hv2 : Hid (Ieee.double.sub u2 4625196817309499392 = some v2)) (Hz : Hid (Ieee.double.div v2 4651156694067819558 = some z)) (HX : Hid (Ieee.double.mul f03 4606860822843362778 = some X)) (HZ : Hid (Ieee.double.mul z 4605607101106091996 = some Z)) :
    Calls Try.prog 46 #[.agg #[.float .f64 l], .agg #[.float .f64 a], .agg #[.float .f64 b]] w fun e w' => e = .returned (.tuple #[.agg #[.float .f64 X], .agg #[.float .f64 y], .agg #[.float .f64 Z]]) ∧ Below base w w' := by
  go_enter Try.func46, Try.ntmps46
  go_upto_region 1 with fail
  generalize hW : World.alloc _ _ = W at *
  have hS : Bx base w [(w.heap.size + 1 + 1 + 1 + 1 + 1, 0), (w.heap.size + 1 + 1 + 1 + 1, 0), (w.heap.size + 1 + 1 + 1, 0), (w.heap.size + 1 + 1, b), (w.heap.size + 1, a), (w.heap.size, l)] W := by
    subst hW
    have := (((((((Bx.start w).alloc l 41).alloc a 41).alloc b 41).alloc 0 41).alloc 0 41).alloc 0 41)
    rw [H.out]
    simpa using this
  have hA : Apart base [(w.heap.size + 1 + 1 + 1 + 1 + 1, 0), (w.heap.size + 1 + 1 + 1 + 1, 0), (w.heap.size + 1 + 1 + 1, 0), (w.heap.size + 1 + 1, b), (w.heap.size + 1, a), (w.heap.size, l)] := by
    rw [H.out]
    simp [Apart]; try omega
  have HS := Lib.hid (And.intro hS hA)
  clear hS hA hW H
  generalize w.heap.size + 1 + 1 + 1 + 1 + 1 = g8 at *
  generalize w.heap.size + 1 + 1 + 1 + 1 = g7 at *
  generalize w.heap.size + 1 + 1 + 1 = g6 at *
  generalize w.heap.size + 1 + 1 = g5 at *
  generalize w.heap.size + 1 = g4 at *
  generalize hgg : w.heap.size = g3 at *
  clear hgg
  have c_g3 : W.cell? ⟨g3, 0, none⟩ = some (.float .f64 l) := (HS.out.1.cell 5 (by simp)).1
  go_wp2_with fail
  refine (AddConst_any l 4625196817309499392 s1 Hs1.out _).mono ?_
  rintro e w1 ⟨rfl, hb⟩
  have hS := HS.out.1.keep hb
  have hA := HS.out.2
  clear HS hb c_g3
  have HS := Lib.hid (And.intro hS hA)
  clear hS hA
  go_wp2_with fail
  refine (DivConst_any s1 4637863191261478912 f1 Hf1.out _).mono ?_
  rintro e w2 ⟨rfl, hb⟩
  have hS := HS.out.1.keep hb
  have hA := HS.out.2
  clear HS hb 
  clear w1
  generalize w2 = w1 at *
  replace hA := hA.alloc hS f1
  replace hS := hS.alloc f1 41
  have HS := Lib.hid (And.intro hS hA)
  clear hS hA
  go_upto_region 2 with fail
  generalize World.alloc _ _ = W at *
  generalize w1.heap.size = g9 at *
  clear w1
  refine wp_region_plan 5 (by kernel_rfl) (by kernel_rfl) (PI base w [(g9, f1), (g8, 0), (g7, 0), (g6, 0), (g5, b), (g4, a), (g3, l)] [some 17, some 18, some 19, some 20, some 10] [4] (fun i => [.agg #[.float .f64 a], .agg #[.float .f64 da], .agg #[.float .f64 f1], .agg #[.float .f64 f0], .bool false].getD i (.bool false)) _) (PI.start HS.out.1) ?_ ?_
  · intro i o b' a' w' hi ho hb he hI
    rcases (by omega : i = 0 ∨ i = 1 ∨ i = 2 ∨ i = 3 ∨ i = 4) with rfl | rfl | rfl | rfl | rfl
    · obtain rfl := Option.some.inj ho
      exact hI.stepQuiet hb rfl rfl rfl (op_load _ _ _ g4 a _ rfl ((hI.old rfl).trans rfl) (hI.bx.cell 5 (by simp)).1)
    · obtain rfl := Option.some.inj ho
      have e0 := hI.new 0 (edge he 0 (by kernel_rfl)) rfl rfl rfl (by show 17 < 60; decide)
      refine hI.stepCall hb rfl rfl rfl (op_call _ _ 58 Try.f58 _ _ _ rfl Try.func58 (by kernel_rfl) (by kernel_rfl)) ?_
      have hm : Array.map a'.eval #[.tmp 17, .const ((Value.float FloatKind.f64 4647503709213818880))] = #[.agg #[.float .f64 a], (Value.float FloatKind.f64 4647503709213818880)] := by simp [e0, ev_const]
      rw [hm]
      exact DivConst_any a 4647503709213818880 da Hda.out _
    · obtain rfl := Option.some.inj ho
      exact hI.stepQuiet hb rfl rfl rfl (op_load _ _ _ g9 f1 _ rfl ((hI.old rfl).trans rfl) (hI.bx.cell 0 (by simp)).1)
    · obtain rfl := Option.some.inj ho
      have e0 := hI.new 1 (edge he 1 (by kernel_rfl)) rfl rfl rfl (by show 18 < 60; decide)
      have e1 := hI.new 2 (edge he 2 (by kernel_rfl)) rfl rfl rfl (by show 19 < 60; decide)
      refine hI.stepCall hb rfl rfl rfl (op_call _ _ 61 Try.f61 _ _ _ rfl Try.func61 (by kernel_rfl) (by kernel_rfl)) ?_
      have hm : Array.map a'.eval #[.tmp 18, .tmp 19] = #[.agg #[.float .f64 da], .agg #[.float .f64 f1]] := by simp [e0, e1]
      rw [hm]
      exact Add_any da f1 f0 Hf0.out _
    · obtain rfl := Option.some.inj ho
      exact hI.stepAlloc 41 hb rfl rfl rfl rfl (op_alloc _ _ _ rfl)
  · intro b' a' w1 hb hI
    obtain ⟨ρ, rfl, hS, hC, hN⟩ := hI
    have hA := HS.out.2
    clear HS
    have p0 := hb 0 (by decide)
    have p1 := hb 1 (by decide)
    have p2 := hb 2 (by decide)
    have p3 := hb 3 (by decide)
    have p4 := hb 4 (by decide)
    obtain ⟨c4, f4, l4, n4⟩ := hC 4 (by simp) p4
    have v0 : vals [4] (fun i => [.agg #[.float .f64 a], .agg #[.float .f64 da], .agg #[.float .f64 f1], .agg #[.float .f64 f0], .bool false].getD i (.bool false)) ρ 0 = .agg #[.float .f64 a] := rfl
    have v1 : vals [4] (fun i => [.agg #[.float .f64 a], .agg #[.float .f64 da], .agg #[.float .f64 f1], .agg #[.float .f64 f0], .bool false].getD i (.bool false)) ρ 1 = .agg #[.float .f64 da] := rfl
    have v2 : vals [4] (fun i => [.agg #[.float .f64 a], .agg #[.float .f64 da], .agg #[.float .f64 f1], .agg #[.float .f64 f0], .bool false].getD i (.bool false)) ρ 2 = .agg #[.float .f64 f1] := rfl
    have v3 : vals [4] (fun i => [.agg #[.float .f64 a], .agg #[.float .f64 da], .agg #[.float .f64 f1], .agg #[.float .f64 f0], .bool false].getD i (.bool false)) ρ 3 = .agg #[.float .f64 f0] := rfl
    have v4 : vals [4] (fun i => [.agg #[.float .f64 a], .agg #[.float .f64 da], .agg #[.float .f64 f1], .agg #[.float .f64 f0], .bool false].getD i (.bool false)) ρ 4 = .pointer (some ⟨(ρ 4), 0, none⟩) := rfl
    simp only [puts, Nat.zero_add, p0, p1, p2, p3, p4, v0, v1, v2, v3, v4, if_true, List.drop_succ_cons, List.drop_zero, Nat.reduceAdd]
    clear hb hC hN p0 p1 p2 p3 p4 v0 v1 v2 v3 v4
    generalize ρ 4 = g10 at *
    replace hA : Apart base ((g10, 0) :: [(g9, f1), (g8, 0), (g7, 0), (g6, 0), (g5, b), (g4, a), (g3, l)]) := ⟨l4, n4, hA⟩
    replace hS : Bx base w ((g10, 0) :: [(g9, f1), (g8, 0), (g7, 0), (g6, 0), (g5, b), (g4, a), (g3, l)]) w1 := ⟨c4, f4, hS⟩
    clear c4 f4 l4 n4 
    clear ρ b'
    have s0 : (w1).cell? ⟨g10, 0, none⟩ = some (.float .f64 0) := (hS.cell 0 (by simp)).1
    have t0 : (w1).frozen? ⟨g10, 0, none⟩ = false := (hS.cell 0 (by simp)).2
    replace hS : Bx base w [(g10, f0), (g9, f1), (g8, 0), (g7, 0), (g6, 0), (g5, b), (g4, a), (g3, l)] ((w1).setCell ⟨g10, 0, none⟩ (.float .f64 f0)) := hS.set f0 hA 0 (by simp)
    replace hA : Apart base [(g10, f0), (g9, f1), (g8, 0), (g7, 0), (g6, 0), (g5, b), (g4, a), (g3, l)] := Apart.of_fst (by rfl) hA
    have HS := Lib.hid (And.intro hS hA)
    clear hS hA
    go_upto_region 3 with fail
    clear s0 t0
    generalize World.setCell _ _ _ = W at *
    clear w1
    refine wp_region_plan 5 (by kernel_rfl) (by kernel_rfl) (PI base w [(g10, f0), (g9, f1), (g8, 0), (g7, 0), (g6, 0), (g5, b), (g4, a), (g3, l)] [some 21, some 22, some 23, some 24, some 11] [4] (fun i => [.agg #[.float .f64 f1], .agg #[.float .f64 b], .agg #[.float .f64 db], .agg #[.float .f64 f2], .bool false].getD i (.bool false)) _) (PI.start HS.out.1) ?_ ?_
    · intro i o b' a' w' hi ho hb he hI
      rcases (by omega : i = 0 ∨ i = 1 ∨ i = 2 ∨ i = 3 ∨ i = 4) with rfl | rfl | rfl | rfl | rfl
      · obtain rfl := Option.some.inj ho
        exact hI.stepQuiet hb rfl rfl rfl (op_load _ _ _ g9 f1 _ rfl ((hI.old rfl).trans rfl) (hI.bx.cell 1 (by simp)).1)
      · obtain rfl := Option.some.inj ho
        exact hI.stepQuiet hb rfl rfl rfl (op_load _ _ _ g5 b _ rfl ((hI.old rfl).trans rfl) (hI.bx.cell 5 (by simp)).1)
      · obtain rfl := Option.some.inj ho
        have e0 := hI.new 1 (edge he 1 (by kernel_rfl)) rfl rfl rfl (by show 22 < 60; decide)
        refine hI.stepCall hb rfl rfl rfl (op_call _ _ 58 Try.f58 _ _ _ rfl Try.func58 (by kernel_rfl) (by kernel_rfl)) ?_
        have hm : Array.map a'.eval #[.tmp 22, .const ((Value.float FloatKind.f64 4641240890982006784))] = #[.agg #[.float .f64 b], (Value.float FloatKind.f64 4641240890982006784)] := by simp [e0, ev_const]
        rw [hm]
        exact DivConst_any b 4641240890982006784 db Hdb.out _
      · obtain rfl := Option.some.inj ho
        have e0 := hI.new 0 (edge he 0 (by kernel_rfl)) rfl rfl rfl (by show 21 < 60; decide)
        have e1 := hI.new 2 (edge he 2 (by kernel_rfl)) rfl rfl rfl (by show 23 < 60; decide)
        refine hI.stepCall hb rfl rfl rfl (op_call _ _ 62 Try.f62 _ _ _ rfl Try.func62 (by kernel_rfl) (by kernel_rfl)) ?_
        have hm : Array.map a'.eval #[.tmp 21, .tmp 23] = #[.agg #[.float .f64 f1], .agg #[.float .f64 db]] := by simp [e0, e1]
        rw [hm]
        exact Sub_any f1 db f2 Hf2.out _
      · obtain rfl := Option.some.inj ho
        exact hI.stepAlloc 41 hb rfl rfl rfl rfl (op_alloc _ _ _ rfl)
    · intro b' a' w1 hb hI
      obtain ⟨ρ, rfl, hS, hC, hN⟩ := hI
      have hA := HS.out.2
      clear HS
      have p0 := hb 0 (by decide)
      have p1 := hb 1 (by decide)
      have p2 := hb 2 (by decide)
      have p3 := hb 3 (by decide)
      have p4 := hb 4 (by decide)
      obtain ⟨c4, f4, l4, n4⟩ := hC 4 (by simp) p4
      have v0 : vals [4] (fun i => [.agg #[.float .f64 f1], .agg #[.float .f64 b], .agg #[.float .f64 db], .agg #[.float .f64 f2], .bool false].getD i (.bool false)) ρ 0 = .agg #[.float .f64 f1] := rfl
      have v1 : vals [4] (fun i => [.agg #[.float .f64 f1], .agg #[.float .f64 b], .agg #[.float .f64 db], .agg #[.float .f64 f2], .bool false].getD i (.bool false)) ρ 1 = .agg #[.float .f64 b] := rfl
      have v2 : vals [4] (fun i => [.agg #[.float .f64 f1], .agg #[.float .f64 b], .agg #[.float .f64 db], .agg #[.float .f64 f2], .bool false].getD i (.bool false)) ρ 2 = .agg #[.float .f64 db] := rfl
      have v3 : vals [4] (fun i => [.agg #[.float .f64 f1], .agg #[.float .f64 b], .agg #[.float .f64 db], .agg #[.float .f64 f2], .bool false].getD i (.bool false)) ρ 3 = .agg #[.float .f64 f2] := rfl
      have v4 : vals [4] (fun i => [.agg #[.float .f64 f1], .agg #[.float .f64 b], .agg #[.float .f64 db], .agg #[.float .f64 f2], .bool false].getD i (.bool false)) ρ 4 = .pointer (some ⟨(ρ 4), 0, none⟩) := rfl
      simp only [puts, Nat.zero_add, p0, p1, p2, p3, p4, v0, v1, v2, v3, v4, if_true, List.drop_succ_cons, List.drop_zero, Nat.reduceAdd]
      clear hb hC hN p0 p1 p2 p3 p4 v0 v1 v2 v3 v4
      generalize ρ 4 = g11 at *
      replace hA : Apart base ((g11, 0) :: [(g10, f0), (g9, f1), (g8, 0), (g7, 0), (g6, 0), (g5, b), (g4, a), (g3, l)]) := ⟨l4, n4, hA⟩
      replace hS : Bx base w ((g11, 0) :: [(g10, f0), (g9, f1), (g8, 0), (g7, 0), (g6, 0), (g5, b), (g4, a), (g3, l)]) w1 := ⟨c4, f4, hS⟩
      clear c4 f4 l4 n4 
      clear ρ b'
      have s0 : (w1).cell? ⟨g11, 0, none⟩ = some (.float .f64 0) := (hS.cell 0 (by simp)).1
      have t0 : (w1).frozen? ⟨g11, 0, none⟩ = false := (hS.cell 0 (by simp)).2
      replace hS : Bx base w [(g11, f2), (g10, f0), (g9, f1), (g8, 0), (g7, 0), (g6, 0), (g5, b), (g4, a), (g3, l)] ((w1).setCell ⟨g11, 0, none⟩ (.float .f64 f2)) := hS.set f2 hA 0 (by simp)
      replace hA : Apart base [(g11, f2), (g10, f0), (g9, f1), (g8, 0), (g7, 0), (g6, 0), (g5, b), (g4, a), (g3, l)] := Apart.of_fst (by rfl) hA
      have HS := Lib.hid (And.intro hS hA)
      clear hS hA
      go_upto_region 4 with fail
      clear s0 t0
      generalize World.setCell _ _ _ = W at *
      clear w1
      have c_g10 : W.cell? ⟨g10, 0, none⟩ = some (.float .f64 f0) := (HS.out.1.cell 1 (by simp)).1
      go_wp2_with fail
      refine (Cubed_any f0 p0 f03 Hp0.out Hf03.out _).mono ?_
      rintro e w1 ⟨rfl, hb⟩
      have hS := HS.out.1.keep hb
      have hA := HS.out.2
      clear HS hb c_g10
      replace hA := hA.alloc hS f03
      replace hS := hS.alloc f03 41
      have HS := Lib.hid (And.intro hS hA)
      clear hS hA
      go_upto_region 5 with fail
      generalize World.alloc _ _ = W at *
      generalize w1.heap.size = g12 at *
      clear w1
      have c_g11 : W.cell? ⟨g11, 0, none⟩ = some (.float .f64 f2) := (HS.out.1.cell 1 (by simp)).1
      go_wp2_with fail
      refine (Cubed_any f2 p2 f23 Hp2.out Hf23.out _).mono ?_
      rintro e w1 ⟨rfl, hb⟩
      have hS := HS.out.1.keep hb
      have hA := HS.out.2
      clear HS hb c_g11
      replace hA := hA.alloc hS f23
      replace hS := hS.alloc f23 41
      have HS := Lib.hid (And.intro hS hA)
      clear hS hA
      go_upto_region 6 with fail
      generalize World.alloc _ _ = W at *
      generalize w1.heap.size = g13 at *
      clear w1
      have q0 : (FloatKind.f64.format.order f03 4576259018578689238 == some .gt) = true := Hq0.out
      have c_g12 : W.cell? ⟨g12, 0, none⟩ = some (.float .f64 f03) := (HS.out.1.cell 1 (by simp)).1
      go_wp2_with fail
      refine (Value_any f03 _).mono ?_
      rintro e w1 ⟨rfl, hb⟩
      have hS := HS.out.1.keep hb
      have hA := HS.out.2
      clear HS hb c_g12
      have HS := Lib.hid (And.intro hS hA)
      clear hS hA
      go_upto_region 7 with fail
      generalize w1 = W at *
      clear q0
      have c_g12 : W.cell? ⟨g12, 0, none⟩ = some (.float .f64 f03) := (HS.out.1.cell 1 (by simp)).1
      have hS := HS.out.1
      have hA := HS.out.2
      clear HS
      generalize W = w1 at *
      have s0 : (w1).cell? ⟨g6, 0, none⟩ = some (.float .f64 0) := (hS.cell 7 (by simp)).1
      have t0 : (w1).frozen? ⟨g6, 0, none⟩ = false := (hS.cell 7 (by simp)).2
      replace hS : Bx base w [(g13, f23), (g12, f03), (g11, f2), (g10, f0), (g9, f1), (g8, 0), (g7, 0), (g6, f03), (g5, b), (g4, a), (g3, l)] ((w1).setCell ⟨g6, 0, none⟩ (.float .f64 f03)) := hS.set f03 hA 7 (by simp)
      replace hA : Apart base [(g13, f23), (g12, f03), (g11, f2), (g10, f0), (g9, f1), (g8, 0), (g7, 0), (g6, f03), (g5, b), (g4, a), (g3, l)] := Apart.of_fst (by rfl) hA
      have HS := Lib.hid (And.intro hS hA)
      clear hS hA
      go_upto_region 9 with fail
      clear s0 t0 c_g12
      generalize World.setCell _ _ _ = W at *
      clear w1
      have q1 : (FloatKind.f64.format.order l 4620693217682128896 == some .gt) = true := Hq1.out
      have c_g3 : W.cell? ⟨g3, 0, none⟩ = some (.float .f64 l) := (HS.out.1.cell 10 (by simp)).1
      go_wp2_with fail
      refine (Value_any l _).mono ?_
      rintro e w1 ⟨rfl, hb⟩
      have hS := HS.out.1.keep hb
      have hA := HS.out.2
      clear HS hb c_g3
      have HS := Lib.hid (And.intro hS hA)
      clear hS hA
      go_upto_region 10 with fail
      generalize w1 = W at *
      clear q1
      have c_g3 : W.cell? ⟨g3, 0, none⟩ = some (.float .f64 l) := (HS.out.1.cell 10 (by simp)).1
      go_wp2_with fail
      refine (AddConst_any l 4625196817309499392 s1 Hs1.out _).mono ?_
      rintro e w1 ⟨rfl, hb⟩
      have hS := HS.out.1.keep hb
      have hA := HS.out.2
      clear HS hb c_g3
      have HS := Lib.hid (And.intro hS hA)
      clear hS hA
      go_wp2_with fail
      refine (DivConst_any s1 4637863191261478912 f1 Hf1.out _).mono ?_
      rintro e w2 ⟨rfl, hb⟩
      have hS := HS.out.1.keep hb
      have hA := HS.out.2
      clear HS hb 
      clear w1
      generalize w2 = w1 at *
      have s0 : (w1).cell? ⟨g7, 0, none⟩ = some (.float .f64 0) := (hS.cell 6 (by simp)).1
      have t0 : (w1).frozen? ⟨g7, 0, none⟩ = false := (hS.cell 6 (by simp)).2
      replace hS : Bx base w [(g13, f23), (g12, f03), (g11, f2), (g10, f0), (g9, f1), (g8, 0), (g7, f1), (g6, f03), (g5, b), (g4, a), (g3, l)] ((w1).setCell ⟨g7, 0, none⟩ (.float .f64 f1)) := hS.set f1 hA 6 (by simp)
      replace hA : Apart base [(g13, f23), (g12, f03), (g11, f2), (g10, f0), (g9, f1), (g8, 0), (g7, f1), (g6, f03), (g5, b), (g4, a), (g3, l)] := Apart.of_fst (by rfl) hA
      have HS := Lib.hid (And.intro hS hA)
      clear hS hA
      go_upto_region 11 with fail
      clear s0 t0
      generalize World.setCell _ _ _ = W at *
      clear w1
      have c_g7 : W.cell? ⟨g7, 0, none⟩ = some (.float .f64 f1) := (HS.out.1.cell 6 (by simp)).1
      go_wp2_with fail
      refine (Cubed_any f1 py y Hpy.out Hy.out _).mono ?_
      rintro e w1 ⟨rfl, hb⟩
      have hS := HS.out.1.keep hb
      have hA := HS.out.2
      clear HS hb c_g7
      have s0 : (w1).cell? ⟨g7, 0, none⟩ = some (.float .f64 f1) := (hS.cell 6 (by simp)).1
      have t0 : (w1).frozen? ⟨g7, 0, none⟩ = false := (hS.cell 6 (by simp)).2
      replace hS : Bx base w [(g13, f23), (g12, f03), (g11, f2), (g10, f0), (g9, f1), (g8, 0), (g7, y), (g6, f03), (g5, b), (g4, a), (g3, l)] ((w1).setCell ⟨g7, 0, none⟩ (.float .f64 y)) := hS.set y hA 6 (by simp)
      replace hA : Apart base [(g13, f23), (g12, f03), (g11, f2), (g10, f0), (g9, f1), (g8, 0), (g7, y), (g6, f03), (g5, b), (g4, a), (g3, l)] := Apart.of_fst (by rfl) hA
      have HS := Lib.hid (And.intro hS hA)
      clear hS hA
      go_upto_region 13 with fail
      clear s0 t0
      generalize World.setCell _ _ _ = W at *
      clear w1
      have q2 : (FloatKind.f64.format.order f23 4576259018578689238 == some .gt) = false := Hq2.out
      have c_g13 : W.cell? ⟨g13, 0, none⟩ = some (.float .f64 f23) := (HS.out.1.cell 0 (by simp)).1
      go_wp2_with fail
      refine (Value_any f23 _).mono ?_
      rintro e w1 ⟨rfl, hb⟩
      have hS := HS.out.1.keep hb
      have hA := HS.out.2
      clear HS hb c_g13
      have HS := Lib.hid (And.intro hS hA)
      clear hS hA
      go_upto_region 15 with fail
      generalize w1 = W at *
      clear q2
      have c_g11 : W.cell? ⟨g11, 0, none⟩ = some (.float .f64 f2) := (HS.out.1.cell 2 (by simp)).1
      go_wp2_with fail
      refine (MulConst_any f2 4637863191261478912 u2 Hu2.out _).mono ?_
      rintro e w1 ⟨rfl, hb⟩
      have hS := HS.out.1.keep hb
      have hA := HS.out.2
      clear HS hb c_g11
      have HS := Lib.hid (And.intro hS hA)
      clear hS hA
      go_wp2_with fail
      refine (SubConst_any u2 4625196817309499392 v2 Hv2.out _).mono ?_
      rintro e w2 ⟨rfl, hb⟩
      have hS := HS.out.1.keep hb
      have hA := HS.out.2
      clear HS hb 
      clear w1
      generalize w2 = w1 at *
      have HS := Lib.hid (And.intro hS hA)
      clear hS hA
      go_wp2_with fail
      refine (DivConst_any v2 4651156694067819558 z Hz.out _).mono ?_
      rintro e w2 ⟨rfl, hb⟩
      have hS := HS.out.1.keep hb
      have hA := HS.out.2
      clear HS hb 
      clear w1
      generalize w2 = w1 at *
      have s0 : (w1).cell? ⟨g8, 0, none⟩ = some (.float .f64 0) := (hS.cell 5 (by simp)).1
      have t0 : (w1).frozen? ⟨g8, 0, none⟩ = false := (hS.cell 5 (by simp)).2
      replace hS : Bx base w [(g13, f23), (g12, f03), (g11, f2), (g10, f0), (g9, f1), (g8, z), (g7, y), (g6, f03), (g5, b), (g4, a), (g3, l)] ((w1).setCell ⟨g8, 0, none⟩ (.float .f64 z)) := hS.set z hA 5 (by simp)
      replace hA : Apart base [(g13, f23), (g12, f03), (g11, f2), (g10, f0), (g9, f1), (g8, z), (g7, y), (g6, f03), (g5, b), (g4, a), (g3, l)] := Apart.of_fst (by rfl) hA
      have HS := Lib.hid (And.intro hS hA)
      clear hS hA
      go_upto_region 16 with fail
      clear s0 t0
      generalize World.setCell _ _ _ = W at *
      clear w1
      have hA := HS.out.2
      refine Plx.wp_region_planX 8 (by kernel_rfl) (by kernel_rfl) (fun bB aA wW => PI base w [(g13, f23), (g12, f03), (g11, f2), (g10, f0), (g9, f1), (g8, cond (bB 7) Z z), (g7, cond (bB 6) y y), (g6, cond (bB 5) X f03), (g5, b), (g4, a), (g3, l)] [some 55, some 56, some 57, some 58, some 59, none, none, none] [] (fun i => [.agg #[.float .f64 f03], .agg #[.float .f64 X], .agg #[.float .f64 y], .agg #[.float .f64 z], .agg #[.float .f64 Z], .bool false, .bool false, .bool false].getD i (.bool false)) _ bB aA wW ∧ (bB 5 = true → bB 0 = true) ∧ (bB 6 = true → bB 2 = true) ∧ (bB 7 = true → bB 3 = true)) ⟨PI.start HS.out.1, (fun h => by cases h), (fun h => by cases h), (fun h => by cases h)⟩ ?_ ?_
      · intro i o b' a' w' hi ho hb he hI
        rcases (by omega : i = 0 ∨ i = 1 ∨ i = 2 ∨ i = 3 ∨ i = 4 ∨ i = 5 ∨ i = 6 ∨ i = 7) with rfl | rfl | rfl | rfl | rfl | rfl | rfl | rfl
        · obtain rfl := Option.some.inj ho
          have hn : b' 5 = false := by cases hq : b' 5 with | false => rfl | true => (have := hI.2.1 hq; rw [hb] at this; cases this)
          have hc0 := (hI.1.bx.cell 7 (by simp)).1
          have hc1 : w'.cell? ⟨g6, 0, none⟩ = some (.float .f64 f03) := by simpa [hn] using hc0
          exact Oper.wp_mono (fun _ _ h => ⟨h, upd_imp hI.2.1 (fun e => absurd e (by decide)), upd_imp hI.2.2.1 (fun e => absurd e (by decide)), upd_imp hI.2.2.2 (fun e => absurd e (by decide))⟩) (hI.1.stepQuiet hb rfl rfl rfl (op_load _ _ _ g6 f03 _ rfl ((hI.1.old rfl).trans rfl) hc1))
        · obtain rfl := Option.some.inj ho
          have e0 := hI.1.new 0 (edge he 0 (by kernel_rfl)) rfl rfl rfl (by show 55 < 60; decide)
          refine Oper.wp_mono (fun _ _ h => ⟨h, upd_imp hI.2.1 (fun e => absurd e (by decide)), upd_imp hI.2.2.1 (fun e => absurd e (by decide)), upd_imp hI.2.2.2 (fun e => absurd e (by decide))⟩) (hI.1.stepCall hb rfl rfl rfl (op_call _ _ 63 Try.f63 _ _ _ rfl Try.func63 (by kernel_rfl) (by kernel_rfl)) ?_)
          have hm : Array.map a'.eval #[.tmp 55, .const ((Value.float FloatKind.f64 4606860822843362778))] = #[.agg #[.float .f64 f03], (Value.float FloatKind.f64 4606860822843362778)] := by simp [e0, ev_const]
          rw [hm]
          exact MulConst_any f03 4606860822843362778 X HX.out _
        · obtain rfl := Option.some.inj ho
          have hn : b' 6 = false := by cases hq : b' 6 with | false => rfl | true => (have := hI.2.2.1 hq; rw [hb] at this; cases this)
          have hc0 := (hI.1.bx.cell 6 (by simp)).1
          have hc1 : w'.cell? ⟨g7, 0, none⟩ = some (.float .f64 y) := by simpa [hn] using hc0
          exact Oper.wp_mono (fun _ _ h => ⟨h, upd_imp hI.2.1 (fun e => absurd e (by decide)), upd_imp hI.2.2.1 (fun e => absurd e (by decide)), upd_imp hI.2.2.2 (fun e => absurd e (by decide))⟩) (hI.1.stepQuiet hb rfl rfl rfl (op_load _ _ _ g7 y _ rfl ((hI.1.old rfl).trans rfl) hc1))
        · obtain rfl := Option.some.inj ho
          have hn : b' 7 = false := by cases hq : b' 7 with | false => rfl | true => (have := hI.2.2.2 hq; rw [hb] at this; cases this)
          have hc0 := (hI.1.bx.cell 5 (by simp)).1
          have hc1 : w'.cell? ⟨g8, 0, none⟩ = some (.float .f64 z) := by simpa [hn] using hc0
          exact Oper.wp_mono (fun _ _ h => ⟨h, upd_imp hI.2.1 (fun e => absurd e (by decide)), upd_imp hI.2.2.1 (fun e => absurd e (by decide)), upd_imp hI.2.2.2 (fun e => absurd e (by decide))⟩) (hI.1.stepQuiet hb rfl rfl rfl (op_load _ _ _ g8 z _ rfl ((hI.1.old rfl).trans rfl) hc1))
        · obtain rfl := Option.some.inj ho
          have e0 := hI.1.new 3 (edge he 3 (by kernel_rfl)) rfl rfl rfl (by show 58 < 60; decide)
          refine Oper.wp_mono (fun _ _ h => ⟨h, upd_imp hI.2.1 (fun e => absurd e (by decide)), upd_imp hI.2.2.1 (fun e => absurd e (by decide)), upd_imp hI.2.2.2 (fun e => absurd e (by decide))⟩) (hI.1.stepCall hb rfl rfl rfl (op_call _ _ 63 Try.f63 _ _ _ rfl Try.func63 (by kernel_rfl) (by kernel_rfl)) ?_)
          have hm : Array.map a'.eval #[.tmp 58, .const ((Value.float FloatKind.f64 4605607101106091996))] = #[.agg #[.float .f64 z], (Value.float FloatKind.f64 4605607101106091996)] := by simp [e0, ev_const]
          rw [hm]
          exact MulConst_any z 4605607101106091996 Z HZ.out _
        · obtain rfl := Option.some.inj ho
          have e0 := hI.1.new 1 (edge he 1 (by kernel_rfl)) rfl rfl rfl (by show 56 < 60; decide)
          have hap : Apart base [(g13, f23), (g12, f03), (g11, f2), (g10, f0), (g9, f1), (g8, cond (b' 7) Z z), (g7, cond (b' 6) y y), (g6, cond (b' 5) X f03), (g5, b), (g4, a), (g3, l)] := Apart.of_fst (by rfl) hA
          exact Oper.wp_mono (fun _ _ h => ⟨h, upd_imp hI.2.1 (fun e => edge he 0 (by kernel_rfl)), upd_imp hI.2.2.1 (fun e => absurd e (by decide)), upd_imp hI.2.2.2 (fun e => absurd e (by decide))⟩) (hI.1.stepStore (P := Try.prog) (k := 7) (y := X) hb rfl rfl rfl rfl hap (by simp) (op_store _ _ _ _ g6 X _ _ rfl ((hI.1.old (t := 6) rfl).trans rfl) e0 (hI.1.bx.cell 7 (by simp)).1 (hI.1.bx.cell 7 (by simp)).2))
        · obtain rfl := Option.some.inj ho
          have e0 := hI.1.new 2 (edge he 2 (by kernel_rfl)) rfl rfl rfl (by show 57 < 60; decide)
          have hap : Apart base [(g13, f23), (g12, f03), (g11, f2), (g10, f0), (g9, f1), (g8, cond (b' 7) Z z), (g7, cond (b' 6) y y), (g6, cond (b' 5) X f03), (g5, b), (g4, a), (g3, l)] := Apart.of_fst (by rfl) hA
          exact Oper.wp_mono (fun _ _ h => ⟨h, upd_imp hI.2.1 (fun e => absurd e (by decide)), upd_imp hI.2.2.1 (fun e => edge he 2 (by kernel_rfl)), upd_imp hI.2.2.2 (fun e => absurd e (by decide))⟩) (hI.1.stepStore (P := Try.prog) (k := 6) (y := y) hb rfl rfl rfl rfl hap (by simp) (op_store _ _ _ _ g7 y _ _ rfl ((hI.1.old (t := 7) rfl).trans rfl) e0 (hI.1.bx.cell 6 (by simp)).1 (hI.1.bx.cell 6 (by simp)).2))
        · obtain rfl := Option.some.inj ho
          have e0 := hI.1.new 4 (edge he 4 (by kernel_rfl)) rfl rfl rfl (by show 59 < 60; decide)
          have hap : Apart base [(g13, f23), (g12, f03), (g11, f2), (g10, f0), (g9, f1), (g8, cond (b' 7) Z z), (g7, cond (b' 6) y y), (g6, cond (b' 5) X f03), (g5, b), (g4, a), (g3, l)] := Apart.of_fst (by rfl) hA
          exact Oper.wp_mono (fun _ _ h => ⟨h, upd_imp hI.2.1 (fun e => absurd e (by decide)), upd_imp hI.2.2.1 (fun e => absurd e (by decide)), upd_imp hI.2.2.2 (fun e => edge he 3 (by kernel_rfl))⟩) (hI.1.stepStore (P := Try.prog) (k := 5) (y := Z) hb rfl rfl rfl rfl hap (by simp) (op_store _ _ _ _ g8 Z _ _ rfl ((hI.1.old (t := 8) rfl).trans rfl) e0 (hI.1.bx.cell 5 (by simp)).1 (hI.1.bx.cell 5 (by simp)).2))
      · intro b' a' w1 hb hI
        obtain ⟨⟨ρ, rfl, hS, -, -⟩, -, -, -⟩ := hI
        have p0 := hb 0 (by decide)
        have p1 := hb 1 (by decide)
        have p2 := hb 2 (by decide)
        have p3 := hb 3 (by decide)
        have p4 := hb 4 (by decide)
        have p5 := hb 5 (by decide)
        have p6 := hb 6 (by decide)
        have p7 := hb 7 (by decide)
        have v0 : vals [] (fun i => [.agg #[.float .f64 f03], .agg #[.float .f64 X], .agg #[.float .f64 y], .agg #[.float .f64 z], .agg #[.float .f64 Z], .bool false, .bool false, .bool false].getD i (.bool false)) ρ 0 = .agg #[.float .f64 f03] := rfl
        have v1 : vals [] (fun i => [.agg #[.float .f64 f03], .agg #[.float .f64 X], .agg #[.float .f64 y], .agg #[.float .f64 z], .agg #[.float .f64 Z], .bool false, .bool false, .bool false].getD i (.bool false)) ρ 1 = .agg #[.float .f64 X] := rfl
        have v2 : vals [] (fun i => [.agg #[.float .f64 f03], .agg #[.float .f64 X], .agg #[.float .f64 y], .agg #[.float .f64 z], .agg #[.float .f64 Z], .bool false, .bool false, .bool false].getD i (.bool false)) ρ 2 = .agg #[.float .f64 y] := rfl
        have v3 : vals [] (fun i => [.agg #[.float .f64 f03], .agg #[.float .f64 X], .agg #[.float .f64 y], .agg #[.float .f64 z], .agg #[.float .f64 Z], .bool false, .bool false, .bool false].getD i (.bool false)) ρ 3 = .agg #[.float .f64 z] := rfl
        have v4 : vals [] (fun i => [.agg #[.float .f64 f03], .agg #[.float .f64 X], .agg #[.float .f64 y], .agg #[.float .f64 z], .agg #[.float .f64 Z], .bool false, .bool false, .bool false].getD i (.bool false)) ρ 4 = .agg #[.float .f64 Z] := rfl
        have v5 : vals [] (fun i => [.agg #[.float .f64 f03], .agg #[.float .f64 X], .agg #[.float .f64 y], .agg #[.float .f64 z], .agg #[.float .f64 Z], .bool false, .bool false, .bool false].getD i (.bool false)) ρ 5 = .bool false := rfl
        have v6 : vals [] (fun i => [.agg #[.float .f64 f03], .agg #[.float .f64 X], .agg #[.float .f64 y], .agg #[.float .f64 z], .agg #[.float .f64 Z], .bool false, .bool false, .bool false].getD i (.bool false)) ρ 6 = .bool false := rfl
        have v7 : vals [] (fun i => [.agg #[.float .f64 f03], .agg #[.float .f64 X], .agg #[.float .f64 y], .agg #[.float .f64 z], .agg #[.float .f64 Z], .bool false, .bool false, .bool false].getD i (.bool false)) ρ 7 = .bool false := rfl
        simp only [p5, p6, p7, cond_true] at hS
        simp only [puts, Nat.zero_add, p0, p1, p2, p3, p4, p5, p6, p7, v0, v1, v2, v3, v4, v5, v6, v7, if_true, List.drop_succ_cons, List.drop_zero, Nat.reduceAdd]
        have HS2 := Lib.hid (And.intro hS (show Apart base [(g13, f23), (g12, f03), (g11, f2), (g10, f0), (g9, f1), (g8, Z), (g7, y), (g6, X), (g5, b), (g4, a), (g3, l)] from Apart.of_fst (by rfl) hA))
        clear HS hS hA hb p0 p1 p2 p3 p4 p5 p6 p7 v0 v1 v2 v3 v4 v5 v6 v7
        have HS := HS2
        clear HS2 ρ b'
        clear W
        generalize w1 = W at *
        go_wp2_with fail
        have c_g6 : W.cell? ⟨g6, 0, none⟩ = some (.float .f64 X) := (HS.out.1.cell 7 (by simp)).1
        have c_g7 : W.cell? ⟨g7, 0, none⟩ = some (.float .f64 y) := (HS.out.1.cell 6 (by simp)).1
        have c_g8 : W.cell? ⟨g8, 0, none⟩ = some (.float .f64 Z) := (HS.out.1.cell 5 (by simp)).1
        refine bodyPost_ret (v := .tuple #[.agg #[.float .f64 X], .agg #[.float .f64 y], .agg #[.float .f64 Z]]) (by simp [results, Try.results46, go_sem, c_g6, c_g7, c_g8]) rfl ⟨rfl, HS.out.1.below.2⟩
set_option maxRecDepth 100000 in
set_option maxHeartbeats 4000000 in
theorem lx_tft (l a b s1 f1 da f0 db f2 p0 f03 p2 f23 y X Z base : Nat) (w : World) (H : Hid (base = w.heap.size)) (Hs1 : Hid (Ieee.double.add l 4625196817309499392 = some s1)) (Hf1 : Hid (Ieee.double.div s1 4637863191261478912 = some f1)) (Hda : Hid (Ieee.double.div a 4647503709213818880 = some da)) (Hf0 : Hid (Ieee.double.add da f1 = some f0)) (Hdb : Hid (Ieee.double.div b 4641240890982006784 = some db)) (Hf2 : Hid (Ieee.double.sub f1 db = some f2)) (Hp0 : Hid (Ieee.double.mul f0 f0 = some p0)) (Hf03 : Hid (Ieee.double.mul p0 f0 = some f03)) (Hp2 : Hid (Ieee.double.mul f2 f2 = some p2)) (Hf23 : Hid (Ieee.double.mul p2 f2 = some f23)) (Hq0 : Hid (gtB f03 4576259018578689238 = true)) (Hq1 : Hid (gtB l 4620693217682128896 = false)) (Hy : Hid (Ieee.double.div l 4651156694067819558 = some y)) (Hq2 : Hid (gtB f23 4576259018578689238 = true)) (HX : Hid (Ieee.double.mul f03 4606860822843362778 = some X)) (HZ : Hid (Ieee.double.mul f23 4605607101106091996 = some Z)) :
    Calls Try.prog 46 #[.agg #[.float .f64 l], .agg #[.float .f64 a], .agg #[.float .f64 b]] w fun e w' => e = .returned (.tuple #[.agg #[.float .f64 X], .agg #[.float .f64 y], .agg #[.float .f64 Z]]) ∧ Below base w w' := by
  go_enter Try.func46, Try.ntmps46
  go_upto_region 1 with fail
  generalize hW : World.alloc _ _ = W at *
  have hS : Bx base w [(w.heap.size + 1 + 1 + 1 + 1 + 1, 0), (w.heap.size + 1 + 1 + 1 + 1, 0), (w.heap.size + 1 + 1 + 1, 0), (w.heap.size + 1 + 1, b), (w.heap.size + 1, a), (w.heap.size, l)] W := by
    subst hW
    have := (((((((Bx.start w).alloc l 41).alloc a 41).alloc b 41).alloc 0 41).alloc 0 41).alloc 0 41)
    rw [H.out]
    simpa using this
  have hA : Apart base [(w.heap.size + 1 + 1 + 1 + 1 + 1, 0), (w.heap.size + 1 + 1 + 1 + 1, 0), (w.heap.size + 1 + 1 + 1, 0), (w.heap.size + 1 + 1, b), (w.heap.size + 1, a), (w.heap.size, l)] := by
    rw [H.out]
    simp [Apart]; try omega
  have HS := Lib.hid (And.intro hS hA)
  clear hS hA hW H
  generalize w.heap.size + 1 + 1 + 1 + 1 + 1 = g8 at *
  generalize w.heap.size + 1 + 1 + 1 + 1 = g7 at *
  generalize w.heap.size + 1 + 1 + 1 = g6 at *
  generalize w.heap.size + 1 + 1 = g5 at *
  generalize w.heap.size + 1 = g4 at *
  generalize hgg : w.heap.size = g3 at *
  clear hgg
  have c_g3 : W.cell? ⟨g3, 0, none⟩ = some (.float .f64 l) := (HS.out.1.cell 5 (by simp)).1
  go_wp2_with fail
  refine (AddConst_any l 4625196817309499392 s1 Hs1.out _).mono ?_
  rintro e w1 ⟨rfl, hb⟩
  have hS := HS.out.1.keep hb
  have hA := HS.out.2
  clear HS hb c_g3
  have HS := Lib.hid (And.intro hS hA)
  clear hS hA
  go_wp2_with fail
  refine (DivConst_any s1 4637863191261478912 f1 Hf1.out _).mono ?_
  rintro e w2 ⟨rfl, hb⟩
  have hS := HS.out.1.keep hb
  have hA := HS.out.2
  clear HS hb 
  clear w1
  generalize w2 = w1 at *
  replace hA := hA.alloc hS f1
  replace hS := hS.alloc f1 41
  have HS := Lib.hid (And.intro hS hA)
  clear hS hA
  go_upto_region 2 with fail
  generalize World.alloc _ _ = W at *
  generalize w1.heap.size = g9 at *
  clear w1
  refine wp_region_plan 5 (by kernel_rfl) (by kernel_rfl) (PI base w [(g9, f1), (g8, 0), (g7, 0), (g6, 0), (g5, b), (g4, a), (g3, l)] [some 17, some 18, some 19, some 20, some 10] [4] (fun i => [.agg #[.float .f64 a], .agg #[.float .f64 da], .agg #[.float .f64 f1], .agg #[.float .f64 f0], .bool false].getD i (.bool false)) _) (PI.start HS.out.1) ?_ ?_
  · intro i o b' a' w' hi ho hb he hI
    rcases (by omega : i = 0 ∨ i = 1 ∨ i = 2 ∨ i = 3 ∨ i = 4) with rfl | rfl | rfl | rfl | rfl
    · obtain rfl := Option.some.inj ho
      exact hI.stepQuiet hb rfl rfl rfl (op_load _ _ _ g4 a _ rfl ((hI.old rfl).trans rfl) (hI.bx.cell 5 (by simp)).1)
    · obtain rfl := Option.some.inj ho
      have e0 := hI.new 0 (edge he 0 (by kernel_rfl)) rfl rfl rfl (by show 17 < 60; decide)
      refine hI.stepCall hb rfl rfl rfl (op_call _ _ 58 Try.f58 _ _ _ rfl Try.func58 (by kernel_rfl) (by kernel_rfl)) ?_
      have hm : Array.map a'.eval #[.tmp 17, .const ((Value.float FloatKind.f64 4647503709213818880))] = #[.agg #[.float .f64 a], (Value.float FloatKind.f64 4647503709213818880)] := by simp [e0, ev_const]
      rw [hm]
      exact DivConst_any a 4647503709213818880 da Hda.out _
    · obtain rfl := Option.some.inj ho
      exact hI.stepQuiet hb rfl rfl rfl (op_load _ _ _ g9 f1 _ rfl ((hI.old rfl).trans rfl) (hI.bx.cell 0 (by simp)).1)
    · obtain rfl := Option.some.inj ho
      have e0 := hI.new 1 (edge he 1 (by kernel_rfl)) rfl rfl rfl (by show 18 < 60; decide)
      have e1 := hI.new 2 (edge he 2 (by kernel_rfl)) rfl rfl rfl (by show 19 < 60; decide)
      refine hI.stepCall hb rfl rfl rfl (op_call _ _ 61 Try.f61 _ _ _ rfl Try.func61 (by kernel_rfl) (by kernel_rfl)) ?_
      have hm : Array.map a'.eval #[.tmp 18, .tmp 19] = #[.agg #[.float .f64 da], .agg #[.float .f64 f1]] := by simp [e0, e1]
      rw [hm]
      exact Add_any da f1 f0 Hf0.out _
    · obtain rfl := Option.some.inj ho
      exact hI.stepAlloc 41 hb rfl rfl rfl rfl (op_alloc _ _ _ rfl)
  · intro b' a' w1 hb hI
    obtain ⟨ρ, rfl, hS, hC, hN⟩ := hI
    have hA := HS.out.2
    clear HS
    have p0 := hb 0 (by decide)
    have p1 := hb 1 (by decide)
    have p2 := hb 2 (by decide)
    have p3 := hb 3 (by decide)
    have p4 := hb 4 (by decide)
    obtain ⟨c4, f4, l4, n4⟩ := hC 4 (by simp) p4
    have v0 : vals [4] (fun i => [.agg #[.float .f64 a], .agg #[.float .f64 da], .agg #[.float .f64 f1], .agg #[.float .f64 f0], .bool false].getD i (.bool false)) ρ 0 = .agg #[.float .f64 a] := rfl
    have v1 : vals [4] (fun i => [.agg #[.float .f64 a], .agg #[.float .f64 da], .agg #[.float .f64 f1], .agg #[.float .f64 f0], .bool false].getD i (.bool false)) ρ 1 = .agg #[.float .f64 da] := rfl
    have v2 : vals [4] (fun i => [.agg #[.float .f64 a], .agg #[.float .f64 da], .agg #[.float .f64 f1], .agg #[.float .f64 f0], .bool false].getD i (.bool false)) ρ 2 = .agg #[.float .f64 f1] := rfl
    have v3 : vals [4] (fun i => [.agg #[.float .f64 a], .agg #[.float .f64 da], .agg #[.float .f64 f1], .agg #[.float .f64 f0], .bool false].getD i (.bool false)) ρ 3 = .agg #[.float .f64 f0] := rfl
    have v4 : vals [4] (fun i => [.agg #[.float .f64 a], .agg #[.float .f64 da], .agg #[.float .f64 f1], .agg #[.float .f64 f0], .bool false].getD i (.bool false)) ρ 4 = .pointer (some ⟨(ρ 4), 0, none⟩) := rfl
    simp only [puts, Nat.zero_add, p0, p1, p2, p3, p4, v0, v1, v2, v3, v4, if_true, List.drop_succ_cons, List.drop_zero, Nat.reduceAdd]
    clear hb hC hN p0 p1 p2 p3 p4 v0 v1 v2 v3 v4
    generalize ρ 4 = g10 at *
    replace hA : Apart base ((g10, 0) :: [(g9, f1), (g8, 0), (g7, 0), (g6, 0), (g5, b), (g4, a), (g3, l)]) := ⟨l4, n4, hA⟩
    replace hS : Bx base w ((g10, 0) :: [(g9, f1), (g8, 0), (g7, 0), (g6, 0), (g5, b), (g4, a), (g3, l)]) w1 := ⟨c4, f4, hS⟩
    clear c4 f4 l4 n4 
    clear ρ b'
    have s0 : (w1).cell? ⟨g10, 0, none⟩ = some (.float .f64 0) := (hS.cell 0 (by simp)).1
    have t0 : (w1).frozen? ⟨g10, 0, none⟩ = false := (hS.cell 0 (by simp)).2
    replace hS : Bx base w [(g10, f0), (g9, f1), (g8, 0), (g7, 0), (g6, 0), (g5, b), (g4, a), (g3, l)] ((w1).setCell ⟨g10, 0, none⟩ (.float .f64 f0)) := hS.set f0 hA 0 (by simp)
    replace hA : Apart base [(g10, f0), (g9, f1), (g8, 0), (g7, 0), (g6, 0), (g5, b), (g4, a), (g3, l)] := Apart.of_fst (by rfl) hA
    have HS := Lib.hid (And.intro hS hA)
    clear hS hA
    go_upto_region 3 with fail
    clear s0 t0
    generalize World.setCell _ _ _ = W at *
    clear w1
    refine wp_region_plan 5 (by kernel_rfl) (by kernel_rfl) (PI base w [(g10, f0), (g9, f1), (g8, 0), (g7, 0), (g6, 0), (g5, b), (g4, a), (g3, l)] [some 21, some 22, some 23, some 24, some 11] [4] (fun i => [.agg #[.float .f64 f1], .agg #[.float .f64 b], .agg #[.float .f64 db], .agg #[.float .f64 f2], .bool false].getD i (.bool false)) _) (PI.start HS.out.1) ?_ ?_
    · intro i o b' a' w' hi ho hb he hI
      rcases (by omega : i = 0 ∨ i = 1 ∨ i = 2 ∨ i = 3 ∨ i = 4) with rfl | rfl | rfl | rfl | rfl
      · obtain rfl := Option.some.inj ho
        exact hI.stepQuiet hb rfl rfl rfl (op_load _ _ _ g9 f1 _ rfl ((hI.old rfl).trans rfl) (hI.bx.cell 1 (by simp)).1)
      · obtain rfl := Option.some.inj ho
        exact hI.stepQuiet hb rfl rfl rfl (op_load _ _ _ g5 b _ rfl ((hI.old rfl).trans rfl) (hI.bx.cell 5 (by simp)).1)
      · obtain rfl := Option.some.inj ho
        have e0 := hI.new 1 (edge he 1 (by kernel_rfl)) rfl rfl rfl (by show 22 < 60; decide)
        refine hI.stepCall hb rfl rfl rfl (op_call _ _ 58 Try.f58 _ _ _ rfl Try.func58 (by kernel_rfl) (by kernel_rfl)) ?_
        have hm : Array.map a'.eval #[.tmp 22, .const ((Value.float FloatKind.f64 4641240890982006784))] = #[.agg #[.float .f64 b], (Value.float FloatKind.f64 4641240890982006784)] := by simp [e0, ev_const]
        rw [hm]
        exact DivConst_any b 4641240890982006784 db Hdb.out _
      · obtain rfl := Option.some.inj ho
        have e0 := hI.new 0 (edge he 0 (by kernel_rfl)) rfl rfl rfl (by show 21 < 60; decide)
        have e1 := hI.new 2 (edge he 2 (by kernel_rfl)) rfl rfl rfl (by show 23 < 60; decide)
        refine hI.stepCall hb rfl rfl rfl (op_call _ _ 62 Try.f62 _ _ _ rfl Try.func62 (by kernel_rfl) (by kernel_rfl)) ?_
        have hm : Array.map a'.eval #[.tmp 21, .tmp 23] = #[.agg #[.float .f64 f1], .agg #[.float .f64 db]] := by simp [e0, e1]
        rw [hm]
        exact Sub_any f1 db f2 Hf2.out _
      · obtain rfl := Option.some.inj ho
        exact hI.stepAlloc 41 hb rfl rfl rfl rfl (op_alloc _ _ _ rfl)
    · intro b' a' w1 hb hI
      obtain ⟨ρ, rfl, hS, hC, hN⟩ := hI
      have hA := HS.out.2
      clear HS
      have p0 := hb 0 (by decide)
      have p1 := hb 1 (by decide)
      have p2 := hb 2 (by decide)
      have p3 := hb 3 (by decide)
      have p4 := hb 4 (by decide)
      obtain ⟨c4, f4, l4, n4⟩ := hC 4 (by simp) p4
      have v0 : vals [4] (fun i => [.agg #[.float .f64 f1], .agg #[.float .f64 b], .agg #[.float .f64 db], .agg #[.float .f64 f2], .bool false].getD i (.bool false)) ρ 0 = .agg #[.float .f64 f1] := rfl
      have v1 : vals [4] (fun i => [.agg #[.float .f64 f1], .agg #[.float .f64 b], .agg #[.float .f64 db], .agg #[.float .f64 f2], .bool false].getD i (.bool false)) ρ 1 = .agg #[.float .f64 b] := rfl
      have v2 : vals [4] (fun i => [.agg #[.float .f64 f1], .agg #[.float .f64 b], .agg #[.float .f64 db], .agg #[.float .f64 f2], .bool false].getD i (.bool false)) ρ 2 = .agg #[.float .f64 db] := rfl
      have v3 : vals [4] (fun i => [.agg #[.float .f64 f1], .agg #[.float .f64 b], .agg #[.float .f64 db], .agg #[.float .f64 f2], .bool false].getD i (.bool false)) ρ 3 = .agg #[.float .f64 f2] := rfl
      have v4 : vals [4] (fun i => [.agg #[.float .f64 f1], .agg #[.float .f64 b], .agg #[.float .f64 db], .agg #[.float .f64 f2], .bool false].getD i (.bool false)) ρ 4 = .pointer (some ⟨(ρ 4), 0, none⟩) := rfl
      simp only [puts, Nat.zero_add, p0, p1, p2, p3, p4, v0, v1, v2, v3, v4, if_true, List.drop_succ_cons, List.drop_zero, Nat.reduceAdd]
      clear hb hC hN p0 p1 p2 p3 p4 v0 v1 v2 v3 v4
      generalize ρ 4 = g11 at *
      replace hA : Apart base ((g11, 0) :: [(g10, f0), (g9, f1), (g8, 0), (g7, 0), (g6, 0), (g5, b), (g4, a), (g3, l)]) := ⟨l4, n4, hA⟩
      replace hS : Bx base w ((g11, 0) :: [(g10, f0), (g9, f1), (g8, 0), (g7, 0), (g6, 0), (g5, b), (g4, a), (g3, l)]) w1 := ⟨c4, f4, hS⟩
      clear c4 f4 l4 n4 
      clear ρ b'
      have s0 : (w1).cell? ⟨g11, 0, none⟩ = some (.float .f64 0) := (hS.cell 0 (by simp)).1
      have t0 : (w1).frozen? ⟨g11, 0, none⟩ = false := (hS.cell 0 (by simp)).2
      replace hS : Bx base w [(g11, f2), (g10, f0), (g9, f1), (g8, 0), (g7, 0), (g6, 0), (g5, b), (g4, a), (g3, l)] ((w1).setCell ⟨g11, 0, none⟩ (.float .f64 f2)) := hS.set f2 hA 0 (by simp)
      replace hA : Apart base [(g11, f2), (g10, f0), (g9, f1), (g8, 0), (g7, 0), (g6, 0), (g5, b), (g4, a), (g3, l)] := Apart.of_fst (by rfl) hA
      have HS := Lib.hid (And.intro hS hA)
      clear hS hA
      go_upto_region 4 with fail
      clear s0 t0
      generalize World.setCell _ _ _ = W at *
      clear w1
      have c_g10 : W.cell? ⟨g10, 0, none⟩ = some (.float .f64 f0) := (HS.out.1.cell 1 (by simp)).1
      go_wp2_with fail
      refine (Cubed_any f0 p0 f03 Hp0.out Hf03.out _).mono ?_
      rintro e w1 ⟨rfl, hb⟩
      have hS := HS.out.1.keep hb
      have hA := HS.out.2
      clear HS hb c_g10
      replace hA := hA.alloc hS f03
      replace hS := hS.alloc f03 41
      have HS := Lib.hid (And.intro hS hA)
      clear hS hA
      go_upto_region 5 with fail
      generalize World.alloc _ _ = W at *
      generalize w1.heap.size = g12 at *
      clear w1
      have c_g11 : W.cell? ⟨g11, 0, none⟩ = some (.float .f64 f2) := (HS.out.1.cell 1 (by simp)).1
      go_wp2_with fail
      refine (Cubed_any f2 p2 f23 Hp2.out Hf23.out _).mono ?_
      rintro e w1 ⟨rfl, hb⟩
      have hS := HS.out.1.keep hb
      have hA := HS.out.2
      clear HS hb c_g11
      replace hA := hA.alloc hS f23
      replace hS := hS.alloc f23 41
      have HS := Lib.hid (And.intro hS hA)
      clear hS hA
      go_upto_region 6 with fail
      generalize World.alloc _ _ = W at *
      generalize w1.heap.size = g13 at *
      clear w1
      have q0 : (FloatKind.f64.format.order f03 4576259018578689238 == some .gt) = true := Hq0.out
      have c_g12 : W.cell? ⟨g12, 0, none⟩ = some (.float .f64 f03) := (HS.out.1.cell 1 (by simp)).1
      go_wp2_with fail
      refine (Value_any f03 _).mono ?_
      rintro e w1 ⟨rfl, hb⟩
      have hS := HS.out.1.keep hb
      have hA := HS.out.2
      clear HS hb c_g12
      have HS := Lib.hid (And.intro hS hA)
      clear hS hA
      go_upto_region 7 with fail
      generalize w1 = W at *
      clear q0
      have c_g12 : W.cell? ⟨g12, 0, none⟩ = some (.float .f64 f03) := (HS.out.1.cell 1 (by simp)).1
      have hS := HS.out.1
      have hA := HS.out.2
      clear HS
      generalize W = w1 at *
      have s0 : (w1).cell? ⟨g6, 0, none⟩ = some (.float .f64 0) := (hS.cell 7 (by simp)).1
      have t0 : (w1).frozen? ⟨g6, 0, none⟩ = false := (hS.cell 7 (by simp)).2
      replace hS : Bx base w [(g13, f23), (g12, f03), (g11, f2), (g10, f0), (g9, f1), (g8, 0), (g7, 0), (g6, f03), (g5, b), (g4, a), (g3, l)] ((w1).setCell ⟨g6, 0, none⟩ (.float .f64 f03)) := hS.set f03 hA 7 (by simp)
      replace hA : Apart base [(g13, f23), (g12, f03), (g11, f2), (g10, f0), (g9, f1), (g8, 0), (g7, 0), (g6, f03), (g5, b), (g4, a), (g3, l)] := Apart.of_fst (by rfl) hA
      have HS := Lib.hid (And.intro hS hA)
      clear hS hA
      go_upto_region 9 with fail
      clear s0 t0 c_g12
      generalize World.setCell _ _ _ = W at *
      clear w1
      have q1 : (FloatKind.f64.format.order l 4620693217682128896 == some .gt) = false := Hq1.out
      have c_g3 : W.cell? ⟨g3, 0, none⟩ = some (.float .f64 l) := (HS.out.1.cell 10 (by simp)).1
      go_wp2_with fail
      refine (Value_any l _).mono ?_
      rintro e w1 ⟨rfl, hb⟩
      have hS := HS.out.1.keep hb
      have hA := HS.out.2
      clear HS hb c_g3
      have HS := Lib.hid (And.intro hS hA)
      clear hS hA
      go_upto_region 12 with fail
      generalize w1 = W at *
      clear q1
      have c_g3 : W.cell? ⟨g3, 0, none⟩ = some (.float .f64 l) := (HS.out.1.cell 10 (by simp)).1
      go_wp2_with fail
      refine (DivConst_any l 4651156694067819558 y Hy.out _).mono ?_
      rintro e w1 ⟨rfl, hb⟩
      have hS := HS.out.1.keep hb
      have hA := HS.out.2
      clear HS hb c_g3
      have s0 : (w1).cell? ⟨g7, 0, none⟩ = some (.float .f64 0) := (hS.cell 6 (by simp)).1
      have t0 : (w1).frozen? ⟨g7, 0, none⟩ = false := (hS.cell 6 (by simp)).2
      replace hS : Bx base w [(g13, f23), (g12, f03), (g11, f2), (g10, f0), (g9, f1), (g8, 0), (g7, y), (g6, f03), (g5, b), (g4, a), (g3, l)] ((w1).setCell ⟨g7, 0, none⟩ (.float .f64 y)) := hS.set y hA 6 (by simp)
      replace hA : Apart base [(g13, f23), (g12, f03), (g11, f2), (g10, f0), (g9, f1), (g8, 0), (g7, y), (g6, f03), (g5, b), (g4, a), (g3, l)] := Apart.of_fst (by rfl) hA
      have HS := Lib.hid (And.intro hS hA)
      clear hS hA
      go_upto_region 13 with fail
      clear s0 t0
      generalize World.setCell _ _ _ = W at *
      clear w1
      have q2 : (FloatKind.f64.format.order f23 4576259018578689238 == some .gt) = true := Hq2.out
      have c_g13 : W.cell? ⟨g13, 0, none⟩ = some (.float .f64 f23) := (HS.out.1.cell 0 (by simp)).1
      go_wp2_with fail
      refine (Value_any f23 _).mono ?_
      rintro e w1 ⟨rfl, hb⟩
      have hS := HS.out.1.keep hb
      have hA := HS.out.2
      clear HS hb c_g13
      have HS := Lib.hid (And.intro hS hA)
      clear hS hA
      go_upto_region 14 with fail
      generalize w1 = W at *
      clear q2
      have c_g13 : W.cell? ⟨g13, 0, none⟩ = some (.float .f64 f23) := (HS.out.1.cell 0 (by simp)).1
      have hS := HS.out.1
      have hA := HS.out.2
      clear HS
      generalize W = w1 at *
      have s0 : (w1).cell? ⟨g8, 0, none⟩ = some (.float .f64 0) := (hS.cell 5 (by simp)).1
      have t0 : (w1).frozen? ⟨g8, 0, none⟩ = false := (hS.cell 5 (by simp)).2
      replace hS : Bx base w [(g13, f23), (g12, f03), (g11, f2), (g10, f0), (g9, f1), (g8, f23), (g7, y), (g6, f03), (g5, b), (g4, a), (g3, l)] ((w1).setCell ⟨g8, 0, none⟩ (.float .f64 f23)) := hS.set f23 hA 5 (by simp)
      replace hA : Apart base [(g13, f23), (g12, f03), (g11, f2), (g10, f0), (g9, f1), (g8, f23), (g7, y), (g6, f03), (g5, b), (g4, a), (g3, l)] := Apart.of_fst (by rfl) hA
      have HS := Lib.hid (And.intro hS hA)
      clear hS hA
      go_upto_region 16 with fail
      clear s0 t0 c_g13
      generalize World.setCell _ _ _ = W at *
      clear w1
      have hA := HS.out.2
      refine Plx.wp_region_planX 8 (by kernel_rfl) (by kernel_rfl) (fun bB aA wW => PI base w [(g13, f23), (g12, f03), (g11, f2), (g10, f0), (g9, f1), (g8, cond (bB 7) Z f23), (g7, cond (bB 6) y y), (g6, cond (bB 5) X f03), (g5, b), (g4, a), (g3, l)] [some 55, some 56, some 57, some 58, some 59, none, none, none] [] (fun i => [.agg #[.float .f64 f03], .agg #[.float .f64 X], .agg #[.float .f64 y], .agg #[.float .f64 f23], .agg #[.float .f64 Z], .bool false, .bool false, .bool false].getD i (.bool false)) _ bB aA wW ∧ (bB 5 = true → bB 0 = true) ∧ (bB 6 = true → bB 2 = true) ∧ (bB 7 = true → bB 3 = true)) ⟨PI.start HS.out.1, (fun h => by cases h), (fun h => by cases h), (fun h => by cases h)⟩ ?_ ?_
      · intro i o b' a' w' hi ho hb he hI
        rcases (by omega : i = 0 ∨ i = 1 ∨ i = 2 ∨ i = 3 ∨ i = 4 ∨ i = 5 ∨ i = 6 ∨ i = 7) with rfl | rfl | rfl | rfl | rfl | rfl | rfl | rfl
        · obtain rfl := Option.some.inj ho
          have hn : b' 5 = false := by cases hq : b' 5 with | false => rfl | true => (have := hI.2.1 hq; rw [hb] at this; cases this)
          have hc0 := (hI.1.bx.cell 7 (by simp)).1
          have hc1 : w'.cell? ⟨g6, 0, none⟩ = some (.float .f64 f03) := by simpa [hn] using hc0
          exact Oper.wp_mono (fun _ _ h => ⟨h, upd_imp hI.2.1 (fun e => absurd e (by decide)), upd_imp hI.2.2.1 (fun e => absurd e (by decide)), upd_imp hI.2.2.2 (fun e => absurd e (by decide))⟩) (hI.1.stepQuiet hb rfl rfl rfl (op_load _ _ _ g6 f03 _ rfl ((hI.1.old rfl).trans rfl) hc1))
        · obtain rfl := Option.some.inj ho
          have e0 := hI.1.new 0 (edge he 0 (by kernel_rfl)) rfl rfl rfl (by show 55 < 60; decide)
          refine Oper.wp_mono (fun _ _ h => ⟨h, upd_imp hI.2.1 (fun e => absurd e (by decide)), upd_imp hI.2.2.1 (fun e => absurd e (by decide)), upd_imp hI.2.2.2 (fun e => absurd e (by decide))⟩) (hI.1.stepCall hb rfl rfl rfl (op_call _ _ 63 Try.f63 _ _ _ rfl Try.func63 (by kernel_rfl) (by kernel_rfl)) ?_)
          have hm : Array.map a'.eval #[.tmp 55, .const ((Value.float FloatKind.f64 4606860822843362778))] = #[.agg #[.float .f64 f03], (Value.float FloatKind.f64 4606860822843362778)] := by simp [e0, ev_const]
          rw [hm]
          exact MulConst_any f03 4606860822843362778 X HX.out _
        · obtain rfl := Option.some.inj ho
          have hn : b' 6 = false := by cases hq : b' 6 with | false => rfl | true => (have := hI.2.2.1 hq; rw [hb] at this; cases this)
          have hc0 := (hI.1.bx.cell 6 (by simp)).1
          have hc1 : w'.cell? ⟨g7, 0, none⟩ = some (.float .f64 y) := by simpa [hn] using hc0
          exact Oper.wp_mono (fun _ _ h => ⟨h, upd_imp hI.2.1 (fun e => absurd e (by decide)), upd_imp hI.2.2.1 (fun e => absurd e (by decide)), upd_imp hI.2.2.2 (fun e => absurd e (by decide))⟩) (hI.1.stepQuiet hb rfl rfl rfl (op_load _ _ _ g7 y _ rfl ((hI.1.old rfl).trans rfl) hc1))
        · obtain rfl := Option.some.inj ho
          have hn : b' 7 = false := by cases hq : b' 7 with | false => rfl | true => (have := hI.2.2.2 hq; rw [hb] at this; cases this)
          have hc0 := (hI.1.bx.cell 5 (by simp)).1
          have hc1 : w'.cell? ⟨g8, 0, none⟩ = some (.float .f64 f23) := by simpa [hn] using hc0
          exact Oper.wp_mono (fun _ _ h => ⟨h, upd_imp hI.2.1 (fun e => absurd e (by decide)), upd_imp hI.2.2.1 (fun e => absurd e (by decide)), upd_imp hI.2.2.2 (fun e => absurd e (by decide))⟩) (hI.1.stepQuiet hb rfl rfl rfl (op_load _ _ _ g8 f23 _ rfl ((hI.1.old rfl).trans rfl) hc1))
        · obtain rfl := Option.some.inj ho
          have e0 := hI.1.new 3 (edge he 3 (by kernel_rfl)) rfl rfl rfl (by show 58 < 60; decide)
          refine Oper.wp_mono (fun _ _ h => ⟨h, upd_imp hI.2.1 (fun e => absurd e (by decide)), upd_imp hI.2.2.1 (fun e => absurd e (by decide)), upd_imp hI.2.2.2 (fun e => absurd e (by decide))⟩) (hI.1.stepCall hb rfl rfl rfl (op_call _ _ 63 Try.f63 _ _ _ rfl Try.func63 (by kernel_rfl) (by kernel_rfl)) ?_)
          have hm : Array.map a'.eval #[.tmp 58, .const ((Value.float FloatKind.f64 4605607101106091996))] = #[.agg #[.float .f64 f23], (Value.float FloatKind.f64 4605607101106091996)] := by simp [e0, ev_const]
          rw [hm]
          exact MulConst_any f23 4605607101106091996 Z HZ.out _
        · obtain rfl := Option.some.inj ho
          have e0 := hI.1.new 1 (edge he 1 (by kernel_rfl)) rfl rfl rfl (by show 56 < 60; decide)
          have hap : Apart base [(g13, f23), (g12, f03), (g11, f2), (g10, f0), (g9, f1), (g8, cond (b' 7) Z f23), (g7, cond (b' 6) y y), (g6, cond (b' 5) X f03), (g5, b), (g4, a), (g3, l)] := Apart.of_fst (by rfl) hA
          exact Oper.wp_mono (fun _ _ h => ⟨h, upd_imp hI.2.1 (fun e => edge he 0 (by kernel_rfl)), upd_imp hI.2.2.1 (fun e => absurd e (by decide)), upd_imp hI.2.2.2 (fun e => absurd e (by decide))⟩) (hI.1.stepStore (P := Try.prog) (k := 7) (y := X) hb rfl rfl rfl rfl hap (by simp) (op_store _ _ _ _ g6 X _ _ rfl ((hI.1.old (t := 6) rfl).trans rfl) e0 (hI.1.bx.cell 7 (by simp)).1 (hI.1.bx.cell 7 (by simp)).2))
        · obtain rfl := Option.some.inj ho
          have e0 := hI.1.new 2 (edge he 2 (by kernel_rfl)) rfl rfl rfl (by show 57 < 60; decide)
          have hap : Apart base [(g13, f23), (g12, f03), (g11, f2), (g10, f0), (g9, f1), (g8, cond (b' 7) Z f23), (g7, cond (b' 6) y y), (g6, cond (b' 5) X f03), (g5, b), (g4, a), (g3, l)] := Apart.of_fst (by rfl) hA
          exact Oper.wp_mono (fun _ _ h => ⟨h, upd_imp hI.2.1 (fun e => absurd e (by decide)), upd_imp hI.2.2.1 (fun e => edge he 2 (by kernel_rfl)), upd_imp hI.2.2.2 (fun e => absurd e (by decide))⟩) (hI.1.stepStore (P := Try.prog) (k := 6) (y := y) hb rfl rfl rfl rfl hap (by simp) (op_store _ _ _ _ g7 y _ _ rfl ((hI.1.old (t := 7) rfl).trans rfl) e0 (hI.1.bx.cell 6 (by simp)).1 (hI.1.bx.cell 6 (by simp)).2))
        · obtain rfl := Option.some.inj ho
          have e0 := hI.1.new 4 (edge he 4 (by kernel_rfl)) rfl rfl rfl (by show 59 < 60; decide)
          have hap : Apart base [(g13, f23), (g12, f03), (g11, f2), (g10, f0), (g9, f1), (g8, cond (b' 7) Z f23), (g7, cond (b' 6) y y), (g6, cond (b' 5) X f03), (g5, b), (g4, a), (g3, l)] := Apart.of_fst (by rfl) hA
          exact Oper.wp_mono (fun _ _ h => ⟨h, upd_imp hI.2.1 (fun e => absurd e (by decide)), upd_imp hI.2.2.1 (fun e => absurd e (by decide)), upd_imp hI.2.2.2 (fun e => edge he 3 (by kernel_rfl))⟩) (hI.1.stepStore (P := Try.prog) (k := 5) (y := Z) hb rfl rfl rfl rfl hap (by simp) (op_store _ _ _ _ g8 Z _ _ rfl ((hI.1.old (t := 8) rfl).trans rfl) e0 (hI.1.bx.cell 5 (by simp)).1 (hI.1.bx.cell 5 (by simp)).2))
      · intro b' a' w1 hb hI
        obtain ⟨⟨ρ, rfl, hS, -, -⟩, -, -, -⟩ := hI
        have p0 := hb 0 (by decide)
        have p1 := hb 1 (by decide)
        have p2 := hb 2 (by decide)
        have p3 := hb 3 (by decide)
        have p4 := hb 4 (by decide)
        have p5 := hb 5 (by decide)
        have p6 := hb 6 (by decide)
        have p7 := hb 7 (by decide)
        have v0 : vals [] (fun i => [.agg #[.float .f64 f03], .agg #[.float .f64 X], .agg #[.float .f64 y], .agg #[.float .f64 f23], .agg #[.float .f64 Z], .bool false, .bool false, .bool false].getD i (.bool false)) ρ 0 = .agg #[.float .f64 f03] := rfl
        have v1 : vals [] (fun i => [.agg #[.float .f64 f03], .agg #[.float .f64 X], .agg #[.float .f64 y], .agg #[.float .f64 f23], .agg #[.float .f64 Z], .bool false, .bool false, .bool false].getD i (.bool false)) ρ 1 = .agg #[.float .f64 X] := rfl
        have v2 : vals [] (fun i => [.agg #[.float .f64 f03], .agg #[.float .f64 X], .agg #[.float .f64 y], .agg #[.float .f64 f23], .agg #[.float .f64 Z], .bool false, .bool false, .bool false].getD i (.bool false)) ρ 2 = .agg #[.float .f64 y] := rfl
        have v3 : vals [] (fun i => [.agg #[.float .f64 f03], .agg #[.float .f64 X], .agg #[.float .f64 y], .agg #[.float .f64 f23], .agg #[.float .f64 Z], .bool false, .bool false, .bool false].getD i (.bool false)) ρ 3 = .agg #[.float .f64 f23] := rfl
        have v4 : vals [] (fun i => [.agg #[.float .f64 f03], .agg #[.float .f64 X], .agg #[.float .f64 y], .agg #[.float .f64 f23], .agg #[.float .f64 Z], .bool false, .bool false, .bool false].getD i (.bool false)) ρ 4 = .agg #[.float .f64 Z] := rfl
        have v5 : vals [] (fun i => [.agg #[.float .f64 f03], .agg #[.float .f64 X], .agg #[.float .f64 y], .agg #[.float .f64 f23], .agg #[.float .f64 Z], .bool false, .bool false, .bool false].getD i (.bool false)) ρ 5 = .bool false := rfl
        have v6 : vals [] (fun i => [.agg #[.float .f64 f03], .agg #[.float .f64 X], .agg #[.float .f64 y], .agg #[.float .f64 f23], .agg #[.float .f64 Z], .bool false, .bool false, .bool false].getD i (.bool false)) ρ 6 = .bool false := rfl
        have v7 : vals [] (fun i => [.agg #[.float .f64 f03], .agg #[.float .f64 X], .agg #[.float .f64 y], .agg #[.float .f64 f23], .agg #[.float .f64 Z], .bool false, .bool false, .bool false].getD i (.bool false)) ρ 7 = .bool false := rfl
        simp only [p5, p6, p7, cond_true] at hS
        simp only [puts, Nat.zero_add, p0, p1, p2, p3, p4, p5, p6, p7, v0, v1, v2, v3, v4, v5, v6, v7, if_true, List.drop_succ_cons, List.drop_zero, Nat.reduceAdd]
        have HS2 := Lib.hid (And.intro hS (show Apart base [(g13, f23), (g12, f03), (g11, f2), (g10, f0), (g9, f1), (g8, Z), (g7, y), (g6, X), (g5, b), (g4, a), (g3, l)] from Apart.of_fst (by rfl) hA))
        clear HS hS hA hb p0 p1 p2 p3 p4 p5 p6 p7 v0 v1 v2 v3 v4 v5 v6 v7
        have HS := HS2
        clear HS2 ρ b'
        clear W
        generalize w1 = W at *
        go_wp2_with fail
        have c_g6 : W.cell? ⟨g6, 0, none⟩ = some (.float .f64 X) := (HS.out.1.cell 7 (by simp)).1
        have c_g7 : W.cell? ⟨g7, 0, none⟩ = some (.float .f64 y) := (HS.out.1.cell 6 (by simp)).1
        have c_g8 : W.cell? ⟨g8, 0, none⟩ = some (.float .f64 Z) := (HS.out.1.cell 5 (by simp)).1
        refine bodyPost_ret (v := .tuple #[.agg #[.float .f64 X], .agg #[.float .f64 y], .agg #[.float .f64 Z]]) (by simp [results, Try.results46, go_sem, c_g6, c_g7, c_g8]) rfl ⟨rfl, HS.out.1.below.2⟩
set_option maxRecDepth 100000 in
set_option maxHeartbeats 4000000 in
theorem lx_tff (l a b s1 f1 da f0 db f2 p0 f03 p2 f23 y u2 v2 z X Z base : Nat) (w : World) (H : Hid (base = w.heap.size)) (Hs1 : Hid (Ieee.double.add l 4625196817309499392 = some s1)) (Hf1 : Hid (Ieee.double.div s1 4637863191261478912 = some f1)) (Hda : Hid (Ieee.double.div a 4647503709213818880 = some da)) (Hf0 : Hid (Ieee.double.add da f1 = some f0)) (Hdb : Hid (Ieee.double.div b 4641240890982006784 = some db)) (Hf2 : Hid (Ieee.double.sub f1 db = some f2)) (Hp0 : Hid (Ieee.double.mul f0 f0 = some p0)) (Hf03 : Hid (Ieee.double.mul p0 f0 = some f03)) (Hp2 : Hid (Ieee.double.mul f2 f2 = some p2)) (Hf23 : Hid (Ieee.double.mul p2 f2 = some f23)) (Hq0 : Hid (gtB f03 4576259018578689238 = true)) (Hq1 : Hid (gtB l 4620693217682128896 = false)) (Hy : Hid (Ieee.double.div l 4651156694067819558 = some y)) (Hq2 : Hid (gtB f23 4576259018578689238 = false)) (Hu2 : Hid (Ieee.double.mul f2 4637863191261478912 = some u2)) (Hv2 : Hid (Ieee.double.sub u2 4625196817309499392 = some v2)) (Hz : Hid (Ieee.double.div v2 4651156694067819558 = some z)) (HX : Hid (Ieee.double.mul f03 4606860822843362778 = some X)) (HZ : Hid (Ieee.double.mul z 4605607101106091996 = some Z)) :
    Calls Try.prog 46 #[.agg #[.float .f64 l], .agg #[.float .f64 a], .agg #[.float .f64 b]] w fun e w' => e = .returned (.tuple #[.agg #[.float .f64 X], .agg #[.float .f64 y], .agg #[.float .f64 Z]]) ∧ Below base w w' := by
  go_enter Try.func46, Try.ntmps46
  go_upto_region 1 with fail
  generalize hW : World.alloc _ _ = W at *
  have hS : Bx base w [(w.heap.size + 1 + 1 + 1 + 1 + 1, 0), (w.heap.size + 1 + 1 + 1 + 1, 0), (w.heap.size + 1 + 1 + 1, 0), (w.heap.size + 1 + 1, b), (w.heap.size + 1, a), (w.heap.size, l)] W := by
    subst hW
    have := (((((((Bx.start w).alloc l 41).alloc a 41).alloc b 41).alloc 0 41).alloc 0 41).alloc 0 41)
    rw [H.out]
    simpa using this
  have hA : Apart base [(w.heap.size + 1 + 1 + 1 + 1 + 1, 0), (w.heap.size + 1 + 1 + 1 + 1, 0), (w.heap.size + 1 + 1 + 1, 0), (w.heap.size + 1 + 1, b), (w.heap.size + 1, a), (w.heap.size, l)] := by
    rw [H.out]
    simp [Apart]; try omega
  have HS := Lib.hid (And.intro hS hA)
  clear hS hA hW H
  generalize w.heap.size + 1 + 1 + 1 + 1 + 1 = g8 at *
  generalize w.heap.size + 1 + 1 + 1 + 1 = g7 at *
  generalize w.heap.size + 1 + 1 + 1 = g6 at *
  generalize w.heap.size + 1 + 1 = g5 at *
  generalize w.heap.size + 1 = g4 at *
  generalize hgg : w.heap.size = g3 at *
  clear hgg
  have c_g3 : W.cell? ⟨g3, 0, none⟩ = some (.float .f64 l) := (HS.out.1.cell 5 (by simp)).1
  go_wp2_with fail
  refine (AddConst_any l 4625196817309499392 s1 Hs1.out _).mono ?_
  rintro e w1 ⟨rfl, hb⟩
  have hS := HS.out.1.keep hb
  have hA := HS.out.2
  clear HS hb c_g3
  have HS := Lib.hid (And.intro hS hA)
  clear hS hA
  go_wp2_with fail
  refine (DivConst_any s1 4637863191261478912 f1 Hf1.out _).mono ?_
  rintro e w2 ⟨rfl, hb⟩
  have hS := HS.out.1.keep hb
  have hA := HS.out.2
  clear HS hb 
  clear w1
  generalize w2 = w1 at *
  replace hA := hA.alloc hS f1
  replace hS := hS.alloc f1 41
  have HS := Lib.hid (And.intro hS hA)
  clear hS hA
  go_upto_region 2 with fail
  generalize World.alloc _ _ = W at *
  generalize w1.heap.size = g9 at *
  clear w1
  refine wp_region_plan 5 (by kernel_rfl) (by kernel_rfl) (PI base w [(g9, f1), (g8, 0), (g7, 0), (g6, 0), (g5, b), (g4, a), (g3, l)] [some 17, some 18, some 19, some 20, some 10] [4] (fun i => [.agg #[.float .f64 a], .agg #[.float .f64 da], .agg #[.float .f64 f1], .agg #[.float .f64 f0], .bool false].getD i (.bool false)) _) (PI.start HS.out.1) ?_ ?_
  · intro i o b' a' w' hi ho hb he hI
    rcases (by omega : i = 0 ∨ i = 1 ∨ i = 2 ∨ i = 3 ∨ i = 4) with rfl | rfl | rfl | rfl | rfl
    · obtain rfl := Option.some.inj ho
      exact hI.stepQuiet hb rfl rfl rfl (op_load _ _ _ g4 a _ rfl ((hI.old rfl).trans rfl) (hI.bx.cell 5 (by simp)).1)
    · obtain rfl := Option.some.inj ho
      have e0 := hI.new 0 (edge he 0 (by kernel_rfl)) rfl rfl rfl (by show 17 < 60; decide)
      refine hI.stepCall hb rfl rfl rfl (op_call _ _ 58 Try.f58 _ _ _ rfl Try.func58 (by kernel_rfl) (by kernel_rfl)) ?_
      have hm : Array.map a'.eval #[.tmp 17, .const ((Value.float FloatKind.f64 4647503709213818880))] = #[.agg #[.float .f64 a], (Value.float FloatKind.f64 4647503709213818880)] := by simp [e0, ev_const]
      rw [hm]
      exact DivConst_any a 4647503709213818880 da Hda.out _
    · obtain rfl := Option.some.inj ho
      exact hI.stepQuiet hb rfl rfl rfl (op_load _ _ _ g9 f1 _ rfl ((hI.old rfl).trans rfl) (hI.bx.cell 0 (by simp)).1)
    · obtain rfl := Option.some.inj ho
      have e0 := hI.new 1 (edge he 1 (by kernel_rfl)) rfl rfl rfl (by show 18 < 60; decide)
      have e1 := hI.new 2 (edge he 2 (by kernel_rfl)) rfl rfl rfl (by show 19 < 60; decide)
      refine hI.stepCall hb rfl rfl rfl (op_call _ _ 61 Try.f61 _ _ _ rfl Try.func61 (by kernel_rfl) (by kernel_rfl)) ?_
      have hm : Array.map a'.eval #[.tmp 18, .tmp 19] = #[.agg #[.float .f64 da], .agg #[.float .f64 f1]] := by simp [e0, e1]
      rw [hm]
      exact Add_any da f1 f0 Hf0.out _
    · obtain rfl := Option.some.inj ho
      exact hI.stepAlloc 41 hb rfl rfl rfl rfl (op_alloc _ _ _ rfl)
  · intro b' a' w1 hb hI
    obtain ⟨ρ, rfl, hS, hC, hN⟩ := hI
    have hA := HS.out.2
    clear HS
    have p0 := hb 0 (by decide)
    have p1 := hb 1 (by decide)
    have p2 := hb 2 (by decide)
    have p3 := hb 3 (by decide)
    have p4 := hb 4 (by decide)
    obtain ⟨c4, f4, l4, n4⟩ := hC 4 (by simp) p4
    have v0 : vals [4] (fun i => [.agg #[.float .f64 a], .agg #[.float .f64 da], .agg #[.float .f64 f1], .agg #[.float .f64 f0], .bool false].getD i (.bool false)) ρ 0 = .agg #[.float .f64 a] := rfl
    have v1 : vals [4] (fun i => [.agg #[.float .f64 a], .agg #[.float .f64 da], .agg #[.float .f64 f1], .agg #[.float .f64 f0], .bool false].getD i (.bool false)) ρ 1 = .agg #[.float .f64 da] := rfl
    have v2 : vals [4] (fun i => [.agg #[.float .f64 a], .agg #[.float .f64 da], .agg #[.float .f64 f1], .agg #[.float .f64 f0], .bool false].getD i (.bool false)) ρ 2 = .agg #[.float .f64 f1] := rfl
    have v3 : vals [4] (fun i => [.agg #[.float .f64 a], .agg #[.float .f64 da], .agg #[.float .f64 f1], .agg #[.float .f64 f0], .bool false].getD i (.bool false)) ρ 3 = .agg #[.float .f64 f0] := rfl
    have v4 : vals [4] (fun i => [.agg #[.float .f64 a], .agg #[.float .f64 da], .agg #[.float .f64 f1], .agg #[.float .f64 f0], .bool false].getD i (.bool false)) ρ 4 = .pointer (some ⟨(ρ 4), 0, none⟩) := rfl
    simp only [puts, Nat.zero_add, p0, p1, p2, p3, p4, v0, v1, v2, v3, v4, if_true, List.drop_succ_cons, List.drop_zero, Nat.reduceAdd]
    clear hb hC hN p0 p1 p2 p3 p4 v0 v1 v2 v3 v4
    generalize ρ 4 = g10 at *
    replace hA : Apart base ((g10, 0) :: [(g9, f1), (g8, 0), (g7, 0), (g6, 0), (g5, b), (g4, a), (g3, l)]) := ⟨l4, n4, hA⟩
    replace hS : Bx base w ((g10, 0) :: [(g9, f1), (g8, 0), (g7, 0), (g6, 0), (g5, b), (g4, a), (g3, l)]) w1 := ⟨c4, f4, hS⟩
    clear c4 f4 l4 n4 
    clear ρ b'
    have s0 : (w1).cell? ⟨g10, 0, none⟩ = some (.float .f64 0) := (hS.cell 0 (by simp)).1
    have t0 : (w1).frozen? ⟨g10, 0, none⟩ = false := (hS.cell 0 (by simp)).2
    replace hS : Bx base w [(g10, f0), (g9, f1), (g8, 0), (g7, 0), (g6, 0), (g5, b), (g4, a), (g3, l)] ((w1).setCell ⟨g10, 0, none⟩ (.float .f64 f0)) := hS.set f0 hA 0 (by simp)
    replace hA : Apart base [(g10, f0), (g9, f1), (g8, 0), (g7, 0), (g6, 0), (g5, b), (g4, a), (g3, l)] := Apart.of_fst (by rfl) hA
    have HS := Lib.hid (And.intro hS hA)
    clear hS hA
    go_upto_region 3 with fail
    clear s0 t0
    generalize World.setCell _ _ _ = W at *
    clear w1
    refine wp_region_plan 5 (by kernel_rfl) (by kernel_rfl) (PI base w [(g10, f0), (g9, f1), (g8, 0), (g7, 0), (g6, 0), (g5, b), (g4, a), (g3, l)] [some 21, some 22, some 23, some 24, some 11] [4] (fun i => [.agg #[.float .f64 f1], .agg #[.float .f64 b], .agg #[.float .f64 db], .agg #[.float .f64 f2], .bool false].getD i (.bool false)) _) (PI.start HS.out.1) ?_ ?_
    · intro i o b' a' w' hi ho hb he hI
      rcases (by omega : i = 0 ∨ i = 1 ∨ i = 2 ∨ i = 3 ∨ i = 4) with rfl | rfl | rfl | rfl | rfl
      · obtain rfl := Option.some.inj ho
        exact hI.stepQuiet hb rfl rfl rfl (op_load _ _ _ g9 f1 _ rfl ((hI.old rfl).trans rfl) (hI.bx.cell 1 (by simp)).1)
      · obtain rfl := Option.some.inj ho
        exact hI.stepQuiet hb rfl rfl rfl (op_load _ _ _ g5 b _ rfl ((hI.old rfl).trans rfl) (hI.bx.cell 5 (by simp)).1)
      · obtain rfl := Option.some.inj ho
        have e0 := hI.new 1 (edge he 1 (by kernel_rfl)) rfl rfl rfl (by show 22 < 60; decide)
        refine hI.stepCall hb rfl rfl rfl (op_call _ _ 58 Try.f58 _ _ _ rfl Try.func58 (by kernel_rfl) (by kernel_rfl)) ?_
        have hm : Array.map a'.eval #[.tmp 22, .const ((Value.float FloatKind.f64 4641240890982006784))] = #[.agg #[.float .f64 b], (Value.float FloatKind.f64 4641240890982006784)] := by simp [e0, ev_const]
        rw [hm]
        exact DivConst_any b 4641240890982006784 db Hdb.out _
      · obtain rfl := Option.some.inj ho
        have e0 := hI.new 0 (edge he 0 (by kernel_rfl)) rfl rfl rfl (by show 21 < 60; decide)
        have e1 := hI.new 2 (edge he 2 (by kernel_rfl)) rfl rfl rfl (by show 23 < 60; decide)
        refine hI.stepCall hb rfl rfl rfl (op_call _ _ 62 Try.f62 _ _ _ rfl Try.func62 (by kernel_rfl) (by kernel_rfl)) ?_
        have hm : Array.map a'.eval #[.tmp 21, .tmp 23] = #[.agg #[.float .f64 f1], .agg #[.float .f64 db]] := by simp [e0, e1]
        rw [hm]
        exact Sub_any f1 db f2 Hf2.out _
      · obtain rfl := Option.some.inj ho
        exact hI.stepAlloc 41 hb rfl rfl rfl rfl (op_alloc _ _ _ rfl)
    · intro b' a' w1 hb hI
      obtain ⟨ρ, rfl, hS, hC, hN⟩ := hI
      have hA := HS.out.2
      clear HS
      have p0 := hb 0 (by decide)
      have p1 := hb 1 (by decide)
      have p2 := hb 2 (by decide)
      have p3 := hb 3 (by decide)
      have p4 := hb 4 (by decide)
      obtain ⟨c4, f4, l4, n4⟩ := hC 4 (by simp) p4
      have v0 : vals [4] (fun i => [.agg #[.float .f64 f1], .agg #[.float .f64 b], .agg #[.float .f64 db], .agg #[.float .f64 f2], .bool false].getD i (.bool false)) ρ 0 = .agg #[.float .f64 f1] := rfl
      have v1 : vals [4] (fun i => [.agg #[.float .f64 f1], .agg #[.float .f64 b], .agg #[.float .f64 db], .agg #[.float .f64 f2], .bool false].getD i (.bool false)) ρ 1 = .agg #[.float .f64 b] := rfl
      have v2 : vals [4] (fun i => [.agg #[.float .f64 f1], .agg #[.float .f64 b], .agg #[.float .f64 db], .agg #[.float .f64 f2], .bool false].getD i (.bool false)) ρ 2 = .agg #[.float .f64 db] := rfl
      have v3 : vals [4] (fun i => [.agg #[.float .f64 f1], .agg #[.float .f64 b], .agg #[.float .f64 db], .agg #[.float .f64 f2], .bool false].getD i (.bool false)) ρ 3 = .agg #[.float .f64 f2] := rfl
      have v4 : vals [4] (fun i => [.agg #[.float .f64 f1], .agg #[.float .f64 b], .agg #[.float .f64 db], .agg #[.float .f64 f2], .bool false].getD i (.bool false)) ρ 4 = .pointer (some ⟨(ρ 4), 0, none⟩) := rfl
      simp only [puts, Nat.zero_add, p0, p1, p2, p3, p4, v0, v1, v2, v3, v4, if_true, List.drop_succ_cons, List.drop_zero, Nat.reduceAdd]
      clear hb hC hN p0 p1 p2 p3 p4 v0 v1 v2 v3 v4
      generalize ρ 4 = g11 at *
      replace hA : Apart base ((g11, 0) :: [(g10, f0), (g9, f1), (g8, 0), (g7, 0), (g6, 0), (g5, b), (g4, a), (g3, l)]) := ⟨l4, n4, hA⟩
      replace hS : Bx base w ((g11, 0) :: [(g10, f0), (g9, f1), (g8, 0), (g7, 0), (g6, 0), (g5, b), (g4, a), (g3, l)]) w1 := ⟨c4, f4, hS⟩
      clear c4 f4 l4 n4 
      clear ρ b'
      have s0 : (w1).cell? ⟨g11, 0, none⟩ = some (.float .f64 0) := (hS.cell 0 (by simp)).1
      have t0 : (w1).frozen? ⟨g11, 0, none⟩ = false := (hS.cell 0 (by simp)).2
      replace hS : Bx base w [(g11, f2), (g10, f0), (g9, f1), (g8, 0), (g7, 0), (g6, 0), (g5, b), (g4, a), (g3, l)] ((w1).setCell ⟨g11, 0, none⟩ (.float .f64 f2)) := hS.set f2 hA 0 (by simp)
      replace hA : Apart base [(g11, f2), (g10, f0), (g9, f1), (g8, 0), (g7, 0), (g6, 0), (g5, b), (g4, a), (g3, l)] := Apart.of_fst (by rfl) hA
      have HS := Lib.hid (And.intro hS hA)
      clear hS hA
      go_upto_region 4 with fail
      clear s0 t0
      generalize World.setCell _ _ _ = W at *
      clear w1
      have c_g10 : W.cell? ⟨g10, 0, none⟩ = some (.float .f64 f0) := (HS.out.1.cell 1 (by simp)).1
      go_wp2_with fail
      refine (Cubed_any f0 p0 f03 Hp0.out Hf03.out _).mono ?_
      rintro e w1 ⟨rfl, hb⟩
      have hS := HS.out.1.keep hb
      have hA := HS.out.2
      clear HS hb c_g10
      replace hA := hA.alloc hS f03
      replace hS := hS.alloc f03 41
      have HS := Lib.hid (And.intro hS hA)
      clear hS hA
      go_upto_region 5 with fail
      generalize World.alloc _ _ = W at *
      generalize w1.heap.size = g12 at *
      clear w1
      have c_g11 : W.cell? ⟨g11, 0, none⟩ = some (.float .f64 f2) := (HS.out.1.cell 1 (by simp)).1
      go_wp2_with fail
      refine (Cubed_any f2 p2 f23 Hp2.out Hf23.out _).mono ?_
      rintro e w1 ⟨rfl, hb⟩
      have hS := HS.out.1.keep hb
      have hA := HS.out.2
      clear HS hb c_g11
      replace hA := hA.alloc hS f23
      replace hS := hS.alloc f23 41
      have HS := Lib.hid (And.intro hS hA)
      clear hS hA
      go_upto_region 6 with fail
      generalize World.alloc _ _ = W at *
      generalize w1.heap.size = g13 at *
      clear w1
      have q0 : (FloatKind.f64.format.order f03 4576259018578689238 == some .gt) = true := Hq0.out
      have c_g12 : W.cell? ⟨g12, 0, none⟩ = some (.float .f64 f03) := (HS.out.1.cell 1 (by simp)).1
      go_wp2_with fail
      refine (Value_any f03 _).mono ?_
      rintro e w1 ⟨rfl, hb⟩
      have hS := HS.out.1.keep hb
      have hA := HS.out.2
      clear HS hb c_g12
      have HS := Lib.hid (And.intro hS hA)
      clear hS hA
      go_upto_region 7 with fail
      generalize w1 = W at *
      clear q0
      have c_g12 : W.cell? ⟨g12, 0, none⟩ = some (.float .f64 f03) := (HS.out.1.cell 1 (by simp)).1
      have hS := HS.out.1
      have hA := HS.out.2
      clear HS
      generalize W = w1 at *
      have s0 : (w1).cell? ⟨g6, 0, none⟩ = some (.float .f64 0) := (hS.cell 7 (by simp)).1
      have t0 : (w1).frozen? ⟨g6, 0, none⟩ = false := (hS.cell 7 (by simp)).2
      replace hS : Bx base w [(g13, f23), (g12, f03), (g11, f2), (g10, f0), (g9, f1), (g8, 0), (g7, 0), (g6, f03), (g5, b), (g4, a), (g3, l)] ((w1).setCell ⟨g6, 0, none⟩ (.float .f64 f03)) := hS.set f03 hA 7 (by simp)
      replace hA : Apart base [(g13, f23), (g12, f03), (g11, f2), (g10, f0), (g9, f1), (g8, 0), (g7, 0), (g6, f03), (g5, b), (g4, a), (g3, l)] := Apart.of_fst (by rfl) hA
      have HS := Lib.hid (And.intro hS hA)
      clear hS hA
      go_upto_region 9 with fail
      clear s0 t0 c_g12
      generalize World.setCell _ _ _ = W at *
      clear w1
      have q1 : (FloatKind.f64.format.order l 4620693217682128896 == some .gt) = false := Hq1.out
      have c_g3 : W.cell? ⟨g3, 0, none⟩ = some (.float .f64 l) := (HS.out.1.cell 10 (by simp)).1
      go_wp2_with fail
      refine (Value_any l _).mono ?_
      rintro e w1 ⟨rfl, hb⟩
      have hS := HS.out.1.keep hb
      have hA := HS.out.2
      clear HS hb c_g3
      have HS := Lib.hid (And.intro hS hA)
      clear hS hA
      go_upto_region 12 with fail
      generalize w1 = W at *
      clear q1
      have c_g3 : W.cell? ⟨g3, 0, none⟩ = some (.float .f64 l) := (HS.out.1.cell 10 (by simp)).1
      go_wp2_with fail
      refine (DivConst_any l 4651156694067819558 y Hy.out _).mono ?_
      rintro e w1 ⟨rfl, hb⟩
      have hS := HS.out.1.keep hb
      have hA := HS.out.2
      clear HS hb c_g3
      have s0 : (w1).cell? ⟨g7, 0, none⟩ = some (.float .f64 0) := (hS.cell 6 (by simp)).1
      have t0 : (w1).frozen? ⟨g7, 0, none⟩ = false := (hS.cell 6 (by simp)).2
      replace hS : Bx base w [(g13, f23), (g12, f03), (g11, f2), (g10, f0), (g9, f1), (g8, 0), (g7, y), (g6, f03), (g5, b), (g4, a), (g3, l)] ((w1).setCell ⟨g7, 0, none⟩ (.float .f64 y)) := hS.set y hA 6 (by simp)
      replace hA : Apart base [(g13, f23), (g12, f03), (g11, f2), (g10, f0), (g9, f1), (g8, 0), (g7, y), (g6, f03), (g5, b), (g4, a), (g3, l)] := Apart.of_fst (by rfl) hA
      have HS := Lib.hid (And.intro hS hA)
      clear hS hA
      go_upto_region 13 with fail
      clear s0 t0
      generalize World.setCell _ _ _ = W at *
      clear w1
      have q2 : (FloatKind.f64.format.order f23 4576259018578689238 == some .gt) = false := Hq2.out
      have c_g13 : W.cell? ⟨g13, 0, none⟩ = some (.float .f64 f23) := (HS.out.1.cell 0 (by simp)).1
      go_wp2_with fail
      refine (Value_any f23 _).mono ?_
      rintro e w1 ⟨rfl, hb⟩
      have hS := HS.out.1.keep hb
      have hA := HS.out.2
      clear HS hb c_g13
      have HS := Lib.hid (And.intro hS hA)
      clear hS hA
      go_upto_region 15 with fail
      generalize w1 = W at *
      clear q2
      have c_g11 : W.cell? ⟨g11, 0, none⟩ = some (.float .f64 f2) := (HS.out.1.cell 2 (by simp)).1
      go_wp2_with fail
      refine (MulConst_any f2 4637863191261478912 u2 Hu2.out _).mono ?_
      rintro e w1 ⟨rfl, hb⟩
      have hS := HS.out.1.keep hb
      have hA := HS.out.2
      clear HS hb c_g11
      have HS := Lib.hid (And.intro hS hA)
      clear hS hA
      go_wp2_with fail
      refine (SubConst_any u2 4625196817309499392 v2 Hv2.out _).mono ?_
      rintro e w2 ⟨rfl, hb⟩
      have hS := HS.out.1.keep hb
      have hA := HS.out.2
      clear HS hb 
      clear w1
      generalize w2 = w1 at *
      have HS := Lib.hid (And.intro hS hA)
      clear hS hA
      go_wp2_with fail
      refine (DivConst_any v2 4651156694067819558 z Hz.out _).mono ?_
      rintro e w2 ⟨rfl, hb⟩
      have hS := HS.out.1.keep hb
      have hA := HS.out.2
      clear HS hb 
      clear w1
      generalize w2 = w1 at *
      have s0 : (w1).cell? ⟨g8, 0, none⟩ = some (.float .f64 0) := (hS.cell 5 (by simp)).1
      have t0 : (w1).frozen? ⟨g8, 0, none⟩ = false := (hS.cell 5 (by simp)).2
      replace hS : Bx base w [(g13, f23), (g12, f03), (g11, f2), (g10, f0), (g9, f1), (g8, z), (g7, y), (g6, f03), (g5, b), (g4, a), (g3, l)] ((w1).setCell ⟨g8, 0, none⟩ (.float .f64 z)) := hS.set z hA 5 (by simp)
      replace hA : Apart base [(g13, f23), (g12, f03), (g11, f2), (g10, f0), (g9, f1), (g8, z), (g7, y), (g6, f03), (g5, b), (g4, a), (g3, l)] := Apart.of_fst (by rfl) hA
      have HS := Lib.hid (And.intro hS hA)
      clear hS hA
      go_upto_region 16 with fail
      clear s0 t0
      generalize World.setCell _ _ _ = W at *
      clear w1
      have hA := HS.out.2
      refine Plx.wp_region_planX 8 (by kernel_rfl) (by kernel_rfl) (fun bB aA wW => PI base w [(g13, f23), (g12, f03), (g11, f2), (g10, f0), (g9, f1), (g8, cond (bB 7) Z z), (g7, cond (bB 6) y y), (g6, cond (bB 5) X f03), (g5, b), (g4, a), (g3, l)] [some 55, some 56, some 57, some 58, some 59, none, none, none] [] (fun i => [.agg #[.float .f64 f03], .agg #[.float .f64 X], .agg #[.float .f64 y], .agg #[.float .f64 z], .agg #[.float .f64 Z], .bool false, .bool false, .bool false].getD i (.bool false)) _ bB aA wW ∧ (bB 5 = true → bB 0 = true) ∧ (bB 6 = true → bB 2 = true) ∧ (bB 7 = true → bB 3 = true)) ⟨PI.start HS.out.1, (fun h => by cases h), (fun h => by cases h), (fun h => by cases h)⟩ ?_ ?_
      · intro i o b' a' w' hi ho hb he hI
        rcases (by omega : i = 0 ∨ i = 1 ∨ i = 2 ∨ i = 3 ∨ i = 4 ∨ i = 5 ∨ i = 6 ∨ i = 7) with rfl | rfl | rfl | rfl | rfl | rfl | rfl | rfl
        · obtain rfl := Option.some.inj ho
          have hn : b' 5 = false := by cases hq : b' 5 with | false => rfl | true => (have := hI.2.1 hq; rw [hb] at this; cases this)
          have hc0 := (hI.1.bx.cell 7 (by simp)).1
          have hc1 : w'.cell? ⟨g6, 0, none⟩ = some (.float .f64 f03) := by simpa [hn] using hc0
          exact Oper.wp_mono (fun _ _ h => ⟨h, upd_imp hI.2.1 (fun e => absurd e (by decide)), upd_imp hI.2.2.1 (fun e => absurd e (by decide)), upd_imp hI.2.2.2 (fun e => absurd e (by decide))⟩) (hI.1.stepQuiet hb rfl rfl rfl (op_load _ _ _ g6 f03 _ rfl ((hI.1.old rfl).trans rfl) hc1))
        · obtain rfl := Option.some.inj ho
          have e0 := hI.1.new 0 (edge he 0 (by kernel_rfl)) rfl rfl rfl (by show 55 < 60; decide)
          refine Oper.wp_mono (fun _ _ h => ⟨h, upd_imp hI.2.1 (fun e => absurd e (by decide)), upd_imp hI.2.2.1 (fun e => absurd e (by decide)), upd_imp hI.2.2.2 (fun e => absurd e (by decide))⟩) (hI.1.stepCall hb rfl rfl rfl (op_call _ _ 63 Try.f63 _ _ _ rfl Try.func63 (by kernel_rfl) (by kernel_rfl)) ?_)
          have hm : Array.map a'.eval #[.tmp 55, .const ((Value.float FloatKind.f64 4606860822843362778))] = #[.agg #[.float .f64 f03], (Value.float FloatKind.f64 4606860822843362778)] := by simp [e0, ev_const]
          rw [hm]
          exact MulConst_any f03 4606860822843362778 X HX.out _
        · obtain rfl := Option.some.inj ho
          have hn : b' 6 = false := by cases hq : b' 6 with | false => rfl | true => (have := hI.2.2.1 hq; rw [hb] at this; cases this)
          have hc0 := (hI.1.bx.cell 6 (by simp)).1
          have hc1 : w'.cell? ⟨g7, 0, none⟩ = some (.float .f64 y) := by simpa [hn] using hc0
          exact Oper.wp_mono (fun _ _ h => ⟨h, upd_imp hI.2.1 (fun e => absurd e (by decide)), upd_imp hI.2.2.1 (fun e => absurd e (by decide)), upd_imp hI.2.2.2 (fun e => absurd e (by decide))⟩) (hI.1.stepQuiet hb rfl rfl rfl (op_load _ _ _ g7 y _ rfl ((hI.1.old rfl).trans rfl) hc1))
        · obtain rfl := Option.some.inj ho
          have hn : b' 7 = false := by cases hq : b' 7 with | false => rfl | true => (have := hI.2.2.2 hq; rw [hb] at this; cases this)
          have hc0 := (hI.1.bx.cell 5 (by simp)).1
          have hc1 : w'.cell? ⟨g8, 0, none⟩ = some (.float .f64 z) := by simpa [hn] using hc0
          exact Oper.wp_mono (fun _ _ h => ⟨h, upd_imp hI.2.1 (fun e => absurd e (by decide)), upd_imp hI.2.2.1 (fun e => absurd e (by decide)), upd_imp hI.2.2.2 (fun e => absurd e (by decide))⟩) (hI.1.stepQuiet hb rfl rfl rfl (op_load _ _ _ g8 z _ rfl ((hI.1.old rfl).trans rfl) hc1))
        · obtain rfl := Option.some.inj ho
          have e0 := hI.1.new 3 (edge he 3 (by kernel_rfl)) rfl rfl rfl (by show 58 < 60; decide)
          refine Oper.wp_mono (fun _ _ h => ⟨h, upd_imp hI.2.1 (fun e => absurd e (by decide)), upd_imp hI.2.2.1 (fun e => absurd e (by decide)), upd_imp hI.2.2.2 (fun e => absurd e (by decide))⟩) (hI.1.stepCall hb rfl rfl rfl (op_call _ _ 63 Try.f63 _ _ _ rfl Try.func63 (by kernel_rfl) (by kernel_rfl)) ?_)
          have hm : Array.map a'.eval #[.tmp 58, .const ((Value.float FloatKind.f64 4605607101106091996))] = #[.agg #[.float .f64 z], (Value.float FloatKind.f64 4605607101106091996)] := by simp [e0, ev_const]
          rw [hm]
          exact MulConst_any z 4605607101106091996 Z HZ.out _
        · obtain rfl := Option.some.inj ho
          have e0 := hI.1.new 1 (edge he 1 (by kernel_rfl)) rfl rfl rfl (by show 56 < 60; decide)
          have hap : Apart base [(g13, f23), (g12, f03), (g11, f2), (g10, f0), (g9, f1), (g8, cond (b' 7) Z z), (g7, cond (b' 6) y y), (g6, cond (b' 5) X f03), (g5, b), (g4, a), (g3, l)] := Apart.of_fst (by rfl) hA
          exact Oper.wp_mono (fun _ _ h => ⟨h, upd_imp hI.2.1 (fun e => edge he 0 (by kernel_rfl)), upd_imp hI.2.2.1 (fun e => absurd e (by decide)), upd_imp hI.2.2.2 (fun e => absurd e (by decide))⟩) (hI.1.stepStore (P := Try.prog) (k := 7) (y := X) hb rfl rfl rfl rfl hap (by simp) (op_store _ _ _ _ g6 X _ _ rfl ((hI.1.old (t := 6) rfl).trans rfl) e0 (hI.1.bx.cell 7 (by simp)).1 (hI.1.bx.cell 7 (by simp)).2))
        · obtain rfl := Option.some.inj ho
          have e0 := hI.1.new 2 (edge he 2 (by kernel_rfl)) rfl rfl rfl (by show 57 < 60; decide)
          have hap : Apart base [(g13, f23), (g12, f03), (g11, f2), (g10, f0), (g9, f1), (g8, cond (b' 7) Z z), (g7, cond (b' 6) y y), (g6, cond (b' 5) X f03), (g5, b), (g4, a), (g3, l)] := Apart.of_fst (by rfl) hA
          exact Oper.wp_mono (fun _ _ h => ⟨h, upd_imp hI.2.1 (fun e => absurd e (by decide)), upd_imp hI.2.2.1 (fun e => edge he 2 (by kernel_rfl)), upd_imp hI.2.2.2 (fun e => absurd e (by decide))⟩) (hI.1.stepStore (P := Try.prog) (k := 6) (y := y) hb rfl rfl rfl rfl hap (by simp) (op_store _ _ _ _ g7 y _ _ rfl ((hI.1.old (t := 7) rfl).trans rfl) e0 (hI.1.bx.cell 6 (by simp)).1 (hI.1.bx.cell 6 (by simp)).2))
        · obtain rfl := Option.some.inj ho
          have e0 := hI.1.new 4 (edge he 4 (by kernel_rfl)) rfl rfl rfl (by show 59 < 60; decide)
          have hap : Apart base [(g13, f23), (g12, f03), (g11, f2), (g10, f0), (g9, f1), (g8, cond (b' 7) Z z), (g7, cond (b' 6) y y), (g6, cond (b' 5) X f03), (g5, b), (g4, a), (g3, l)] := Apart.of_fst (by rfl) hA
          exact Oper.wp_mono (fun _ _ h => ⟨h, upd_imp hI.2.1 (fun e => absurd e (by decide)), upd_imp hI.2.2.1 (fun e => absurd e (by decide)), upd_imp hI.2.2.2 (fun e => edge he 3 (by kernel_rfl))⟩) (hI.1.stepStore (P := Try.prog) (k := 5) (y := Z) hb rfl rfl rfl rfl hap (by simp) (op_store _ _ _ _ g8 Z _ _ rfl ((hI.1.old (t := 8) rfl).trans rfl) e0 (hI.1.bx.cell 5 (by simp)).1 (hI.1.bx.cell 5 (by simp)).2))
      · intro b' a' w1 hb hI
        obtain ⟨⟨ρ, rfl, hS, -, -⟩, -, -, -⟩ := hI
        have p0 := hb 0 (by decide)
        have p1 := hb 1 (by decide)
        have p2 := hb 2 (by decide)
        have p3 := hb 3 (by decide)
        have p4 := hb 4 (by decide)
        have p5 := hb 5 (by decide)
        have p6 := hb 6 (by decide)
        have p7 := hb 7 (by decide)
        have v0 : vals [] (fun i => [.agg #[.float .f64 f03], .agg #[.float .f64 X], .agg #[.float .f64 y], .agg #[.float .f64 z], .agg #[.float .f64 Z], .bool false, .bool false, .bool false].getD i (.bool false)) ρ 0 = .agg #[.float .f64 f03] := rfl
        have v1 : vals [] (fun i => [.agg #[.float .f64 f03], .agg #[.float .f64 X], .agg #[.float .f64 y], .agg #[.float .f64 z], .agg #[.float .f64 Z], .bool false, .bool false, .bool false].getD i (.bool false)) ρ 1 = .agg #[.float .f64 X] := rfl
        have v2 : vals [] (fun i => [.agg #[.float .f64 f03], .agg #[.float .f64 X], .agg #[.float .f64 y], .agg #[.float .f64 z], .agg #[.float .f64 Z], .bool false, .bool false, .bool false].getD i (.bool false)) ρ 2 = .agg #[.float .f64 y] := rfl
        have v3 : vals [] (fun i => [.agg #[.float .f64 f03], .agg #[.float .f64 X], .agg #[.float .f64 y], .agg #[.float .f64 z], .agg #[.float .f64 Z], .bool false, .bool false, .bool false].getD i (.bool false)) ρ 3 = .agg #[.float .f64 z] := rfl
        have v4 : vals [] (fun i => [.agg #[.float .f64 f03], .agg #[.float .f64 X], .agg #[.float .f64 y], .agg #[.float .f64 z], .agg #[.float .f64 Z], .bool false, .bool false, .bool false].getD i (.bool false)) ρ 4 = .agg #[.float .f64 Z] := rfl
        have v5 : vals [] (fun i => [.agg #[.float .f64 f03], .agg #[.float .f64 X], .agg #[.float .f64 y], .agg #[.float .f64 z], .agg #[.float .f64 Z], .bool false, .bool false, .bool false].getD i (.bool false)) ρ 5 = .bool false := rfl
        have v6 : vals [] (fun i => [.agg #[.float .f64 f03], .agg #[.float .f64 X], .agg #[.float .f64 y], .agg #[.float .f64 z], .agg #[.float .f64 Z], .bool false, .bool false, .bool false].getD i (.bool false)) ρ 6 = .bool false := rfl
        have v7 : vals [] (fun i => [.agg #[.float .f64 f03], .agg #[.float .f64 X], .agg #[.float .f64 y], .agg #[.float .f64 z], .agg #[.float .f64 Z], .bool false, .bool false, .bool false].getD i (.bool false)) ρ 7 = .bool false := rfl
        simp only [p5, p6, p7, cond_true] at hS
        simp only [puts, Nat.zero_add, p0, p1, p2, p3, p4, p5, p6, p7, v0, v1, v2, v3, v4, v5, v6, v7, if_true, List.drop_succ_cons, List.drop_zero, Nat.reduceAdd]
        have HS2 := Lib.hid (And.intro hS (show Apart base [(g13, f23), (g12, f03), (g11, f2), (g10, f0), (g9, f1), (g8, Z), (g7, y), (g6, X), (g5, b), (g4, a), (g3, l)] from Apart.of_fst (by rfl) hA))
        clear HS hS hA hb p0 p1 p2 p3 p4 p5 p6 p7 v0 v1 v2 v3 v4 v5 v6 v7
        have HS := HS2
        clear HS2 ρ b'
        clear W
        generalize w1 = W at *
        go_wp2_with fail
        have c_g6 : W.cell? ⟨g6, 0, none⟩ = some (.float .f64 X) := (HS.out.1.cell 7 (by simp)).1
        have c_g7 : W.cell? ⟨g7, 0, none⟩ = some (.float .f64 y) := (HS.out.1.cell 6 (by simp)).1
        have c_g8 : W.cell? ⟨g8, 0, none⟩ = some (.float .f64 Z) := (HS.out.1.cell 5 (by simp)).1
        refine bodyPost_ret (v := .tuple #[.agg #[.float .f64 X], .agg #[.float .f64 y], .agg #[.float .f64 Z]]) (by simp [results, Try.results46, go_sem, c_g6, c_g7, c_g8]) rfl ⟨rfl, HS.out.1.below.2⟩
set_option maxRecDepth 100000 in
set_option maxHeartbeats 4000000 in
theorem lx_ftt (l a b s1 f1 da f0 db f2 p0 f03 p2 f23 u0 v0 x py y X Z base : Nat) (w : World) (H : Hid (base = w.heap.size)) (Hs1 : Hid (Ieee.double.add l 4625196817309499392 = some s1)) (Hf1 : Hid (Ieee.double.div s1 4637863191261478912 = some f1)) (Hda : Hid (Ieee.double.div a 4647503709213818880 = some da)) (Hf0 : Hid (Ieee.double.add da f1 = some f0)) (Hdb : Hid (Ieee.double.div b 4641240890982006784 = some db)) (Hf2 : Hid (Ieee.double.sub f1 db = some f2)) (Hp0 : Hid (Ieee.double.mul f0 f0 = some p0)) (Hf03 : Hid (Ieee.double.mul p0 f0 = some f03)) (Hp2 : Hid (Ieee.double.mul f2 f2 = some p2)) (Hf23 : Hid (Ieee.double.mul p2 f2 = some f23)) (Hq0 : Hid (gtB f03 4576259018578689238 = false)) (Hu0 : Hid (Ieee.double.mul f0 4637863191261478912 = some u0)) (Hv0 : Hid (Ieee.double.sub u0 4625196817309499392 = some v0)) (Hx : Hid (Ieee.double.div v0 4651156694067819558 = some x)) (Hq1 : Hid (gtB l 4620693217682128896 = true)) (Hpy : Hid (Ieee.double.mul f1 f1 = some py)) (Hy : Hid (Ieee.double.mul py f1 = some y)) (Hq2 : Hid (gtB f23 4576259018578689238 = true)) (HX : Hid (Ieee.double.mul x 4606860822843362778 = some X)) (HZ : Hid (Ieee.double.mul f23 4605607101106091996 = some Z)) :
    Calls Try.prog 46 #[.agg #[.float .f64 l], .agg #[.float .f64 a], .agg #[.float .f64 b]] w fun e w' => e = .returned (.tuple #[.agg #[.float .f64 X], .agg #[.float .f64 y], .agg #[.float .f64 Z]]) ∧ Below base w w' := by
  go_enter Try.func46, Try.ntmps46
  go_upto_region 1 with fail
  generalize hW : World.alloc _ _ = W at *
  have hS : Bx base w [(w.heap.size + 1 + 1 + 1 + 1 + 1, 0), (w.heap.size + 1 + 1 + 1 + 1, 0), (w.heap.size + 1 + 1 + 1, 0), (w.heap.size + 1 + 1, b), (w.heap.size + 1, a), (w.heap.size, l)] W := by
    subst hW
    have := (((((((Bx.start w).alloc l 41).alloc a 41).alloc b 41).alloc 0 41).alloc 0 41).alloc 0 41)
    rw [H.out]
    simpa using this
  have hA : Apart base [(w.heap.size + 1 + 1 + 1 + 1 + 1, 0), (w.heap.size + 1 + 1 + 1 + 1, 0), (w.heap.size + 1 + 1 + 1, 0), (w.heap.size + 1 + 1, b), (w.heap.size + 1, a), (w.heap.size, l)] := by
    rw [H.out]
    simp [Apart]; try omega
  have HS := Lib.hid (And.intro hS hA)
  clear hS hA hW H
  generalize w.heap.size + 1 + 1 + 1 + 1 + 1 = g8 at *
  generalize w.heap.size + 1 + 1 + 1 + 1 = g7 at *
  generalize w.heap.size + 1 + 1 + 1 = g6 at *
  generalize w.heap.size + 1 + 1 = g5 at *
  generalize w.heap.size + 1 = g4 at *
  generalize hgg : w.heap.size = g3 at *
  clear hgg
  have c_g3 : W.cell? ⟨g3, 0, none⟩ = some (.float .f64 l) := (HS.out.1.cell 5 (by simp)).1
  go_wp2_with fail
  refine (AddConst_any l 4625196817309499392 s1 Hs1.out _).mono ?_
  rintro e w1 ⟨rfl, hb⟩
  have hS := HS.out.1.keep hb
  have hA := HS.out.2
  clear HS hb c_g3
  have HS := Lib.hid (And.intro hS hA)
  clear hS hA
  go_wp2_with fail
  refine (DivConst_any s1 4637863191261478912 f1 Hf1.out _).mono ?_
  rintro e w2 ⟨rfl, hb⟩
  have hS := HS.out.1.keep hb
  have hA := HS.out.2
  clear HS hb 
  clear w1
  generalize w2 = w1 at *
  replace hA := hA.alloc hS f1
  replace hS := hS.alloc f1 41
  have HS := Lib.hid (And.intro hS hA)
  clear hS hA
  go_upto_region 2 with fail
  generalize World.alloc _ _ = W at *
  generalize w1.heap.size = g9 at *
  clear w1
  refine wp_region_plan 5 (by kernel_rfl) (by kernel_rfl) (PI base w [(g9, f1), (g8, 0), (g7, 0), (g6, 0), (g5, b), (g4, a), (g3, l)] [some 17, some 18, some 19, some 20, some 10] [4] (fun i => [.agg #[.float .f64 a], .agg #[.float .f64 da], .agg #[.float .f64 f1], .agg #[.float .f64 f0], .bool false].getD i (.bool false)) _) (PI.start HS.out.1) ?_ ?_
  · intro i o b' a' w' hi ho hb he hI
    rcases (by omega : i = 0 ∨ i = 1 ∨ i = 2 ∨ i = 3 ∨ i = 4) with rfl | rfl | rfl | rfl | rfl
    · obtain rfl := Option.some.inj ho
      exact hI.stepQuiet hb rfl rfl rfl (op_load _ _ _ g4 a _ rfl ((hI.old rfl).trans rfl) (hI.bx.cell 5 (by simp)).1)
    · obtain rfl := Option.some.inj ho
      have e0 := hI.new 0 (edge he 0 (by kernel_rfl)) rfl rfl rfl (by show 17 < 60; decide)
      refine hI.stepCall hb rfl rfl rfl (op_call _ _ 58 Try.f58 _ _ _ rfl Try.func58 (by kernel_rfl) (by kernel_rfl)) ?_
      have hm : Array.map a'.eval #[.tmp 17, .const ((Value.float FloatKind.f64 4647503709213818880))] = #[.agg #[.float .f64 a], (Value.float FloatKind.f64 4647503709213818880)] := by simp [e0, ev_const]
      rw [hm]
      exact DivConst_any a 4647503709213818880 da Hda.out _
    · obtain rfl := Option.some.inj ho
      exact hI.stepQuiet hb rfl rfl rfl (op_load _ _ _ g9 f1 _ rfl ((hI.old rfl).trans rfl) (hI.bx.cell 0 (by simp)).1)
    · obtain rfl := Option.some.inj ho
      have e0 := hI.new 1 (edge he 1 (by kernel_rfl)) rfl rfl rfl (by show 18 < 60; decide)
      have e1 := hI.new 2 (edge he 2 (by kernel_rfl)) rfl rfl rfl (by show 19 < 60; decide)
      refine hI.stepCall hb rfl rfl rfl (op_call _ _ 61 Try.f61 _ _ _ rfl Try.func61 (by kernel_rfl) (by kernel_rfl)) ?_
      have hm : Array.map a'.eval #[.tmp 18, .tmp 19] = #[.agg #[.float .f64 da], .agg #[.float .f64 f1]] := by simp [e0, e1]
      rw [hm]
      exact Add_any da f1 f0 Hf0.out _
    · obtain rfl := Option.some.inj ho
      exact hI.stepAlloc 41 hb rfl rfl rfl rfl (op_alloc _ _ _ rfl)
  · intro b' a' w1 hb hI
    obtain ⟨ρ, rfl, hS, hC, hN⟩ := hI
    have hA := HS.out.2
    clear HS
    have p0 := hb 0 (by decide)
    have p1 := hb 1 (by decide)
    have p2 := hb 2 (by decide)
    have p3 := hb 3 (by decide)
    have p4 := hb 4 (by decide)
    obtain ⟨c4, f4, l4, n4⟩ := hC 4 (by simp) p4
    have v0 : vals [4] (fun i => [.agg #[.float .f64 a], .agg #[.float .f64 da], .agg #[.float .f64 f1], .agg #[.float .f64 f0], .bool false].getD i (.bool false)) ρ 0 = .agg #[.float .f64 a] := rfl
    have v1 : vals [4] (fun i => [.agg #[.float .f64 a], .agg #[.float .f64 da], .agg #[.float .f64 f1], .agg #[.float .f64 f0], .bool false].getD i (.bool false)) ρ 1 = .agg #[.float .f64 da] := rfl
    have v2 : vals [4] (fun i => [.agg #[.float .f64 a], .agg #[.float .f64 da], .agg #[.float .f64 f1], .agg #[.float .f64 f0], .bool false].getD i (.bool false)) ρ 2 = .agg #[.float .f64 f1] := rfl
    have v3 : vals [4] (fun i => [.agg #[.float .f64 a], .agg #[.float .f64 da], .agg #[.float .f64 f1], .agg #[.float .f64 f0], .bool false].getD i (.bool false)) ρ 3 = .agg #[.float .f64 f0] := rfl
    have v4 : vals [4] (fun i => [.agg #[.float .f64 a], .agg #[.float .f64 da], .agg #[.float .f64 f1], .agg #[.float .f64 f0], .bool false].getD i (.bool false)) ρ 4 = .pointer (some ⟨(ρ 4), 0, none⟩) := rfl
    simp only [puts, Nat.zero_add, p0, p1, p2, p3, p4, v0, v1, v2, v3, v4, if_true, List.drop_succ_cons, List.drop_zero, Nat.reduceAdd]
    clear hb hC hN p0 p1 p2 p3 p4 v0 v1 v2 v3 v4
    generalize ρ 4 = g10 at *
    replace hA : Apart base ((g10, 0) :: [(g9, f1), (g8, 0), (g7, 0), (g6, 0), (g5, b), (g4, a), (g3, l)]) := ⟨l4, n4, hA⟩
    replace hS : Bx base w ((g10, 0) :: [(g9, f1), (g8, 0), (g7, 0), (g6, 0), (g5, b), (g4, a), (g3, l)]) w1 := ⟨c4, f4, hS⟩
    clear c4 f4 l4 n4 
    clear ρ b'
    have s0 : (w1).cell? ⟨g10, 0, none⟩ = some (.float .f64 0) := (hS.cell 0 (by simp)).1
    have t0 : (w1).frozen? ⟨g10, 0, none⟩ = false := (hS.cell 0 (by simp)).2
    replace hS : Bx base w [(g10, f0), (g9, f1), (g8, 0), (g7, 0), (g6, 0), (g5, b), (g4, a), (g3, l)] ((w1).setCell ⟨g10, 0, none⟩ (.float .f64 f0)) := hS.set f0 hA 0 (by simp)
    replace hA : Apart base [(g10, f0), (g9, f1), (g8, 0), (g7, 0), (g6, 0), (g5, b), (g4, a), (g3, l)] := Apart.of_fst (by rfl) hA
    have HS := Lib.hid (And.intro hS hA)
    clear hS hA
    go_upto_region 3 with fail
    clear s0 t0
    generalize World.setCell _ _ _ = W at *
    clear w1
    refine wp_region_plan 5 (by kernel_rfl) (by kernel_rfl) (PI base w [(g10, f0), (g9, f1), (g8, 0), (g7, 0), (g6, 0), (g5, b), (g4, a), (g3, l)] [some 21, some 22, some 23, some 24, some 11] [4] (fun i => [.agg #[.float .f64 f1], .agg #[.float .f64 b], .agg #[.float .f64 db], .agg #[.float .f64 f2], .bool false].getD i (.bool false)) _) (PI.start HS.out.1) ?_ ?_
    · intro i o b' a' w' hi ho hb he hI
      rcases (by omega : i = 0 ∨ i = 1 ∨ i = 2 ∨ i = 3 ∨ i = 4) with rfl | rfl | rfl | rfl | rfl
      · obtain rfl := Option.some.inj ho
        exact hI.stepQuiet hb rfl rfl rfl (op_load _ _ _ g9 f1 _ rfl ((hI.old rfl).trans rfl) (hI.bx.cell 1 (by simp)).1)
      · obtain rfl := Option.some.inj ho
        exact hI.stepQuiet hb rfl rfl rfl (op_load _ _ _ g5 b _ rfl ((hI.old rfl).trans rfl) (hI.bx.cell 5 (by simp)).1)
      · obtain rfl := Option.some.inj ho
        have e0 := hI.new 1 (edge he 1 (by kernel_rfl)) rfl rfl rfl (by show 22 < 60; decide)
        refine hI.stepCall hb rfl rfl rfl (op_call _ _ 58 Try.f58 _ _ _ rfl Try.func58 (by kernel_rfl) (by kernel_rfl)) ?_
        have hm : Array.map a'.eval #[.tmp 22, .const ((Value.float FloatKind.f64 4641240890982006784))] = #[.agg #[.float .f64 b], (Value.float FloatKind.f64 4641240890982006784)] := by simp [e0, ev_const]
        rw [hm]
        exact DivConst_any b 4641240890982006784 db Hdb.out _
      · obtain rfl := Option.some.inj ho
        have e0 := hI.new 0 (edge he 0 (by kernel_rfl)) rfl rfl rfl (by show 21 < 60; decide)
        have e1 := hI.new 2 (edge he 2 (by kernel_rfl)) rfl rfl rfl (by show 23 < 60; decide)
        refine hI.stepCall hb rfl rfl rfl (op_call _ _ 62 Try.f62 _ _ _ rfl Try.func62 (by kernel_rfl) (by kernel_rfl)) ?_
        have hm : Array.map a'.eval #[.tmp 21, .tmp 23] = #[.agg #[.float .f64 f1], .agg #[.float .f64 db]] := by simp [e0, e1]
        rw [hm]
        exact Sub_any f1 db f2 Hf2.out _
      · obtain rfl := Option.some.inj ho
        exact hI.stepAlloc 41 hb rfl rfl rfl rfl (op_alloc _ _ _ rfl)
    · intro b' a' w1 hb hI
      obtain ⟨ρ, rfl, hS, hC, hN⟩ := hI
      have hA := HS.out.2
      clear HS
      have p0 := hb 0 (by decide)
      have p1 := hb 1 (by decide)
      have p2 := hb 2 (by decide)
      have p3 := hb 3 (by decide)
      have p4 := hb 4 (by decide)
      obtain ⟨c4, f4, l4, n4⟩ := hC 4 (by simp) p4
      have v0 : vals [4] (fun i => [.agg #[.float .f64 f1], .agg #[.float .f64 b], .agg #[.float .f64 db], .agg #[.float .f64 f2], .bool false].getD i (.bool false)) ρ 0 = .agg #[.float .f64 f1] := rfl
      have v1 : vals [4] (fun i => [.agg #[.float .f64 f1], .agg #[.float .f64 b], .agg #[.float .f64 db], .agg #[.float .f64 f2], .bool false].getD i (.bool false)) ρ 1 = .agg #[.float .f64 b] := rfl
      have v2 : vals [4] (fun i => [.agg #[.float .f64 f1], .agg #[.float .f64 b], .agg #[.float .f64 db], .agg #[.float .f64 f2], .bool false].getD i (.bool false)) ρ 2 = .agg #[.float .f64 db] := rfl
      have v3 : vals [4] (fun i => [.agg #[.float .f64 f1], .agg #[.float .f64 b], .agg #[.float .f64 db], .agg #[.float .f64 f2], .bool false].getD i (.bool false)) ρ 3 = .agg #[.float .f64 f2] := rfl
      have v4 : vals [4] (fun i => [.agg #[.float .f64 f1], .agg #[.float .f64 b], .agg #[.float .f64 db], .agg #[.float .f64 f2], .bool false].getD i (.bool false)) ρ 4 = .pointer (some ⟨(ρ 4), 0, none⟩) := rfl
      simp only [puts, Nat.zero_add, p0, p1, p2, p3, p4, v0, v1, v2, v3, v4, if_true, List.drop_succ_cons, List.drop_zero, Nat.reduceAdd]
      clear hb hC hN p0 p1 p2 p3 p4 v0 v1 v2 v3 v4
      generalize ρ 4 = g11 at *
      replace hA : Apart base ((g11, 0) :: [(g10, f0), (g9, f1), (g8, 0), (g7, 0), (g6, 0), (g5, b), (g4, a), (g3, l)]) := ⟨l4, n4, hA⟩
      replace hS : Bx base w ((g11, 0) :: [(g10, f0), (g9, f1), (g8, 0), (g7, 0), (g6, 0), (g5, b), (g4, a), (g3, l)]) w1 := ⟨c4, f4, hS⟩
      clear c4 f4 l4 n4 
      clear ρ b'
      have s0 : (w1).cell? ⟨g11, 0, none⟩ = some (.float .f64 0) := (hS.cell 0 (by simp)).1
      have t0 : (w1).frozen? ⟨g11, 0, none⟩ = false := (hS.cell 0 (by simp)).2
      replace hS : Bx base w [(g11, f2), (g10, f0), (g9, f1), (g8, 0), (g7, 0), (g6, 0), (g5, b), (g4, a), (g3, l)] ((w1).setCell ⟨g11, 0, none⟩ (.float .f64 f2)) := hS.set f2 hA 0 (by simp)
      replace hA : Apart base [(g11, f2), (g10, f0), (g9, f1), (g8, 0), (g7, 0), (g6, 0), (g5, b), (g4, a), (g3, l)] := Apart.of_fst (by rfl) hA
      have HS := Lib.hid (And.intro hS hA)
      clear hS hA
      go_upto_region 4 with fail
      clear s0 t0
      generalize World.setCell _ _ _ = W at *
      clear w1
      have c_g10 : W.cell? ⟨g10, 0, none⟩ = some (.float .f64 f0) := (HS.out.1.cell 1 (by simp)).1
      go_wp2_with fail
      refine (Cubed_any f0 p0 f03 Hp0.out Hf03.out _).mono ?_
      rintro e w1 ⟨rfl, hb⟩
      have hS := HS.out.1.keep hb
      have hA := HS.out.2
      clear HS hb c_g10
      replace hA := hA.alloc hS f03
      replace hS := hS.alloc f03 41
      have HS := Lib.hid (And.intro hS hA)
      clear hS hA
      go_upto_region 5 with fail
      generalize World.alloc _ _ = W at *
      generalize w1.heap.size = g12 at *
      clear w1
      have c_g11 : W.cell? ⟨g11, 0, none⟩ = some (.float .f64 f2) := (HS.out.1.cell 1 (by simp)).1
      go_wp2_with fail
      refine (Cubed_any f2 p2 f23 Hp2.out Hf23.out _).mono ?_
      rintro e w1 ⟨rfl, hb⟩
      have hS := HS.out.1.keep hb
      have hA := HS.out.2
      clear HS hb c_g11
      replace hA := hA.alloc hS f23
      replace hS := hS.alloc f23 41
      have HS := Lib.hid (And.intro hS hA)
      clear hS hA
      go_upto_region 6 with fail
      generalize World.alloc _ _ = W at *
      generalize w1.heap.size = g13 at *
      clear w1
      have q0 : (FloatKind.f64.format.order f03 4576259018578689238 == some .gt) = false := Hq0.out
      have c_g12 : W.cell? ⟨g12, 0, none⟩ = some (.float .f64 f03) := (HS.out.1.cell 1 (by simp)).1
      go_wp2_with fail
      refine (Value_any f03 _).mono ?_
      rintro e w1 ⟨rfl, hb⟩
      have hS := HS.out.1.keep hb
      have hA := HS.out.2
      clear HS hb c_g12
      have HS := Lib.hid (And.intro hS hA)
      clear hS hA
      go_upto_region 8 with fail
      generalize w1 = W at *
      clear q0
      have c_g10 : W.cell? ⟨g10, 0, none⟩ = some (.float .f64 f0) := (HS.out.1.cell 3 (by simp)).1
      go_wp2_with fail
      refine (MulConst_any f0 4637863191261478912 u0 Hu0.out _).mono ?_
      rintro e w1 ⟨rfl, hb⟩
      have hS := HS.out.1.keep hb
      have hA := HS.out.2
      clear HS hb c_g10
      have HS := Lib.hid (And.intro hS hA)
      clear hS hA
      go_wp2_with fail
      refine (SubConst_any u0 4625196817309499392 v0 Hv0.out _).mono ?_
      rintro e w2 ⟨rfl, hb⟩
      have hS := HS.out.1.keep hb
      have hA := HS.out.2
      clear HS hb 
      clear w1
      generalize w2 = w1 at *
      have HS := Lib.hid (And.intro hS hA)
      clear hS hA
      go_wp2_with fail
      refine (DivConst_any v0 4651156694067819558 x Hx.out _).mono ?_
      rintro e w2 ⟨rfl, hb⟩
      have hS := HS.out.1.keep hb
      have hA := HS.out.2
      clear HS hb 
      clear w1
      generalize w2 = w1 at *
      have s0 : (w1).cell? ⟨g6, 0, none⟩ = some (.float .f64 0) := (hS.cell 7 (by simp)).1
      have t0 : (w1).frozen? ⟨g6, 0, none⟩ = false := (hS.cell 7 (by simp)).2
      replace hS : Bx base w [(g13, f23), (g12, f03), (g11, f2), (g10, f0), (g9, f1), (g8, 0), (g7, 0), (g6, x), (g5, b), (g4, a), (g3, l)] ((w1).setCell ⟨g6, 0, none⟩ (.float .f64 x)) := hS.set x hA 7 (by simp)
      replace hA : Apart base [(g13, f23), (g12, f03), (g11, f2), (g10, f0), (g9, f1), (g8, 0), (g7, 0), (g6, x), (g5, b), (g4, a), (g3, l)] := Apart.of_fst (by rfl) hA
      have HS := Lib.hid (And.intro hS hA)
      clear hS hA
      go_upto_region 9 with fail
      clear s0 t0
      generalize World.setCell _ _ _ = W at *
      clear w1
      have q1 : (FloatKind.f64.format.order l 4620693217682128896 == some .gt) = true := Hq1.out
      have c_g3 : W.cell? ⟨g3, 0, none⟩ = some (.float .f64 l) := (HS.out.1.cell 10 (by simp)).1
      go_wp2_with fail
      refine (Value_any l _).mono ?_
      rintro e w1 ⟨rfl, hb⟩
      have hS := HS.out.1.keep hb
      have hA := HS.out.2
      clear HS hb c_g3
      have HS := Lib.hid (And.intro hS hA)
      clear hS hA
      go_upto_region 10 with fail
      generalize w1 = W at *
      clear q1
      have c_g3 : W.cell? ⟨g3, 0, none⟩ = some (.float .f64 l) := (HS.out.1.cell 10 (by simp)).1
      go_wp2_with fail
      refine (AddConst_any l 4625196817309499392 s1 Hs1.out _).mono ?_
      rintro e w1 ⟨rfl, hb⟩
      have hS := HS.out.1.keep hb
      have hA := HS.out.2
      clear HS hb c_g3
      have HS := Lib.hid (And.intro hS hA)
      clear hS hA
      go_wp2_with fail
      refine (DivConst_any s1 4637863191261478912 f1 Hf1.out _).mono ?_
      rintro e w2 ⟨rfl, hb⟩
      have hS := HS.out.1.keep hb
      have hA := HS.out.2
      clear HS hb 
      clear w1
      generalize w2 = w1 at *
      have s0 : (w1).cell? ⟨g7, 0, none⟩ = some (.float .f64 0) := (hS.cell 6 (by simp)).1
      have t0 : (w1).frozen? ⟨g7, 0, none⟩ = false := (hS.cell 6 (by simp)).2
      replace hS : Bx base w [(g13, f23), (g12, f03), (g11, f2), (g10, f0), (g9, f1), (g8, 0), (g7, f1), (g6, x), (g5, b), (g4, a), (g3, l)] ((w1).setCell ⟨g7, 0, none⟩ (.float .f64 f1)) := hS.set f1 hA 6 (by simp)
      replace hA : Apart base [(g13, f23), (g12, f03), (g11, f2), (g10, f0), (g9, f1), (g8, 0), (g7, f1), (g6, x), (g5, b), (g4, a), (g3, l)] := Apart.of_fst (by rfl) hA
      have HS := Lib.hid (And.intro hS hA)
      clear hS hA
      go_upto_region 11 with fail
      clear s0 t0
      generalize World.setCell _ _ _ = W at *
      clear w1
      have c_g7 : W.cell? ⟨g7, 0, none⟩ = some (.float .f64 f1) := (HS.out.1.cell 6 (by simp)).1
      go_wp2_with fail
      refine (Cubed_any f1 py y Hpy.out Hy.out _).mono ?_
      rintro e w1 ⟨rfl, hb⟩
      have hS := HS.out.1.keep hb
      have hA := HS.out.2
      clear HS hb c_g7
      have s0 : (w1).cell? ⟨g7, 0, none⟩ = some (.float .f64 f1) := (hS.cell 6 (by simp)).1
      have t0 : (w1).frozen? ⟨g7, 0, none⟩ = false := (hS.cell 6 (by simp)).2
      replace hS : Bx base w [(g13, f23), (g12, f03), (g11, f2), (g10, f0), (g9, f1), (g8, 0), (g7, y), (g6, x), (g5, b), (g4, a), (g3, l)] ((w1).setCell ⟨g7, 0, none⟩ (.float .f64 y)) := hS.set y hA 6 (by simp)
      replace hA : Apart base [(g13, f23), (g12, f03), (g11, f2), (g10, f0), (g9, f1), (g8, 0), (g7, y), (g6, x), (g5, b), (g4, a), (g3, l)] := Apart.of_fst (by rfl) hA
      have HS := Lib.hid (And.intro hS hA)
      clear hS hA
      go_upto_region 13 with fail
      clear s0 t0
      generalize World.setCell _ _ _ = W at *
      clear w1
      have q2 : (FloatKind.f64.format.order f23 4576259018578689238 == some .gt) = true := Hq2.out
      have c_g13 : W.cell? ⟨g13, 0, none⟩ = some (.float .f64 f23) := (HS.out.1.cell 0 (by simp)).1
      go_wp2_with fail
      refine (Value_any f23 _).mono ?_
      rintro e w1 ⟨rfl, hb⟩
      have hS := HS.out.1.keep hb
      have hA := HS.out.2
      clear HS hb c_g13
      have HS := Lib.hid (And.intro hS hA)
      clear hS hA
      go_upto_region 14 with fail
      generalize w1 = W at *
      clear q2
      have c_g13 : W.cell? ⟨g13, 0, none⟩ = some (.float .f64 f23) := (HS.out.1.cell 0 (by simp)).1
      have hS := HS.out.1
      have hA := HS.out.2
      clear HS
      generalize W = w1 at *
      have s0 : (w1).cell? ⟨g8, 0, none⟩ = some (.float .f64 0) := (hS.cell 5 (by simp)).1
      have t0 : (w1).frozen? ⟨g8, 0, none⟩ = false := (hS.cell 5 (by simp)).2
      replace hS : Bx base w [(g13, f23), (g12, f03), (g11, f2), (g10, f0), (g9, f1), (g8, f23), (g7, y), (g6, x), (g5, b), (g4, a), (g3, l)] ((w1).setCell ⟨g8, 0, none⟩ (.float .f64 f23)) := hS.set f23 hA 5 (by simp)
      replace hA : Apart base [(g13, f23), (g12, f03), (g11, f2), (g10, f0), (g9, f1), (g8, f23), (g7, y), (g6, x), (g5, b), (g4, a), (g3, l)] := Apart.of_fst (by rfl) hA
      have HS := Lib.hid (And.intro hS hA)
      clear hS hA
      go_upto_region 16 with fail
      clear s0 t0 c_g13
      generalize World.setCell _ _ _ = W at *
      clear w1
      have hA := HS.out.2
      refine Plx.wp_region_planX 8 (by kernel_rfl) (by kernel_rfl) (fun bB aA wW => PI base w [(g13, f23), (g12, f03), (g11, f2), (g10, f0), (g9, f1), (g8, cond (bB 7) Z f23), (g7, cond (bB 6) y y), (g6, cond (bB 5) X x), (g5, b), (g4, a), (g3, l)] [some 55, some 56, some 57, some 58, some 59, none, none, none] [] (fun i => [.agg #[.float .f64 x], .agg #[.float .f64 X], .agg #[.float .f64 y], .agg #[.float .f64 f23], .agg #[.float .f64 Z], .bool false, .bool false, .bool false].getD i (.bool false)) _ bB aA wW ∧ (bB 5 = true → bB 0 = true) ∧ (bB 6 = true → bB 2 = true) ∧ (bB 7 = true → bB 3 = true)) ⟨PI.start HS.out.1, (fun h => by cases h), (fun h => by cases h), (fun h => by cases h)⟩ ?_ ?_
      · intro i o b' a' w' hi ho hb he hI
        rcases (by omega : i = 0 ∨ i = 1 ∨ i = 2 ∨ i = 3 ∨ i = 4 ∨ i = 5 ∨ i = 6 ∨ i = 7) with rfl | rfl | rfl | rfl | rfl | rfl | rfl | rfl
        · obtain rfl := Option.some.inj ho
          have hn : b' 5 = false := by cases hq : b' 5 with | false => rfl | true => (have := hI.2.1 hq; rw [hb] at this; cases this)
          have hc0 := (hI.1.bx.cell 7 (by simp)).1
          have hc1 : w'.cell? ⟨g6, 0, none⟩ = some (.float .f64 x) := by simpa [hn] using hc0
          exact Oper.wp_mono (fun _ _ h => ⟨h, upd_imp hI.2.1 (fun e => absurd e (by decide)), upd_imp hI.2.2.1 (fun e => absurd e (by decide)), upd_imp hI.2.2.2 (fun e => absurd e (by decide))⟩) (hI.1.stepQuiet hb rfl rfl rfl (op_load _ _ _ g6 x _ rfl ((hI.1.old rfl).trans rfl) hc1))
        · obtain rfl := Option.some.inj ho
          have e0 := hI.1.new 0 (edge he 0 (by kernel_rfl)) rfl rfl rfl (by show 55 < 60; decide)
          refine Oper.wp_mono (fun _ _ h => ⟨h, upd_imp hI.2.1 (fun e => absurd e (by decide)), upd_imp hI.2.2.1 (fun e => absurd e (by decide)), upd_imp hI.2.2.2 (fun e => absurd e (by decide))⟩) (hI.1.stepCall hb rfl rfl rfl (op_call _ _ 63 Try.f63 _ _ _ rfl Try.func63 (by kernel_rfl) (by kernel_rfl)) ?_)
          have hm : Array.map a'.eval #[.tmp 55, .const ((Value.float FloatKind.f64 4606860822843362778))] = #[.agg #[.float .f64 x], (Value.float FloatKind.f64 4606860822843362778)] := by simp [e0, ev_const]
          rw [hm]
          exact MulConst_any x 4606860822843362778 X HX.out _
        · obtain rfl := Option.some.inj ho
          have hn : b' 6 = false := by cases hq : b' 6 with | false => rfl | true => (have := hI.2.2.1 hq; rw [hb] at this; cases this)
          have hc0 := (hI.1.bx.cell 6 (by simp)).1
          have hc1 : w'.cell? ⟨g7, 0, none⟩ = some (.float .f64 y) := by simpa [hn] using hc0
          exact Oper.wp_mono (fun _ _ h => ⟨h, upd_imp hI.2.1 (fun e => absurd e (by decide)), upd_imp hI.2.2.1 (fun e => absurd e (by decide)), upd_imp hI.2.2.2 (fun e => absurd e (by decide))⟩) (hI.1.stepQuiet hb rfl rfl rfl (op_load _ _ _ g7 y _ rfl ((hI.1.old rfl).trans rfl) hc1))
        · obtain rfl := Option.some.inj ho
          have hn : b' 7 = false := by cases hq : b' 7 with | false => rfl | true => (have := hI.2.2.2 hq; rw [hb] at this; cases this)
          have hc0 := (hI.1.bx.cell 5 (by simp)).1
          have hc1 : w'.cell? ⟨g8, 0, none⟩ = some (.float .f64 f23) := by simpa [hn] using hc0
          exact Oper.wp_mono (fun _ _ h => ⟨h, upd_imp hI.2.1 (fun e => absurd e (by decide)), upd_imp hI.2.2.1 (fun e => absurd e (by decide)), upd_imp hI.2.2.2 (fun e => absurd e (by decide))⟩) (hI.1.stepQuiet hb rfl rfl rfl (op_load _ _ _ g8 f23 _ rfl ((hI.1.old rfl).trans rfl) hc1))
        · obtain rfl := Option.some.inj ho
          have e0 := hI.1.new 3 (edge he 3 (by kernel_rfl)) rfl rfl rfl (by show 58 < 60; decide)
          refine Oper.wp_mono (fun _ _ h => ⟨h, upd_imp hI.2.1 (fun e => absurd e (by decide)), upd_imp hI.2.2.1 (fun e => absurd e (by decide)), upd_imp hI.2.2.2 (fun e => absurd e (by decide))⟩) (hI.1.stepCall hb rfl rfl rfl (op_call _ _ 63 Try.f63 _ _ _ rfl Try.func63 (by kernel_rfl) (by kernel_rfl)) ?_)
          have hm : Array.map a'.eval #[.tmp 58, .const ((Value.float FloatKind.f64 4605607101106091996))] = #[.agg #[.float .f64 f23], (Value.float FloatKind.f64 4605607101106091996)] := by simp [e0, ev_const]
          rw [hm]
          exact MulConst_any f23 4605607101106091996 Z HZ.out _
        · obtain rfl := Option.some.inj ho
          have e0 := hI.1.new 1 (edge he 1 (by kernel_rfl)) rfl rfl rfl (by show 56 < 60; decide)
          have hap : Apart base [(g13, f23), (g12, f03), (g11, f2), (g10, f0), (g9, f1), (g8, cond (b' 7) Z f23), (g7, cond (b' 6) y y), (g6, cond (b' 5) X x), (g5, b), (g4, a), (g3, l)] := Apart.of_fst (by rfl) hA
          exact Oper.wp_mono (fun _ _ h => ⟨h, upd_imp hI.2.1 (fun e => edge he 0 (by kernel_rfl)), upd_imp hI.2.2.1 (fun e => absurd e (by decide)), upd_imp hI.2.2.2 (fun e => absurd e (by decide))⟩) (hI.1.stepStore (P := Try.prog) (k := 7) (y := X) hb rfl rfl rfl rfl hap (by simp) (op_store _ _ _ _ g6 X _ _ rfl ((hI.1.old (t := 6) rfl).trans rfl) e0 (hI.1.bx.cell 7 (by simp)).1 (hI.1.bx.cell 7 (by simp)).2))
        · obtain rfl := Option.some.inj ho
          have e0 := hI.1.new 2 (edge he 2 (by kernel_rfl)) rfl rfl rfl (by show 57 < 60; decide)
          have hap : Apart base [(g13, f23), (g12, f03), (g11, f2), (g10, f0), (g9, f1), (g8, cond (b' 7) Z f23), (g7, cond (b' 6) y y), (g6, cond (b' 5) X x), (g5, b), (g4, a), (g3, l)] := Apart.of_fst (by rfl) hA
          exact Oper.wp_mono (fun _ _ h => ⟨h, upd_imp hI.2.1 (fun e => absurd e (by decide)), upd_imp hI.2.2.1 (fun e => edge he 2 (by kernel_rfl)), upd_imp hI.2.2.2 (fun e => absurd e (by decide))⟩) (hI.1.stepStore (P := Try.prog) (k := 6) (y := y) hb rfl rfl rfl rfl hap (by simp) (op_store _ _ _ _ g7 y _ _ rfl ((hI.1.old (t := 7) rfl).trans rfl) e0 (hI.1.bx.cell 6 (by simp)).1 (hI.1.bx.cell 6 (by simp)).2))
        · obtain rfl := Option.some.inj ho
          have e0 := hI.1.new 4 (edge he 4 (by kernel_rfl)) rfl rfl rfl (by show 59 < 60; decide)
          have hap : Apart base [(g13, f23), (g12, f03), (g11, f2), (g10, f0), (g9, f1), (g8, cond (b' 7) Z f23), (g7, cond (b' 6) y y), (g6, cond (b' 5) X x), (g5, b), (g4, a), (g3, l)] := Apart.of_fst (by rfl) hA
          exact Oper.wp_mono (fun _ _ h => ⟨h, upd_imp hI.2.1 (fun e => absurd e (by decide)), upd_imp hI.2.2.1 (fun e => absurd e (by decide)), upd_imp hI.2.2.2 (fun e => edge he 3 (by kernel_rfl))⟩) (hI.1.stepStore (P := Try.prog) (k := 5) (y := Z) hb rfl rfl rfl rfl hap (by simp) (op_store _ _ _ _ g8 Z _ _ rfl ((hI.1.old (t := 8) rfl).trans rfl) e0 (hI.1.bx.cell 5 (by simp)).1 (hI.1.bx.cell 5 (by simp)).2))
      · intro b' a' w1 hb hI
        obtain ⟨⟨ρ, rfl, hS, -, -⟩, -, -, -⟩ := hI
        have p0 := hb 0 (by decide)
        have p1 := hb 1 (by decide)
        have p2 := hb 2 (by decide)
        have p3 := hb 3 (by decide)
        have p4 := hb 4 (by decide)
        have p5 := hb 5 (by decide)
        have p6 := hb 6 (by decide)
        have p7 := hb 7 (by decide)
        have v0 : vals [] (fun i => [.agg #[.float .f64 x], .agg #[.float .f64 X], .agg #[.float .f64 y], .agg #[.float .f64 f23], .agg #[.float .f64 Z], .bool false, .bool false, .bool false].getD i (.bool false)) ρ 0 = .agg #[.float .f64 x] := rfl
        have v1 : vals [] (fun i => [.agg #[.float .f64 x], .agg #[.float .f64 X], .agg #[.float .f64 y], .agg #[.float .f64 f23], .agg #[.float .f64 Z], .bool false, .bool false, .bool false].getD i (.bool false)) ρ 1 = .agg #[.float .f64 X] := rfl
        have v2 : vals [] (fun i => [.agg #[.float .f64 x], .agg #[.float .f64 X], .agg #[.float .f64 y], .agg #[.float .f64 f23], .agg #[.float .f64 Z], .bool false, .bool false, .bool false].getD i (.bool false)) ρ 2 = .agg #[.float .f64 y] := rfl
        have v3 : vals [] (fun i => [.agg #[.float .f64 x], .agg #[.float .f64 X], .agg #[.float .f64 y], .agg #[.float .f64 f23], .agg #[.float .f64 Z], .bool false, .bool false, .bool false].getD i (.bool false)) ρ 3 = .agg #[.float .f64 f23] := rfl
        have v4 : vals [] (fun i => [.agg #[.float .f64 x], .agg #[.float .f64 X], .agg #[.float .f64 y], .agg #[.float .f64 f23], .agg #[.float .f64 Z], .bool false, .bool false, .bool false].getD i (.bool false)) ρ 4 = .agg #[.float .f64 Z] := rfl
        have v5 : vals [] (fun i => [.agg #[.float .f64 x], .agg #[.float .f64 X], .agg #[.float .f64 y], .agg #[.float .f64 f23], .agg #[.float .f64 Z], .bool false, .bool false, .bool false].getD i (.bool false)) ρ 5 = .bool false := rfl
        have v6 : vals [] (fun i => [.agg #[.float .f64 x], .agg #[.float .f64 X], .agg #[.float .f64 y], .agg #[.float .f64 f23], .agg #[.float .f64 Z], .bool false, .bool false, .bool false].getD i (.bool false)) ρ 6 = .bool false := rfl
        have v7 : vals [] (fun i => [.agg #[.float .f64 x], .agg #[.float .f64 X], .agg #[.float .f64 y], .agg #[.float .f64 f23], .agg #[.float .f64 Z], .bool false, .bool false, .bool false].getD i (.bool false)) ρ 7 = .bool false := rfl
        simp only [p5, p6, p7, cond_true] at hS
        simp only [puts, Nat.zero_add, p0, p1, p2, p3, p4, p5, p6, p7, v0, v1, v2, v3, v4, v5, v6, v7, if_true, List.drop_succ_cons, List.drop_zero, Nat.reduceAdd]
        have HS2 := Lib.hid (And.intro hS (show Apart base [(g13, f23), (g12, f03), (g11, f2), (g10, f0), (g9, f1), (g8, Z), (g7, y), (g6, X), (g5, b), (g4, a), (g3, l)] from Apart.of_fst (by rfl) hA))
        clear HS hS hA hb p0 p1 p2 p3 p4 p5 p6 p7 v0 v1 v2 v3 v4 v5 v6 v7
        have HS := HS2
        clear HS2 ρ b'
        clear W
        generalize w1 = W at *
        go_wp2_with fail
        have c_g6 : W.cell? ⟨g6, 0, none⟩ = some (.float .f64 X) := (HS.out.1.cell 7 (by simp)).1
        have c_g7 : W.cell? ⟨g7, 0, none⟩ = some (.float .f64 y) := (HS.out.1.cell 6 (by simp)).1
        have c_g8 : W.cell? ⟨g8, 0, none⟩ = some (.float .f64 Z) := (HS.out.1.cell 5 (by simp)).1
        refine bodyPost_ret (v := .tuple #[.agg #[.float .f64 X], .agg #[.float .f64 y], .agg #[.float .f64 Z]]) (by simp [results, Try.results46, go_sem, c_g6, c_g7, c_g8]) rfl ⟨rfl, HS.out.1.below.2⟩
set_option maxRecDepth 100000 in
set_option maxHeartbeats 4000000 in
theorem lx_ftf (l a b s1 f1 da f0 db f2 p0 f03 p2 f23 u0 v0 x py y u2 v2 z X Z base : Nat) (w : World) (H : Hid (base = w.heap.size)) (Hs1 : Hid (Ieee.double.add l 4625196817309499392 = some s1)) (Hf1 : Hid (Ieee.double.div s1 4637863191261478912 = some f1)) (Hda : Hid (Ieee.double.div a 4647503709213818880 = some da)) (Hf0 : Hid (Ieee.double.add da f1 = some f0)) (Hdb : Hid (Ieee.double.div b 4641240890982006784 = some db)) (Hf2 : Hid (Ieee.double.sub f1 db = some f2)) (Hp0 : Hid (Ieee.double.mul f0 f0 = some p0)) (Hf03 : Hid (Ieee.double.mul p0 f0 = some f03)) (Hp2 : Hid (Ieee.double.mul f2 f2 = some p2)) (Hf23 : Hid (Ieee.double.mul p2 f2 = some f23)) (Hq0 : Hid (gtB f03 4576259018578689238 = false)) (Hu0 : Hid (Ieee.double.mul f0 4637863191261478912 = some u0)) (Hv0 : Hid (Ieee.double.sub u0 4625196817309499392 = some v0)) (Hx : Hid (Ieee.double.div v0 4651156694067819558 = some x)) (Hq1 : Hid (gtB l 4620693217682128896 = true)) (Hpy : Hid (Ieee.double.mul f1 f1 = some py)) (Hy : Hid (Ieee.double.mul py f1 = some y)) (Hq2 : Hid (gtB f23 4576259018578689238 = false)) (Hu2 : Hid (Ieee.double.mul f2 4637863191261478912 = some u2)) (Hv2 : Hid (Ieee.double.sub u2 4625196817309499392 = some v2)) (Hz : Hid (Ieee.double.div v2 4651156694067819558 = some z)) (HX : Hid (Ieee.double.mul x 4606860822843362778 = some X)) (HZ : Hid (Ieee.double.mul z 4605607101106091996 = some Z)) :
    Calls Try.prog 46 #[.agg #[.float .f64 l], .agg #[.float .f64 a], .agg #[.float .f64 b]] w fun e w' => e = .returned (.tuple #[.agg #[.float .f64 X], .agg #[.float .f64 y], .agg #[.float .f64 Z]]) ∧ Below base w w' := by
  go_enter Try.func46, Try.ntmps46
  go_upto_region 1 with fail
  generalize hW : World.alloc _ _ = W at *
  have hS : Bx base w [(w.heap.size + 1 + 1 + 1 + 1 + 1, 0), (w.heap.size + 1 + 1 + 1 + 1, 0), (w.heap.size + 1 + 1 + 1, 0), (w.heap.size + 1 + 1, b), (w.heap.size + 1, a), (w.heap.size, l)] W := by
    subst hW
    have := (((((((Bx.start w).alloc l 41).alloc a 41).alloc b 41).alloc 0 41).alloc 0 41).alloc 0 41)
    rw [H.out]
    simpa using this
  have hA : Apart base [(w.heap.size + 1 + 1 + 1 + 1 + 1, 0), (w.heap.size + 1 + 1 + 1 + 1, 0), (w.heap.size + 1 + 1 + 1, 0), (w.heap.size + 1 + 1, b), (w.heap.size + 1, a), (w.heap.size, l)] := by
    rw [H.out]
    simp [Apart]; try omega
  have HS := Lib.hid (And.intro hS hA)
  clear hS hA hW H
  generalize w.heap.size + 1 + 1 + 1 + 1 + 1 = g8 at *
  generalize w.heap.size + 1 + 1 + 1 + 1 = g7 at *
  generalize w.heap.size + 1 + 1 + 1 = g6 at *
  generalize w.heap.size + 1 + 1 = g5 at *
  generalize w.heap.size + 1 = g4 at *
  generalize hgg : w.heap.size = g3 at *
  clear hgg
  have c_g3 : W.cell? ⟨g3, 0, none⟩ = some (.float .f64 l) := (HS.out.1.cell 5 (by simp)).1
  go_wp2_with fail
  refine (AddConst_any l 4625196817309499392 s1 Hs1.out _).mono ?_
  rintro e w1 ⟨rfl, hb⟩
  have hS := HS.out.1.keep hb
  have hA := HS.out.2
  clear HS hb c_g3
  have HS := Lib.hid (And.intro hS hA)
  clear hS hA
  go_wp2_with fail
  refine (DivConst_any s1 4637863191261478912 f1 Hf1.out _).mono ?_
  rintro e w2 ⟨rfl, hb⟩
  have hS := HS.out.1.keep hb
  have hA := HS.out.2
  clear HS hb 
  clear w1
  generalize w2 = w1 at *
  replace hA := hA.alloc hS f1
  replace hS := hS.alloc f1 41
  have HS := Lib.hid (And.intro hS hA)
  clear hS hA
  go_upto_region 2 with fail
  generalize World.alloc _ _ = W at *
  generalize w1.heap.size = g9 at *
  clear w1
  refine wp_region_plan 5 (by kernel_rfl) (by kernel_rfl) (PI base w [(g9, f1), (g8, 0), (g7, 0), (g6, 0), (g5, b), (g4, a), (g3, l)] [some 17, some 18, some 19, some 20, some 10] [4] (fun i => [.agg #[.float .f64 a], .agg #[.float .f64 da], .agg #[.float .f64 f1], .agg #[.float .f64 f0], .bool false].getD i (.bool false)) _) (PI.start HS.out.1) ?_ ?_
  · intro i o b' a' w' hi ho hb he hI
    rcases (by omega : i = 0 ∨ i = 1 ∨ i = 2 ∨ i = 3 ∨ i = 4) with rfl | rfl | rfl | rfl | rfl
    · obtain rfl := Option.some.inj ho
      exact hI.stepQuiet hb rfl rfl rfl (op_load _ _ _ g4 a _ rfl ((hI.old rfl).trans rfl) (hI.bx.cell 5 (by simp)).1)
    · obtain rfl := Option.some.inj ho
      have e0 := hI.new 0 (edge he 0 (by kernel_rfl)) rfl rfl rfl (by show 17 < 60; decide)
      refine hI.stepCall hb rfl rfl rfl (op_call _ _ 58 Try.f58 _ _ _ rfl Try.func58 (by kernel_rfl) (by kernel_rfl)) ?_
      have hm : Array.map a'.eval #[.tmp 17, .const ((Value.float FloatKind.f64 4647503709213818880))] = #[.agg #[.float .f64 a], (Value.float FloatKind.f64 4647503709213818880)] := by simp [e0, ev_const]
      rw [hm]
      exact DivConst_any a 4647503709213818880 da Hda.out _
    · obtain rfl := Option.some.inj ho
      exact hI.stepQuiet hb rfl rfl rfl (op_load _ _ _ g9 f1 _ rfl ((hI.old rfl).trans rfl) (hI.bx.cell 0 (by simp)).1)
    · obtain rfl := Option.some.inj ho
      have e0 := hI.new 1 (edge he 1 (by kernel_rfl)) rfl rfl rfl (by show 18 < 60; decide)
      have e1 := hI.new 2 (edge he 2 (by kernel_rfl)) rfl rfl rfl (by show 19 < 60; decide)
      refine hI.stepCall hb rfl rfl rfl (op_call _ _ 61 Try.f61 _ _ _ rfl Try.func61 (by kernel_rfl) (by kernel_rfl)) ?_
      have hm : Array.map a'.eval #[.tmp 18, .tmp 19] = #[.agg #[.float .f64 da], .agg #[.float .f64 f1]] := by simp [e0, e1]
      rw [hm]
      exact Add_any da f1 f0 Hf0.out _
    · obtain rfl := Option.some.inj ho
      exact hI.stepAlloc 41 hb rfl rfl rfl rfl (op_alloc _ _ _ rfl)
  · intro b' a' w1 hb hI
    obtain ⟨ρ, rfl, hS, hC, hN⟩ := hI
    have hA := HS.out.2
    clear HS
    have p0 := hb 0 (by decide)
    have p1 := hb 1 (by decide)
    have p2 := hb 2 (by decide)
    have p3 := hb 3 (by decide)
    have p4 := hb 4 (by decide)
    obtain ⟨c4, f4, l4, n4⟩ := hC 4 (by simp) p4
    have v0 : vals [4] (fun i => [.agg #[.float .f64 a], .agg #[.float .f64 da], .agg #[.float .f64 f1], .agg #[.float .f64 f0], .bool false].getD i (.bool false)) ρ 0 = .agg #[.float .f64 a] := rfl
    have v1 : vals [4] (fun i => [.agg #[.float .f64 a], .agg #[.float .f64 da], .agg #[.float .f64 f1], .agg #[.float .f64 f0], .bool false].getD i (.bool false)) ρ 1 = .agg #[.float .f64 da] := rfl
    have v2 : vals [4] (fun i => [.agg #[.float .f64 a], .agg #[.float .f64 da], .agg #[.float .f64 f1], .agg #[.float .f64 f0], .bool false].getD i (.bool false)) ρ 2 = .agg #[.float .f64 f1] := rfl
    have v3 : vals [4] (fun i => [.agg #[.float .f64 a], .agg #[.float .f64 da], .agg #[.float .f64 f1], .agg #[.float .f64 f0], .bool false].getD i (.bool false)) ρ 3 = .agg #[.float .f64 f0] := rfl
    have v4 : vals [4] (fun i => [.agg #[.float .f64 a], .agg #[.float .f64 da], .agg #[.float .f64 f1], .agg #[.float .f64 f0], .bool false].getD i (.bool false)) ρ 4 = .pointer (some ⟨(ρ 4), 0, none⟩) := rfl
    simp only [puts, Nat.zero_add, p0, p1, p2, p3, p4, v0, v1, v2, v3, v4, if_true, List.drop_succ_cons, List.drop_zero, Nat.reduceAdd]
    clear hb hC hN p0 p1 p2 p3 p4 v0 v1 v2 v3 v4
    generalize ρ 4 = g10 at *
    replace hA : Apart base ((g10, 0) :: [(g9, f1), (g8, 0), (g7, 0), (g6, 0), (g5, b), (g4, a), (g3, l)]) := ⟨l4, n4, hA⟩
    replace hS : Bx base w ((g10, 0) :: [(g9, f1), (g8, 0), (g7, 0), (g6, 0), (g5, b), (g4, a), (g3, l)]) w1 := ⟨c4, f4, hS⟩
    clear c4 f4 l4 n4 
    clear ρ b'
    have s0 : (w1).cell? ⟨g10, 0, none⟩ = some (.float .f64 0) := (hS.cell 0 (by simp)).1
    have t0 : (w1).frozen? ⟨g10, 0, none⟩ = false := (hS.cell 0 (by simp)).2
    replace hS : Bx base w [(g10, f0), (g9, f1), (g8, 0), (g7, 0), (g6, 0), (g5, b), (g4, a), (g3, l)] ((w1).setCell ⟨g10, 0, none⟩ (.float .f64 f0)) := hS.set f0 hA 0 (by simp)
    replace hA : Apart base [(g10, f0), (g9, f1), (g8, 0), (g7, 0), (g6, 0), (g5, b), (g4, a), (g3, l)] := Apart.of_fst (by rfl) hA
    have HS := Lib.hid (And.intro hS hA)
    clear hS hA
    go_upto_region 3 with fail
    clear s0 t0
    generalize World.setCell _ _ _ = W at *
    clear w1
    refine wp_region_plan 5 (by kernel_rfl) (by kernel_rfl) (PI base w [(g10, f0), (g9, f1), (g8, 0), (g7, 0), (g6, 0), (g5, b), (g4, a), (g3, l)] [some 21, some 22, some 23, some 24, some 11] [4] (fun i => [.agg #[.float .f64 f1], .agg #[.float .f64 b], .agg #[.float .f64 db], .agg #[.float .f64 f2], .bool false].getD i (.bool false)) _) (PI.start HS.out.1) ?_ ?_
    · intro i o b' a' w' hi ho hb he hI
      rcases (by omega : i = 0 ∨ i = 1 ∨ i = 2 ∨ i = 3 ∨ i = 4) with rfl | rfl | rfl | rfl | rfl
      · obtain rfl := Option.some.inj ho
        exact hI.stepQuiet hb rfl rfl rfl (op_load _ _ _ g9 f1 _ rfl ((hI.old rfl).trans rfl) (hI.bx.cell 1 (by simp)).1)
      · obtain rfl := Option.some.inj ho
        exact hI.stepQuiet hb rfl rfl rfl (op_load _ _ _ g5 b _ rfl ((hI.old rfl).trans rfl) (hI.bx.cell 5 (by simp)).1)
      · obtain rfl := Option.some.inj ho
        have e0 := hI.new 1 (edge he 1 (by kernel_rfl)) rfl rfl rfl (by show 22 < 60; decide)
        refine hI.stepCall hb rfl rfl rfl (op_call _ _ 58 Try.f58 _ _ _ rfl Try.func58 (by kernel_rfl) (by kernel_rfl)) ?_
        have hm : Array.map a'.eval #[.tmp 22, .const ((Value.float FloatKind.f64 4641240890982006784))] = #[.agg #[.float .f64 b], (Value.float FloatKind.f64 4641240890982006784)] := by simp [e0, ev_const]
        rw [hm]
        exact DivConst_any b 4641240890982006784 db Hdb.out _
      · obtain rfl := Option.some.inj ho
        have e0 := hI.new 0 (edge he 0 (by kernel_rfl)) rfl rfl rfl (by show 21 < 60; decide)
        have e1 := hI.new 2 (edge he 2 (by kernel_rfl)) rfl rfl rfl (by show 23 < 60; decide)
        refine hI.stepCall hb rfl rfl rfl (op_call _ _ 62 Try.f62 _ _ _ rfl Try.func62 (by kernel_rfl) (by kernel_rfl)) ?_
        have hm : Array.map a'.eval #[.tmp 21, .tmp 23] = #[.agg #[.float .f64 f1], .agg #[.float .f64 db]] := by simp [e0, e1]
        rw [hm]
        exact Sub_any f1 db f2 Hf2.out _
      · obtain rfl := Option.some.inj ho
        exact hI.stepAlloc 41 hb rfl rfl rfl rfl (op_alloc _ _ _ rfl)
    · intro b' a' w1 hb hI
      obtain ⟨ρ, rfl, hS, hC, hN⟩ := hI
      have hA := HS.out.2
      clear HS
      have p0 := hb 0 (by decide)
      have p1 := hb 1 (by decide)
      have p2 := hb 2 (by decide)
      have p3 := hb 3 (by decide)
      have p4 := hb 4 (by decide)
      obtain ⟨c4, f4, l4, n4⟩ := hC 4 (by simp) p4
      have v0 : vals [4] (fun i => [.agg #[.float .f64 f1], .agg #[.float .f64 b], .agg #[.float .f64 db], .agg #[.float .f64 f2], .bool false].getD i (.bool false)) ρ 0 = .agg #[.float .f64 f1] := rfl
      have v1 : vals [4] (fun i => [.agg #[.float .f64 f1], .agg #[.float .f64 b], .agg #[.float .f64 db], .agg #[.float .f64 f2], .bool false].getD i (.bool false)) ρ 1 = .agg #[.float .f64 b] := rfl
      have v2 : vals [4] (fun i => [.agg #[.float .f64 f1], .agg #[.float .f64 b], .agg #[.float .f64 db], .agg #[.float .f64 f2], .bool false].getD i (.bool false)) ρ 2 = .agg #[.float .f64 db] := rfl
      have v3 : vals [4] (fun i => [.agg #[.float .f64 f1], .agg #[.float .f64 b], .agg #[.float .f64 db], .agg #[.float .f64 f2], .bool false].getD i (.bool false)) ρ 3 = .agg #[.float .f64 f2] := rfl
      have v4 : vals [4] (fun i => [.agg #[.float .f64 f1], .agg #[.float .f64 b], .agg #[.float .f64 db], .agg #[.float .f64 f2], .bool false].getD i (.bool false)) ρ 4 = .pointer (some ⟨(ρ 4), 0, none⟩) := rfl
      simp only [puts, Nat.zero_add, p0, p1, p2, p3, p4, v0, v1, v2, v3, v4, if_true, List.drop_succ_cons, List.drop_zero, Nat.reduceAdd]
      clear hb hC hN p0 p1 p2 p3 p4 v0 v1 v2 v3 v4
      generalize ρ 4 = g11 at *
      replace hA : Apart base ((g11, 0) :: [(g10, f0), (g9, f1), (g8, 0), (g7, 0), (g6, 0), (g5, b), (g4, a), (g3, l)]) := ⟨l4, n4, hA⟩
      replace hS : Bx base w ((g11, 0) :: [(g10, f0), (g9, f1), (g8, 0), (g7, 0), (g6, 0), (g5, b), (g4, a), (g3, l)]) w1 := ⟨c4, f4, hS⟩
      clear c4 f4 l4 n4 
      clear ρ b'
      have s0 : (w1).cell? ⟨g11, 0, none⟩ = some (.float .f64 0) := (hS.cell 0 (by simp)).1
      have t0 : (w1).frozen? ⟨g11, 0, none⟩ = false := (hS.cell 0 (by simp)).2
      replace hS : Bx base w [(g11, f2), (g10, f0), (g9, f1), (g8, 0), (g7, 0), (g6, 0), (g5, b), (g4, a), (g3, l)] ((w1).setCell ⟨g11, 0, none⟩ (.float .f64 f2)) := hS.set f2 hA 0 (by simp)
      replace hA : Apart base [(g11, f2), (g10, f0), (g9, f1), (g8, 0), (g7, 0), (g6, 0), (g5, b), (g4, a), (g3, l)] := Apart.of_fst (by rfl) hA
      have HS := Lib.hid (And.intro hS hA)
      clear hS hA
      go_upto_region 4 with fail
      clear s0 t0
      generalize World.setCell _ _ _ = W at *
      clear w1
      have c_g10 : W.cell? ⟨g10, 0, none⟩ = some (.float .f64 f0) := (HS.out.1.cell 1 (by simp)).1
      go_wp2_with fail
      refine (Cubed_any f0 p0 f03 Hp0.out Hf03.out _).mono ?_
      rintro e w1 ⟨rfl, hb⟩
      have hS := HS.out.1.keep hb
      have hA := HS.out.2
      clear HS hb c_g10
      replace hA := hA.alloc hS f03
      replace hS := hS.alloc f03 41
      have HS := Lib.hid (And.intro hS hA)
      clear hS hA
      go_upto_region 5 with fail
      generalize World.alloc _ _ = W at *
      generalize w1.heap.size = g12 at *
      clear w1
      have c_g11 : W.cell? ⟨g11, 0, none⟩ = some (.float .f64 f2) := (HS.out.1.cell 1 (by simp)).1
      go_wp2_with fail
      refine (Cubed_any f2 p2 f23 Hp2.out Hf23.out _).mono ?_
      rintro e w1 ⟨rfl, hb⟩
      have hS := HS.out.1.keep hb
      have hA := HS.out.2
      clear HS hb c_g11
      replace hA := hA.alloc hS f23
      replace hS := hS.alloc f23 41
      have HS := Lib.hid (And.intro hS hA)
      clear hS hA
      go_upto_region 6 with fail
      generalize World.alloc _ _ = W at *
      generalize w1.heap.size = g13 at *
      clear w1
      have q0 : (FloatKind.f64.format.order f03 4576259018578689238 == some .gt) = false := Hq0.out
      have c_g12 : W.cell? ⟨g12, 0, none⟩ = some (.float .f64 f03) := (HS.out.1.cell 1 (by simp)).1
      go_wp2_with fail
      refine (Value_any f03 _).mono ?_
      rintro e w1 ⟨rfl, hb⟩
      have hS := HS.out.1.keep hb
      have hA := HS.out.2
      clear HS hb c_g12
      have HS := Lib.hid (And.intro hS hA)
      clear hS hA
      go_upto_region 8 with fail
      generalize w1 = W at *
      clear q0
      have c_g10 : W.cell? ⟨g10, 0, none⟩ = some (.float .f64 f0) := (HS.out.1.cell 3 (by simp)).1
      go_wp2_with fail
      refine (MulConst_any f0 4637863191261478912 u0 Hu0.out _).mono ?_
      rintro e w1 ⟨rfl, hb⟩
      have hS := HS.out.1.keep hb
      have hA := HS.out.2
      clear HS hb c_g10
      have HS := Lib.hid (And.intro hS hA)
      clear hS hA
      go_wp2_with fail
      refine (SubConst_any u0 4625196817309499392 v0 Hv0.out _).mono ?_
      rintro e w2 ⟨rfl, hb⟩
      have hS := HS.out.1.keep hb
      have hA := HS.out.2
      clear HS hb 
      clear w1
      generalize w2 = w1 at *
      have HS := Lib.hid (And.intro hS hA)
      clear hS hA
      go_wp2_with fail
      refine (DivConst_any v0 4651156694067819558 x Hx.out _).mono ?_
      rintro e w2 ⟨rfl, hb⟩
      have hS := HS.out.1.keep hb
      have hA := HS.out.2
      clear HS hb 
      clear w1
      generalize w2 = w1 at *
      have s0 : (w1).cell? ⟨g6, 0, none⟩ = some (.float .f64 0) := (hS.cell 7 (by simp)).1
      have t0 : (w1).frozen? ⟨g6, 0, none⟩ = false := (hS.cell 7 (by simp)).2
      replace hS : Bx base w [(g13, f23), (g12, f03), (g11, f2), (g10, f0), (g9, f1), (g8, 0), (g7, 0), (g6, x), (g5, b), (g4, a), (g3, l)] ((w1).setCell ⟨g6, 0, none⟩ (.float .f64 x)) := hS.set x hA 7 (by simp)
      replace hA : Apart base [(g13, f23), (g12, f03), (g11, f2), (g10, f0), (g9, f1), (g8, 0), (g7, 0), (g6, x), (g5, b), (g4, a), (g3, l)] := Apart.of_fst (by rfl) hA
      have HS := Lib.hid (And.intro hS hA)
      clear hS hA
      go_upto_region 9 with fail
      clear s0 t0
      generalize World.setCell _ _ _ = W at *
      clear w1
      have q1 : (FloatKind.f64.format.order l 4620693217682128896 == some .gt) = true := Hq1.out
      have c_g3 : W.cell? ⟨g3, 0, none⟩ = some (.float .f64 l) := (HS.out.1.cell 10 (by simp)).1
      go_wp2_with fail
      refine (Value_any l _).mono ?_
      rintro e w1 ⟨rfl, hb⟩
      have hS := HS.out.1.keep hb
      have hA := HS.out.2
      clear HS hb c_g3
      have HS := Lib.hid (And.intro hS hA)
      clear hS hA
      go_upto_region 10 with fail
      generalize w1 = W at *
      clear q1
      have c_g3 : W.cell? ⟨g3, 0, none⟩ = some (.float .f64 l) := (HS.out.1.cell 10 (by simp)).1
      go_wp2_with fail
      refine (AddConst_any l 4625196817309499392 s1 Hs1.out _).mono ?_
      rintro e w1 ⟨rfl, hb⟩
      have hS := HS.out.1.keep hb
      have hA := HS.out.2
      clear HS hb c_g3
      have HS := Lib.hid (And.intro hS hA)
      clear hS hA
      go_wp2_with fail
      refine (DivConst_any s1 4637863191261478912 f1 Hf1.out _).mono ?_
      rintro e w2 ⟨rfl, hb⟩
      have hS := HS.out.1.keep hb
      have hA := HS.out.2
      clear HS hb 
      clear w1
      generalize w2 = w1 at *
      have s0 : (w1).cell? ⟨g7, 0, none⟩ = some (.float .f64 0) := (hS.cell 6 (by simp)).1
      have t0 : (w1).frozen? ⟨g7, 0, none⟩ = false := (hS.cell 6 (by simp)).2
      replace hS : Bx base w [(g13, f23), (g12, f03), (g11, f2), (g10, f0), (g9, f1), (g8, 0), (g7, f1), (g6, x), (g5, b), (g4, a), (g3, l)] ((w1).setCell ⟨g7, 0, none⟩ (.float .f64 f1)) := hS.set f1 hA 6 (by simp)
      replace hA : Apart base [(g13, f23), (g12, f03), (g11, f2), (g10, f0), (g9, f1), (g8, 0), (g7, f1), (g6, x), (g5, b), (g4, a), (g3, l)] := Apart.of_fst (by rfl) hA
      have HS := Lib.hid (And.intro hS hA)
      clear hS hA
      go_upto_region 11 with fail
      clear s0 t0
      generalize World.setCell _ _ _ = W at *
      clear w1
      have c_g7 : W.cell? ⟨g7, 0, none⟩ = some (.float .f64 f1) := (HS.out.1.cell 6 (by simp)).1
      go_wp2_with fail
      refine (Cubed_any f1 py y Hpy.out Hy.out _).mono ?_
      rintro e w1 ⟨rfl, hb⟩
      have hS := HS.out.1.keep hb
      have hA := HS.out.2
      clear HS hb c_g7
      have s0 : (w1).cell? ⟨g7, 0, none⟩ = some (.float .f64 f1) := (hS.cell 6 (by simp)).1
      have t0 : (w1).frozen? ⟨g7, 0, none⟩ = false := (hS.cell 6 (by simp)).2
      replace hS : Bx base w [(g13, f23), (g12, f03), (g11, f2), (g10, f0), (g9, f1), (g8, 0), (g7, y), (g6, x), (g5, b), (g4, a), (g3, l)] ((w1).setCell ⟨g7, 0, none⟩ (.float .f64 y)) := hS.set y hA 6 (by simp)
      replace hA : Apart base [(g13, f23), (g12, f03), (g11, f2), (g10, f0), (g9, f1), (g8, 0), (g7, y), (g6, x), (g5, b), (g4, a), (g3, l)] := Apart.of_fst (by rfl) hA
      have HS := Lib.hid (And.intro hS hA)
      clear hS hA
      go_upto_region 13 with fail
      clear s0 t0
      generalize World.setCell _ _ _ = W at *
      clear w1
      have q2 : (FloatKind.f64.format.order f23 4576259018578689238 == some .gt) = false := Hq2.out
      have c_g13 : W.cell? ⟨g13, 0, none⟩ = some (.float .f64 f23) := (HS.out.1.cell 0 (by simp)).1
      go_wp2_with fail
      refine (Value_any f23 _).mono ?_
      rintro e w1 ⟨rfl, hb⟩
      have hS := HS.out.1.keep hb
      have hA := HS.out.2
      clear HS hb c_g13
      have HS := Lib.hid (And.intro hS hA)
      clear hS hA
      go_upto_region 15 with fail
      generalize w1 = W at *
      clear q2
      have c_g11 : W.cell? ⟨g11, 0, none⟩ = some (.float .f64 f2) := (HS.out.1.cell 2 (by simp)).1
      go_wp2_with fail
      refine (MulConst_any f2 4637863191261478912 u2 Hu2.out _).mono ?_
      rintro e w1 ⟨rfl, hb⟩
      have hS := HS.out.1.keep hb
      have hA := HS.out.2
      clear HS hb c_g11
      have HS := Lib.hid (And.intro hS hA)
      clear hS hA
      go_wp2_with fail
      refine (SubConst_any u2 4625196817309499392 v2 Hv2.out _).mono ?_
      rintro e w2 ⟨rfl, hb⟩
      have hS := HS.out.1.keep hb
      have hA := HS.out.2
      clear HS hb 
      clear w1
      generalize w2 = w1 at *
      have HS := Lib.hid (And.intro hS hA)
      clear hS hA
      go_wp2_with fail
      refine (DivConst_any v2 4651156694067819558 z Hz.out _).mono ?_
      rintro e w2 ⟨rfl, hb⟩
      have hS := HS.out.1.keep hb
      have hA := HS.out.2
      clear HS hb 
      clear w1
      generalize w2 = w1 at *
      have s0 : (w1).cell? ⟨g8, 0, none⟩ = some (.float .f64 0) := (hS.cell 5 (by simp)).1
      have t0 : (w1).frozen? ⟨g8, 0, none⟩ = false := (hS.cell 5 (by simp)).2
      replace hS : Bx base w [(g13, f23), (g12, f03), (g11, f2), (g10, f0), (g9, f1), (g8, z), (g7, y), (g6, x), (g5, b), (g4, a), (g3, l)] ((w1).setCell ⟨g8, 0, none⟩ (.float .f64 z)) := hS.set z hA 5 (by simp)
      replace hA : Apart base [(g13, f23), (g12, f03), (g11, f2), (g10, f0), (g9, f1), (g8, z), (g7, y), (g6, x), (g5, b), (g4, a), (g3, l)] := Apart.of_fst (by rfl) hA
      have HS := Lib.hid (And.intro hS hA)
      clear hS hA
      go_upto_region 16 with fail
      clear s0 t0
      generalize World.setCell _ _ _ = W at *
      clear w1
      have hA := HS.out.2
      refine Plx.wp_region_planX 8 (by kernel_rfl) (by kernel_rfl) (fun bB aA wW => PI base w [(g13, f23), (g12, f03), (g11, f2), (g10, f0), (g9, f1), (g8, cond (bB 7) Z z), (g7, cond (bB 6) y y), (g6, cond (bB 5) X x), (g5, b), (g4, a), (g3, l)] [some 55, some 56, some 57, some 58, some 59, none, none, none] [] (fun i => [.agg #[.float .f64 x], .agg #[.float .f64 X], .agg #[.float .f64 y], .agg #[.float .f64 z], .agg #[.float .f64 Z], .bool false, .bool false, .bool false].getD i (.bool false)) _ bB aA wW ∧ (bB 5 = true → bB 0 = true) ∧ (bB 6 = true → bB 2 = true) ∧ (bB 7 = true → bB 3 = true)) ⟨PI.start HS.out.1, (fun h => by cases h), (fun h => by cases h), (fun h => by cases h)⟩ ?_ ?_
      · intro i o b' a' w' hi ho hb he hI
        rcases (by omega : i = 0 ∨ i = 1 ∨ i = 2 ∨ i = 3 ∨ i = 4 ∨ i = 5 ∨ i = 6 ∨ i = 7) with rfl | rfl | rfl | rfl | rfl | rfl | rfl | rfl
        · obtain rfl := Option.some.inj ho
          have hn : b' 5 = false := by cases hq : b' 5 with | false => rfl | true => (have := hI.2.1 hq; rw [hb] at this; cases this)
          have hc0 := (hI.1.bx.cell 7 (by simp)).1
          have hc1 : w'.cell? ⟨g6, 0, none⟩ = some (.float .f64 x) := by simpa [hn] using hc0
          exact Oper.wp_mono (fun _ _ h => ⟨h, upd_imp hI.2.1 (fun e => absurd e (by decide)), upd_imp hI.2.2.1 (fun e => absurd e (by decide)), upd_imp hI.2.2.2 (fun e => absurd e (by decide))⟩) (hI.1.stepQuiet hb rfl rfl rfl (op_load _ _ _ g6 x _ rfl ((hI.1.old rfl).trans rfl) hc1))
        · obtain rfl := Option.some.inj ho
          have e0 := hI.1.new 0 (edge he 0 (by kernel_rfl)) rfl rfl rfl (by show 55 < 60; decide)
          refine Oper.wp_mono (fun _ _ h => ⟨h, upd_imp hI.2.1 (fun e => absurd e (by decide)), upd_imp hI.2.2.1 (fun e => absurd e (by decide)), upd_imp hI.2.2.2 (fun e => absurd e (by decide))⟩) (hI.1.stepCall hb rfl rfl rfl (op_call _ _ 63 Try.f63 _ _ _ rfl Try.func63 (by kernel_rfl) (by kernel_rfl)) ?_)
          have hm : Array.map a'.eval #[.tmp 55, .const ((Value.float FloatKind.f64 4606860822843362778))] = #[.agg #[.float .f64 x], (Value.float FloatKind.f64 4606860822843362778)] := by simp [e0, ev_const]
          rw [hm]
          exact MulConst_any x 4606860822843362778 X HX.out _
        · obtain rfl := Option.some.inj ho
          have hn : b' 6 = false := by cases hq : b' 6 with | false => rfl | true => (have := hI.2.2.1 hq; rw [hb] at this; cases this)
          have hc0 := (hI.1.bx.cell 6 (by simp)).1
          have hc1 : w'.cell? ⟨g7, 0, none⟩ = some (.float .f64 y) := by simpa [hn] using hc0
          exact Oper.wp_mono (fun _ _ h => ⟨h, upd_imp hI.2.1 (fun e => absurd e (by decide)), upd_imp hI.2.2.1 (fun e => absurd e (by decide)), upd_imp hI.2.2.2 (fun e => absurd e (by decide))⟩) (hI.1.stepQuiet hb rfl rfl rfl (op_load _ _ _ g7 y _ rfl ((hI.1.old rfl).trans rfl) hc1))
        · obtain rfl := Option.some.inj ho
          have hn : b' 7 = false := by cases hq : b' 7 with | false => rfl | true => (have := hI.2.2.2 hq; rw [hb] at this; cases this)
          have hc0 := (hI.1.bx.cell 5 (by simp)).1
          have hc1 : w'.cell? ⟨g8, 0, none⟩ = some (.float .f64 z) := by simpa [hn] using hc0
          exact Oper.wp_mono (fun _ _ h => ⟨h, upd_imp hI.2.1 (fun e => absurd e (by decide)), upd_imp hI.2.2.1 (fun e => absurd e (by decide)), upd_imp hI.2.2.2 (fun e => absurd e (by decide))⟩) (hI.1.stepQuiet hb rfl rfl rfl (op_load _ _ _ g8 z _ rfl ((hI.1.old rfl).trans rfl) hc1))
        · obtain rfl := Option.some.inj ho
          have e0 := hI.1.new 3 (edge he 3 (by kernel_rfl)) rfl rfl rfl (by show 58 < 60; decide)
          refine Oper.wp_mono (fun _ _ h => ⟨h, upd_imp hI.2.1 (fun e => absurd e (by decide)), upd_imp hI.2.2.1 (fun e => absurd e (by decide)), upd_imp hI.2.2.2 (fun e => absurd e (by decide))⟩) (hI.1.stepCall hb rfl rfl rfl (op_call _ _ 63 Try.f63 _ _ _ rfl Try.func63 (by kernel_rfl) (by kernel_rfl)) ?_)
          have hm : Array.map a'.eval #[.tmp 58, .const ((Value.float FloatKind.f64 4605607101106091996))] = #[.agg #[.float .f64 z], (Value.float FloatKind.f64 4605607101106091996)] := by simp [e0, ev_const]
          rw [hm]
          exact MulConst_any z 4605607101106091996 Z HZ.out _
        · obtain rfl := Option.some.inj ho
          have e0 := hI.1.new 1 (edge he 1 (by kernel_rfl)) rfl rfl rfl (by show 56 < 60; decide)
          have hap : Apart base [(g13, f23), (g12, f03), (g11, f2), (g10, f0), (g9, f1), (g8, cond (b' 7) Z z), (g7, cond (b' 6) y y), (g6, cond (b' 5) X x), (g5, b), (g4, a), (g3, l)] := Apart.of_fst (by rfl) hA
          exact Oper.wp_mono (fun _ _ h => ⟨h, upd_imp hI.2.1 (fun e => edge he 0 (by kernel_rfl)), upd_imp hI.2.2.1 (fun e => absurd e (by decide)), upd_imp hI.2.2.2 (fun e => absurd e (by decide))⟩) (hI.1.stepStore (P := Try.prog) (k := 7) (y := X) hb rfl rfl rfl rfl hap (by simp) (op_store _ _ _ _ g6 X _ _ rfl ((hI.1.old (t := 6) rfl).trans rfl) e0 (hI.1.bx.cell 7 (by simp)).1 (hI.1.bx.cell 7 (by simp)).2))
        · obtain rfl := Option.some.inj ho
          have e0 := hI.1.new 2 (edge he 2 (by kernel_rfl)) rfl rfl rfl (by show 57 < 60; decide)
          have hap : Apart base [(g13, f23), (g12, f03), (g11, f2), (g10, f0), (g9, f1), (g8, cond (b' 7) Z z), (g7, cond (b' 6) y y), (g6, cond (b' 5) X x), (g5, b), (g4, a), (g3, l)] := Apart.of_fst (by rfl) hA
          exact Oper.wp_mono (fun _ _ h => ⟨h, upd_imp hI.2.1 (fun e => absurd e (by decide)), upd_imp hI.2.2.1 (fun e => edge he 2 (by kernel_rfl)), upd_imp hI.2.2.2 (fun e => absurd e (by decide))⟩) (hI.1.stepStore (P := Try.prog) (k := 6) (y := y) hb rfl rfl rfl rfl hap (by simp) (op_store _ _ _ _ g7 y _ _ rfl ((hI.1.old (t := 7) rfl).trans rfl) e0 (hI.1.bx.cell 6 (by simp)).1 (hI.1.bx.cell 6 (by simp)).2))
        · obtain rfl := Option.some.inj ho
          have e0 := hI.1.new 4 (edge he 4 (by kernel_rfl)) rfl rfl rfl (by show 59 < 60; decide)
          have hap : Apart base [(g13, f23), (g12, f03), (g11, f2), (g10, f0), (g9, f1), (g8, cond (b' 7) Z z), (g7, cond (b' 6) y y), (g6, cond (b' 5) X x), (g5, b), (g4, a), (g3, l)] := Apart.of_fst (by rfl) hA
          exact Oper.wp_mono (fun _ _ h => ⟨h, upd_imp hI.2.1 (fun e => absurd e (by decide)), upd_imp hI.2.2.1 (fun e => absurd e (by decide)), upd_imp hI.2.2.2 (fun e => edge he 3 (by kernel_rfl))⟩) (hI.1.stepStore (P := Try.prog) (k := 5) (y := Z) hb rfl rfl rfl rfl hap (by simp) (op_store _ _ _ _ g8 Z _ _ rfl ((hI.1.old (t := 8) rfl).trans rfl) e0 (hI.1.bx.cell 5 (by simp)).1 (hI.1.bx.cell 5 (by simp)).2))
      · intro b' a' w1 hb hI
        obtain ⟨⟨ρ, rfl, hS, -, -⟩, -, -, -⟩ := hI
        have p0 := hb 0 (by decide)
        have p1 := hb 1 (by decide)
        have p2 := hb 2 (by decide)
        have p3 := hb 3 (by decide)
        have p4 := hb 4 (by decide)
        have p5 := hb 5 (by decide)
        have p6 := hb 6 (by decide)
        have p7 := hb 7 (by decide)
        have v0 : vals [] (fun i => [.agg #[.float .f64 x], .agg #[.float .f64 X], .agg #[.float .f64 y], .agg #[.float .f64 z], .agg #[.float .f64 Z], .bool false, .bool false, .bool false].getD i (.bool false)) ρ 0 = .agg #[.float .f64 x] := rfl
        have v1 : vals [] (fun i => [.agg #[.float .f64 x], .agg #[.float .f64 X], .agg #[.float .f64 y], .agg #[.float .f64 z], .agg #[.float .f64 Z], .bool false, .bool false, .bool false].getD i (.bool false)) ρ 1 = .agg #[.float .f64 X] := rfl
        have v2 : vals [] (fun i => [.agg #[.float .f64 x], .agg #[.float .f64 X], .agg #[.float .f64 y], .agg #[.float .f64 z], .agg #[.float .f64 Z], .bool false, .bool false, .bool false].getD i (.bool false)) ρ 2 = .agg #[.float .f64 y] := rfl
        have v3 : vals [] (fun i => [.agg #[.float .f64 x], .agg #[.float .f64 X], .agg #[.float .f64 y], .agg #[.float .f64 z], .agg #[.float .f64 Z], .bool false, .bool false, .bool false].getD i (.bool false)) ρ 3 = .agg #[.float .f64 z] := rfl
        have v4 : vals [] (fun i => [.agg #[.float .f64 x], .agg #[.float .f64 X], .agg #[.float .f64 y], .agg #[.float .f64 z], .agg #[.float .f64 Z], .bool false, .bool false, .bool false].getD i (.bool false)) ρ 4 = .agg #[.float .f64 Z] := rfl
        have v5 : vals [] (fun i => [.agg #[.float .f64 x], .agg #[.float .f64 X], .agg #[.float .f64 y], .agg #[.float .f64 z], .agg #[.float .f64 Z], .bool false, .bool false, .bool false].getD i (.bool false)) ρ 5 = .bool false := rfl
        have v6 : vals [] (fun i => [.agg #[.float .f64 x], .agg #[.float .f64 X], .agg #[.float .f64 y], .agg #[.float .f64 z], .agg #[.float .f64 Z], .bool false, .bool false, .bool false].getD i (.bool false)) ρ 6 = .bool false := rfl
        have v7 : vals [] (fun i => [.agg #[.float .f64 x], .agg #[.float .f64 X], .agg #[.float .f64 y], .agg #[.float .f64 z], .agg #[.float .f64 Z], .bool false, .bool false, .bool false].getD i (.bool false)) ρ 7 = .bool false := rfl
        simp only [p5, p6, p7, cond_true] at hS
        simp only [puts, Nat.zero_add, p0, p1, p2, p3, p4, p5, p6, p7, v0, v1, v2, v3, v4, v5, v6, v7, if_true, List.drop_succ_cons, List.drop_zero, Nat.reduceAdd]
        have HS2 := Lib.hid (And.intro hS (show Apart base [(g13, f23), (g12, f03), (g11, f2), (g10, f0), (g9, f1), (g8, Z), (g7, y), (g6, X), (g5, b), (g4, a), (g3, l)] from Apart.of_fst (by rfl) hA))
        clear HS hS hA hb p0 p1 p2 p3 p4 p5 p6 p7 v0 v1 v2 v3 v4 v5 v6 v7
        have HS := HS2
        clear HS2 ρ b'
        clear W
        generalize w1 = W at *
        go_wp2_with fail
        have c_g6 : W.cell? ⟨g6, 0, none⟩ = some (.float .f64 X) := (HS.out.1.cell 7 (by simp)).1
        have c_g7 : W.cell? ⟨g7, 0, none⟩ = some (.float .f64 y) := (HS.out.1.cell 6 (by simp)).1
        have c_g8 : W.cell? ⟨g8, 0, none⟩ = some (.float .f64 Z) := (HS.out.1.cell 5 (by simp)).1
        refine bodyPost_ret (v := .tuple #[.agg #[.float .f64 X], .agg #[.float .f64 y], .agg #[.float .f64 Z]]) (by simp [results, Try.results46, go_sem, c_g6, c_g7, c_g8]) rfl ⟨rfl, HS.out.1.below.2⟩
set_option maxRecDepth 100000 in
set_option maxHeartbeats 4000000 in
theorem lx_fft (l a b s1 f1 da f0 db f2 p0 f03 p2 f23 u0 v0 x y X Z base : Nat) (w : World) (H : Hid (base = w.heap.size)) (Hs1 : Hid (Ieee.double.add l 4625196817309499392 = some s1)) (Hf1 : Hid (Ieee.double.div s1 4637863191261478912 = some f1)) (Hda : Hid (Ieee.double.div a 4647503709213818880 = some da)) (Hf0 : Hid (Ieee.double.add da f1 = some f0)) (Hdb : Hid (Ieee.double.div b 4641240890982006784 = some db)) (Hf2 : Hid (Ieee.double.sub f1 db = some f2)) (Hp0 : Hid (Ieee.double.mul f0 f0 = some p0)) (Hf03 : Hid (Ieee.double.mul p0 f0 = some f03)) (Hp2 : Hid (Ieee.double.mul f2 f2 = some p2)) (Hf23 : Hid (Ieee.double.mul p2 f2 = some f23)) (Hq0 : Hid (gtB f03 4576259018578689238 = false)) (Hu0 : Hid (Ieee.double.mul f0 4637863191261478912 = some u0)) (Hv0 : Hid (Ieee.double.sub u0 4625196817309499392 = some v0)) (Hx : Hid (Ieee.double.div v0 4651156694067819558 = some x)) (Hq1 : Hid (gtB l 4620693217682128896 = false)) (Hy : Hid (Ieee.double.div l 4651156694067819558 = some y)) (Hq2 : Hid (gtB f23 4576259018578689238 = true)) (HX : Hid (Ieee.double.mul x 4606860822843362778 = some X)) (HZ : Hid (Ieee.double.mul f23 4605607101106091996 = some Z)) :
    Calls Try.prog 46 #[.agg #[.float .f64 l], .agg #[.float .f64 a], .agg #[.float .f64 b]] w fun e w' => e = .returned (.tuple #[.agg #[.float .f64 X], .agg #[.float .f64 y], .agg #[.float .f64 Z]]) ∧ Below base w w' := by
  go_enter Try.func46, Try.ntmps46
  go_upto_region 1 with fail
  generalize hW : World.alloc _ _ = W at *
  have hS : Bx base w [(w.heap.size + 1 + 1 + 1 + 1 + 1, 0), (w.heap.size + 1 + 1 + 1 + 1, 0), (w.heap.size + 1 + 1 + 1, 0), (w.heap.size + 1 + 1, b), (w.heap.size + 1, a), (w.heap.size, l)] W := by
    subst hW
    have := (((((((Bx.start w).alloc l 41).alloc a 41).alloc b 41).alloc 0 41).alloc 0 41).alloc 0 41)
    rw [H.out]
    simpa using this
  have hA : Apart base [(w.heap.size + 1 + 1 + 1 + 1 + 1, 0), (w.heap.size + 1 + 1 + 1 + 1, 0), (w.heap.size + 1 + 1 + 1, 0), (w.heap.size + 1 + 1, b), (w.heap.size + 1, a), (w.heap.size, l)] := by
    rw [H.out]
    simp [Apart]; try omega
  have HS := Lib.hid (And.intro hS hA)
  clear hS hA hW H
  generalize w.heap.size + 1 + 1 + 1 + 1 + 1 = g8 at *
  generalize w.heap.size + 1 + 1 + 1 + 1 = g7 at *
  generalize w.heap.size + 1 + 1 + 1 = g6 at *
  generalize w.heap.size + 1 + 1 = g5 at *
  generalize w.heap.size + 1 = g4 at *
  generalize hgg : w.heap.size = g3 at *
  clear hgg
  have c_g3 : W.cell? ⟨g3, 0, none⟩ = some (.float .f64 l) := (HS.out.1.cell 5 (by simp)).1
  go_wp2_with fail
  refine (AddConst_any l 4625196817309499392 s1 Hs1.out _).mono ?_
  rintro e w1 ⟨rfl, hb⟩
  have hS := HS.out.1.keep hb
  have hA := HS.out.2
  clear HS hb c_g3
  have HS := Lib.hid (And.intro hS hA)
  clear hS hA
  go_wp2_with fail
  refine (DivConst_any s1 4637863191261478912 f1 Hf1.out _).mono ?_
  rintro e w2 ⟨rfl, hb⟩
  have hS := HS.out.1.keep hb
  have hA := HS.out.2
  clear HS hb 
  clear w1
  generalize w2 = w1 at *
  replace hA := hA.alloc hS f1
  replace hS := hS.alloc f1 41
  have HS := Lib.hid (And.intro hS hA)
  clear hS hA
  go_upto_region 2 with fail
  generalize World.alloc _ _ = W at *
  generalize w1.heap.size = g9 at *
  clear w1
  refine wp_region_plan 5 (by kernel_rfl) (by kernel_rfl) (PI base w [(g9, f1), (g8, 0), (g7, 0), (g6, 0), (g5, b), (g4, a), (g3, l)] [some 17, some 18, some 19, some 20, some 10] [4] (fun i => [.agg #[.float .f64 a], .agg #[.float .f64 da], .agg #[.float .f64 f1], .agg #[.float .f64 f0], .bool false].getD i (.bool false)) _) (PI.start HS.out.1) ?_ ?_
  · intro i o b' a' w' hi ho hb he hI
    rcases (by omega : i = 0 ∨ i = 1 ∨ i = 2 ∨ i = 3 ∨ i = 4) with rfl | rfl | rfl | rfl | rfl
    · obtain rfl := Option.some.inj ho
      exact hI.stepQuiet hb rfl rfl rfl (op_load _ _ _ g4 a _ rfl ((hI.old rfl).trans rfl) (hI.bx.cell 5 (by simp)).1)
    · obtain rfl := Option.some.inj ho
      have e0 := hI.new 0 (edge he 0 (by kernel_rfl)) rfl rfl rfl (by show 17 < 60; decide)
      refine hI.stepCall hb rfl rfl rfl (op_call _ _ 58 Try.f58 _ _ _ rfl Try.func58 (by kernel_rfl) (by kernel_rfl)) ?_
      have hm : Array.map a'.eval #[.tmp 17, .const ((Value.float FloatKind.f64 4647503709213818880))] = #[.agg #[.float .f64 a], (Value.float FloatKind.f64 4647503709213818880)] := by simp [e0, ev_const]
      rw [hm]
      exact DivConst_any a 4647503709213818880 da Hda.out _
    · obtain rfl := Option.some.inj ho
      exact hI.stepQuiet hb rfl rfl rfl (op_load _ _ _ g9 f1 _ rfl ((hI.old rfl).trans rfl) (hI.bx.cell 0 (by simp)).1)
    · obtain rfl := Option.some.inj ho
      have e0 := hI.new 1 (edge he 1 (by kernel_rfl)) rfl rfl rfl (by show 18 < 60; decide)
      have e1 := hI.new 2 (edge he 2 (by kernel_rfl)) rfl rfl rfl (by show 19 < 60; decide)
      refine hI.stepCall hb rfl rfl rfl (op_call _ _ 61 Try.f61 _ _ _ rfl Try.func61 (by kernel_rfl) (by kernel_rfl)) ?_
      have hm : Array.map a'.eval #[.tmp 18, .tmp 19] = #[.agg #[.float .f64 da], .agg #[.float .f64 f1]] := by simp [e0, e1]
      rw [hm]
      exact Add_any da f1 f0 Hf0.out _
    · obtain rfl := Option.some.inj ho
      exact hI.stepAlloc 41 hb rfl rfl rfl rfl (op_alloc _ _ _ rfl)
  · intro b' a' w1 hb hI
    obtain ⟨ρ, rfl, hS, hC, hN⟩ := hI
    have hA := HS.out.2
    clear HS
    have p0 := hb 0 (by decide)
    have p1 := hb 1 (by decide)
    have p2 := hb 2 (by decide)
    have p3 := hb 3 (by decide)
    have p4 := hb 4 (by decide)
    obtain ⟨c4, f4, l4, n4⟩ := hC 4 (by simp) p4
    have v0 : vals [4] (fun i => [.agg #[.float .f64 a], .agg #[.float .f64 da], .agg #[.float .f64 f1], .agg #[.float .f64 f0], .bool false].getD i (.bool false)) ρ 0 = .agg #[.float .f64 a] := rfl
    have v1 : vals [4] (fun i => [.agg #[.float .f64 a], .agg #[.float .f64 da], .agg #[.float .f64 f1], .agg #[.float .f64 f0], .bool false].getD i (.bool false)) ρ 1 = .agg #[.float .f64 da] := rfl
    have v2 : vals [4] (fun i => [.agg #[.float .f64 a], .agg #[.float .f64 da], .agg #[.float .f64 f1], .agg #[.float .f64 f0], .bool false].getD i (.bool false)) ρ 2 = .agg #[.float .f64 f1] := rfl
    have v3 : vals [4] (fun i => [.agg #[.float .f64 a], .agg #[.float .f64 da], .agg #[.float .f64 f1], .agg #[.float .f64 f0], .bool false].getD i (.bool false)) ρ 3 = .agg #[.float .f64 f0] := rfl
    have v4 : vals [4] (fun i => [.agg #[.float .f64 a], .agg #[.float .f64 da], .agg #[.float .f64 f1], .agg #[.float .f64 f0], .bool false].getD i (.bool false)) ρ 4 = .pointer (some ⟨(ρ 4), 0, none⟩) := rfl
    simp only [puts, Nat.zero_add, p0, p1, p2, p3, p4, v0, v1, v2, v3, v4, if_true, List.drop_succ_cons, List.drop_zero, Nat.reduceAdd]
    clear hb hC hN p0 p1 p2 p3 p4 v0 v1 v2 v3 v4
    generalize ρ 4 = g10 at *
    replace hA : Apart base ((g10, 0) :: [(g9, f1), (g8, 0), (g7, 0), (g6, 0), (g5, b), (g4, a), (g3, l)]) := ⟨l4, n4, hA⟩
    replace hS : Bx base w ((g10, 0) :: [(g9, f1), (g8, 0), (g7, 0), (g6, 0), (g5, b), (g4, a), (g3, l)]) w1 := ⟨c4, f4, hS⟩
    clear c4 f4 l4 n4 
    clear ρ b'
    have s0 : (w1).cell? ⟨g10, 0, none⟩ = some (.float .f64 0) := (hS.cell 0 (by simp)).1
    have t0 : (w1).frozen? ⟨g10, 0, none⟩ = false := (hS.cell 0 (by simp)).2
    replace hS : Bx base w [(g10, f0), (g9, f1), (g8, 0), (g7, 0), (g6, 0), (g5, b), (g4, a), (g3, l)] ((w1).setCell ⟨g10, 0, none⟩ (.float .f64 f0)) := hS.set f0 hA 0 (by simp)
    replace hA : Apart base [(g10, f0), (g9, f1), (g8, 0), (g7, 0), (g6, 0), (g5, b), (g4, a), (g3, l)] := Apart.of_fst (by rfl) hA
    have HS := Lib.hid (And.intro hS hA)
    clear hS hA
    go_upto_region 3 with fail
    clear s0 t0
    generalize World.setCell _ _ _ = W at *
    clear w1
    refine wp_region_plan 5 (by kernel_rfl) (by kernel_rfl) (PI base w [(g10, f0), (g9, f1), (g8, 0), (g7, 0), (g6, 0), (g5, b), (g4, a), (g3, l)] [some 21, some 22, some 23, some 24, some 11] [4] (fun i => [.agg #[.float .f64 f1], .agg #[.float .f64 b], .agg #[.float .f64 db], .agg #[.float .f64 f2], .bool false].getD i (.bool false)) _) (PI.start HS.out.1) ?_ ?_
    · intro i o b' a' w' hi ho hb he hI
      rcases (by omega : i = 0 ∨ i = 1 ∨ i = 2 ∨ i = 3 ∨ i = 4) with rfl | rfl | rfl | rfl | rfl
      · obtain rfl := Option.some.inj ho
        exact hI.stepQuiet hb rfl rfl rfl (op_load _ _ _ g9 f1 _ rfl ((hI.old rfl).trans rfl) (hI.bx.cell 1 (by simp)).1)
      · obtain rfl := Option.some.inj ho
        exact hI.stepQuiet hb rfl rfl rfl (op_load _ _ _ g5 b _ rfl ((hI.old rfl).trans rfl) (hI.bx.cell 5 (by simp)).1)
      · obtain rfl := Option.some.inj ho
        have e0 := hI.new 1 (edge he 1 (by kernel_rfl)) rfl rfl rfl (by show 22 < 60; decide)
        refine hI.stepCall hb rfl rfl rfl (op_call _ _ 58 Try.f58 _ _ _ rfl Try.func58 (by kernel_rfl) (by kernel_rfl)) ?_
        have hm : Array.map a'.eval #[.tmp 22, .const ((Value.float FloatKind.f64 4641240890982006784))] = #[.agg #[.float .f64 b], (Value.float FloatKind.f64 4641240890982006784)] := by simp [e0, ev_const]
        rw [hm]
        exact DivConst_any b 4641240890982006784 db Hdb.out _
      · obtain rfl := Option.some.inj ho
        have e0 := hI.new 0 (edge he 0 (by kernel_rfl)) rfl rfl rfl (by show 21 < 60; decide)
        have e1 := hI.new 2 (edge he 2 (by kernel_rfl)) rfl rfl rfl (by show 23 < 60; decide)
        refine hI.stepCall hb rfl rfl rfl (op_call _ _ 62 Try.f62 _ _ _ rfl Try.func62 (by kernel_rfl) (by kernel_rfl)) ?_
        have hm : Array.map a'.eval #[.tmp 21, .tmp 23] = #[.agg #[.float .f64 f1], .agg #[.float .f64 db]] := by simp [e0, e1]
        rw [hm]
        exact Sub_any f1 db f2 Hf2.out _
      · obtain rfl := Option.some.inj ho
        exact hI.stepAlloc 41 hb rfl rfl rfl rfl (op_alloc _ _ _ rfl)
    · intro b' a' w1 hb hI
      obtain ⟨ρ, rfl, hS, hC, hN⟩ := hI
      have hA := HS.out.2
      clear HS
      have p0 := hb 0 (by decide)
      have p1 := hb 1 (by decide)
      have p2 := hb 2 (by decide)
      have p3 := hb 3 (by decide)
      have p4 := hb 4 (by decide)
      obtain ⟨c4, f4, l4, n4⟩ := hC 4 (by simp) p4
      have v0 : vals [4] (fun i => [.agg #[.float .f64 f1], .agg #[.float .f64 b], .agg #[.float .f64 db], .agg #[.float .f64 f2], .bool false].getD i (.bool false)) ρ 0 = .agg #[.float .f64 f1] := rfl
      have v1 : vals [4] (fun i => [.agg #[.float .f64 f1], .agg #[.float .f64 b], .agg #[.float .f64 db], .agg #[.float .f64 f2], .bool false].getD i (.bool false)) ρ 1 = .agg #[.float .f64 b] := rfl
      have v2 : vals [4] (fun i => [.agg #[.float .f64 f1], .agg #[.float .f64 b], .agg #[.float .f64 db], .agg #[.float .f64 f2], .bool false].getD i (.bool false)) ρ 2 = .agg #[.float .f64 db] := rfl
      have v3 : vals [4] (fun i => [.agg #[.float .f64 f1], .agg #[.float .f64 b], .agg #[.float .f64 db], .agg #[.float .f64 f2], .bool false].getD i (.bool false)) ρ 3 = .agg #[.float .f64 f2] := rfl
      have v4 : vals [4] (fun i => [.agg #[.float .f64 f1], .agg #[.float .f64 b], .agg #[.float .f64 db], .agg #[.float .f64 f2], .bool false].getD i (.bool false)) ρ 4 = .pointer (some ⟨(ρ 4), 0, none⟩) := rfl
      simp only [puts, Nat.zero_add, p0, p1, p2, p3, p4, v0, v1, v2, v3, v4, if_true, List.drop_succ_cons, List.drop_zero, Nat.reduceAdd]
      clear hb hC hN p0 p1 p2 p3 p4 v0 v1 v2 v3 v4
      generalize ρ 4 = g11 at *
      replace hA : Apart base ((g11, 0) :: [(g10, f0), (g9, f1), (g8, 0), (g7, 0), (g6, 0), (g5, b), (g4, a), (g3, l)]) := ⟨l4, n4, hA⟩
      replace hS : Bx base w ((g11, 0) :: [(g10, f0), (g9, f1), (g8, 0), (g7, 0), (g6, 0), (g5, b), (g4, a), (g3, l)]) w1 := ⟨c4, f4, hS⟩
      clear c4 f4 l4 n4 
      clear ρ b'
      have s0 : (w1).cell? ⟨g11, 0, none⟩ = some (.float .f64 0) := (hS.cell 0 (by simp)).1
      have t0 : (w1).frozen? ⟨g11, 0, none⟩ = false := (hS.cell 0 (by simp)).2
      replace hS : Bx base w [(g11, f2), (g10, f0), (g9, f1), (g8, 0), (g7, 0), (g6, 0), (g5, b), (g4, a), (g3, l)] ((w1).setCell ⟨g11, 0, none⟩ (.float .f64 f2)) := hS.set f2 hA 0 (by simp)
      replace hA : Apart base [(g11, f2), (g10, f0), (g9, f1), (g8, 0), (g7, 0), (g6, 0), (g5, b), (g4, a), (g3, l)] := Apart.of_fst (by rfl) hA
      have HS := Lib.hid (And.intro hS hA)
      clear hS hA
      go_upto_region 4 with fail
      clear s0 t0
      generalize World.setCell _ _ _ = W at *
      clear w1
      have c_g10 : W.cell? ⟨g10, 0, none⟩ = some (.float .f64 f0) := (HS.out.1.cell 1 (by simp)).1
      go_wp2_with fail
      refine (Cubed_any f0 p0 f03 Hp0.out Hf03.out _).mono ?_
      rintro e w1 ⟨rfl, hb⟩
      have hS := HS.out.1.keep hb
      have hA := HS.out.2
      clear HS hb c_g10
      replace hA := hA.alloc hS f03
      replace hS := hS.alloc f03 41
      have HS := Lib.hid (And.intro hS hA)
      clear hS hA
      go_upto_region 5 with fail
      generalize World.alloc _ _ = W at *
      generalize w1.heap.size = g12 at *
      clear w1
      have c_g11 : W.cell? ⟨g11, 0, none⟩ = some (.float .f64 f2) := (HS.out.1.cell 1 (by simp)).1
      go_wp2_with fail
      refine (Cubed_any f2 p2 f23 Hp2.out Hf23.out _).mono ?_
      rintro e w1 ⟨rfl, hb⟩
      have hS := HS.out.1.keep hb
      have hA := HS.out.2
      clear HS hb c_g11
      replace hA := hA.alloc hS f23
      replace hS := hS.alloc f23 41
      have HS := Lib.hid (And.intro hS hA)
      clear hS hA
      go_upto_region 6 with fail
      generalize World.alloc _ _ = W at *
      generalize w1.heap.size = g13 at *
      clear w1
      have q0 : (FloatKind.f64.format.order f03 4576259018578689238 == some .gt) = false := Hq0.out
      have c_g12 : W.cell? ⟨g12, 0, none⟩ = some (.float .f64 f03) := (HS.out.1.cell 1 (by simp)).1
      go_wp2_with fail
      refine (Value_any f03 _).mono ?_
      rintro e w1 ⟨rfl, hb⟩
      have hS := HS.out.1.keep hb
      have hA := HS.out.2
      clear HS hb c_g12
      have HS := Lib.hid (And.intro hS hA)
      clear hS hA
      go_upto_region 8 with fail
      generalize w1 = W at *
      clear q0
      have c_g10 : W.cell? ⟨g10, 0, none⟩ = some (.float .f64 f0) := (HS.out.1.cell 3 (by simp)).1
      go_wp2_with fail
      refine (MulConst_any f0 4637863191261478912 u0 Hu0.out _).mono ?_
      rintro e w1 ⟨rfl, hb⟩
      have hS := HS.out.1.keep hb
      have hA := HS.out.2
      clear HS hb c_g10
      have HS := Lib.hid (And.intro hS hA)
      clear hS hA
      go_wp2_with fail
      refine (SubConst_any u0 4625196817309499392 v0 Hv0.out _).mono ?_
      rintro e w2 ⟨rfl, hb⟩
      have hS := HS.out.1.keep hb
      have hA := HS.out.2
      clear HS hb 
      clear w1
      generalize w2 = w1 at *
      have HS := Lib.hid (And.intro hS hA)
      clear hS hA
      go_wp2_with fail
      refine (DivConst_any v0 4651156694067819558 x Hx.out _).mono ?_
      rintro e w2 ⟨rfl, hb⟩
      have hS := HS.out.1.keep hb
      have hA := HS.out.2
      clear HS hb 
      clear w1
      generalize w2 = w1 at *
      have s0 : (w1).cell? ⟨g6, 0, none⟩ = some (.float .f64 0) := (hS.cell 7 (by simp)).1
      have t0 : (w1).frozen? ⟨g6, 0, none⟩ = false := (hS.cell 7 (by simp)).2
      replace hS : Bx base w [(g13, f23), (g12, f03), (g11, f2), (g10, f0), (g9, f1), (g8, 0), (g7, 0), (g6, x), (g5, b), (g4, a), (g3, l)] ((w1).setCell ⟨g6, 0, none⟩ (.float .f64 x)) := hS.set x hA 7 (by simp)
      replace hA : Apart base [(g13, f23), (g12, f03), (g11, f2), (g10, f0), (g9, f1), (g8, 0), (g7, 0), (g6, x), (g5, b), (g4, a), (g3, l)] := Apart.of_fst (by rfl) hA
      have HS := Lib.hid (And.intro hS hA)
      clear hS hA
      go_upto_region 9 with fail
      clear s0 t0
      generalize World.setCell _ _ _ = W at *
      clear w1
      have q1 : (FloatKind.f64.format.order l 4620693217682128896 == some .gt) = false := Hq1.out
      have c_g3 : W.cell? ⟨g3, 0, none⟩ = some (.float .f64 l) := (HS.out.1.cell 10 (by simp)).1
      go_wp2_with fail
      refine (Value_any l _).mono ?_
      rintro e w1 ⟨rfl, hb⟩
      have hS := HS.out.1.keep hb
      have hA := HS.out.2
      clear HS hb c_g3
      have HS := Lib.hid (And.intro hS hA)
      clear hS hA
      go_upto_region 12 with fail
      generalize w1 = W at *
      clear q1
      have c_g3 : W.cell? ⟨g3, 0, none⟩ = some (.float .f64 l) := (HS.out.1.cell 10 (by simp)).1
      go_wp2_with fail
      refine (DivConst_any l 4651156694067819558 y Hy.out _).mono ?_
      rintro e w1 ⟨rfl, hb⟩
      have hS := HS.out.1.keep hb
      have hA := HS.out.2
      clear HS hb c_g3
      have s0 : (w1).cell? ⟨g7, 0, none⟩ = some (.float .f64 0) := (hS.cell 6 (by simp)).1
      have t0 : (w1).frozen? ⟨g7, 0, none⟩ = false := (hS.cell 6 (by simp)).2
      replace hS : Bx base w [(g13, f23), (g12, f03), (g11, f2), (g10, f0), (g9, f1), (g8, 0), (g7, y), (g6, x), (g5, b), (g4, a), (g3, l)] ((w1).setCell ⟨g7, 0, none⟩ (.float .f64 y)) := hS.set y hA 6 (by simp)
      replace hA : Apart base [(g13, f23), (g12, f03), (g11, f2), (g10, f0), (g9, f1), (g8, 0), (g7, y), (g6, x), (g5, b), (g4, a), (g3, l)] := Apart.of_fst (by rfl) hA
      have HS := Lib.hid (And.intro hS hA)
      clear hS hA
      go_upto_region 13 with fail
      clear s0 t0
      generalize World.setCell _ _ _ = W at *
      clear w1
      have q2 : (FloatKind.f64.format.order f23 4576259018578689238 == some .gt) = true := Hq2.out
      have c_g13 : W.cell? ⟨g13, 0, none⟩ = some (.float .f64 f23) := (HS.out.1.cell 0 (by simp)).1
      go_wp2_with fail
      refine (Value_any f23 _).mono ?_
      rintro e w1 ⟨rfl, hb⟩
      have hS := HS.out.1.keep hb
      have hA := HS.out.2
      clear HS hb c_g13
      have HS := Lib.hid (And.intro hS hA)
      clear hS hA
      go_upto_region 14 with fail
      generalize w1 = W at *
      clear q2
      have c_g13 : W.cell? ⟨g13, 0, none⟩ = some (.float .f64 f23) := (HS.out.1.cell 0 (by simp)).1
      have hS := HS.out.1
      have hA := HS.out.2
      clear HS
      generalize W = w1 at *
      have s0 : (w1).cell? ⟨g8, 0, none⟩ = some (.float .f64 0) := (hS.cell 5 (by simp)).1
      have t0 : (w1).frozen? ⟨g8, 0, none⟩ = false := (hS.cell 5 (by simp)).2
      replace hS : Bx base w [(g13, f23), (g12, f03), (g11, f2), (g10, f0), (g9, f1), (g8, f23), (g7, y), (g6, x), (g5, b), (g4, a), (g3, l)] ((w1).setCell ⟨g8, 0, none⟩ (.float .f64 f23)) := hS.set f23 hA 5 (by simp)
      replace hA : Apart base [(g13, f23), (g12, f03), (g11, f2), (g10, f0), (g9, f1), (g8, f23), (g7, y), (g6, x), (g5, b), (g4, a), (g3, l)] := Apart.of_fst (by rfl) hA
      have HS := Lib.hid (And.intro hS hA)
      clear hS hA
      go_upto_region 16 with fail
      clear s0 t0 c_g13
      generalize World.setCell _ _ _ = W at *
      clear w1
      have hA := HS.out.2
      refine Plx.wp_region_planX 8 (by kernel_rfl) (by kernel_rfl) (fun bB aA wW => PI base w [(g13, f23), (g12, f03), (g11, f2), (g10, f0), (g9, f1), (g8, cond (bB 7) Z f23), (g7, cond (bB 6) y y), (g6, cond (bB 5) X x), (g5, b), (g4, a), (g3, l)] [some 55, some 56, some 57, some 58, some 59, none, none, none] [] (fun i => [.agg #[.float .f64 x], .agg #[.float .f64 X], .agg #[.float .f64 y], .agg #[.float .f64 f23], .agg #[.float .f64 Z], .bool false, .bool false, .bool false].getD i (.bool false)) _ bB aA wW ∧ (bB 5 = true → bB 0 = true) ∧ (bB 6 = true → bB 2 = true) ∧ (bB 7 = true → bB 3 = true)) ⟨PI.start HS.out.1, (fun h => by cases h), (fun h => by cases h), (fun h => by cases h)⟩ ?_ ?_
      · intro i o b' a' w' hi ho hb he hI
        rcases (by omega : i = 0 ∨ i = 1 ∨ i = 2 ∨ i = 3 ∨ i = 4 ∨ i = 5 ∨ i = 6 ∨ i = 7) with rfl | rfl | rfl | rfl | rfl | rfl | rfl | rfl
        · obtain rfl := Option.some.inj ho
          have hn : b' 5 = false := by cases hq : b' 5 with | false => rfl | true => (have := hI.2.1 hq; rw [hb] at this; cases this)
          have hc0 := (hI.1.bx.cell 7 (by simp)).1
          have hc1 : w'.cell? ⟨g6, 0, none⟩ = some (.float .f64 x) := by simpa [hn] using hc0
          exact Oper.wp_mono (fun _ _ h => ⟨h, upd_imp hI.2.1 (fun e => absurd e (by decide)), upd_imp hI.2.2.1 (fun e => absurd e (by decide)), upd_imp hI.2.2.2 (fun e => absurd e (by decide))⟩) (hI.1.stepQuiet hb rfl rfl rfl (op_load _ _ _ g6 x _ rfl ((hI.1.old rfl).trans rfl) hc1))
        · obtain rfl := Option.some.inj ho
          have e0 := hI.1.new 0 (edge he 0 (by kernel_rfl)) rfl rfl rfl (by show 55 < 60; decide)
          refine Oper.wp_mono (fun _ _ h => ⟨h, upd_imp hI.2.1 (fun e => absurd e (by decide)), upd_imp hI.2.2.1 (fun e => absurd e (by decide)), upd_imp hI.2.2.2 (fun e => absurd e (by decide))⟩) (hI.1.stepCall hb rfl rfl rfl (op_call _ _ 63 Try.f63 _ _ _ rfl Try.func63 (by kernel_rfl) (by kernel_rfl)) ?_)
          have hm : Array.map a'.eval #[.tmp 55, .const ((Value.float FloatKind.f64 4606860822843362778))] = #[.agg #[.float .f64 x], (Value.float FloatKind.f64 4606860822843362778)] := by simp [e0, ev_const]
          rw [hm]
          exact MulConst_any x 4606860822843362778 X HX.out _
        · obtain rfl := Option.some.inj ho
          have hn : b' 6 = false := by cases hq : b' 6 with | false => rfl | true => (have := hI.2.2.1 hq; rw [hb] at this; cases this)
          have hc0 := (hI.1.bx.cell 6 (by simp)).1
          have hc1 : w'.cell? ⟨g7, 0, none⟩ = some (.float .f64 y) := by simpa [hn] using hc0
          exact Oper.wp_mono (fun _ _ h => ⟨h, upd_imp hI.2.1 (fun e => absurd e (by decide)), upd_imp hI.2.2.1 (fun e => absurd e (by decide)), upd_imp hI.2.2.2 (fun e => absurd e (by decide))⟩) (hI.1.stepQuiet hb rfl rfl rfl (op_load _ _ _ g7 y _ rfl ((hI.1.old rfl).trans rfl) hc1))
        · obtain rfl := Option.some.inj ho
          have hn : b' 7 = false := by cases hq : b' 7 with | false => rfl | true => (have := hI.2.2.2 hq; rw [hb] at this; cases this)
          have hc0 := (hI.1.bx.cell 5 (by simp)).1
          have hc1 : w'.cell? ⟨g8, 0, none⟩ = some (.float .f64 f23) := by simpa [hn] using hc0
          exact Oper.wp_mono (fun _ _ h => ⟨h, upd_imp hI.2.1 (fun e => absurd e (by decide)), upd_imp hI.2.2.1 (fun e => absurd e (by decide)), upd_imp hI.2.2.2 (fun e => absurd e (by decide))⟩) (hI.1.stepQuiet hb rfl rfl rfl (op_load _ _ _ g8 f23 _ rfl ((hI.1.old rfl).trans rfl) hc1))
        · obtain rfl := Option.some.inj ho
          have e0 := hI.1.new 3 (edge he 3 (by kernel_rfl)) rfl rfl rfl (by show 58 < 60; decide)
          refine Oper.wp_mono (fun _ _ h => ⟨h, upd_imp hI.2.1 (fun e => absurd e (by decide)), upd_imp hI.2.2.1 (fun e => absurd e (by decide)), upd_imp hI.2.2.2 (fun e => absurd e (by decide))⟩) (hI.1.stepCall hb rfl rfl rfl (op_call _ _ 63 Try.f63 _ _ _ rfl Try.func63 (by kernel_rfl) (by kernel_rfl)) ?_)
          have hm : Array.map a'.eval #[.tmp 58, .const ((Value.float FloatKind.f64 4605607101106091996))] = #[.agg #[.float .f64 f23], (Value.float FloatKind.f64 4605607101106091996)] := by simp [e0, ev_const]
          rw [hm]
          exact MulConst_any f23 4605607101106091996 Z HZ.out _
        · obtain rfl := Option.some.inj ho
          have e0 := hI.1.new 1 (edge he 1 (by kernel_rfl)) rfl rfl rfl (by show 56 < 60; decide)
          have hap : Apart base [(g13, f23), (g12, f03), (g11, f2), (g10, f0), (g9, f1), (g8, cond (b' 7) Z f23), (g7, cond (b' 6) y y), (g6, cond (b' 5) X x), (g5, b), (g4, a), (g3, l)] := Apart.of_fst (by rfl) hA
          exact Oper.wp_mono (fun _ _ h => ⟨h, upd_imp hI.2.1 (fun e => edge he 0 (by kernel_rfl)), upd_imp hI.2.2.1 (fun e => absurd e (by decide)), upd_imp hI.2.2.2 (fun e => absurd e (by decide))⟩) (hI.1.stepStore (P := Try.prog) (k := 7) (y := X) hb rfl rfl rfl rfl hap (by simp) (op_store _ _ _ _ g6 X _ _ rfl ((hI.1.old (t := 6) rfl).trans rfl) e0 (hI.1.bx.cell 7 (by simp)).1 (hI.1.bx.cell 7 (by simp)).2))
        · obtain rfl := Option.some.inj ho
          have e0 := hI.1.new 2 (edge he 2 (by kernel_rfl)) rfl rfl rfl (by show 57 < 60; decide)
          have hap : Apart base [(g13, f23), (g12, f03), (g11, f2), (g10, f0), (g9, f1), (g8, cond (b' 7) Z f23), (g7, cond (b' 6) y y), (g6, cond (b' 5) X x), (g5, b), (g4, a), (g3, l)] := Apart.of_fst (by rfl) hA
          exact Oper.wp_mono (fun _ _ h => ⟨h, upd_imp hI.2.1 (fun e => absurd e (by decide)), upd_imp hI.2.2.1 (fun e => edge he 2 (by kernel_rfl)), upd_imp hI.2.2.2 (fun e => absurd e (by decide))⟩) (hI.1.stepStore (P := Try.prog) (k := 6) (y := y) hb rfl rfl rfl rfl hap (by simp) (op_store _ _ _ _ g7 y _ _ rfl ((hI.1.old (t := 7) rfl).trans rfl) e0 (hI.1.bx.cell 6 (by simp)).1 (hI.1.bx.cell 6 (by simp)).2))
        · obtain rfl := Option.some.inj ho
          have e0 := hI.1.new 4 (edge he 4 (by kernel_rfl)) rfl rfl rfl (by show 59 < 60; decide)
          have hap : Apart base [(g13, f23), (g12, f03), (g11, f2), (g10, f0), (g9, f1), (g8, cond (b' 7) Z f23), (g7, cond (b' 6) y y), (g6, cond (b' 5) X x), (g5, b), (g4, a), (g3, l)] := Apart.of_fst (by rfl) hA
          exact Oper.wp_mono (fun _ _ h => ⟨h, upd_imp hI.2.1 (fun e => absurd e (by decide)), upd_imp hI.2.2.1 (fun e => absurd e (by decide)), upd_imp hI.2.2.2 (fun e => edge he 3 (by kernel_rfl))⟩) (hI.1.stepStore (P := Try.prog) (k := 5) (y := Z) hb rfl rfl rfl rfl hap (by simp) (op_store _ _ _ _ g8 Z _ _ rfl ((hI.1.old (t := 8) rfl).trans rfl) e0 (hI.1.bx.cell 5 (by simp)).1 (hI.1.bx.cell 5 (by simp)).2))
      · intro b' a' w1 hb hI
        obtain ⟨⟨ρ, rfl, hS, -, -⟩, -, -, -⟩ := hI
        have p0 := hb 0 (by decide)
        have p1 := hb 1 (by decide)
        have p2 := hb 2 (by decide)
        have p3 := hb 3 (by decide)
        have p4 := hb 4 (by decide)
        have p5 := hb 5 (by decide)
        have p6 := hb 6 (by decide)
        have p7 := hb 7 (by decide)
        have v0 : vals [] (fun i => [.agg #[.float .f64 x], .agg #[.float .f64 X], .agg #[.float .f64 y], .agg #[.float .f64 f23], .agg #[.float .f64 Z], .bool false, .bool false, .bool false].getD i (.bool false)) ρ 0 = .agg #[.float .f64 x] := rfl
        have v1 : vals [] (fun i => [.agg #[.float .f64 x], .agg #[.float .f64 X], .agg #[.float .f64 y], .agg #[.float .f64 f23], .agg #[.float .f64 Z], .bool false, .bool false, .bool false].getD i (.bool false)) ρ 1 = .agg #[.float .f64 X] := rfl
        have v2 : vals [] (fun i => [.agg #[.float .f64 x], .agg #[.float .f64 X], .agg #[.float .f64 y], .agg #[.float .f64 f23], .agg #[.float .f64 Z], .bool false, .bool false, .bool false].getD i (.bool false)) ρ 2 = .agg #[.float .f64 y] := rfl
        have v3 : vals [] (fun i => [.agg #[.float .f64 x], .agg #[.float .f64 X], .agg #[.float .f64 y], .agg #[.float .f64 f23], .agg #[.float .f64 Z], .bool false, .bool false, .bool false].getD i (.bool false)) ρ 3 = .agg #[.float .f64 f23] := rfl
        have v4 : vals [] (fun i => [.agg #[.float .f64 x], .agg #[.float .f64 X], .agg #[.float .f64 y], .agg #[.float .f64 f23], .agg #[.float .f64 Z], .bool false, .bool false, .bool false].getD i (.bool false)) ρ 4 = .agg #[.float .f64 Z] := rfl
        have v5 : vals [] (fun i => [.agg #[.float .f64 x], .agg #[.float .f64 X], .agg #[.float .f64 y], .agg #[.float .f64 f23], .agg #[.float .f64 Z], .bool false, .bool false, .bool false].getD i (.bool false)) ρ 5 = .bool false := rfl
        have v6 : vals [] (fun i => [.agg #[.float .f64 x], .agg #[.float .f64 X], .agg #[.float .f64 y], .agg #[.float .f64 f23], .agg #[.float .f64 Z], .bool false, .bool false, .bool false].getD i (.bool false)) ρ 6 = .bool false := rfl
        have v7 : vals [] (fun i => [.agg #[.float .f64 x], .agg #[.float .f64 X], .agg #[.float .f64 y], .agg #[.float .f64 f23], .agg #[.float .f64 Z], .bool false, .bool false, .bool false].getD i (.bool false)) ρ 7 = .bool false := rfl
        simp only [p5, p6, p7, cond_true] at hS
        simp only [puts, Nat.zero_add, p0, p1, p2, p3, p4, p5, p6, p7, v0, v1, v2, v3, v4, v5, v6, v7, if_true, List.drop_succ_cons, List.drop_zero, Nat.reduceAdd]
        have HS2 := Lib.hid (And.intro hS (show Apart base [(g13, f23), (g12, f03), (g11, f2), (g10, f0), (g9, f1), (g8, Z), (g7, y), (g6, X), (g5, b), (g4, a), (g3, l)] from Apart.of_fst (by rfl) hA))
        clear HS hS hA hb p0 p1 p2 p3 p4 p5 p6 p7 v0 v1 v2 v3 v4 v5 v6 v7
        have HS := HS2
        clear HS2 ρ b'
        clear W
        generalize w1 = W at *
        go_wp2_with fail
        have c_g6 : W.cell? ⟨g6, 0, none⟩ = some (.float .f64 X) := (HS.out.1.cell 7 (by simp)).1
        have c_g7 : W.cell? ⟨g7, 0, none⟩ = some (.float .f64 y) := (HS.out.1.cell 6 (by simp)).1
        have c_g8 : W.cell? ⟨g8, 0, none⟩ = some (.float .f64 Z) := (HS.out.1.cell 5 (by simp)).1
        refine bodyPost_ret (v := .tuple #[.agg #[.float .f64 X], .agg #[.float .f64 y], .agg #[.float .f64 Z]]) (by simp [results, Try.results46, go_sem, c_g6, c_g7, c_g8]) rfl ⟨rfl, HS.out.1.below.2⟩
set_option maxRecDepth 100000 in
set_option maxHeartbeats 4000000 in
theorem lx_fff (l a b s1 f1 da f0 db f2 p0 f03 p2 f23 u0 v0 x y u2 v2 z X Z base : Nat) (w : World) (H : Hid (base = w.heap.size)) (Hs1 : Hid (Ieee.double.add l 4625196817309499392 = some s1)) (Hf1 : Hid (Ieee.double.div s1 4637863191261478912 = some f1)) (Hda : Hid (Ieee.double.div a 4647503709213818880 = some da)) (Hf0 : Hid (Ieee.double.add da f1 = some f0)) (Hdb : Hid (Ieee.double.div b 4641240890982006784 = some db)) (Hf2 : Hid (Ieee.double.sub f1 db = some f2)) (Hp0 : Hid (Ieee.double.mul f0 f0 = some p0)) (Hf03 : Hid (Ieee.double.mul p0 f0 = some f03)) (Hp2 : Hid (Ieee.double.mul f2 f2 = some p2)) (Hf23 : Hid (Ieee.double.mul p2 f2 = some f23)) (Hq0 : Hid (gtB f03 4576259018578689238 = false)) (Hu0 : Hid (Ieee.double.mul f0 4637863191261478912 = some u0)) (Hv0 : Hid (Ieee.double.sub u0 4625196817309499392 = some v0)) (Hx : Hid (Ieee.double.div v0 4651156694067819558 = some x)) (Hq1 : Hid (gtB l 4620693217682128896 = false)) (Hy : Hid (Ieee.double.div l 4651156694067819558 = some y)) (Hq2 : Hid (gtB f23 4576259018578689238 = false)) (Hu2 : Hid (Ieee.double.mul f2 4637863191261478912 = some u2)) (Hv2 : Hid (Ieee.double.sub u2 4625196817309499392 = some v2)) (Hz : Hid (Ieee.double.div v2 4651156694067819558 = some z)) (HX : Hid (Ieee.double.mul x 4606860822843362778 = some X)) (HZ : Hid (Ieee.double.mul z 4605607101106091996 = some Z)) :
    Calls Try.prog 46 #[.agg #[.float .f64 l], .agg #[.float .f64 a], .agg #[.float .f64 b]] w fun e w' => e = .returned (.tuple #[.agg #[.float .f64 X], .agg #[.float .f64 y], .agg #[.float .f64 Z]]) ∧ Below base w w' := by
  go_enter Try.func46, Try.ntmps46
  go_upto_region 1 with fail
  generalize hW : World.alloc _ _ = W at *
  have hS : Bx base w [(w.heap.size + 1 + 1 + 1 + 1 + 1, 0), (w.heap.size + 1 + 1 + 1 + 1, 0), (w.heap.size + 1 + 1 + 1, 0), (w.heap.size + 1 + 1, b), (w.heap.size + 1, a), (w.heap.size, l)] W := by
    subst hW
    have := (((((((Bx.start w).alloc l 41).alloc a 41).alloc b 41).alloc 0 41).alloc 0 41).alloc 0 41)
    rw [H.out]
    simpa using this
  have hA : Apart base [(w.heap.size + 1 + 1 + 1 + 1 + 1, 0), (w.heap.size + 1 + 1 + 1 + 1, 0), (w.heap.size + 1 + 1 + 1, 0), (w.heap.size + 1 + 1, b), (w.heap.size + 1, a), (w.heap.size, l)] := by
    rw [H.out]
    simp [Apart]; try omega
  have HS := Lib.hid (And.intro hS hA)
  clear hS hA hW H
  generalize w.heap.size + 1 + 1 + 1 + 1 + 1 = g8 at *
  generalize w.heap.size + 1 + 1 + 1 + 1 = g7 at *
  generalize w.heap.size + 1 + 1 + 1 = g6 at *
  generalize w.heap.size + 1 + 1 = g5 at *
  generalize w.heap.size + 1 = g4 at *
  generalize hgg : w.heap.size = g3 at *
  clear hgg
  have c_g3 : W.cell? ⟨g3, 0, none⟩ = some (.float .f64 l) := (HS.out.1.cell 5 (by simp)).1
  go_wp2_with fail
  refine (AddConst_any l 4625196817309499392 s1 Hs1.out _).mono ?_
  rintro e w1 ⟨rfl, hb⟩
  have hS := HS.out.1.keep hb
  have hA := HS.out.2
  clear HS hb c_g3
  have HS := Lib.hid (And.intro hS hA)
  clear hS hA
  go_wp2_with fail
  refine (DivConst_any s1 4637863191261478912 f1 Hf1.out _).mono ?_
  rintro e w2 ⟨rfl, hb⟩
  have hS := HS.out.1.keep hb
  have hA := HS.out.2
  clear HS hb 
  clear w1
  generalize w2 = w1 at *
  replace hA := hA.alloc hS f1
  replace hS := hS.alloc f1 41
  have HS := Lib.hid (And.intro hS hA)
  clear hS hA
  go_upto_region 2 with fail
  generalize World.alloc _ _ = W at *
  generalize w1.heap.size = g9 at *
  clear w1
  refine wp_region_plan 5 (by kernel_rfl) (by kernel_rfl) (PI base w [(g9, f1), (g8, 0), (g7, 0), (g6, 0), (g5, b), (g4, a), (g3, l)] [some 17, some 18, some 19, some 20, some 10] [4] (fun i => [.agg #[.float .f64 a], .agg #[.float .f64 da], .agg #[.float .f64 f1], .agg #[.float .f64 f0], .bool false].getD i (.bool false)) _) (PI.start HS.out.1) ?_ ?_
  · intro i o b' a' w' hi ho hb he hI
    rcases (by omega : i = 0 ∨ i = 1 ∨ i = 2 ∨ i = 3 ∨ i = 4) with rfl | rfl | rfl | rfl | rfl
    · obtain rfl := Option.some.inj ho
      exact hI.stepQuiet hb rfl rfl rfl (op_load _ _ _ g4 a _ rfl ((hI.old rfl).trans rfl) (hI.bx.cell 5 (by simp)).1)
    · obtain rfl := Option.some.inj ho
      have e0 := hI.new 0 (edge he 0 (by kernel_rfl)) rfl rfl rfl (by show 17 < 60; decide)
      refine hI.stepCall hb rfl rfl rfl (op_call _ _ 58 Try.f58 _ _ _ rfl Try.func58 (by kernel_rfl) (by kernel_rfl)) ?_
      have hm : Array.map a'.eval #[.tmp 17, .const ((Value.float FloatKind.f64 4647503709213818880))] = #[.agg #[.float .f64 a], (Value.float FloatKind.f64 4647503709213818880)] := by simp [e0, ev_const]
      rw [hm]
      exact DivConst_any a 4647503709213818880 da Hda.out _
    · obtain rfl := Option.some.inj ho
      exact hI.stepQuiet hb rfl rfl rfl (op_load _ _ _ g9 f1 _ rfl ((hI.old rfl).trans rfl) (hI.bx.cell 0 (by simp)).1)
    · obtain rfl := Option.some.inj ho
      have e0 := hI.new 1 (edge he 1 (by kernel_rfl)) rfl rfl rfl (by show 18 < 60; decide)
      have e1 := hI.new 2 (edge he 2 (by kernel_rfl)) rfl rfl rfl (by show 19 < 60; decide)
      refine hI.stepCall hb rfl rfl rfl (op_call _ _ 61 Try.f61 _ _ _ rfl Try.func61 (by kernel_rfl) (by kernel_rfl)) ?_
      have hm : Array.map a'.eval #[.tmp 18, .tmp 19] = #[.agg #[.float .f64 da], .agg #[.float .f64 f1]] := by simp [e0, e1]
      rw [hm]
      exact Add_any da f1 f0 Hf0.out _
    · obtain rfl := Option.some.inj ho
      exact hI.stepAlloc 41 hb rfl rfl rfl rfl (op_alloc _ _ _ rfl)
  · intro b' a' w1 hb hI
    obtain ⟨ρ, rfl, hS, hC, hN⟩ := hI
    have hA := HS.out.2
    clear HS
    have p0 := hb 0 (by decide)
    have p1 := hb 1 (by decide)
    have p2 := hb 2 (by decide)
    have p3 := hb 3 (by decide)
    have p4 := hb 4 (by decide)
    obtain ⟨c4, f4, l4, n4⟩ := hC 4 (by simp) p4
    have v0 : vals [4] (fun i => [.agg #[.float .f64 a], .agg #[.float .f64 da], .agg #[.float .f64 f1], .agg #[.float .f64 f0], .bool false].getD i (.bool false)) ρ 0 = .agg #[.float .f64 a] := rfl
    have v1 : vals [4] (fun i => [.agg #[.float .f64 a], .agg #[.float .f64 da], .agg #[.float .f64 f1], .agg #[.float .f64 f0], .bool false].getD i (.bool false)) ρ 1 = .agg #[.float .f64 da] := rfl
    have v2 : vals [4] (fun i => [.agg #[.float .f64 a], .agg #[.float .f64 da], .agg #[.float .f64 f1], .agg #[.float .f64 f0], .bool false].getD i (.bool false)) ρ 2 = .agg #[.float .f64 f1] := rfl
    have v3 : vals [4] (fun i => [.agg #[.float .f64 a], .agg #[.float .f64 da], .agg #[.float .f64 f1], .agg #[.float .f64 f0], .bool false].getD i (.bool false)) ρ 3 = .agg #[.float .f64 f0] := rfl
    have v4 : vals [4] (fun i => [.agg #[.float .f64 a], .agg #[.float .f64 da], .agg #[.float .f64 f1], .agg #[.float .f64 f0], .bool false].getD i (.bool false)) ρ 4 = .pointer (some ⟨(ρ 4), 0, none⟩) := rfl
    simp only [puts, Nat.zero_add, p0, p1, p2, p3, p4, v0, v1, v2, v3, v4, if_true, List.drop_succ_cons, List.drop_zero, Nat.reduceAdd]
    clear hb hC hN p0 p1 p2 p3 p4 v0 v1 v2 v3 v4
    generalize ρ 4 = g10 at *
    replace hA : Apart base ((g10, 0) :: [(g9, f1), (g8, 0), (g7, 0), (g6, 0), (g5, b), (g4, a), (g3, l)]) := ⟨l4, n4, hA⟩
    replace hS : Bx base w ((g10, 0) :: [(g9, f1), (g8, 0), (g7, 0), (g6, 0), (g5, b), (g4, a), (g3, l)]) w1 := ⟨c4, f4, hS⟩
    clear c4 f4 l4 n4 
    clear ρ b'
    have s0 : (w1).cell? ⟨g10, 0, none⟩ = some (.float .f64 0) := (hS.cell 0 (by simp)).1
    have t0 : (w1).frozen? ⟨g10, 0, none⟩ = false := (hS.cell 0 (by simp)).2
    replace hS : Bx base w [(g10, f0), (g9, f1), (g8, 0), (g7, 0), (g6, 0), (g5, b), (g4, a), (g3, l)] ((w1).setCell ⟨g10, 0, none⟩ (.float .f64 f0)) := hS.set f0 hA 0 (by simp)
    replace hA : Apart base [(g10, f0), (g9, f1), (g8, 0), (g7, 0), (g6, 0), (g5, b), (g4, a), (g3, l)] := Apart.of_fst (by rfl) hA
    have HS := Lib.hid (And.intro hS hA)
    clear hS hA
    go_upto_region 3 with fail
    clear s0 t0
    generalize World.setCell _ _ _ = W at *
    clear w1
    refine wp_region_plan 5 (by kernel_rfl) (by kernel_rfl) (PI base w [(g10, f0), (g9, f1), (g8, 0), (g7, 0), (g6, 0), (g5, b), (g4, a), (g3, l)] [some 21, some 22, some 23, some 24, some 11] [4] (fun i => [.agg #[.float .f64 f1], .agg #[.float .f64 b], .agg #[.float .f64 db], .agg #[.float .f64 f2], .bool false].getD i (.bool false)) _) (PI.start HS.out.1) ?_ ?_
    · intro i o b' a' w' hi ho hb he hI
      rcases (by omega : i = 0 ∨ i = 1 ∨ i = 2 ∨ i = 3 ∨ i = 4) with rfl | rfl | rfl | rfl | rfl
      · obtain rfl := Option.some.inj ho
        exact hI.stepQuiet hb rfl rfl rfl (op_load _ _ _ g9 f1 _ rfl ((hI.old rfl).trans rfl) (hI.bx.cell 1 (by simp)).1)
      · obtain rfl := Option.some.inj ho
        exact hI.stepQuiet hb rfl rfl rfl (op_load _ _ _ g5 b _ rfl ((hI.old rfl).trans rfl) (hI.bx.cell 5 (by simp)).1)
      · obtain rfl := Option.some.inj ho
        have e0 := hI.new 1 (edge he 1 (by kernel_rfl)) rfl rfl rfl (by show 22 < 60; decide)
        refine hI.stepCall hb rfl rfl rfl (op_call _ _ 58 Try.f58 _ _ _ rfl Try.func58 (by kernel_rfl) (by kernel_rfl)) ?_
        have hm : Array.map a'.eval #[.tmp 22, .const ((Value.float FloatKind.f64 4641240890982006784))] = #[.agg #[.float .f64 b], (Value.float FloatKind.f64 4641240890982006784)] := by simp [e0, ev_const]
        rw [hm]
        exact DivConst_any b 4641240890982006784 db Hdb.out _
      · obtain rfl := Option.some.inj ho
        have e0 := hI.new 0 (edge he 0 (by kernel_rfl)) rfl rfl rfl (by show 21 < 60; decide)
        have e1 := hI.new 2 (edge he 2 (by kernel_rfl)) rfl rfl rfl (by show 23 < 60; decide)
        refine hI.stepCall hb rfl rfl rfl (op_call _ _ 62 Try.f62 _ _ _ rfl Try.func62 (by kernel_rfl) (by kernel_rfl)) ?_
        have hm : Array.map a'.eval #[.tmp 21, .tmp 23] = #[.agg #[.float .f64 f1], .agg #[.float .f64 db]] := by simp [e0, e1]
        rw [hm]
        exact Sub_any f1 db f2 Hf2.out _
      · obtain rfl := Option.some.inj ho
        exact hI.stepAlloc 41 hb rfl rfl rfl rfl (op_alloc _ _ _ rfl)
    · intro b' a' w1 hb hI
      obtain ⟨ρ, rfl, hS, hC, hN⟩ := hI
      have hA := HS.out.2
      clear HS
      have p0 := hb 0 (by decide)
      have p1 := hb 1 (by decide)
      have p2 := hb 2 (by decide)
      have p3 := hb 3 (by decide)
      have p4 := hb 4 (by decide)
      obtain ⟨c4, f4, l4, n4⟩ := hC 4 (by simp) p4
      have v0 : vals [4] (fun i => [.agg #[.float .f64 f1], .agg #[.float .f64 b], .agg #[.float .f64 db], .agg #[.float .f64 f2], .bool false].getD i (.bool false)) ρ 0 = .agg #[.float .f64 f1] := rfl
      have v1 : vals [4] (fun i => [.agg #[.float .f64 f1], .agg #[.float .f64 b], .agg #[.float .f64 db], .agg #[.float .f64 f2], .bool false].getD i (.bool false)) ρ 1 = .agg #[.float .f64 b] := rfl
      have v2 : vals [4] (fun i => [.agg #[.float .f64 f1], .agg #[.float .f64 b], .agg #[.float .f64 db], .agg #[.float .f64 f2], .bool false].getD i (.bool false)) ρ 2 = .agg #[.float .f64 db] := rfl
      have v3 : vals [4] (fun i => [.agg #[.float .f64 f1], .agg #[.float .f64 b], .agg #[.float .f64 db], .agg #[.float .f64 f2], .bool false].getD i (.bool false)) ρ 3 = .agg #[.float .f64 f2] := rfl
      have v4 : vals [4] (fun i => [.agg #[.float .f64 f1], .agg #[.float .f64 b], .agg #[.float .f64 db], .agg #[.float .f64 f2], .bool false].getD i (.bool false)) ρ 4 = .pointer (some ⟨(ρ 4), 0, none⟩) := rfl
      simp only [puts, Nat.zero_add, p0, p1, p2, p3, p4, v0, v1, v2, v3, v4, if_true, List.drop_succ_cons, List.drop_zero, Nat.reduceAdd]
      clear hb hC hN p0 p1 p2 p3 p4 v0 v1 v2 v3 v4
      generalize ρ 4 = g11 at *
      replace hA : Apart base ((g11, 0) :: [(g10, f0), (g9, f1), (g8, 0), (g7, 0), (g6, 0), (g5, b), (g4, a), (g3, l)]) := ⟨l4, n4, hA⟩
      replace hS : Bx base w ((g11, 0) :: [(g10, f0), (g9, f1), (g8, 0), (g7, 0), (g6, 0), (g5, b), (g4, a), (g3, l)]) w1 := ⟨c4, f4, hS⟩
      clear c4 f4 l4 n4 
      clear ρ b'
      have s0 : (w1).cell? ⟨g11, 0, none⟩ = some (.float .f64 0) := (hS.cell 0 (by simp)).1
      have t0 : (w1).frozen? ⟨g11, 0, none⟩ = false := (hS.cell 0 (by simp)).2
      replace hS : Bx base w [(g11, f2), (g10, f0), (g9, f1), (g8, 0), (g7, 0), (g6, 0), (g5, b), (g4, a), (g3, l)] ((w1).setCell ⟨g11, 0, none⟩ (.float .f64 f2)) := hS.set f2 hA 0 (by simp)
      replace hA : Apart base [(g11, f2), (g10, f0), (g9, f1), (g8, 0), (g7, 0), (g6, 0), (g5, b), (g4, a), (g3, l)] := Apart.of_fst (by rfl) hA
      have HS := Lib.hid (And.intro hS hA)
      clear hS hA
      go_upto_region 4 with fail
      clear s0 t0
      generalize World.setCell _ _ _ = W at *
      clear w1
      have c_g10 : W.cell? ⟨g10, 0, none⟩ = some (.float .f64 f0) := (HS.out.1.cell 1 (by simp)).1
      go_wp2_with fail
      refine (Cubed_any f0 p0 f03 Hp0.out Hf03.out _).mono ?_
      rintro e w1 ⟨rfl, hb⟩
      have hS := HS.out.1.keep hb
      have hA := HS.out.2
      clear HS hb c_g10
      replace hA := hA.alloc hS f03
      replace hS := hS.alloc f03 41
      have HS := Lib.hid (And.intro hS hA)
      clear hS hA
      go_upto_region 5 with fail
      generalize World.alloc _ _ = W at *
      generalize w1.heap.size = g12 at *
      clear w1
      have c_g11 : W.cell? ⟨g11, 0, none⟩ = some (.float .f64 f2) := (HS.out.1.cell 1 (by simp)).1
      go_wp2_with fail
      refine (Cubed_any f2 p2 f23 Hp2.out Hf23.out _).mono ?_
      rintro e w1 ⟨rfl, hb⟩
      have hS := HS.out.1.keep hb
      have hA := HS.out.2
      clear HS hb c_g11
      replace hA := hA.alloc hS f23
      replace hS := hS.alloc f23 41
      have HS := Lib.hid (And.intro hS hA)
      clear hS hA
      go_upto_region 6 with fail
      generalize World.alloc _ _ = W at *
      generalize w1.heap.size = g13 at *
      clear w1
      have q0 : (FloatKind.f64.format.order f03 4576259018578689238 == some .gt) = false := Hq0.out
      have c_g12 : W.cell? ⟨g12, 0, none⟩ = some (.float .f64 f03) := (HS.out.1.cell 1 (by simp)).1
      go_wp2_with fail
      refine (Value_any f03 _).mono ?_
      rintro e w1 ⟨rfl, hb⟩
      have hS := HS.out.1.keep hb
      have hA := HS.out.2
      clear HS hb c_g12
      have HS := Lib.hid (And.intro hS hA)
      clear hS hA
      go_upto_region 8 with fail
      generalize w1 = W at *
      clear q0
      have c_g10 : W.cell? ⟨g10, 0, none⟩ = some (.float .f64 f0) := (HS.out.1.cell 3 (by simp)).1
      go_wp2_with fail
      refine (MulConst_any f0 4637863191261478912 u0 Hu0.out _).mono ?_
      rintro e w1 ⟨rfl, hb⟩
      have hS := HS.out.1.keep hb
      have hA := HS.out.2
      clear HS hb c_g10
      have HS := Lib.hid (And.intro hS hA)
      clear hS hA
      go_wp2_with fail
      refine (SubConst_any u0 4625196817309499392 v0 Hv0.out _).mono ?_
      rintro e w2 ⟨rfl, hb⟩
      have hS := HS.out.1.keep hb
      have hA := HS.out.2
      clear HS hb 
      clear w1
      generalize w2 = w1 at *
      have HS := Lib.hid (And.intro hS hA)
      clear hS hA
      go_wp2_with fail
      refine (DivConst_any v0 4651156694067819558 x Hx.out _).mono ?_
      rintro e w2 ⟨rfl, hb⟩
      have hS := HS.out.1.keep hb
      have hA := HS.out.2
      clear HS hb 
      clear w1
      generalize w2 = w1 at *
      have s0 : (w1).cell? ⟨g6, 0, none⟩ = some (.float .f64 0) := (hS.cell 7 (by simp)).1
      have t0 : (w1).frozen? ⟨g6, 0, none⟩ = false := (hS.cell 7 (by simp)).2
      replace hS : Bx base w [(g13, f23), (g12, f03), (g11, f2), (g10, f0), (g9, f1), (g8, 0), (g7, 0), (g6, x), (g5, b), (g4, a), (g3, l)] ((w1).setCell ⟨g6, 0, none⟩ (.float .f64 x)) := hS.set x hA 7 (by simp)
      replace hA : Apart base [(g13, f23), (g12, f03), (g11, f2), (g10, f0), (g9, f1), (g8, 0), (g7, 0), (g6, x), (g5, b), (g4, a), (g3, l)] := Apart.of_fst (by rfl) hA
      have HS := Lib.hid (And.intro hS hA)
      clear hS hA
      go_upto_region 9 with fail
      clear s0 t0
      generalize World.setCell _ _ _ = W at *
      clear w1
      have q1 : (FloatKind.f64.format.order l 4620693217682128896 == some .gt) = false := Hq1.out
      have c_g3 : W.cell? ⟨g3, 0, none⟩ = some (.float .f64 l) := (HS.out.1.cell 10 (by simp)).1
      go_wp2_with fail
      refine (Value_any l _).mono ?_
      rintro e w1 ⟨rfl, hb⟩
      have hS := HS.out.1.keep hb
      have hA := HS.out.2
      clear HS hb c_g3
      have HS := Lib.hid (And.intro hS hA)
      clear hS hA
      go_upto_region 12 with fail
      generalize w1 = W at *
      clear q1
      have c_g3 : W.cell? ⟨g3, 0, none⟩ = some (.float .f64 l) := (HS.out.1.cell 10 (by simp)).1
      go_wp2_with fail
      refine (DivConst_any l 4651156694067819558 y Hy.out _).mono ?_
      rintro e w1 ⟨rfl, hb⟩
      have hS := HS.out.1.keep hb
      have hA := HS.out.2
      clear HS hb c_g3
      have s0 : (w1).cell? ⟨g7, 0, none⟩ = some (.float .f64 0) := (hS.cell 6 (by simp)).1
      have t0 : (w1).frozen? ⟨g7, 0, none⟩ = false := (hS.cell 6 (by simp)).2
      replace hS : Bx base w [(g13, f23), (g12, f03), (g11, f2), (g10, f0), (g9, f1), (g8, 0), (g7, y), (g6, x), (g5, b), (g4, a), (g3, l)] ((w1).setCell ⟨g7, 0, none⟩ (.float .f64 y)) := hS.set y hA 6 (by simp)
      replace hA : Apart base [(g13, f23), (g12, f03), (g11, f2), (g10, f0), (g9, f1), (g8, 0), (g7, y), (g6, x), (g5, b), (g4, a), (g3, l)] := Apart.of_fst (by rfl) hA
      have HS := Lib.hid (And.intro hS hA)
      clear hS hA
      go_upto_region 13 with fail
      clear s0 t0
      generalize World.setCell _ _ _ = W at *
      clear w1
      have q2 : (FloatKind.f64.format.order f23 4576259018578689238 == some .gt) = false := Hq2.out
      have c_g13 : W.cell? ⟨g13, 0, none⟩ = some (.float .f64 f23) := (HS.out.1.cell 0 (by simp)).1
      go_wp2_with fail
      refine (Value_any f23 _).mono ?_
      rintro e w1 ⟨rfl, hb⟩
      have hS := HS.out.1.keep hb
      have hA := HS.out.2
      clear HS hb c_g13
      have HS := Lib.hid (And.intro hS hA)
      clear hS hA
      go_upto_region 15 with fail
      generalize w1 = W at *
      clear q2
      have c_g11 : W.cell? ⟨g11, 0, none⟩ = some (.float .f64 f2) := (HS.out.1.cell 2 (by simp)).1
      go_wp2_with fail
      refine (MulConst_any f2 4637863191261478912 u2 Hu2.out _).mono ?_
      rintro e w1 ⟨rfl, hb⟩
      have hS := HS.out.1.keep hb
      have hA := HS.out.2
      clear HS hb c_g11
      have HS := Lib.hid (And.intro hS hA)
      clear hS hA
      go_wp2_with fail
      refine (SubConst_any u2 4625196817309499392 v2 Hv2.out _).mono ?_
      rintro e w2 ⟨rfl, hb⟩
      have hS := HS.out.1.keep hb
      have hA := HS.out.2
      clear HS hb 
      clear w1
      generalize w2 = w1 at *
      have HS := Lib.hid (And.intro hS hA)
      clear hS hA
      go_wp2_with fail
      refine (DivConst_any v2 4651156694067819558 z Hz.out _).mono ?_
      rintro e w2 ⟨rfl, hb⟩
      have hS := HS.out.1.keep hb
      have hA := HS.out.2
      clear HS hb 
      clear w1
      generalize w2 = w1 at *
      have s0 : (w1).cell? ⟨g8, 0, none⟩ = some (.float .f64 0) := (hS.cell 5 (by simp)).1
      have t0 : (w1).frozen? ⟨g8, 0, none⟩ = false := (hS.cell 5 (by simp)).2
      replace hS : Bx base w [(g13, f23), (g12, f03), (g11, f2), (g10, f0), (g9, f1), (g8, z), (g7, y), (g6, x), (g5, b), (g4, a), (g3, l)] ((w1).setCell ⟨g8, 0, none⟩ (.float .f64 z)) := hS.set z hA 5 (by simp)
      replace hA : Apart base [(g13, f23), (g12, f03), (g11, f2), (g10, f0), (g9, f1), (g8, z), (g7, y), (g6, x), (g5, b), (g4, a), (g3, l)] := Apart.of_fst (by rfl) hA
      have HS := Lib.hid (And.intro hS hA)
      clear hS hA
      go_upto_region 16 with fail
      clear s0 t0
      generalize World.setCell _ _ _ = W at *
      clear w1
      have hA := HS.out.2
      refine Plx.wp_region_planX 8 (by kernel_rfl) (by kernel_rfl) (fun bB aA wW => PI base w [(g13, f23), (g12, f03), (g11, f2), (g10, f0), (g9, f1), (g8, cond (bB 7) Z z), (g7, cond (bB 6) y y), (g6, cond (bB 5) X x), (g5, b), (g4, a), (g3, l)] [some 55, some 56, some 57, some 58, some 59, none, none, none] [] (fun i => [.agg #[.float .f64 x], .agg #[.float .f64 X], .agg #[.float .f64 y], .agg #[.float .f64 z], .agg #[.float .f64 Z], .bool false, .bool false, .bool false].getD i (.bool false)) _ bB aA wW ∧ (bB 5 = true → bB 0 = true) ∧ (bB 6 = true → bB 2 = true) ∧ (bB 7 = true → bB 3 = true)) ⟨PI.start HS.out.1, (fun h => by cases h), (fun h => by cases h), (fun h => by cases h)⟩ ?_ ?_
      · intro i o b' a' w' hi ho hb he hI
        rcases (by omega : i = 0 ∨ i = 1 ∨ i = 2 ∨ i = 3 ∨ i = 4 ∨ i = 5 ∨ i = 6 ∨ i = 7) with rfl | rfl | rfl | rfl | rfl | rfl | rfl | rfl
        · obtain rfl := Option.some.inj ho
          have hn : b' 5 = false := by cases hq : b' 5 with | false => rfl | true => (have := hI.2.1 hq; rw [hb] at this; cases this)
          have hc0 := (hI.1.bx.cell 7 (by simp)).1
          have hc1 : w'.cell? ⟨g6, 0, none⟩ = some (.float .f64 x) := by simpa [hn] using hc0
          exact Oper.wp_mono (fun _ _ h => ⟨h, upd_imp hI.2.1 (fun e => absurd e (by decide)), upd_imp hI.2.2.1 (fun e => absurd e (by decide)), upd_imp hI.2.2.2 (fun e => absurd e (by decide))⟩) (hI.1.stepQuiet hb rfl rfl rfl (op_load _ _ _ g6 x _ rfl ((hI.1.old rfl).trans rfl) hc1))
        · obtain rfl := Option.some.inj ho
          have e0 := hI.1.new 0 (edge he 0 (by kernel_rfl)) rfl rfl rfl (by show 55 < 60; decide)
          refine Oper.wp_mono (fun _ _ h => ⟨h, upd_imp hI.2.1 (fun e => absurd e (by decide)), upd_imp hI.2.2.1 (fun e => absurd e (by decide)), upd_imp hI.2.2.2 (fun e => absurd e (by decide))⟩) (hI.1.stepCall hb rfl rfl rfl (op_call _ _ 63 Try.f63 _ _ _ rfl Try.func63 (by kernel_rfl) (by kernel_rfl)) ?_)
          have hm : Array.map a'.eval #[.tmp 55, .const ((Value.float FloatKind.f64 4606860822843362778))] = #[.agg #[.float .f64 x], (Value.float FloatKind.f64 4606860822843362778)] := by simp [e0, ev_const]
          rw [hm]
          exact MulConst_any x 4606860822843362778 X HX.out _
        · obtain rfl := Option.some.inj ho
          have hn : b' 6 = false := by cases hq : b' 6 with | false => rfl | true => (have := hI.2.2.1 hq; rw [hb] at this; cases this)
          have hc0 := (hI.1.bx.cell 6 (by simp)).1
          have hc1 : w'.cell? ⟨g7, 0, none⟩ = some (.float .f64 y) := by simpa [hn] using hc0
          exact Oper.wp_mono (fun _ _ h => ⟨h, upd_imp hI.2.1 (fun e => absurd e (by decide)), upd_imp hI.2.2.1 (fun e => absurd e (by decide)), upd_imp hI.2.2.2 (fun e => absurd e (by decide))⟩) (hI.1.stepQuiet hb rfl rfl rfl (op_load _ _ _ g7 y _ rfl ((hI.1.old rfl).trans rfl) hc1))
        · obtain rfl := Option.some.inj ho
          have hn : b' 7 = false := by cases hq : b' 7 with | false => rfl | true => (have := hI.2.2.2 hq; rw [hb] at this; cases this)
          have hc0 := (hI.1.bx.cell 5 (by simp)).1
          have hc1 : w'.cell? ⟨g8, 0, none⟩ = some (.float .f64 z) := by simpa [hn] using hc0
          exact Oper.wp_mono (fun _ _ h => ⟨h, upd_imp hI.2.1 (fun e => absurd e (by decide)), upd_imp hI.2.2.1 (fun e => absurd e (by decide)), upd_imp hI.2.2.2 (fun e => absurd e (by decide))⟩) (hI.1.stepQuiet hb rfl rfl rfl (op_load _ _ _ g8 z _ rfl ((hI.1.old rfl).trans rfl) hc1))
        · obtain rfl := Option.some.inj ho
          have e0 := hI.1.new 3 (edge he 3 (by kernel_rfl)) rfl rfl rfl (by show 58 < 60; decide)
          refine Oper.wp_mono (fun _ _ h => ⟨h, upd_imp hI.2.1 (fun e => absurd e (by decide)), upd_imp hI.2.2.1 (fun e => absurd e (by decide)), upd_imp hI.2.2.2 (fun e => absurd e (by decide))⟩) (hI.1.stepCall hb rfl rfl rfl (op_call _ _ 63 Try.f63 _ _ _ rfl Try.func63 (by kernel_rfl) (by kernel_rfl)) ?_)
          have hm : Array.map a'.eval #[.tmp 58, .const ((Value.float FloatKind.f64 4605607101106091996))] = #[.agg #[.float .f64 z], (Value.float FloatKind.f64 4605607101106091996)] := by simp [e0, ev_const]
          rw [hm]
          exact MulConst_any z 4605607101106091996 Z HZ.out _
        · obtain rfl := Option.some.inj ho
          have e0 := hI.1.new 1 (edge he 1 (by kernel_rfl)) rfl rfl rfl (by show 56 < 60; decide)
          have hap : Apart base [(g13, f23), (g12, f03), (g11, f2), (g10, f0), (g9, f1), (g8, cond (b' 7) Z z), (g7, cond (b' 6) y y), (g6, cond (b' 5) X x), (g5, b), (g4, a), (g3, l)] := Apart.of_fst (by rfl) hA
          exact Oper.wp_mono (fun _ _ h => ⟨h, upd_imp hI.2.1 (fun e => edge he 0 (by kernel_rfl)), upd_imp hI.2.2.1 (fun e => absurd e (by decide)), upd_imp hI.2.2.2 (fun e => absurd e (by decide))⟩) (hI.1.stepStore (P := Try.prog) (k := 7) (y := X) hb rfl rfl rfl rfl hap (by simp) (op_store _ _ _ _ g6 X _ _ rfl ((hI.1.old (t := 6) rfl).trans rfl) e0 (hI.1.bx.cell 7 (by simp)).1 (hI.1.bx.cell 7 (by simp)).2))
        · obtain rfl := Option.some.inj ho
          have e0 := hI.1.new 2 (edge he 2 (by kernel_rfl)) rfl rfl rfl (by show 57 < 60; decide)
          have hap : Apart base [(g13, f23), (g12, f03), (g11, f2), (g10, f0), (g9, f1), (g8, cond (b' 7) Z z), (g7, cond (b' 6) y y), (g6, cond (b' 5) X x), (g5, b), (g4, a), (g3, l)] := Apart.of_fst (by rfl) hA
          exact Oper.wp_mono (fun _ _ h => ⟨h, upd_imp hI.2.1 (fun e => absurd e (by decide)), upd_imp hI.2.2.1 (fun e => edge he 2 (by kernel_rfl)), upd_imp hI.2.2.2 (fun e => absurd e (by decide))⟩) (hI.1.stepStore (P := Try.prog) (k := 6) (y := y) hb rfl rfl rfl rfl hap (by simp) (op_store _ _ _ _ g7 y _ _ rfl ((hI.1.old (t := 7) rfl).trans rfl) e0 (hI.1.bx.cell 6 (by simp)).1 (hI.1.bx.cell 6 (by simp)).2))
        · obtain rfl := Option.some.inj ho
          have e0 := hI.1.new 4 (edge he 4 (by kernel_rfl)) rfl rfl rfl (by show 59 < 60; decide)
          have hap : Apart base [(g13, f23), (g12, f03), (g11, f2), (g10, f0), (g9, f1), (g8, cond (b' 7) Z z), (g7, cond (b' 6) y y), (g6, cond (b' 5) X x), (g5, b), (g4, a), (g3, l)] := Apart.of_fst (by rfl) hA
          exact Oper.wp_mono (fun _ _ h => ⟨h, upd_imp hI.2.1 (fun e => absurd e (by decide)), upd_imp hI.2.2.1 (fun e => absurd e (by decide)), upd_imp hI.2.2.2 (fun e => edge he 3 (by kernel_rfl))⟩) (hI.1.stepStore (P := Try.prog) (k := 5) (y := Z) hb rfl rfl rfl rfl hap (by simp) (op_store _ _ _ _ g8 Z _ _ rfl ((hI.1.old (t := 8) rfl).trans rfl) e0 (hI.1.bx.cell 5 (by simp)).1 (hI.1.bx.cell 5 (by simp)).2))
      · intro b' a' w1 hb hI
        obtain ⟨⟨ρ, rfl, hS, -, -⟩, -, -, -⟩ := hI
        have p0 := hb 0 (by decide)
        have p1 := hb 1 (by decide)
        have p2 := hb 2 (by decide)
        have p3 := hb 3 (by decide)
        have p4 := hb 4 (by decide)
        have p5 := hb 5 (by decide)
        have p6 := hb 6 (by decide)
        have p7 := hb 7 (by decide)
        have v0 : vals [] (fun i => [.agg #[.float .f64 x], .agg #[.float .f64 X], .agg #[.float .f64 y], .agg #[.float .f64 z], .agg #[.float .f64 Z], .bool false, .bool false, .bool false].getD i (.bool false)) ρ 0 = .agg #[.float .f64 x] := rfl
        have v1 : vals [] (fun i => [.agg #[.float .f64 x], .agg #[.float .f64 X], .agg #[.float .f64 y], .agg #[.float .f64 z], .agg #[.float .f64 Z], .bool false, .bool false, .bool false].getD i (.bool false)) ρ 1 = .agg #[.float .f64 X] := rfl
        have v2 : vals [] (fun i => [.agg #[.float .f64 x], .agg #[.float .f64 X], .agg #[.float .f64 y], .agg #[.float .f64 z], .agg #[.float .f64 Z], .bool false, .bool false, .bool false].getD i (.bool false)) ρ 2 = .agg #[.float .f64 y] := rfl
        have v3 : vals [] (fun i => [.agg #[.float .f64 x], .agg #[.float .f64 X], .agg #[.float .f64 y], .agg #[.float .f64 z], .agg #[.float .f64 Z], .bool false, .bool false, .bool false].getD i (.bool false)) ρ 3 = .agg #[.float .f64 z] := rfl
        have v4 : vals [] (fun i => [.agg #[.float .f64 x], .agg #[.float .f64 X], .agg #[.float .f64 y], .agg #[.float .f64 z], .agg #[.float .f64 Z], .bool false, .bool false, .bool false].getD i (.bool false)) ρ 4 = .agg #[.float .f64 Z] := rfl
        have v5 : vals [] (fun i => [.agg #[.float .f64 x], .agg #[.float .f64 X], .agg #[.float .f64 y], .agg #[.float .f64 z], .agg #[.float .f64 Z], .bool false, .bool false, .bool false].getD i (.bool false)) ρ 5 = .bool false := rfl
        have v6 : vals [] (fun i => [.agg #[.float .f64 x], .agg #[.float .f64 X], .agg #[.float .f64 y], .agg #[.float .f64 z], .agg #[.float .f64 Z], .bool false, .bool false, .bool false].getD i (.bool false)) ρ 6 = .bool false := rfl
        have v7 : vals [] (fun i => [.agg #[.float .f64 x], .agg #[.float .f64 X], .agg #[.float .f64 y], .agg #[.float .f64 z], .agg #[.float .f64 Z], .bool false, .bool false, .bool false].getD i (.bool false)) ρ 7 = .bool false := rfl
        simp only [p5, p6, p7, cond_true] at hS
        simp only [puts, Nat.zero_add, p0, p1, p2, p3, p4, p5, p6, p7, v0, v1, v2, v3, v4, v5, v6, v7, if_true, List.drop_succ_cons, List.drop_zero, Nat.reduceAdd]
        have HS2 := Lib.hid (And.intro hS (show Apart base [(g13, f23), (g12, f03), (g11, f2), (g10, f0), (g9, f1), (g8, Z), (g7, y), (g6, X), (g5, b), (g4, a), (g3, l)] from Apart.of_fst (by rfl) hA))
        clear HS hS hA hb p0 p1 p2 p3 p4 p5 p6 p7 v0 v1 v2 v3 v4 v5 v6 v7
        have HS := HS2
        clear HS2 ρ b'
        clear W
        generalize w1 = W at *
        go_wp2_with fail
        have c_g6 : W.cell? ⟨g6, 0, none⟩ = some (.float .f64 X) := (HS.out.1.cell 7 (by simp)).1
        have c_g7 : W.cell? ⟨g7, 0, none⟩ = some (.float .f64 y) := (HS.out.1.cell 6 (by simp)).1
        have c_g8 : W.cell? ⟨g8, 0, none⟩ = some (.float .f64 Z) := (HS.out.1.cell 5 (by simp)).1
        refine bodyPost_ret (v := .tuple #[.agg #[.float .f64 X], .agg #[.float .f64 y], .agg #[.float .f64 Z]]) (by simp [results, Try.results46, go_sem, c_g6, c_g7, c_g8]) rfl ⟨rfl, HS.out.1.below.2⟩
end Go.Proofs.Ytafeeebgleecfaa.Mat
