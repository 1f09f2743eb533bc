/-
  lab_to_lch and oklab_to_oklch, told by the numbers that they reckon.
-/
import Derived.Test.YtafeeebgleecfaaPe
namespace Go.Proofs.Ytafeeebgleecfaa.Mat
open Go.ChangeShapes Go.WideShapes Go.ChangeAt Go.RowKit
open FL Pl
set_option linter.unusedVariables false
attribute [local go_sem] run_store_float
set_option maxRecDepth 100000 in
set_option maxHeartbeats 4000000 in
theorem lch_pos (l a b an h0 a2 b2 s2 c base : Nat) (w : World) (H : Hid (base = w.heap.size)) (HAT : Hid (∀ w, Calls Try.prog 86 #[.agg #[.float .f64 b], .agg #[.float .f64 a]] w fun e w' => e = .returned (.agg #[.float .f64 an]) ∧ Below w.heap.size w w')) (Hh0 : Hid (Ieee.double.mul an 4633260481411531256 = some h0)) (Hq1 : Hid (ltB h0 0 = false)) (HA2 : Hid (∀ w, Calls Try.prog 87 #[.agg #[.float .f64 a]] w fun e w' => e = .returned (.agg #[.float .f64 a2]) ∧ Below w.heap.size w w')) (HB2 : Hid (∀ w, Calls Try.prog 87 #[.agg #[.float .f64 b]] w fun e w' => e = .returned (.agg #[.float .f64 b2]) ∧ Below w.heap.size w w')) (Hs2 : Hid (Ieee.double.add a2 b2 = some s2)) (HC : Hid (∀ w, Calls Try.prog 88 #[.agg #[.float .f64 s2]] w fun e w' => e = .returned (.agg #[.float .f64 c]) ∧ Below w.heap.size w w')) :
    Calls Try.prog 79 #[.agg #[.float .f64 l], .agg #[.float .f64 a], .agg #[.float .f64 b]] w fun e w' => e = .returned (.tuple #[.agg #[.float .f64 l], .agg #[.float .f64 c], .agg #[.float .f64 h0]]) ∧ Below base w w' := by
  go_enter Try.func79, Try.ntmps79
  go_upto_region 1 with fail
  generalize hW : World.alloc _ _ = W at *
  have hS : Bx base w [(w.heap.size + 1 + 1 + 1 + 1 + 1, 0), (w.heap.size + 1 + 1 + 1 + 1, 0), (w.heap.size + 1 + 1 + 1, 0), (w.heap.size + 1 + 1, b), (w.heap.size + 1, a), (w.heap.size, l)] W := by
    subst hW
    have := (((((((Bx.start w).alloc l 41).alloc a 41).alloc b 41).alloc 0 41).alloc 0 41).alloc 0 41)
    rw [H.out]
    simpa using this
  have hA : Apart base [(w.heap.size + 1 + 1 + 1 + 1 + 1, 0), (w.heap.size + 1 + 1 + 1 + 1, 0), (w.heap.size + 1 + 1 + 1, 0), (w.heap.size + 1 + 1, b), (w.heap.size + 1, a), (w.heap.size, l)] := by
    rw [H.out]
    simp [Apart]; try omega
  have HS := Lib.hid (And.intro hS hA)
  clear hS hA hW H
  generalize w.heap.size + 1 + 1 + 1 + 1 + 1 = g8 at *
  generalize w.heap.size + 1 + 1 + 1 + 1 = g7 at *
  generalize w.heap.size + 1 + 1 + 1 = g6 at *
  generalize w.heap.size + 1 + 1 = g5 at *
  generalize w.heap.size + 1 = g4 at *
  generalize hgg : w.heap.size = g3 at *
  clear hgg
  have c_g5 : W.cell? ⟨g5, 0, none⟩ = some (.float .f64 b) := (HS.out.1.cell 3 (by simp)).1
  have c_g4 : W.cell? ⟨g4, 0, none⟩ = some (.float .f64 a) := (HS.out.1.cell 4 (by simp)).1
  go_wp2_with fail
  refine (HAT.out _).mono ?_
  rintro e w1 ⟨rfl, hb⟩
  have hS := HS.out.1.keep hb
  have hA := HS.out.2
  clear HS hb c_g5 c_g4
  have HS := Lib.hid (And.intro hS hA)
  clear hS hA
  go_wp2_with fail
  refine (MulConst_any an 4633260481411531256 h0 Hh0.out _).mono ?_
  rintro e w2 ⟨rfl, hb⟩
  have hS := HS.out.1.keep hb
  have hA := HS.out.2
  clear HS hb 
  clear w1
  generalize w2 = w1 at *
  replace hA := hA.alloc hS h0
  replace hS := hS.alloc h0 41
  have HS := Lib.hid (And.intro hS hA)
  clear hS hA
  go_upto_region 2 with fail
  generalize World.alloc _ _ = W at *
  generalize w1.heap.size = g9 at *
  clear w1
  have q1 : (FloatKind.f64.format.order h0 0 == some .lt) = false := Hq1.out
  have c_g9 : W.cell? ⟨g9, 0, none⟩ = some (.float .f64 h0) := (HS.out.1.cell 0 (by simp)).1
  go_wp2_with fail
  refine (Value_any h0 _).mono ?_
  rintro e w1 ⟨rfl, hb⟩
  have hS := HS.out.1.keep hb
  have hA := HS.out.2
  clear HS hb c_g9
  have HS := Lib.hid (And.intro hS hA)
  clear hS hA
  go_upto_region 4 with fail
  generalize w1 = W at *
  clear q1
  have hA := HS.out.2
  refine Plx.wp_region_planX 11 (by kernel_rfl) (by kernel_rfl) (fun bB aA wW => PI base w [(g9, h0), (g8, cond (bB 10) h0 0), (g7, cond (bB 9) c 0), (g6, cond (bB 8) l 0), (g5, b), (g4, a), (g3, l)] [some 19, some 20, some 21, some 22, some 23, some 24, some 25, some 26, none, none, none] [] (fun i => [.agg #[.float .f64 l], .agg #[.float .f64 a], .agg #[.float .f64 a2], .agg #[.float .f64 b], .agg #[.float .f64 b2], .agg #[.float .f64 s2], .agg #[.float .f64 c], .agg #[.float .f64 h0], .bool false, .bool false, .bool false].getD i (.bool false)) _ bB aA wW) (PI.start HS.out.1) ?_ ?_
  · intro i o b' a' w' hi ho hb he hI
    rcases (by omega : i = 0 ∨ i = 1 ∨ i = 2 ∨ i = 3 ∨ i = 4 ∨ i = 5 ∨ i = 6 ∨ i = 7 ∨ i = 8 ∨ i = 9 ∨ i = 10) with rfl | rfl | rfl | rfl | rfl | rfl | rfl | rfl | rfl | rfl | rfl
    · obtain rfl := Option.some.inj ho
      exact hI.stepQuiet hb rfl rfl rfl (op_load _ _ _ g3 l _ rfl ((hI.old rfl).trans rfl) (hI.bx.cell 6 (by simp)).1)
    · obtain rfl := Option.some.inj ho
      exact hI.stepQuiet hb rfl rfl rfl (op_load _ _ _ g4 a _ rfl ((hI.old rfl).trans rfl) (hI.bx.cell 5 (by simp)).1)
    · obtain rfl := Option.some.inj ho
      have e0 := hI.new 1 (edge he 1 (by kernel_rfl)) rfl rfl rfl (by show 20 < 27; decide)
      refine hI.stepCall hb rfl rfl rfl (op_call _ _ 87 Try.f87 _ _ _ rfl Try.func87 (by kernel_rfl) (by kernel_rfl)) ?_
      have hm : Array.map a'.eval #[.tmp 20] = #[.agg #[.float .f64 a]] := by simp [e0]
      rw [hm]
      exact HA2.out _
    · obtain rfl := Option.some.inj ho
      exact hI.stepQuiet hb rfl rfl rfl (op_load _ _ _ g5 b _ rfl ((hI.old rfl).trans rfl) (hI.bx.cell 4 (by simp)).1)
    · obtain rfl := Option.some.inj ho
      have e0 := hI.new 3 (edge he 3 (by kernel_rfl)) rfl rfl rfl (by show 22 < 27; decide)
      refine hI.stepCall hb rfl rfl rfl (op_call _ _ 87 Try.f87 _ _ _ rfl Try.func87 (by kernel_rfl) (by kernel_rfl)) ?_
      have hm : Array.map a'.eval #[.tmp 22] = #[.agg #[.float .f64 b]] := by simp [e0]
      rw [hm]
      exact HB2.out _
    · obtain rfl := Option.some.inj ho
      have e0 := hI.new 2 (edge he 2 (by kernel_rfl)) rfl rfl rfl (by show 21 < 27; decide)
      have e1 := hI.new 4 (edge he 4 (by kernel_rfl)) rfl rfl rfl (by show 23 < 27; decide)
      refine hI.stepCall hb rfl rfl rfl (op_call _ _ 61 Try.f61 _ _ _ rfl Try.func61 (by kernel_rfl) (by kernel_rfl)) ?_
      have hm : Array.map a'.eval #[.tmp 21, .tmp 23] = #[.agg #[.float .f64 a2], .agg #[.float .f64 b2]] := by simp [e0, e1]
      rw [hm]
      exact Add_any a2 b2 s2 Hs2.out _
    · obtain rfl := Option.some.inj ho
      have e0 := hI.new 5 (edge he 5 (by kernel_rfl)) rfl rfl rfl (by show 24 < 27; decide)
      refine hI.stepCall hb rfl rfl rfl (op_call _ _ 88 Try.f88 _ _ _ rfl Try.func88 (by kernel_rfl) (by kernel_rfl)) ?_
      have hm : Array.map a'.eval #[.tmp 24] = #[.agg #[.float .f64 s2]] := by simp [e0]
      rw [hm]
      exact HC.out _
    · obtain rfl := Option.some.inj ho
      exact hI.stepQuiet hb rfl rfl rfl (op_load _ _ _ g9 h0 _ rfl ((hI.old rfl).trans rfl) (hI.bx.cell 0 (by simp)).1)
    · obtain rfl := Option.some.inj ho
      have e0 := hI.new 0 (edge he 0 (by kernel_rfl)) rfl rfl rfl (by show 19 < 27; decide)
      have hap : Apart base [(g9, h0), (g8, cond (b' 10) h0 0), (g7, cond (b' 9) c 0), (g6, cond (b' 8) l 0), (g5, b), (g4, a), (g3, l)] := Apart.of_fst (by rfl) hA
      exact hI.stepStore (P := Try.prog) (k := 3) (y := l) hb rfl rfl rfl rfl hap (by simp) (op_store _ _ _ _ g6 l _ _ rfl ((hI.old (t := 6) rfl).trans rfl) e0 (hI.bx.cell 3 (by simp)).1 (hI.bx.cell 3 (by simp)).2)
    · obtain rfl := Option.some.inj ho
      have e0 := hI.new 6 (edge he 6 (by kernel_rfl)) rfl rfl rfl (by show 25 < 27; decide)
      have hap : Apart base [(g9, h0), (g8, cond (b' 10) h0 0), (g7, cond (b' 9) c 0), (g6, cond (b' 8) l 0), (g5, b), (g4, a), (g3, l)] := Apart.of_fst (by rfl) hA
      exact hI.stepStore (P := Try.prog) (k := 2) (y := c) hb rfl rfl rfl rfl hap (by simp) (op_store _ _ _ _ g7 c _ _ rfl ((hI.old (t := 7) rfl).trans rfl) e0 (hI.bx.cell 2 (by simp)).1 (hI.bx.cell 2 (by simp)).2)
    · obtain rfl := Option.some.inj ho
      have e0 := hI.new 7 (edge he 7 (by kernel_rfl)) rfl rfl rfl (by show 26 < 27; decide)
      have hap : Apart base [(g9, h0), (g8, cond (b' 10) h0 0), (g7, cond (b' 9) c 0), (g6, cond (b' 8) l 0), (g5, b), (g4, a), (g3, l)] := Apart.of_fst (by rfl) hA
      exact hI.stepStore (P := Try.prog) (k := 1) (y := h0) hb rfl rfl rfl rfl hap (by simp) (op_store _ _ _ _ g8 h0 _ _ rfl ((hI.old (t := 8) rfl).trans rfl) e0 (hI.bx.cell 1 (by simp)).1 (hI.bx.cell 1 (by simp)).2)
  · intro b' a' w1 hb hI
    obtain ⟨ρ, rfl, hS, -, -⟩ := hI
    have p0 := hb 0 (by decide)
    have p1 := hb 1 (by decide)
    have p2 := hb 2 (by decide)
    have p3 := hb 3 (by decide)
    have p4 := hb 4 (by decide)
    have p5 := hb 5 (by decide)
    have p6 := hb 6 (by decide)
    have p7 := hb 7 (by decide)
    have p8 := hb 8 (by decide)
    have p9 := hb 9 (by decide)
    have p10 := hb 10 (by decide)
    have v0 : vals [] (fun i => [.agg #[.float .f64 l], .agg #[.float .f64 a], .agg #[.float .f64 a2], .agg #[.float .f64 b], .agg #[.float .f64 b2], .agg #[.float .f64 s2], .agg #[.float .f64 c], .agg #[.float .f64 h0], .bool false, .bool false, .bool false].getD i (.bool false)) ρ 0 = .agg #[.float .f64 l] := rfl
    have v1 : vals [] (fun i => [.agg #[.float .f64 l], .agg #[.float .f64 a], .agg #[.float .f64 a2], .agg #[.float .f64 b], .agg #[.float .f64 b2], .agg #[.float .f64 s2], .agg #[.float .f64 c], .agg #[.float .f64 h0], .bool false, .bool false, .bool false].getD i (.bool false)) ρ 1 = .agg #[.float .f64 a] := rfl
    have v2 : vals [] (fun i => [.agg #[.float .f64 l], .agg #[.float .f64 a], .agg #[.float .f64 a2], .agg #[.float .f64 b], .agg #[.float .f64 b2], .agg #[.float .f64 s2], .agg #[.float .f64 c], .agg #[.float .f64 h0], .bool false, .bool false, .bool false].getD i (.bool false)) ρ 2 = .agg #[.float .f64 a2] := rfl
    have v3 : vals [] (fun i => [.agg #[.float .f64 l], .agg #[.float .f64 a], .agg #[.float .f64 a2], .agg #[.float .f64 b], .agg #[.float .f64 b2], .agg #[.float .f64 s2], .agg #[.float .f64 c], .agg #[.float .f64 h0], .bool false, .bool false, .bool false].getD i (.bool false)) ρ 3 = .agg #[.float .f64 b] := rfl
    have v4 : vals [] (fun i => [.agg #[.float .f64 l], .agg #[.float .f64 a], .agg #[.float .f64 a2], .agg #[.float .f64 b], .agg #[.float .f64 b2], .agg #[.float .f64 s2], .agg #[.float .f64 c], .agg #[.float .f64 h0], .bool false, .bool false, .bool false].getD i (.bool false)) ρ 4 = .agg #[.float .f64 b2] := rfl
    have v5 : vals [] (fun i => [.agg #[.float .f64 l], .agg #[.float .f64 a], .agg #[.float .f64 a2], .agg #[.float .f64 b], .agg #[.float .f64 b2], .agg #[.float .f64 s2], .agg #[.float .f64 c], .agg #[.float .f64 h0], .bool false, .bool false, .bool false].getD i (.bool false)) ρ 5 = .agg #[.float .f64 s2] := rfl
    have v6 : vals [] (fun i => [.agg #[.float .f64 l], .agg #[.float .f64 a], .agg #[.float .f64 a2], .agg #[.float .f64 b], .agg #[.float .f64 b2], .agg #[.float .f64 s2], .agg #[.float .f64 c], .agg #[.float .f64 h0], .bool false, .bool false, .bool false].getD i (.bool false)) ρ 6 = .agg #[.float .f64 c] := rfl
    have v7 : vals [] (fun i => [.agg #[.float .f64 l], .agg #[.float .f64 a], .agg #[.float .f64 a2], .agg #[.float .f64 b], .agg #[.float .f64 b2], .agg #[.float .f64 s2], .agg #[.float .f64 c], .agg #[.float .f64 h0], .bool false, .bool false, .bool false].getD i (.bool false)) ρ 7 = .agg #[.float .f64 h0] := rfl
    have v8 : vals [] (fun i => [.agg #[.float .f64 l], .agg #[.float .f64 a], .agg #[.float .f64 a2], .agg #[.float .f64 b], .agg #[.float .f64 b2], .agg #[.float .f64 s2], .agg #[.float .f64 c], .agg #[.float .f64 h0], .bool false, .bool false, .bool false].getD i (.bool false)) ρ 8 = .bool false := rfl
    have v9 : vals [] (fun i => [.agg #[.float .f64 l], .agg #[.float .f64 a], .agg #[.float .f64 a2], .agg #[.float .f64 b], .agg #[.float .f64 b2], .agg #[.float .f64 s2], .agg #[.float .f64 c], .agg #[.float .f64 h0], .bool false, .bool false, .bool false].getD i (.bool false)) ρ 9 = .bool false := rfl
    have v10 : vals [] (fun i => [.agg #[.float .f64 l], .agg #[.float .f64 a], .agg #[.float .f64 a2], .agg #[.float .f64 b], .agg #[.float .f64 b2], .agg #[.float .f64 s2], .agg #[.float .f64 c], .agg #[.float .f64 h0], .bool false, .bool false, .bool false].getD i (.bool false)) ρ 10 = .bool false := rfl
    simp only [p8, p9, p10, cond_true] at hS
    simp only [puts, Nat.zero_add, p0, p1, p2, p3, p4, p5, p6, p7, p8, p9, p10, v0, v1, v2, v3, v4, v5, v6, v7, v8, v9, v10, if_true, List.drop_succ_cons, List.drop_zero, Nat.reduceAdd]
    have HS2 := Lib.hid (And.intro hS (show Apart base [(g9, h0), (g8, h0), (g7, c), (g6, l), (g5, b), (g4, a), (g3, l)] from Apart.of_fst (by rfl) hA))
    clear HS hS hA hb p0 p1 p2 p3 p4 p5 p6 p7 p8 p9 p10 v0 v1 v2 v3 v4 v5 v6 v7 v8 v9 v10
    have HS := HS2
    clear HS2 ρ b'
    clear W
    generalize w1 = W at *
    go_wp2_with fail
    have c_g6 : W.cell? ⟨g6, 0, none⟩ = some (.float .f64 l) := (HS.out.1.cell 3 (by simp)).1
    have c_g7 : W.cell? ⟨g7, 0, none⟩ = some (.float .f64 c) := (HS.out.1.cell 2 (by simp)).1
    have c_g8 : W.cell? ⟨g8, 0, none⟩ = some (.float .f64 h0) := (HS.out.1.cell 1 (by simp)).1
    refine bodyPost_ret (v := .tuple #[.agg #[.float .f64 l], .agg #[.float .f64 c], .agg #[.float .f64 h0]]) (by simp [results, Try.results79, go_sem, c_g6, c_g7, c_g8]) rfl ⟨rfl, HS.out.1.below.2⟩
set_option maxRecDepth 100000 in
set_option maxHeartbeats 4000000 in
theorem lch_neg (l a b an h0 hp a2 b2 s2 c base : Nat) (w : World) (H : Hid (base = w.heap.size)) (HAT : Hid (∀ w, Calls Try.prog 86 #[.agg #[.float .f64 b], .agg #[.float .f64 a]] w fun e w' => e = .returned (.agg #[.float .f64 an]) ∧ Below w.heap.size w w')) (Hh0 : Hid (Ieee.double.mul an 4633260481411531256 = some h0)) (Hq1 : Hid (ltB h0 0 = true)) (Hhp : Hid (Ieee.double.add h0 4645040803167600640 = some hp)) (HA2 : Hid (∀ w, Calls Try.prog 87 #[.agg #[.float .f64 a]] w fun e w' => e = .returned (.agg #[.float .f64 a2]) ∧ Below w.heap.size w w')) (HB2 : Hid (∀ w, Calls Try.prog 87 #[.agg #[.float .f64 b]] w fun e w' => e = .returned (.agg #[.float .f64 b2]) ∧ Below w.heap.size w w')) (Hs2 : Hid (Ieee.double.add a2 b2 = some s2)) (HC : Hid (∀ w, Calls Try.prog 88 #[.agg #[.float .f64 s2]] w fun e w' => e = .returned (.agg #[.float .f64 c]) ∧ Below w.heap.size w w')) :
    Calls Try.prog 79 #[.agg #[.float .f64 l], .agg #[.float .f64 a], .agg #[.float .f64 b]] w fun e w' => e = .returned (.tuple #[.agg #[.float .f64 l], .agg #[.float .f64 c], .agg #[.float .f64 hp]]) ∧ Below base w w' := by
  go_enter Try.func79, Try.ntmps79
  go_upto_region 1 with fail
  generalize hW : World.alloc _ _ = W at *
  have hS : Bx base w [(w.heap.size + 1 + 1 + 1 + 1 + 1, 0), (w.heap.size + 1 + 1 + 1 + 1, 0), (w.heap.size + 1 + 1 + 1, 0), (w.heap.size + 1 + 1, b), (w.heap.size + 1, a), (w.heap.size, l)] W := by
    subst hW
    have := (((((((Bx.start w).alloc l 41).alloc a 41).alloc b 41).alloc 0 41).alloc 0 41).alloc 0 41)
    rw [H.out]
    simpa using this
  have hA : Apart base [(w.heap.size + 1 + 1 + 1 + 1 + 1, 0), (w.heap.size + 1 + 1 + 1 + 1, 0), (w.heap.size + 1 + 1 + 1, 0), (w.heap.size + 1 + 1, b), (w.heap.size + 1, a), (w.heap.size, l)] := by
    rw [H.out]
    simp [Apart]; try omega
  have HS := Lib.hid (And.intro hS hA)
  clear hS hA hW H
  generalize w.heap.size + 1 + 1 + 1 + 1 + 1 = g8 at *
  generalize w.heap.size + 1 + 1 + 1 + 1 = g7 at *
  generalize w.heap.size + 1 + 1 + 1 = g6 at *
  generalize w.heap.size + 1 + 1 = g5 at *
  generalize w.heap.size + 1 = g4 at *
  generalize hgg : w.heap.size = g3 at *
  clear hgg
  have c_g5 : W.cell? ⟨g5, 0, none⟩ = some (.float .f64 b) := (HS.out.1.cell 3 (by simp)).1
  have c_g4 : W.cell? ⟨g4, 0, none⟩ = some (.float .f64 a) := (HS.out.1.cell 4 (by simp)).1
  go_wp2_with fail
  refine (HAT.out _).mono ?_
  rintro e w1 ⟨rfl, hb⟩
  have hS := HS.out.1.keep hb
  have hA := HS.out.2
  clear HS hb c_g5 c_g4
  have HS := Lib.hid (And.intro hS hA)
  clear hS hA
  go_wp2_with fail
  refine (MulConst_any an 4633260481411531256 h0 Hh0.out _).mono ?_
  rintro e w2 ⟨rfl, hb⟩
  have hS := HS.out.1.keep hb
  have hA := HS.out.2
  clear HS hb 
  clear w1
  generalize w2 = w1 at *
  replace hA := hA.alloc hS h0
  replace hS := hS.alloc h0 41
  have HS := Lib.hid (And.intro hS hA)
  clear hS hA
  go_upto_region 2 with fail
  generalize World.alloc _ _ = W at *
  generalize w1.heap.size = g9 at *
  clear w1
  have q1 : (FloatKind.f64.format.order h0 0 == some .lt) = true := Hq1.out
  have c_g9 : W.cell? ⟨g9, 0, none⟩ = some (.float .f64 h0) := (HS.out.1.cell 0 (by simp)).1
  go_wp2_with fail
  refine (Value_any h0 _).mono ?_
  rintro e w1 ⟨rfl, hb⟩
  have hS := HS.out.1.keep hb
  have hA := HS.out.2
  clear HS hb c_g9
  have HS := Lib.hid (And.intro hS hA)
  clear hS hA
  go_upto_region 3 with fail
  generalize w1 = W at *
  clear q1
  have c_g9 : W.cell? ⟨g9, 0, none⟩ = some (.float .f64 h0) := (HS.out.1.cell 0 (by simp)).1
  go_wp2_with fail
  refine (AddConst_any h0 4645040803167600640 hp Hhp.out _).mono ?_
  rintro e w1 ⟨rfl, hb⟩
  have hS := HS.out.1.keep hb
  have hA := HS.out.2
  clear HS hb c_g9
  have s0 : (w1).cell? ⟨g9, 0, none⟩ = some (.float .f64 h0) := (hS.cell 0 (by simp)).1
  have t0 : (w1).frozen? ⟨g9, 0, none⟩ = false := (hS.cell 0 (by simp)).2
  replace hS : Bx base w [(g9, hp), (g8, 0), (g7, 0), (g6, 0), (g5, b), (g4, a), (g3, l)] ((w1).setCell ⟨g9, 0, none⟩ (.float .f64 hp)) := hS.set hp hA 0 (by simp)
  replace hA : Apart base [(g9, hp), (g8, 0), (g7, 0), (g6, 0), (g5, b), (g4, a), (g3, l)] := Apart.of_fst (by rfl) hA
  have HS := Lib.hid (And.intro hS hA)
  clear hS hA
  go_upto_region 4 with fail
  clear s0 t0
  generalize World.setCell _ _ _ = W at *
  clear w1
  have hA := HS.out.2
  refine Plx.wp_region_planX 11 (by kernel_rfl) (by kernel_rfl) (fun bB aA wW => PI base w [(g9, hp), (g8, cond (bB 10) hp 0), (g7, cond (bB 9) c 0), (g6, cond (bB 8) l 0), (g5, b), (g4, a), (g3, l)] [some 19, some 20, some 21, some 22, some 23, some 24, some 25, some 26, none, none, none] [] (fun i => [.agg #[.float .f64 l], .agg #[.float .f64 a], .agg #[.float .f64 a2], .agg #[.float .f64 b], .agg #[.float .f64 b2], .agg #[.float .f64 s2], .agg #[.float .f64 c], .agg #[.float .f64 hp], .bool false, .bool false, .bool false].getD i (.bool false)) _ bB aA wW) (PI.start HS.out.1) ?_ ?_
  · intro i o b' a' w' hi ho hb he hI
    rcases (by omega : i = 0 ∨ i = 1 ∨ i = 2 ∨ i = 3 ∨ i = 4 ∨ i = 5 ∨ i = 6 ∨ i = 7 ∨ i = 8 ∨ i = 9 ∨ i = 10) with rfl | rfl | rfl | rfl | rfl | rfl | rfl | rfl | rfl | rfl | rfl
    · obtain rfl := Option.some.inj ho
      exact hI.stepQuiet hb rfl rfl rfl (op_load _ _ _ g3 l _ rfl ((hI.old rfl).trans rfl) (hI.bx.cell 6 (by simp)).1)
    · obtain rfl := Option.some.inj ho
      exact hI.stepQuiet hb rfl rfl rfl (op_load _ _ _ g4 a _ rfl ((hI.old rfl).trans rfl) (hI.bx.cell 5 (by simp)).1)
    · obtain rfl := Option.some.inj ho
      have e0 := hI.new 1 (edge he 1 (by kernel_rfl)) rfl rfl rfl (by show 20 < 27; decide)
      refine hI.stepCall hb rfl rfl rfl (op_call _ _ 87 Try.f87 _ _ _ rfl Try.func87 (by kernel_rfl) (by kernel_rfl)) ?_
      have hm : Array.map a'.eval #[.tmp 20] = #[.agg #[.float .f64 a]] := by simp [e0]
      rw [hm]
      exact HA2.out _
    · obtain rfl := Option.some.inj ho
      exact hI.stepQuiet hb rfl rfl rfl (op_load _ _ _ g5 b _ rfl ((hI.old rfl).trans rfl) (hI.bx.cell 4 (by simp)).1)
    · obtain rfl := Option.some.inj ho
      have e0 := hI.new 3 (edge he 3 (by kernel_rfl)) rfl rfl rfl (by show 22 < 27; decide)
      refine hI.stepCall hb rfl rfl rfl (op_call _ _ 87 Try.f87 _ _ _ rfl Try.func87 (by kernel_rfl) (by kernel_rfl)) ?_
      have hm : Array.map a'.eval #[.tmp 22] = #[.agg #[.float .f64 b]] := by simp [e0]
      rw [hm]
      exact HB2.out _
    · obtain rfl := Option.some.inj ho
      have e0 := hI.new 2 (edge he 2 (by kernel_rfl)) rfl rfl rfl (by show 21 < 27; decide)
      have e1 := hI.new 4 (edge he 4 (by kernel_rfl)) rfl rfl rfl (by show 23 < 27; decide)
      refine hI.stepCall hb rfl rfl rfl (op_call _ _ 61 Try.f61 _ _ _ rfl Try.func61 (by kernel_rfl) (by kernel_rfl)) ?_
      have hm : Array.map a'.eval #[.tmp 21, .tmp 23] = #[.agg #[.float .f64 a2], .agg #[.float .f64 b2]] := by simp [e0, e1]
      rw [hm]
      exact Add_any a2 b2 s2 Hs2.out _
    · obtain rfl := Option.some.inj ho
      have e0 := hI.new 5 (edge he 5 (by kernel_rfl)) rfl rfl rfl (by show 24 < 27; decide)
      refine hI.stepCall hb rfl rfl rfl (op_call _ _ 88 Try.f88 _ _ _ rfl Try.func88 (by kernel_rfl) (by kernel_rfl)) ?_
      have hm : Array.map a'.eval #[.tmp 24] = #[.agg #[.float .f64 s2]] := by simp [e0]
      rw [hm]
      exact HC.out _
    · obtain rfl := Option.some.inj ho
      exact hI.stepQuiet hb rfl rfl rfl (op_load _ _ _ g9 hp _ rfl ((hI.old rfl).trans rfl) (hI.bx.cell 0 (by simp)).1)
    · obtain rfl := Option.some.inj ho
      have e0 := hI.new 0 (edge he 0 (by kernel_rfl)) rfl rfl rfl (by show 19 < 27; decide)
      have hap : Apart base [(g9, hp), (g8, cond (b' 10) hp 0), (g7, cond (b' 9) c 0), (g6, cond (b' 8) l 0), (g5, b), (g4, a), (g3, l)] := Apart.of_fst (by rfl) hA
      exact hI.stepStore (P := Try.prog) (k := 3) (y := l) hb rfl rfl rfl rfl hap (by simp) (op_store _ _ _ _ g6 l _ _ rfl ((hI.old (t := 6) rfl).trans rfl) e0 (hI.bx.cell 3 (by simp)).1 (hI.bx.cell 3 (by simp)).2)
    · obtain rfl := Option.some.inj ho
      have e0 := hI.new 6 (edge he 6 (by kernel_rfl)) rfl rfl rfl (by show 25 < 27; decide)
      have hap : Apart base [(g9, hp), (g8, cond (b' 10) hp 0), (g7, cond (b' 9) c 0), (g6, cond (b' 8) l 0), (g5, b), (g4, a), (g3, l)] := Apart.of_fst (by rfl) hA
      exact hI.stepStore (P := Try.prog) (k := 2) (y := c) hb rfl rfl rfl rfl hap (by simp) (op_store _ _ _ _ g7 c _ _ rfl ((hI.old (t := 7) rfl).trans rfl) e0 (hI.bx.cell 2 (by simp)).1 (hI.bx.cell 2 (by simp)).2)
    · obtain rfl := Option.some.inj ho
      have e0 := hI.new 7 (edge he 7 (by kernel_rfl)) rfl rfl rfl (by show 26 < 27; decide)
      have hap : Apart base [(g9, hp), (g8, cond (b' 10) hp 0), (g7, cond (b' 9) c 0), (g6, cond (b' 8) l 0), (g5, b), (g4, a), (g3, l)] := Apart.of_fst (by rfl) hA
      exact hI.stepStore (P := Try.prog) (k := 1) (y := hp) hb rfl rfl rfl rfl hap (by simp) (op_store _ _ _ _ g8 hp _ _ rfl ((hI.old (t := 8) rfl).trans rfl) e0 (hI.bx.cell 1 (by simp)).1 (hI.bx.cell 1 (by simp)).2)
  · intro b' a' w1 hb hI
    obtain ⟨ρ, rfl, hS, -, -⟩ := hI
    have p0 := hb 0 (by decide)
    have p1 := hb 1 (by decide)
    have p2 := hb 2 (by decide)
    have p3 := hb 3 (by decide)
    have p4 := hb 4 (by decide)
    have p5 := hb 5 (by decide)
    have p6 := hb 6 (by decide)
    have p7 := hb 7 (by decide)
    have p8 := hb 8 (by decide)
    have p9 := hb 9 (by decide)
    have p10 := hb 10 (by decide)
    have v0 : vals [] (fun i => [.agg #[.float .f64 l], .agg #[.float .f64 a], .agg #[.float .f64 a2], .agg #[.float .f64 b], .agg #[.float .f64 b2], .agg #[.float .f64 s2], .agg #[.float .f64 c], .agg #[.float .f64 hp], .bool false, .bool false, .bool false].getD i (.bool false)) ρ 0 = .agg #[.float .f64 l] := rfl
    have v1 : vals [] (fun i => [.agg #[.float .f64 l], .agg #[.float .f64 a], .agg #[.float .f64 a2], .agg #[.float .f64 b], .agg #[.float .f64 b2], .agg #[.float .f64 s2], .agg #[.float .f64 c], .agg #[.float .f64 hp], .bool false, .bool false, .bool false].getD i (.bool false)) ρ 1 = .agg #[.float .f64 a] := rfl
    have v2 : vals [] (fun i => [.agg #[.float .f64 l], .agg #[.float .f64 a], .agg #[.float .f64 a2], .agg #[.float .f64 b], .agg #[.float .f64 b2], .agg #[.float .f64 s2], .agg #[.float .f64 c], .agg #[.float .f64 hp], .bool false, .bool false, .bool false].getD i (.bool false)) ρ 2 = .agg #[.float .f64 a2] := rfl
    have v3 : vals [] (fun i => [.agg #[.float .f64 l], .agg #[.float .f64 a], .agg #[.float .f64 a2], .agg #[.float .f64 b], .agg #[.float .f64 b2], .agg #[.float .f64 s2], .agg #[.float .f64 c], .agg #[.float .f64 hp], .bool false, .bool false, .bool false].getD i (.bool false)) ρ 3 = .agg #[.float .f64 b] := rfl
    have v4 : vals [] (fun i => [.agg #[.float .f64 l], .agg #[.float .f64 a], .agg #[.float .f64 a2], .agg #[.float .f64 b], .agg #[.float .f64 b2], .agg #[.float .f64 s2], .agg #[.float .f64 c], .agg #[.float .f64 hp], .bool false, .bool false, .bool false].getD i (.bool false)) ρ 4 = .agg #[.float .f64 b2] := rfl
    have v5 : vals [] (fun i => [.agg #[.float .f64 l], .agg #[.float .f64 a], .agg #[.float .f64 a2], .agg #[.float .f64 b], .agg #[.float .f64 b2], .agg #[.float .f64 s2], .agg #[.float .f64 c], .agg #[.float .f64 hp], .bool false, .bool false, .bool false].getD i (.bool false)) ρ 5 = .agg #[.float .f64 s2] := rfl
    have v6 : vals [] (fun i => [.agg #[.float .f64 l], .agg #[.float .f64 a], .agg #[.float .f64 a2], .agg #[.float .f64 b], .agg #[.float .f64 b2], .agg #[.float .f64 s2], .agg #[.float .f64 c], .agg #[.float .f64 hp], .bool false, .bool false, .bool false].getD i (.bool false)) ρ 6 = .agg #[.float .f64 c] := rfl
    have v7 : vals [] (fun i => [.agg #[.float .f64 l], .agg #[.float .f64 a], .agg #[.float .f64 a2], .agg #[.float .f64 b], .agg #[.float .f64 b2], .agg #[.float .f64 s2], .agg #[.float .f64 c], .agg #[.float .f64 hp], .bool false, .bool false, .bool false].getD i (.bool false)) ρ 7 = .agg #[.float .f64 hp] := rfl
    have v8 : vals [] (fun i => [.agg #[.float .f64 l], .agg #[.float .f64 a], .agg #[.float .f64 a2], .agg #[.float .f64 b], .agg #[.float .f64 b2], .agg #[.float .f64 s2], .agg #[.float .f64 c], .agg #[.float .f64 hp], .bool false, .bool false, .bool false].getD i (.bool false)) ρ 8 = .bool false := rfl
    have v9 : vals [] (fun i => [.agg #[.float .f64 l], .agg #[.float .f64 a], .agg #[.float .f64 a2], .agg #[.float .f64 b], .agg #[.float .f64 b2], .agg #[.float .f64 s2], .agg #[.float .f64 c], .agg #[.float .f64 hp], .bool false, .bool false, .bool false].getD i (.bool false)) ρ 9 = .bool false := rfl
    have v10 : vals [] (fun i => [.agg #[.float .f64 l], .agg #[.float .f64 a], .agg #[.float .f64 a2], .agg #[.float .f64 b], .agg #[.float .f64 b2], .agg #[.float .f64 s2], .agg #[.float .f64 c], .agg #[.float .f64 hp], .bool false, .bool false, .bool false].getD i (.bool false)) ρ 10 = .bool false := rfl
    simp only [p8, p9, p10, cond_true] at hS
    simp only [puts, Nat.zero_add, p0, p1, p2, p3, p4, p5, p6, p7, p8, p9, p10, v0, v1, v2, v3, v4, v5, v6, v7, v8, v9, v10, if_true, List.drop_succ_cons, List.drop_zero, Nat.reduceAdd]
    have HS2 := Lib.hid (And.intro hS (show Apart base [(g9, hp), (g8, hp), (g7, c), (g6, l), (g5, b), (g4, a), (g3, l)] from Apart.of_fst (by rfl) hA))
    clear HS hS hA hb p0 p1 p2 p3 p4 p5 p6 p7 p8 p9 p10 v0 v1 v2 v3 v4 v5 v6 v7 v8 v9 v10
    have HS := HS2
    clear HS2 ρ b'
    clear W
    generalize w1 = W at *
    go_wp2_with fail
    have c_g6 : W.cell? ⟨g6, 0, none⟩ = some (.float .f64 l) := (HS.out.1.cell 3 (by simp)).1
    have c_g7 : W.cell? ⟨g7, 0, none⟩ = some (.float .f64 c) := (HS.out.1.cell 2 (by simp)).1
    have c_g8 : W.cell? ⟨g8, 0, none⟩ = some (.float .f64 hp) := (HS.out.1.cell 1 (by simp)).1
    refine bodyPost_ret (v := .tuple #[.agg #[.float .f64 l], .agg #[.float .f64 c], .agg #[.float .f64 hp]]) (by simp [results, Try.results79, go_sem, c_g6, c_g7, c_g8]) rfl ⟨rfl, HS.out.1.below.2⟩
end Go.Proofs.Ytafeeebgleecfaa.Mat
