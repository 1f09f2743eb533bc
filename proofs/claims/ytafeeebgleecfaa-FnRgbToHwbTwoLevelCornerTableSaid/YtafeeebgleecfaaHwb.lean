/-
  rgb_to_hwb, told by the numbers that it reckons.
-/
import Derived.Test.YtafeeebgleecfaaPd
namespace Go.Proofs.Ytafeeebgleecfaa.Mat
open Go.ChangeShapes Go.WideShapes Go.ChangeAt Go.RowKit
open FL Pl
set_option linter.unusedVariables false
attribute [local go_sem] run_store_float
set_option maxRecDepth 100000 in
set_option maxHeartbeats 4000000 in
theorem hwb_of (r g b mx mn nx bk h s l wO bO base : Nat) (w : World) (H : Hid (base = w.heap.size)) (Hc : Hid (∀ w, Calls Try.prog 50 #[.agg #[.float .f64 r], .agg #[.float .f64 g], .agg #[.float .f64 b]] w fun e w' => e = .returned (.tuple #[.agg #[.float .f64 h], .agg #[.float .f64 s], .agg #[.float .f64 l]]) ∧ Below w.heap.size w w')) (Hmx : Hid (maxW (maxW r g) b = mx)) (Hmn : Hid (minW (minW r g) b = mn)) (Hnx : Hid (flip mx = nx)) (Hbk : Hid (Ieee.double.add nx 4607182418800017408 = some bk)) (HwO : Hid (Ieee.double.mul mn 4636737291354636288 = some wO)) (HbO : Hid (Ieee.double.mul bk 4636737291354636288 = some bO)) :
    Calls Try.prog 54 #[.agg #[.float .f64 r], .agg #[.float .f64 g], .agg #[.float .f64 b]] w fun e w' => e = .returned (.tuple #[.agg #[.float .f64 h], .agg #[.float .f64 wO], .agg #[.float .f64 bO]]) ∧ Below base w w' := by
  go_enter Try.func54, Try.ntmps54
  go_upto_region 1 with fail
  generalize hW : World.alloc _ _ = W at *
  have hS : Bx base w [(w.heap.size + 1 + 1 + 1 + 1 + 1, 0), (w.heap.size + 1 + 1 + 1 + 1, 0), (w.heap.size + 1 + 1 + 1, 0), (w.heap.size + 1 + 1, b), (w.heap.size + 1, g), (w.heap.size, r)] W := by
    subst hW
    have := (((((((Bx.start w).alloc r 41).alloc g 41).alloc b 41).alloc 0 41).alloc 0 41).alloc 0 41)
    rw [H.out]
    simpa using this
  have hA : Apart base [(w.heap.size + 1 + 1 + 1 + 1 + 1, 0), (w.heap.size + 1 + 1 + 1 + 1, 0), (w.heap.size + 1 + 1 + 1, 0), (w.heap.size + 1 + 1, b), (w.heap.size + 1, g), (w.heap.size, r)] := by
    rw [H.out]
    simp [Apart]; try omega
  have HS := Lib.hid (And.intro hS hA)
  clear hS hA hW H
  generalize w.heap.size + 1 + 1 + 1 + 1 + 1 = g8 at *
  generalize w.heap.size + 1 + 1 + 1 + 1 = g7 at *
  generalize w.heap.size + 1 + 1 + 1 = g6 at *
  generalize w.heap.size + 1 + 1 = g5 at *
  generalize w.heap.size + 1 = g4 at *
  generalize hgg : w.heap.size = g3 at *
  clear hgg
  have c_g3 : W.cell? ⟨g3, 0, none⟩ = some (.float .f64 r) := (HS.out.1.cell 5 (by simp)).1
  have c_g4 : W.cell? ⟨g4, 0, none⟩ = some (.float .f64 g) := (HS.out.1.cell 4 (by simp)).1
  have c_g5 : W.cell? ⟨g5, 0, none⟩ = some (.float .f64 b) := (HS.out.1.cell 3 (by simp)).1
  go_wp2_with fail
  refine (Hc.out _).mono ?_
  rintro e w1 ⟨rfl, hb⟩
  have hS := HS.out.1.keep hb
  have hA := HS.out.2
  clear HS hb c_g3 c_g4 c_g5
  have HS := Lib.hid (And.intro hS hA)
  clear hS hA
  go_upto_region 2 with fail
  have hS := HS.out.1
  have hA := HS.out.2
  clear HS
  generalize hW : World.alloc _ _ = W at *
  have hS2 : Bx base w [(w1.heap.size + 1 + 1, l), (w1.heap.size + 1, s), (w1.heap.size, h), (g8, 0), (g7, 0), (g6, 0), (g5, b), (g4, g), (g3, r)] W := by
    subst hW
    have := (((hS.alloc h 41).alloc s 41).alloc l 41)
    simpa using this
  have hA2 : Apart base [(w1.heap.size + 1 + 1, l), (w1.heap.size + 1, s), (w1.heap.size, h), (g8, 0), (g7, 0), (g6, 0), (g5, b), (g4, g), (g3, r)] := by
    have := (((hA.alloc hS h).alloc (hS.alloc h 41) s).alloc ((hS.alloc h 41).alloc s 41) l)
    simpa using this
  have HS := Lib.hid (And.intro hS2 hA2)
  clear hS hA hS2 hA2 hW
  generalize w1.heap.size + 1 + 1 = g11 at *
  generalize w1.heap.size + 1 = g10 at *
  generalize w1.heap.size = g9 at *
  clear w1
  have c_g3 : W.cell? ⟨g3, 0, none⟩ = some (.float .f64 r) := (HS.out.1.cell 8 (by simp)).1
  have c_g4 : W.cell? ⟨g4, 0, none⟩ = some (.float .f64 g) := (HS.out.1.cell 7 (by simp)).1
  have c_g5 : W.cell? ⟨g5, 0, none⟩ = some (.float .f64 b) := (HS.out.1.cell 6 (by simp)).1
  go_wp2_with fail
  refine (Min3_as r g b mn Hmn.out _).mono ?_
  rintro e w1 ⟨rfl, hb⟩
  have hS := HS.out.1.keep hb
  have hA := HS.out.2
  clear HS hb c_g3 c_g4 c_g5
  replace hA := hA.alloc hS mn
  replace hS := hS.alloc mn 41
  have HS := Lib.hid (And.intro hS hA)
  clear hS hA
  go_upto_region 3 with fail
  generalize World.alloc _ _ = W at *
  generalize w1.heap.size = g12 at *
  clear w1
  have c_g3 : W.cell? ⟨g3, 0, none⟩ = some (.float .f64 r) := (HS.out.1.cell 9 (by simp)).1
  have c_g4 : W.cell? ⟨g4, 0, none⟩ = some (.float .f64 g) := (HS.out.1.cell 8 (by simp)).1
  have c_g5 : W.cell? ⟨g5, 0, none⟩ = some (.float .f64 b) := (HS.out.1.cell 7 (by simp)).1
  go_wp2_with fail
  refine (Max3_as r g b mx Hmx.out _).mono ?_
  rintro e w1 ⟨rfl, hb⟩
  have hS := HS.out.1.keep hb
  have hA := HS.out.2
  clear HS hb c_g3 c_g4 c_g5
  have HS := Lib.hid (And.intro hS hA)
  clear hS hA
  go_wp2_with fail
  refine (Neg_as mx nx Hnx.out _).mono ?_
  rintro e w2 ⟨rfl, hb⟩
  have hS := HS.out.1.keep hb
  have hA := HS.out.2
  clear HS hb 
  clear w1
  generalize w2 = w1 at *
  have HS := Lib.hid (And.intro hS hA)
  clear hS hA
  go_wp2_with fail
  refine (AddConst_any nx 4607182418800017408 bk Hbk.out _).mono ?_
  rintro e w2 ⟨rfl, hb⟩
  have hS := HS.out.1.keep hb
  have hA := HS.out.2
  clear HS hb 
  clear w1
  generalize w2 = w1 at *
  replace hA := hA.alloc hS bk
  replace hS := hS.alloc bk 41
  have HS := Lib.hid (And.intro hS hA)
  clear hS hA
  go_upto_region 4 with fail
  generalize World.alloc _ _ = W at *
  generalize w1.heap.size = g13 at *
  clear w1
  refine wp_region_plan 5 (by kernel_rfl) (by kernel_rfl) (PI base w [(g13, bk), (g12, mn), (g11, l), (g10, s), (g9, h), (g8, 0), (g7, 0), (g6, 0), (g5, b), (g4, g), (g3, r)] [some 32, some 33, some 34, some 35, some 36] [] (fun i => [.agg #[.float .f64 h], .agg #[.float .f64 mn], .agg #[.float .f64 wO], .agg #[.float .f64 bk], .agg #[.float .f64 bO]].getD i (.bool false)) _) (PI.start HS.out.1) ?_ ?_
  · intro i o b' a' w' hi ho hb he hI
    rcases (by omega : i = 0 ∨ i = 1 ∨ i = 2 ∨ i = 3 ∨ i = 4) with rfl | rfl | rfl | rfl | rfl
    · obtain rfl := Option.some.inj ho
      exact hI.stepQuiet hb rfl rfl rfl (op_load _ _ _ g9 h _ rfl ((hI.old rfl).trans rfl) (hI.bx.cell 4 (by simp)).1)
    · obtain rfl := Option.some.inj ho
      exact hI.stepQuiet hb rfl rfl rfl (op_load _ _ _ g12 mn _ rfl ((hI.old rfl).trans rfl) (hI.bx.cell 1 (by simp)).1)
    · obtain rfl := Option.some.inj ho
      have e0 := hI.new 1 (edge he 1 (by kernel_rfl)) rfl rfl rfl (by show 33 < 37; decide)
      refine hI.stepCall hb rfl rfl rfl (op_call _ _ 63 Try.f63 _ _ _ rfl Try.func63 (by kernel_rfl) (by kernel_rfl)) ?_
      have hm : Array.map a'.eval #[.tmp 33, .const ((Value.float FloatKind.f64 4636737291354636288))] = #[.agg #[.float .f64 mn], (Value.float FloatKind.f64 4636737291354636288)] := by simp [e0, ev_const]
      rw [hm]
      exact MulConst_any mn 4636737291354636288 wO HwO.out _
    · obtain rfl := Option.some.inj ho
      exact hI.stepQuiet hb rfl rfl rfl (op_load _ _ _ g13 bk _ rfl ((hI.old rfl).trans rfl) (hI.bx.cell 0 (by simp)).1)
    · obtain rfl := Option.some.inj ho
      have e0 := hI.new 3 (edge he 3 (by kernel_rfl)) rfl rfl rfl (by show 35 < 37; decide)
      refine hI.stepCall hb rfl rfl rfl (op_call _ _ 63 Try.f63 _ _ _ rfl Try.func63 (by kernel_rfl) (by kernel_rfl)) ?_
      have hm : Array.map a'.eval #[.tmp 35, .const ((Value.float FloatKind.f64 4636737291354636288))] = #[.agg #[.float .f64 bk], (Value.float FloatKind.f64 4636737291354636288)] := by simp [e0, ev_const]
      rw [hm]
      exact MulConst_any bk 4636737291354636288 bO HbO.out _
  · intro b' a' w1 hb hI
    obtain ⟨ρ, rfl, hS, hC, hN⟩ := hI
    have hA := HS.out.2
    clear HS
    have p0 := hb 0 (by decide)
    have p1 := hb 1 (by decide)
    have p2 := hb 2 (by decide)
    have p3 := hb 3 (by decide)
    have p4 := hb 4 (by decide)
    have v0 : vals [] (fun i => [.agg #[.float .f64 h], .agg #[.float .f64 mn], .agg #[.float .f64 wO], .agg #[.float .f64 bk], .agg #[.float .f64 bO]].getD i (.bool false)) ρ 0 = .agg #[.float .f64 h] := rfl
    have v1 : vals [] (fun i => [.agg #[.float .f64 h], .agg #[.float .f64 mn], .agg #[.float .f64 wO], .agg #[.float .f64 bk], .agg #[.float .f64 bO]].getD i (.bool false)) ρ 1 = .agg #[.float .f64 mn] := rfl
    have v2 : vals [] (fun i => [.agg #[.float .f64 h], .agg #[.float .f64 mn], .agg #[.float .f64 wO], .agg #[.float .f64 bk], .agg #[.float .f64 bO]].getD i (.bool false)) ρ 2 = .agg #[.float .f64 wO] := rfl
    have v3 : vals [] (fun i => [.agg #[.float .f64 h], .agg #[.float .f64 mn], .agg #[.float .f64 wO], .agg #[.float .f64 bk], .agg #[.float .f64 bO]].getD i (.bool false)) ρ 3 = .agg #[.float .f64 bk] := rfl
    have v4 : vals [] (fun i => [.agg #[.float .f64 h], .agg #[.float .f64 mn], .agg #[.float .f64 wO], .agg #[.float .f64 bk], .agg #[.float .f64 bO]].getD i (.bool false)) ρ 4 = .agg #[.float .f64 bO] := rfl
    simp only [puts, Nat.zero_add, p0, p1, p2, p3, p4, v0, v1, v2, v3, v4, if_true, List.drop_succ_cons, List.drop_zero, Nat.reduceAdd]
    clear hb hC hN p0 p1 p2 p3 p4 v0 v1 v2 v3 v4
    clear ρ b'
    have s0 : (w1).cell? ⟨g6, 0, none⟩ = some (.float .f64 0) := (hS.cell 7 (by simp)).1
    have t0 : (w1).frozen? ⟨g6, 0, none⟩ = false := (hS.cell 7 (by simp)).2
    replace hS : Bx base w [(g13, bk), (g12, mn), (g11, l), (g10, s), (g9, h), (g8, 0), (g7, 0), (g6, h), (g5, b), (g4, g), (g3, r)] ((w1).setCell ⟨g6, 0, none⟩ (.float .f64 h)) := hS.set h hA 7 (by simp)
    replace hA : Apart base [(g13, bk), (g12, mn), (g11, l), (g10, s), (g9, h), (g8, 0), (g7, 0), (g6, h), (g5, b), (g4, g), (g3, r)] := Apart.of_fst (by rfl) hA
    have s1 : ((w1).setCell ⟨g6, 0, none⟩ (.float .f64 h)).cell? ⟨g7, 0, none⟩ = some (.float .f64 0) := (hS.cell 6 (by simp)).1
    have t1 : ((w1).setCell ⟨g6, 0, none⟩ (.float .f64 h)).frozen? ⟨g7, 0, none⟩ = false := (hS.cell 6 (by simp)).2
    replace hS : Bx base w [(g13, bk), (g12, mn), (g11, l), (g10, s), (g9, h), (g8, 0), (g7, wO), (g6, h), (g5, b), (g4, g), (g3, r)] (((w1).setCell ⟨g6, 0, none⟩ (.float .f64 h)).setCell ⟨g7, 0, none⟩ (.float .f64 wO)) := hS.set wO hA 6 (by simp)
    replace hA : Apart base [(g13, bk), (g12, mn), (g11, l), (g10, s), (g9, h), (g8, 0), (g7, wO), (g6, h), (g5, b), (g4, g), (g3, r)] := Apart.of_fst (by rfl) hA
    have s2 : (((w1).setCell ⟨g6, 0, none⟩ (.float .f64 h)).setCell ⟨g7, 0, none⟩ (.float .f64 wO)).cell? ⟨g8, 0, none⟩ = some (.float .f64 0) := (hS.cell 5 (by simp)).1
    have t2 : (((w1).setCell ⟨g6, 0, none⟩ (.float .f64 h)).setCell ⟨g7, 0, none⟩ (.float .f64 wO)).frozen? ⟨g8, 0, none⟩ = false := (hS.cell 5 (by simp)).2
    replace hS : Bx base w [(g13, bk), (g12, mn), (g11, l), (g10, s), (g9, h), (g8, bO), (g7, wO), (g6, h), (g5, b), (g4, g), (g3, r)] ((((w1).setCell ⟨g6, 0, none⟩ (.float .f64 h)).setCell ⟨g7, 0, none⟩ (.float .f64 wO)).setCell ⟨g8, 0, none⟩ (.float .f64 bO)) := hS.set bO hA 5 (by simp)
    replace hA : Apart base [(g13, bk), (g12, mn), (g11, l), (g10, s), (g9, h), (g8, bO), (g7, wO), (g6, h), (g5, b), (g4, g), (g3, r)] := Apart.of_fst (by rfl) hA
    have HS := Lib.hid (And.intro hS hA)
    clear hS hA
    go_wp2_with fail
    clear s0 t0 s1 t1 s2 t2
    generalize World.setCell _ _ _ = W at *
    clear w1
    have c_g6 : W.cell? ⟨g6, 0, none⟩ = some (.float .f64 h) := (HS.out.1.cell 7 (by simp)).1
    have c_g7 : W.cell? ⟨g7, 0, none⟩ = some (.float .f64 wO) := (HS.out.1.cell 6 (by simp)).1
    have c_g8 : W.cell? ⟨g8, 0, none⟩ = some (.float .f64 bO) := (HS.out.1.cell 5 (by simp)).1
    refine bodyPost_ret (v := .tuple #[.agg #[.float .f64 h], .agg #[.float .f64 wO], .agg #[.float .f64 bO]]) (by simp [results, Try.results54, go_sem, c_g6, c_g7, c_g8]) rfl ⟨rfl, HS.out.1.below.2⟩
end Go.Proofs.Ytafeeebgleecfaa.Mat
