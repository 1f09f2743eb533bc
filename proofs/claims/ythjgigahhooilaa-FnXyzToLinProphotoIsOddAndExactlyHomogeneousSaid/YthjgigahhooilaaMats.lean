import Derived.Test.YthjgigahhooilaaMat
namespace Go.Proofs.Ythjgigahhooilaa.Mat
open Go.ChangeShapes Go.WideShapes Go.ChangeAt Go.RowKit
attribute [local go_sem] run_store_float build_f64
theorem below7 (w : World) (o1 o2 o3 o4 o5 o6 o7 : Obj) : Below w.heap.size w (((((((w.alloc o1).alloc o2).alloc o3).alloc o4).alloc o5).alloc o6).alloc o7) := by
  have b1 := (Below.refl w.heap.size w).alloc (Nat.le_refl _) o1
  have b2 := b1.alloc b1.size o2
  have b3 := b2.alloc b2.size o3
  have b4 := b3.alloc b3.size o4
  have b5 := b4.alloc b4.size o5
  have b6 := b5.alloc b5.size o6
  exact b6.alloc b6.size o7
def xyz_to_lin_prophoto_c : List Nat := [4608739758926428405, 13821647778546615692, 13810898049774936208, 13826452779721249017, 4609471295584413373, 4581576329749283875, 0, 0, 4608137035759571601]
set_option maxRecDepth 100000 in
set_option maxHeartbeats 2000000 in
theorem xyz_to_lin_prophoto_any (x y z r0 r1 r2 : Nat) (h0 : row3 4608739758926428405 13821647778546615692 13810898049774936208 x y z = some r0) (h1 : row3 13826452779721249017 4609471295584413373 4581576329749283875 x y z = some r1) (h2 : row3 0 0 4608137035759571601 x y z = some r2) (w : World) :
    Calls Try.prog 42 #[.agg #[.float .f64 x], .agg #[.float .f64 y], .agg #[.float .f64 z]] w fun e w' => e = .returned (.tuple #[.agg #[.float .f64 r0], .agg #[.float .f64 r1], .agg #[.float .f64 r2]]) ∧ Below w.heap.size w w' := by
  have H0 := Lib.hid h0
  have H1 := Lib.hid h1
  have H2 := Lib.hid h2
  clear h0 h1 h2
  go_enter Try.func42, Try.ntmps42
  go_wp2_with fail
  refine (mm_any _ _ _ _ _ _ _ _ _ _ _ _ _ _ _ H0.out H1.out H2.out _).mono ?_
  rintro e w1 ⟨rfl, hb⟩
  have c3 := hb.cell (p := ⟨w.heap.size + 1 + 1 + 1, 0, none⟩) (by simp; try omega)
  have f3 := hb.frozen (p := ⟨w.heap.size + 1 + 1 + 1, 0, none⟩) (by simp; try omega)
  have c4 := hb.cell (p := ⟨w.heap.size + 1 + 1 + 1 + 1, 0, none⟩) (by simp; try omega)
  have f4 := hb.frozen (p := ⟨w.heap.size + 1 + 1 + 1 + 1, 0, none⟩) (by simp; try omega)
  have c5 := hb.cell (p := ⟨w.heap.size + 1 + 1 + 1 + 1 + 1, 0, none⟩) (by simp; try omega)
  have f5 := hb.frozen (p := ⟨w.heap.size + 1 + 1 + 1 + 1 + 1, 0, none⟩) (by simp; try omega)
  have hz := hb.size
  have hB : Below w.heap.size w w1 := (below7 w _ _ _ _ _ _ _).trans (hb.mono (by simp; omega))
  simp [go_sem] at c3 f3 c4 f4 c5 f5 hz
  clear hb
  go_wp2
  refine bodyPost_ret (v := .tuple #[.agg #[.float .f64 r0], .agg #[.float .f64 r1], .agg #[.float .f64 r2]]) (by simp [results, Try.results42, go_sem, c3, c4, c5]) rfl ⟨rfl, ?_⟩
  exact ((hB.setCell (by simp; try omega) _).setCell (by simp; try omega) _).setCell (by simp; try omega) _

def xyz_to_lin_a98rgb_c : List Nat := [4611779666061440502, 13826636386797700231, 13823253784704314578, 13830277426958423814, 4611127425713396243, 4586149535949532533, 4578903721908372390, 13816565366726681444, 4607250760899102990]
set_option maxRecDepth 100000 in
set_option maxHeartbeats 2000000 in
theorem xyz_to_lin_a98rgb_any (x y z r0 r1 r2 : Nat) (h0 : row3 4611779666061440502 13826636386797700231 13823253784704314578 x y z = some r0) (h1 : row3 13830277426958423814 4611127425713396243 4586149535949532533 x y z = some r1) (h2 : row3 4578903721908372390 13816565366726681444 4607250760899102990 x y z = some r2) (w : World) :
    Calls Try.prog 32 #[.agg #[.float .f64 x], .agg #[.float .f64 y], .agg #[.float .f64 z]] w fun e w' => e = .returned (.tuple #[.agg #[.float .f64 r0], .agg #[.float .f64 r1], .agg #[.float .f64 r2]]) ∧ Below w.heap.size w w' := by
  have H0 := Lib.hid h0
  have H1 := Lib.hid h1
  have H2 := Lib.hid h2
  clear h0 h1 h2
  go_enter Try.func32, Try.ntmps32
  go_wp2_with fail
  refine (mm_any _ _ _ _ _ _ _ _ _ _ _ _ _ _ _ H0.out H1.out H2.out _).mono ?_
  rintro e w1 ⟨rfl, hb⟩
  have c3 := hb.cell (p := ⟨w.heap.size + 1 + 1 + 1, 0, none⟩) (by simp; try omega)
  have f3 := hb.frozen (p := ⟨w.heap.size + 1 + 1 + 1, 0, none⟩) (by simp; try omega)
  have c4 := hb.cell (p := ⟨w.heap.size + 1 + 1 + 1 + 1, 0, none⟩) (by simp; try omega)
  have f4 := hb.frozen (p := ⟨w.heap.size + 1 + 1 + 1 + 1, 0, none⟩) (by simp; try omega)
  have c5 := hb.cell (p := ⟨w.heap.size + 1 + 1 + 1 + 1 + 1, 0, none⟩) (by simp; try omega)
  have f5 := hb.frozen (p := ⟨w.heap.size + 1 + 1 + 1 + 1 + 1, 0, none⟩) (by simp; try omega)
  have hz := hb.size
  have hB : Below w.heap.size w w1 := (below7 w _ _ _ _ _ _ _).trans (hb.mono (by simp; omega))
  simp [go_sem] at c3 f3 c4 f4 c5 f5 hz
  clear hb
  go_wp2
  refine bodyPost_ret (v := .tuple #[.agg #[.float .f64 r0], .agg #[.float .f64 r1], .agg #[.float .f64 r2]]) (by simp [results, Try.results32, go_sem, c3, c4, c5]) rfl ⟨rfl, ?_⟩
  exact ((hB.setCell (by simp; try omega) _).setCell (by simp; try omega) _).setCell (by simp; try omega) _

def xyz_to_lin_p3_c : List Nat := [4612797274681751849, 13829936414229251323, 13824298249327843042, 13829018628828503116, 4610617152377875984, 4582466573495113356, 4585326749603112614, 13813525256620716304, 4606794069116791646]
set_option maxRecDepth 100000 in
set_option maxHeartbeats 2000000 in
theorem xyz_to_lin_p3_any (x y z r0 r1 r2 : Nat) (h0 : row3 4612797274681751849 13829936414229251323 13824298249327843042 x y z = some r0) (h1 : row3 13829018628828503116 4610617152377875984 4582466573495113356 x y z = some r1) (h2 : row3 4585326749603112614 13813525256620716304 4606794069116791646 x y z = some r2) (w : World) :
    Calls Try.prog 36 #[.agg #[.float .f64 x], .agg #[.float .f64 y], .agg #[.float .f64 z]] w fun e w' => e = .returned (.tuple #[.agg #[.float .f64 r0], .agg #[.float .f64 r1], .agg #[.float .f64 r2]]) ∧ Below w.heap.size w w' := by
  have H0 := Lib.hid h0
  have H1 := Lib.hid h1
  have H2 := Lib.hid h2
  clear h0 h1 h2
  go_enter Try.func36, Try.ntmps36
  go_wp2_with fail
  refine (mm_any _ _ _ _ _ _ _ _ _ _ _ _ _ _ _ H0.out H1.out H2.out _).mono ?_
  rintro e w1 ⟨rfl, hb⟩
  have c3 := hb.cell (p := ⟨w.heap.size + 1 + 1 + 1, 0, none⟩) (by simp; try omega)
  have f3 := hb.frozen (p := ⟨w.heap.size + 1 + 1 + 1, 0, none⟩) (by simp; try omega)
  have c4 := hb.cell (p := ⟨w.heap.size + 1 + 1 + 1 + 1, 0, none⟩) (by simp; try omega)
  have f4 := hb.frozen (p := ⟨w.heap.size + 1 + 1 + 1 + 1, 0, none⟩) (by simp; try omega)
  have c5 := hb.cell (p := ⟨w.heap.size + 1 + 1 + 1 + 1 + 1, 0, none⟩) (by simp; try omega)
  have f5 := hb.frozen (p := ⟨w.heap.size + 1 + 1 + 1 + 1 + 1, 0, none⟩) (by simp; try omega)
  have hz := hb.size
  have hB : Below w.heap.size w w1 := (below7 w _ _ _ _ _ _ _).trans (hb.mono (by simp; omega))
  simp [go_sem] at c3 f3 c4 f4 c5 f5 hz
  clear hb
  go_wp2
  refine bodyPost_ret (v := .tuple #[.agg #[.float .f64 r0], .agg #[.float .f64 r1], .agg #[.float .f64 r2]]) (by simp [results, Try.results36, go_sem, c3, c4, c5]) rfl ⟨rfl, ?_⟩
  exact ((hB.setCell (by simp; try omega) _).setCell (by simp; try omega) _).setCell (by simp; try omega) _

def lin_p3_to_xyz_c : List Nat := [4602436902889991582, 4598457463613748745, 4596309550625894354, 4597417698381910165, 4604405846243637830, 4590377644931452072, 0, 4586662344547128081, 4607380326643424874]
set_option maxRecDepth 100000 in
set_option maxHeartbeats 2000000 in
theorem lin_p3_to_xyz_any (x y z r0 r1 r2 : Nat) (h0 : row3 4602436902889991582 4598457463613748745 4596309550625894354 x y z = some r0) (h1 : row3 4597417698381910165 4604405846243637830 4590377644931452072 x y z = some r1) (h2 : row3 0 4586662344547128081 4607380326643424874 x y z = some r2) (w : World) :
    Calls Try.prog 37 #[.agg #[.float .f64 x], .agg #[.float .f64 y], .agg #[.float .f64 z]] w fun e w' => e = .returned (.tuple #[.agg #[.float .f64 r0], .agg #[.float .f64 r1], .agg #[.float .f64 r2]]) ∧ Below w.heap.size w w' := by
  have H0 := Lib.hid h0
  have H1 := Lib.hid h1
  have H2 := Lib.hid h2
  clear h0 h1 h2
  go_enter Try.func37, Try.ntmps37
  go_wp2_with fail
  refine (mm_any _ _ _ _ _ _ _ _ _ _ _ _ _ _ _ H0.out H1.out H2.out _).mono ?_
  rintro e w1 ⟨rfl, hb⟩
  have c3 := hb.cell (p := ⟨w.heap.size + 1 + 1 + 1, 0, none⟩) (by simp; try omega)
  have f3 := hb.frozen (p := ⟨w.heap.size + 1 + 1 + 1, 0, none⟩) (by simp; try omega)
  have c4 := hb.cell (p := ⟨w.heap.size + 1 + 1 + 1 + 1, 0, none⟩) (by simp; try omega)
  have f4 := hb.frozen (p := ⟨w.heap.size + 1 + 1 + 1 + 1, 0, none⟩) (by simp; try omega)
  have c5 := hb.cell (p := ⟨w.heap.size + 1 + 1 + 1 + 1 + 1, 0, none⟩) (by simp; try omega)
  have f5 := hb.frozen (p := ⟨w.heap.size + 1 + 1 + 1 + 1 + 1, 0, none⟩) (by simp; try omega)
  have hz := hb.size
  have hB : Below w.heap.size w w1 := (below7 w _ _ _ _ _ _ _).trans (hb.mono (by simp; omega))
  simp [go_sem] at c3 f3 c4 f4 c5 f5 hz
  clear hb
  go_wp2
  refine bodyPost_ret (v := .tuple #[.agg #[.float .f64 r0], .agg #[.float .f64 r1], .agg #[.float .f64 r2]]) (by simp [results, Try.results37, go_sem, c3, c4, c5]) rfl ⟨rfl, ?_⟩
  exact ((hB.setCell (by simp; try omega) _).setCell (by simp; try omega) _).setCell (by simp; try omega) _

def d65_to_d50_c : List Nat := [4607398275395863001, 4582271206553430542, 13810766325786792494, 4584196855874768158, 4607096259775803785, 13803950445789587696, 13799853908800311418, 4579832348793622812, 4604947501012614851]
set_option maxRecDepth 100000 in
set_option maxHeartbeats 2000000 in
theorem d65_to_d50_any (x y z r0 r1 r2 : Nat) (h0 : row3 4607398275395863001 4582271206553430542 13810766325786792494 x y z = some r0) (h1 : row3 4584196855874768158 4607096259775803785 13803950445789587696 x y z = some r1) (h2 : row3 13799853908800311418 4579832348793622812 4604947501012614851 x y z = some r2) (w : World) :
    Calls Try.prog 39 #[.agg #[.float .f64 x], .agg #[.float .f64 y], .agg #[.float .f64 z]] w fun e w' => e = .returned (.tuple #[.agg #[.float .f64 r0], .agg #[.float .f64 r1], .agg #[.float .f64 r2]]) ∧ Below w.heap.size w w' := by
  have H0 := Lib.hid h0
  have H1 := Lib.hid h1
  have H2 := Lib.hid h2
  clear h0 h1 h2
  go_enter Try.func39, Try.ntmps39
  go_wp2_with fail
  refine (mm_any _ _ _ _ _ _ _ _ _ _ _ _ _ _ _ H0.out H1.out H2.out _).mono ?_
  rintro e w1 ⟨rfl, hb⟩
  have c3 := hb.cell (p := ⟨w.heap.size + 1 + 1 + 1, 0, none⟩) (by simp; try omega)
  have f3 := hb.frozen (p := ⟨w.heap.size + 1 + 1 + 1, 0, none⟩) (by simp; try omega)
  have c4 := hb.cell (p := ⟨w.heap.size + 1 + 1 + 1 + 1, 0, none⟩) (by simp; try omega)
  have f4 := hb.frozen (p := ⟨w.heap.size + 1 + 1 + 1 + 1, 0, none⟩) (by simp; try omega)
  have c5 := hb.cell (p := ⟨w.heap.size + 1 + 1 + 1 + 1 + 1, 0, none⟩) (by simp; try omega)
  have f5 := hb.frozen (p := ⟨w.heap.size + 1 + 1 + 1 + 1 + 1, 0, none⟩) (by simp; try omega)
  have hz := hb.size
  have hB : Below w.heap.size w w1 := (below7 w _ _ _ _ _ _ _).trans (hb.mono (by simp; omega))
  simp [go_sem] at c3 f3 c4 f4 c5 f5 hz
  clear hb
  go_wp2
  refine bodyPost_ret (v := .tuple #[.agg #[.float .f64 r0], .agg #[.float .f64 r1], .agg #[.float .f64 r2]]) (by simp [results, Try.results39, go_sem, c3, c4, c5]) rfl ⟨rfl, ?_⟩
  exact ((hB.setCell (by simp; try omega) _).setCell (by simp; try omega) _).setCell (by simp; try omega) _

def d50_to_d65_c : List Nat := [4606781359035228631, 13805686934621605564, 4589222729528858206, 13807206270255814006, 4607227434071091789, 4581722003917944388, 4578252168053708272, 13804940185734608780, 4608670254662337346]
set_option maxRecDepth 100000 in
set_option maxHeartbeats 2000000 in
theorem d50_to_d65_any (x y z r0 r1 r2 : Nat) (h0 : row3 4606781359035228631 13805686934621605564 4589222729528858206 x y z = some r0) (h1 : row3 13807206270255814006 4607227434071091789 4581722003917944388 x y z = some r1) (h2 : row3 4578252168053708272 13804940185734608780 4608670254662337346 x y z = some r2) (w : World) :
    Calls Try.prog 40 #[.agg #[.float .f64 x], .agg #[.float .f64 y], .agg #[.float .f64 z]] w fun e w' => e = .returned (.tuple #[.agg #[.float .f64 r0], .agg #[.float .f64 r1], .agg #[.float .f64 r2]]) ∧ Below w.heap.size w w' := by
  have H0 := Lib.hid h0
  have H1 := Lib.hid h1
  have H2 := Lib.hid h2
  clear h0 h1 h2
  go_enter Try.func40, Try.ntmps40
  go_wp2_with fail
  refine (mm_any _ _ _ _ _ _ _ _ _ _ _ _ _ _ _ H0.out H1.out H2.out _).mono ?_
  rintro e w1 ⟨rfl, hb⟩
  have c3 := hb.cell (p := ⟨w.heap.size + 1 + 1 + 1, 0, none⟩) (by simp; try omega)
  have f3 := hb.frozen (p := ⟨w.heap.size + 1 + 1 + 1, 0, none⟩) (by simp; try omega)
  have c4 := hb.cell (p := ⟨w.heap.size + 1 + 1 + 1 + 1, 0, none⟩) (by simp; try omega)
  have f4 := hb.frozen (p := ⟨w.heap.size + 1 + 1 + 1 + 1, 0, none⟩) (by simp; try omega)
  have c5 := hb.cell (p := ⟨w.heap.size + 1 + 1 + 1 + 1 + 1, 0, none⟩) (by simp; try omega)
  have f5 := hb.frozen (p := ⟨w.heap.size + 1 + 1 + 1 + 1 + 1, 0, none⟩) (by simp; try omega)
  have hz := hb.size
  have hB : Below w.heap.size w w1 := (below7 w _ _ _ _ _ _ _).trans (hb.mono (by simp; omega))
  simp [go_sem] at c3 f3 c4 f4 c5 f5 hz
  clear hb
  go_wp2
  refine bodyPost_ret (v := .tuple #[.agg #[.float .f64 r0], .agg #[.float .f64 r1], .agg #[.float .f64 r2]]) (by simp [results, Try.results40, go_sem, c3, c4, c5]) rfl ⟨rfl, ?_⟩
  exact ((hB.setCell (by simp; try omega) _).setCell (by simp; try omega) _).setCell (by simp; try omega) _

end Go.Proofs.Ythjgigahhooilaa.Mat
