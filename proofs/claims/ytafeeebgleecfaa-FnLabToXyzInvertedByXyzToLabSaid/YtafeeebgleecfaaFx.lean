/-
  Contracts of helpers.F64's methods and of the math functions that they call.
-/
import Derived.Test.YtafeeebgleecfaaRows
import Derived.WalkKit
import Derived.ProofKit
import Derived.OpenShut
import Derived.Below
import Derived.Lib.Hide
import Derived.Outline
import Derived.Laws.Cover2
import Derived.Laws.FloatArith
import Derived.Laws.Externs
import Derived.WalkLawsBesides
import Derived.Deep.RegionHeld3
import Derived.Test.YtafeeebgleecfaaFLI
namespace Go.Proofs.Ytafeeebgleecfaa.Mat
open Go.ChangeShapes Go.WideShapes Go.ChangeAt Go.RowKit
open FL
set_option linter.unusedVariables false
theorem run_store_float (P : Program) (w : World) (a : Addr) (m : Mode) (k : FloatKind) (b : Nat) : (store a (.float k b) m).run P w = stored P w a (.float k b) m := run_store P w a _ m rfl
attribute [local go_sem] run_store_float
theorem build_f64 (a : Nat) (w : World) : (Instr.build 41 #[(0, .float .f64 a)]).run Try.prog w = .ok (.agg #[.float .f64 a]) w := run_build w 41 _ _ (by kernel_rfl)
attribute [local go_sem] build_f64
abbrev fv (x : Nat) : Value := .agg #[.float .f64 x]

set_option maxRecDepth 100000 in
theorem NewF64_any (x : Nat) (w : World) :
    Calls Try.prog 42 #[.float .f64 x] w fun e w' => e = .returned (.agg #[.float .f64 x]) ∧ Below w.heap.size w w' := by
  go_enter Try.func42, Try.ntmps42
  go_wp2
  refine bodyPost_ret (v := .agg #[.float .f64 x]) (by simp [results, Try.results42, go_sem]) rfl ⟨rfl, ?_⟩
  exact ((Below.refl _ _).alloc (Nat.le_refl _) _)

set_option maxRecDepth 100000 in
theorem Value_any (x : Nat) (w : World) :
    Calls Try.prog 43 #[.agg #[.float .f64 x]] w fun e w' => e = .returned (.float .f64 x) ∧ Below w.heap.size w w' := by
  go_enter Try.func43, Try.ntmps43
  go_wp2
  go_ret
  exact ⟨rfl, ((Below.refl _ _).alloc (Nat.le_refl _) _)⟩

set_option maxRecDepth 100000 in
set_option maxHeartbeats 400000 in
theorem Add_any (x y r : Nat) (h : Ieee.double.add x y = some r) (w : World) :
    Calls Try.prog 61 #[.agg #[.float .f64 x], .agg #[.float .f64 y]] w fun e w' => e = .returned (.agg #[.float .f64 r]) ∧ Below w.heap.size w w' := by
  have hm : ∀ w, (binOp .add 22 (.float .f64 x) (.float .f64 y)).run Try.prog w = .ok (.float .f64 r) w := fun w => run_float_arith w .add 22 .f64 x y r h
  clear h
  go_enter Try.func61, Try.ntmps61
  go_wp2_with fail
  refine (NewF64_any r _).mono ?_
  rintro e w1 ⟨rfl, hb⟩
  have c0 := hb.cell (p := ⟨w.heap.size + 1 + 1, 0, none⟩) (by simp)
  have f0 := hb.frozen (p := ⟨w.heap.size + 1 + 1, 0, none⟩) (by simp)
  have hz := hb.size
  simp at c0 f0 hz
  go_wp2
  refine bodyPost_ret (v := .agg #[.float .f64 r]) (by simp [results, Try.results61, go_sem, c0]) rfl ⟨rfl, ?_⟩
  exact (((((Below.refl _ _).alloc (Nat.le_refl _) _).alloc (by simp) _).alloc (by simp; omega) _).trans (hb.mono (by simp; omega))).setCell (by simp; try omega) _

set_option maxRecDepth 100000 in
set_option maxHeartbeats 400000 in
theorem Sub_any (x y r : Nat) (h : Ieee.double.sub x y = some r) (w : World) :
    Calls Try.prog 62 #[.agg #[.float .f64 x], .agg #[.float .f64 y]] w fun e w' => e = .returned (.agg #[.float .f64 r]) ∧ Below w.heap.size w w' := by
  have hm : ∀ w, (binOp .sub 22 (.float .f64 x) (.float .f64 y)).run Try.prog w = .ok (.float .f64 r) w := fun w => run_float_arith w .sub 22 .f64 x y r h
  clear h
  go_enter Try.func62, Try.ntmps62
  go_wp2_with fail
  refine (NewF64_any r _).mono ?_
  rintro e w1 ⟨rfl, hb⟩
  have c0 := hb.cell (p := ⟨w.heap.size + 1 + 1, 0, none⟩) (by simp)
  have f0 := hb.frozen (p := ⟨w.heap.size + 1 + 1, 0, none⟩) (by simp)
  have hz := hb.size
  simp at c0 f0 hz
  go_wp2
  refine bodyPost_ret (v := .agg #[.float .f64 r]) (by simp [results, Try.results62, go_sem, c0]) rfl ⟨rfl, ?_⟩
  exact (((((Below.refl _ _).alloc (Nat.le_refl _) _).alloc (by simp) _).alloc (by simp; omega) _).trans (hb.mono (by simp; omega))).setCell (by simp; try omega) _

set_option maxRecDepth 100000 in
set_option maxHeartbeats 400000 in
theorem Mul_any (x y r : Nat) (h : Ieee.double.mul x y = some r) (w : World) :
    Calls Try.prog 60 #[.agg #[.float .f64 x], .agg #[.float .f64 y]] w fun e w' => e = .returned (.agg #[.float .f64 r]) ∧ Below w.heap.size w w' := by
  have hm : ∀ w, (binOp .mul 22 (.float .f64 x) (.float .f64 y)).run Try.prog w = .ok (.float .f64 r) w := fun w => run_float_arith w .mul 22 .f64 x y r h
  clear h
  go_enter Try.func60, Try.ntmps60
  go_wp2_with fail
  refine (NewF64_any r _).mono ?_
  rintro e w1 ⟨rfl, hb⟩
  have c0 := hb.cell (p := ⟨w.heap.size + 1 + 1, 0, none⟩) (by simp)
  have f0 := hb.frozen (p := ⟨w.heap.size + 1 + 1, 0, none⟩) (by simp)
  have hz := hb.size
  simp at c0 f0 hz
  go_wp2
  refine bodyPost_ret (v := .agg #[.float .f64 r]) (by simp [results, Try.results60, go_sem, c0]) rfl ⟨rfl, ?_⟩
  exact (((((Below.refl _ _).alloc (Nat.le_refl _) _).alloc (by simp) _).alloc (by simp; omega) _).trans (hb.mono (by simp; omega))).setCell (by simp; try omega) _

set_option maxRecDepth 100000 in
set_option maxHeartbeats 400000 in
theorem Div_any (x y r : Nat) (h : Ieee.double.div x y = some r) (w : World) :
    Calls Try.prog 73 #[.agg #[.float .f64 x], .agg #[.float .f64 y]] w fun e w' => e = .returned (.agg #[.float .f64 r]) ∧ Below w.heap.size w w' := by
  have hm : ∀ w, (binOp .quo 22 (.float .f64 x) (.float .f64 y)).run Try.prog w = .ok (.float .f64 r) w := fun w => run_float_arith w .quo 22 .f64 x y r h
  clear h
  go_enter Try.func73, Try.ntmps73
  go_wp2_with fail
  refine (NewF64_any r _).mono ?_
  rintro e w1 ⟨rfl, hb⟩
  have c0 := hb.cell (p := ⟨w.heap.size + 1 + 1, 0, none⟩) (by simp)
  have f0 := hb.frozen (p := ⟨w.heap.size + 1 + 1, 0, none⟩) (by simp)
  have hz := hb.size
  simp at c0 f0 hz
  go_wp2
  refine bodyPost_ret (v := .agg #[.float .f64 r]) (by simp [results, Try.results73, go_sem, c0]) rfl ⟨rfl, ?_⟩
  exact (((((Below.refl _ _).alloc (Nat.le_refl _) _).alloc (by simp) _).alloc (by simp; omega) _).trans (hb.mono (by simp; omega))).setCell (by simp; try omega) _

set_option maxRecDepth 100000 in
set_option maxHeartbeats 400000 in
theorem AddConst_any (x y r : Nat) (h : Ieee.double.add x y = some r) (w : World) :
    Calls Try.prog 59 #[.agg #[.float .f64 x], .float .f64 y] w fun e w' => e = .returned (.agg #[.float .f64 r]) ∧ Below w.heap.size w w' := by
  have hm : ∀ w, (binOp .add 22 (.float .f64 x) (.float .f64 y)).run Try.prog w = .ok (.float .f64 r) w := fun w => run_float_arith w .add 22 .f64 x y r h
  clear h
  go_enter Try.func59, Try.ntmps59
  go_wp2_with fail
  refine (NewF64_any r _).mono ?_
  rintro e w1 ⟨rfl, hb⟩
  have c0 := hb.cell (p := ⟨w.heap.size + 1, 0, none⟩) (by simp)
  have f0 := hb.frozen (p := ⟨w.heap.size + 1, 0, none⟩) (by simp)
  have hz := hb.size
  simp at c0 f0 hz
  go_wp2
  refine bodyPost_ret (v := .agg #[.float .f64 r]) (by simp [results, Try.results59, go_sem, c0]) rfl ⟨rfl, ?_⟩
  exact ((((Below.refl _ _).alloc (Nat.le_refl _) _).alloc (by simp) _).trans (hb.mono (by simp; omega))).setCell (by simp; try omega) _

set_option maxRecDepth 100000 in
set_option maxHeartbeats 400000 in
theorem SubConst_any (x y r : Nat) (h : Ieee.double.sub x y = some r) (w : World) :
    Calls Try.prog 65 #[.agg #[.float .f64 x], .float .f64 y] w fun e w' => e = .returned (.agg #[.float .f64 r]) ∧ Below w.heap.size w w' := by
  have hm : ∀ w, (binOp .sub 22 (.float .f64 x) (.float .f64 y)).run Try.prog w = .ok (.float .f64 r) w := fun w => run_float_arith w .sub 22 .f64 x y r h
  clear h
  go_enter Try.func65, Try.ntmps65
  go_wp2_with fail
  refine (NewF64_any r _).mono ?_
  rintro e w1 ⟨rfl, hb⟩
  have c0 := hb.cell (p := ⟨w.heap.size + 1, 0, none⟩) (by simp)
  have f0 := hb.frozen (p := ⟨w.heap.size + 1, 0, none⟩) (by simp)
  have hz := hb.size
  simp at c0 f0 hz
  go_wp2
  refine bodyPost_ret (v := .agg #[.float .f64 r]) (by simp [results, Try.results65, go_sem, c0]) rfl ⟨rfl, ?_⟩
  exact ((((Below.refl _ _).alloc (Nat.le_refl _) _).alloc (by simp) _).trans (hb.mono (by simp; omega))).setCell (by simp; try omega) _

set_option maxRecDepth 100000 in
set_option maxHeartbeats 400000 in
theorem MulConst_any (x y r : Nat) (h : Ieee.double.mul x y = some r) (w : World) :
    Calls Try.prog 63 #[.agg #[.float .f64 x], .float .f64 y] w fun e w' => e = .returned (.agg #[.float .f64 r]) ∧ Below w.heap.size w w' := by
  have hm : ∀ w, (binOp .mul 22 (.float .f64 x) (.float .f64 y)).run Try.prog w = .ok (.float .f64 r) w := fun w => run_float_arith w .mul 22 .f64 x y r h
  clear h
  go_enter Try.func63, Try.ntmps63
  go_wp2_with fail
  refine (NewF64_any r _).mono ?_
  rintro e w1 ⟨rfl, hb⟩
  have c0 := hb.cell (p := ⟨w.heap.size + 1, 0, none⟩) (by simp)
  have f0 := hb.frozen (p := ⟨w.heap.size + 1, 0, none⟩) (by simp)
  have hz := hb.size
  simp at c0 f0 hz
  go_wp2
  refine bodyPost_ret (v := .agg #[.float .f64 r]) (by simp [results, Try.results63, go_sem, c0]) rfl ⟨rfl, ?_⟩
  exact ((((Below.refl _ _).alloc (Nat.le_refl _) _).alloc (by simp) _).trans (hb.mono (by simp; omega))).setCell (by simp; try omega) _

set_option maxRecDepth 100000 in
set_option maxHeartbeats 400000 in
theorem DivConst_any (x y r : Nat) (h : Ieee.double.div x y = some r) (w : World) :
    Calls Try.prog 58 #[.agg #[.float .f64 x], .float .f64 y] w fun e w' => e = .returned (.agg #[.float .f64 r]) ∧ Below w.heap.size w w' := by
  have hm : ∀ w, (binOp .quo 22 (.float .f64 x) (.float .f64 y)).run Try.prog w = .ok (.float .f64 r) w := fun w => run_float_arith w .quo 22 .f64 x y r h
  clear h
  go_enter Try.func58, Try.ntmps58
  go_wp2_with fail
  refine (NewF64_any r _).mono ?_
  rintro e w1 ⟨rfl, hb⟩
  have c0 := hb.cell (p := ⟨w.heap.size + 1, 0, none⟩) (by simp)
  have f0 := hb.frozen (p := ⟨w.heap.size + 1, 0, none⟩) (by simp)
  have hz := hb.size
  simp at c0 f0 hz
  go_wp2
  refine bodyPost_ret (v := .agg #[.float .f64 r]) (by simp [results, Try.results58, go_sem, c0]) rfl ⟨rfl, ?_⟩
  exact ((((Below.refl _ _).alloc (Nat.le_refl _) _).alloc (by simp) _).trans (hb.mono (by simp; omega))).setCell (by simp; try omega) _


theorem run_archMax (x y : Nat) (w : World) : (callFunc 91 #[.float .f64 x, .float .f64 y]).run Try.prog w = .ok (.value (.float .f64 (maxW x y))) w := by
  rw [run_callFunc_extern (e := Extern.MathDim.pick "math.archMax" false .gt) Try.func91 (by decide +kernel) rfl (by kernel_rfl) (by kernel_rfl)]; rfl
set_option maxRecDepth 100000 in
set_option maxHeartbeats 400000 in
theorem mMax_any (x y : Nat) (w : World) : Calls Try.prog 81 #[.float .f64 x, .float .f64 y] w fun e w' => e = .returned (.float .f64 (maxW x y)) ∧ Below w.heap.size w w' := by
  have h := run_archMax x y
  generalize maxW x y = r at *
  go_enter Try.func81, Try.ntmps81
  go_wp2
  go_ret
  exact ⟨rfl, Below.refl _ _⟩
theorem run_archMin (x y : Nat) (w : World) : (callFunc 93 #[.float .f64 x, .float .f64 y]).run Try.prog w = .ok (.value (.float .f64 (minW x y))) w := by
  rw [run_callFunc_extern (e := Extern.MathDim.pick "math.archMin" true .lt) Try.func93 (by decide +kernel) rfl (by kernel_rfl) (by kernel_rfl)]; rfl
set_option maxRecDepth 100000 in
set_option maxHeartbeats 400000 in
theorem mMin_any (x y : Nat) (w : World) : Calls Try.prog 82 #[.float .f64 x, .float .f64 y] w fun e w' => e = .returned (.float .f64 (minW x y)) ∧ Below w.heap.size w w' := by
  have h := run_archMin x y
  generalize minW x y = r at *
  go_enter Try.func82, Try.ntmps82
  go_wp2
  go_ret
  exact ⟨rfl, Below.refl _ _⟩
theorem run_archFloor (x : Nat) (h : Finite x) (w : World) : (callFunc 95 #[.float .f64 x]).run Try.prog w = .ok (.value (.float .f64 (floorW x))) w := by
  rw [run_callFunc_extern (e := Extern.MathFloor.toIntegral "math.archFloor" .down) Try.func95 (by decide +kernel) rfl (by kernel_rfl) (by kernel_rfl)]
  obtain ⟨s, m, i, hr, -⟩ := read_fin x h
  have hd : FloatKind.f64.decode x = .number s m i := hr
  have key : Extern.MathFloor.toIntegral "math.archFloor" .down #[.float .f64 x] = pure (.float .f64 (floorW x)) := by
    change (match FloatKind.f64.decode x with
      | .nan s t => _
      | d => (pure (Value.float .f64 (FloatKind.f64.encode (d.integral .down))) : Sem Value)) = _
    rw [hd]
    unfold floorW
    rw [hr]
    rfl
  rw [key]; rfl
set_option maxRecDepth 100000 in
set_option maxHeartbeats 400000 in
theorem mFloor_any (x : Nat) (hf : Finite x) (w : World) : Calls Try.prog 84 #[.float .f64 x] w fun e w' => e = .returned (.float .f64 (floorW x)) ∧ Below w.heap.size w w' := by
  have h := run_archFloor x hf
  generalize floorW x = r at *
  clear hf
  go_enter Try.func84, Try.ntmps84
  go_wp2
  go_ret
  exact ⟨rfl, Below.refl _ _⟩
set_option maxRecDepth 100000 in
set_option maxHeartbeats 400000 in
theorem Neg_any (x : Nat) (w : World) :
    Calls Try.prog 72 #[.agg #[.float .f64 x]] w fun e w' => e = .returned (.agg #[.float .f64 (flip x)]) ∧ Below w.heap.size w w' := by
  have hn : ∀ w, (Op.unary .neg (.float .f64 x)).run Try.prog w = .ok (.float .f64 (flip x)) w := fun w => rfl
  go_enter Try.func72, Try.ntmps72

  go_wp2_with fail
  refine (NewF64_any _ _).mono ?_
  rintro e w1 ⟨rfl, hb⟩
  have hb0 := (((Below.refl w.heap.size w).alloc (Nat.le_refl _) _).alloc (by simp) _).trans (hb.mono (by simp; try omega))
  have c0 := hb.cell (p := ⟨w.heap.size + 1, 0, none⟩) (by simp; try omega)
  have f0 := hb.frozen (p := ⟨w.heap.size + 1, 0, none⟩) (by simp; try omega)
  have hz := hb.size
  simp at c0 f0 hz
  go_wp2
  refine bodyPost_ret (v := .agg #[.float .f64 (flip x)]) (by simp [results, Try.results72, go_sem, c0]) rfl ⟨rfl, ?_⟩
  exact hb0.setCell (by simp; try omega) _
set_option maxRecDepth 100000 in
set_option maxHeartbeats 800000 in
theorem Min2_any (x0 x1 : Nat) (w : World) :
    Calls Try.prog 71 #[.agg #[.float .f64 x0], .agg #[.float .f64 x1]] w fun e w' => e = .returned (.agg #[.float .f64 (minW x0 x1)]) ∧ Below w.heap.size w w' := by

  go_enter Try.func71, Try.ntmps71
  go_wp2_with fail
  refine (mMin_any _ _ _).mono ?_
  rintro e w0 ⟨rfl, hb⟩
  have hb0 := ((((Below.refl w.heap.size w).alloc (by simp; try omega) _).alloc (by simp; try omega) _).alloc (by simp; try omega) _).trans (hb.mono (by simp; try omega))
  have c0 := hb.cell (p := ⟨w.heap.size + 1 + 1, 0, none⟩) (by simp; try omega)
  have f0 := hb.frozen (p := ⟨w.heap.size + 1 + 1, 0, none⟩) (by simp; try omega)
  have hz := hb.size
  simp at c0 f0 hz
  have HB := Lib.hid hb0
  clear hb hb0
  go_wp2_with fail
  refine (NewF64_any _ _).mono ?_
  rintro e w1 ⟨rfl, hb⟩
  have c1 := (hb.cell (p := ⟨w.heap.size + 1 + 1, 0, none⟩) (by show w.heap.size + 1 + 1 < _; omega)).trans c0
  have f1 := (hb.frozen (p := ⟨w.heap.size + 1 + 1, 0, none⟩) (by show w.heap.size + 1 + 1 < _; omega)).trans f0
  have hz1 := hb.size
  have hb0 := HB.out.trans (hb.mono (by omega))
  clear c0 f0 hb HB
  go_wp2
  refine bodyPost_ret (v := .agg #[.float .f64 (minW x0 x1)]) (by simp [results, Try.results71, go_sem, c1]) rfl ⟨rfl, ?_⟩
  exact hb0.setCell (by simp; try omega) _
set_option maxRecDepth 100000 in
set_option maxHeartbeats 800000 in
theorem Max2_any (x0 x1 : Nat) (w : World) :
    Calls Try.prog 76 #[.agg #[.float .f64 x0], .agg #[.float .f64 x1]] w fun e w' => e = .returned (.agg #[.float .f64 (maxW x0 x1)]) ∧ Below w.heap.size w w' := by

  go_enter Try.func76, Try.ntmps76
  go_wp2_with fail
  refine (mMax_any _ _ _).mono ?_
  rintro e w0 ⟨rfl, hb⟩
  have hb0 := ((((Below.refl w.heap.size w).alloc (by simp; try omega) _).alloc (by simp; try omega) _).alloc (by simp; try omega) _).trans (hb.mono (by simp; try omega))
  have c0 := hb.cell (p := ⟨w.heap.size + 1 + 1, 0, none⟩) (by simp; try omega)
  have f0 := hb.frozen (p := ⟨w.heap.size + 1 + 1, 0, none⟩) (by simp; try omega)
  have hz := hb.size
  simp at c0 f0 hz
  have HB := Lib.hid hb0
  clear hb hb0
  go_wp2_with fail
  refine (NewF64_any _ _).mono ?_
  rintro e w1 ⟨rfl, hb⟩
  have c1 := (hb.cell (p := ⟨w.heap.size + 1 + 1, 0, none⟩) (by show w.heap.size + 1 + 1 < _; omega)).trans c0
  have f1 := (hb.frozen (p := ⟨w.heap.size + 1 + 1, 0, none⟩) (by show w.heap.size + 1 + 1 < _; omega)).trans f0
  have hz1 := hb.size
  have hb0 := HB.out.trans (hb.mono (by omega))
  clear c0 f0 hb HB
  go_wp2
  refine bodyPost_ret (v := .agg #[.float .f64 (maxW x0 x1)]) (by simp [results, Try.results76, go_sem, c1]) rfl ⟨rfl, ?_⟩
  exact hb0.setCell (by simp; try omega) _
set_option maxRecDepth 100000 in
set_option maxHeartbeats 800000 in
theorem Floor_any (x0 : Nat) (hf : Finite x0) (w : World) :
    Calls Try.prog 74 #[.agg #[.float .f64 x0]] w fun e w' => e = .returned (.agg #[.float .f64 (floorW x0)]) ∧ Below w.heap.size w w' := by
  have HF := Lib.hid hf
  clear hf
  go_enter Try.func74, Try.ntmps74
  go_wp2_with fail
  refine (mFloor_any _ HF.out _).mono ?_
  rintro e w0 ⟨rfl, hb⟩
  have hb0 := (((Below.refl w.heap.size w).alloc (by simp; try omega) _).alloc (by simp; try omega) _).trans (hb.mono (by simp; try omega))
  have c0 := hb.cell (p := ⟨w.heap.size + 1, 0, none⟩) (by simp; try omega)
  have f0 := hb.frozen (p := ⟨w.heap.size + 1, 0, none⟩) (by simp; try omega)
  have hz := hb.size
  simp at c0 f0 hz
  have HB := Lib.hid hb0
  clear hb hb0
  go_wp2_with fail
  refine (NewF64_any _ _).mono ?_
  rintro e w1 ⟨rfl, hb⟩
  have c1 := (hb.cell (p := ⟨w.heap.size + 1, 0, none⟩) (by show w.heap.size + 1 < _; omega)).trans c0
  have f1 := (hb.frozen (p := ⟨w.heap.size + 1, 0, none⟩) (by show w.heap.size + 1 < _; omega)).trans f0
  have hz1 := hb.size
  have hb0 := HB.out.trans (hb.mono (by omega))
  clear c0 f0 hb HB
  go_wp2
  refine bodyPost_ret (v := .agg #[.float .f64 (floorW x0)]) (by simp [results, Try.results74, go_sem, c1]) rfl ⟨rfl, ?_⟩
  exact hb0.setCell (by simp; try omega) _
theorem later {w1 w2 : World} (hb : Below w1.heap.size w1 w2) {p : Addr} {v : Value} (h : w1.cell? p = some v) : w2.cell? p = some v := (hb.cell (World.block_lt_of_cell? w1 p h)).trans h
theorem later_some {w1 w2 : World} (hb : Below w1.heap.size w1 w2) {p : Addr} (h : (w1.cell? p).isSome = true) : (w2.cell? p).isSome = true := by
  obtain ⟨v, hv⟩ := Option.isSome_iff_exists.1 h
  rw [later hb hv]; rfl
theorem later_frozen {w1 w2 : World} (hb : Below w1.heap.size w1 w2) {p : Addr} (h : (w1.cell? p).isSome = true) (hf : w1.frozen? p = false) : w2.frozen? p = false := by
  obtain ⟨v, hv⟩ := Option.isSome_iff_exists.1 h
  rw [hb.frozen (World.block_lt_of_cell? w1 p hv)]; exact hf
theorem set_some {w : World} {p q : Addr} {x : Value} (h : (w.cell? q).isSome = true) : ((w.setCell p x).cell? q).isSome = true := by
  obtain ⟨v, hv⟩ := Option.isSome_iff_exists.1 h
  obtain ⟨v', hv'⟩ := cell?_setCell_some (p := p) (x := x) hv
  rw [hv']; rfl
theorem set_far {w : World} {g k n o : Nat} {v x : Value} (hne : k ≠ g) (h : w.cell? ⟨g, n, none⟩ = some v) : (w.setCell ⟨k, o, none⟩ x).cell? ⟨g, n, none⟩ = some v := by
  rw [World.cell?_setCell_other]
  · exact h
  · intro e; injection e with e1; exact hne e1
theorem isSome_set (w : World) (b o b' o' : Nat) (x : Value) (h : ((w.setCell ⟨b, o, none⟩ x).cell? ⟨b', o', none⟩).isSome = true) : (w.cell? ⟨b', o', none⟩).isSome = true := by
  by_cases hpq : (⟨b, o, none⟩ : Addr) = ⟨b', o', none⟩
  · injection hpq with e1 e2
    subst e1 e2
    cases hc : w.cell? ⟨b, o, none⟩ with
    | some v => rfl
    | none =>
      exfalso
      revert h hc
      unfold World.cell? World.setCell
      simp only [Array.getElem?_modify, if_true]
      cases hh : w.heap[b]? with
      | none => simp
      | some ob => cases ob <;> simp
  · rw [World.cell?_setCell_other _ _ _ _ hpq] at h
    exact h
theorem set_val (w : World) (b o : Nat) (x : Value) (h : ((w.setCell ⟨b, o, none⟩ x).cell? ⟨b, o, none⟩).isSome = true) : (w.setCell ⟨b, o, none⟩ x).cell? ⟨b, o, none⟩ = some x := World.cell?_setCell_same' w _ x (isSome_set w b o b o x h)
theorem run_store_float_ok (P : Program) (w : World) (a : Addr) (m : Mode) (k : FloatKind) (b : Nat) (h : (w.cell? a).isSome = true) (hf : w.frozen? a = false) : (store a (.float k b) m).run P w = .ok () (w.setCell a (.float k b)) := by
  rw [run_store_float]
  obtain ⟨v, hv⟩ := Option.isSome_iff_exists.1 h
  simp [stored, hv, hf]

/-- the boxes of a function over 1 numbers: the arguments and the result -/
def BS1 (g x0 : Nat) (w0 w' : World) : Prop :=
  w'.cell? ⟨g, 0, none⟩ = some (.float .f64 x0) ∧ (w'.cell? ⟨g + 1, 0, none⟩).isSome = true ∧ w'.frozen? ⟨g + 1, 0, none⟩ = false ∧ g ≤ w'.heap.size ∧ Below g w0 w'
theorem BS1.keep {g x0 : Nat} {w0 w1 w2 : World} (hb : Below w1.heap.size w1 w2) (h : BS1 g x0 w0 w1) : BS1 g x0 w0 w2 := by
  obtain ⟨h0, e, f, hz, hB⟩ := h
  exact ⟨later hb h0, later_some hb e, later_frozen hb e f, Nat.le_trans hz hb.size, hB.trans (hb.mono hz)⟩
theorem BS1.drew {g x0 : Nat} {w0 w1 : World} (h : BS1 g x0 w0 w1) : BS1 g x0 w0 w1.drew := by
  obtain ⟨h0, e, f, hz, hB⟩ := h
  exact ⟨h0, e, f, hz, hB.drew⟩
theorem BS1.set {g x0 : Nat} {w0 w1 : World} {v : Value} (h : BS1 g x0 w0 w1) : BS1 g x0 w0 (w1.setCell ⟨g + 1, 0, none⟩ v) := by
  obtain ⟨h0, e, f, hz, hB⟩ := h
  exact ⟨set_far (by omega) h0, set_some e, by rw [World.frozen?_setCell]; exact f, by simpa [World.setCell] using hz, hB.setCell (p := ⟨g + 1, 0, none⟩) (by show g ≤ g + 1; omega) _⟩
/-- the boxes of a function over 2 numbers: the arguments and the result -/
def BS2 (g x0 x1 : Nat) (w0 w' : World) : Prop :=
  w'.cell? ⟨g, 0, none⟩ = some (.float .f64 x0) ∧ w'.cell? ⟨g + 1, 0, none⟩ = some (.float .f64 x1) ∧ (w'.cell? ⟨g + 1 + 1, 0, none⟩).isSome = true ∧ w'.frozen? ⟨g + 1 + 1, 0, none⟩ = false ∧ g ≤ w'.heap.size ∧ Below g w0 w'
theorem BS2.keep {g x0 x1 : Nat} {w0 w1 w2 : World} (hb : Below w1.heap.size w1 w2) (h : BS2 g x0 x1 w0 w1) : BS2 g x0 x1 w0 w2 := by
  obtain ⟨h0, h1, e, f, hz, hB⟩ := h
  exact ⟨later hb h0, later hb h1, later_some hb e, later_frozen hb e f, Nat.le_trans hz hb.size, hB.trans (hb.mono hz)⟩
theorem BS2.drew {g x0 x1 : Nat} {w0 w1 : World} (h : BS2 g x0 x1 w0 w1) : BS2 g x0 x1 w0 w1.drew := by
  obtain ⟨h0, h1, e, f, hz, hB⟩ := h
  exact ⟨h0, h1, e, f, hz, hB.drew⟩
theorem BS2.set {g x0 x1 : Nat} {w0 w1 : World} {v : Value} (h : BS2 g x0 x1 w0 w1) : BS2 g x0 x1 w0 (w1.setCell ⟨g + 1 + 1, 0, none⟩ v) := by
  obtain ⟨h0, h1, e, f, hz, hB⟩ := h
  exact ⟨set_far (by omega) h0, set_far (by omega) h1, set_some e, by rw [World.frozen?_setCell]; exact f, by simpa [World.setCell] using hz, hB.setCell (p := ⟨g + 1 + 1, 0, none⟩) (by show g ≤ g + 1 + 1; omega) _⟩
/-- the boxes of a function over 3 numbers: the arguments and the result -/
def BS3 (g x0 x1 x2 : Nat) (w0 w' : World) : Prop :=
  w'.cell? ⟨g, 0, none⟩ = some (.float .f64 x0) ∧ w'.cell? ⟨g + 1, 0, none⟩ = some (.float .f64 x1) ∧ w'.cell? ⟨g + 1 + 1, 0, none⟩ = some (.float .f64 x2) ∧ (w'.cell? ⟨g + 1 + 1 + 1, 0, none⟩).isSome = true ∧ w'.frozen? ⟨g + 1 + 1 + 1, 0, none⟩ = false ∧ g ≤ w'.heap.size ∧ Below g w0 w'
theorem BS3.keep {g x0 x1 x2 : Nat} {w0 w1 w2 : World} (hb : Below w1.heap.size w1 w2) (h : BS3 g x0 x1 x2 w0 w1) : BS3 g x0 x1 x2 w0 w2 := by
  obtain ⟨h0, h1, h2, e, f, hz, hB⟩ := h
  exact ⟨later hb h0, later hb h1, later hb h2, later_some hb e, later_frozen hb e f, Nat.le_trans hz hb.size, hB.trans (hb.mono hz)⟩
theorem BS3.drew {g x0 x1 x2 : Nat} {w0 w1 : World} (h : BS3 g x0 x1 x2 w0 w1) : BS3 g x0 x1 x2 w0 w1.drew := by
  obtain ⟨h0, h1, h2, e, f, hz, hB⟩ := h
  exact ⟨h0, h1, h2, e, f, hz, hB.drew⟩
theorem BS3.set {g x0 x1 x2 : Nat} {w0 w1 : World} {v : Value} (h : BS3 g x0 x1 x2 w0 w1) : BS3 g x0 x1 x2 w0 (w1.setCell ⟨g + 1 + 1 + 1, 0, none⟩ v) := by
  obtain ⟨h0, h1, h2, e, f, hz, hB⟩ := h
  exact ⟨set_far (by omega) h0, set_far (by omega) h1, set_far (by omega) h2, set_some e, by rw [World.frozen?_setCell]; exact f, by simpa [World.setCell] using hz, hB.setCell (p := ⟨g + 1 + 1 + 1, 0, none⟩) (by show g ≤ g + 1 + 1 + 1; omega) _⟩
attribute [-go_sem] run_store_float
attribute [local go_sem] run_store_float_ok
set_option maxRecDepth 100000 in
set_option maxHeartbeats 2000000 in
theorem Max3_any (x0 x1 x2 : Nat) (w : World) :
    Calls Try.prog 68 #[.agg #[.float .f64 x0], .agg #[.float .f64 x1], .agg #[.float .f64 x2]] w fun e w' => e = .returned (.agg #[.float .f64 (maxW (maxW x0 x1) x2)]) ∧ Below w.heap.size w w' := by

  go_enter Try.func68, Try.ntmps68
  go_wp2
  generalize hW : World.alloc _ _ = W
  have hS : BS3 w.heap.size x0 x1 x2 w W := by
    subst hW
    refine ⟨by simp [go_sem], by simp [go_sem], by simp [go_sem], by simp [go_sem], by simp [go_sem], by simp; try omega, ?_⟩
    exact (((((Below.refl _ _).alloc (by simp; try omega) _).alloc (by simp; try omega) _).alloc (by simp; try omega) _).alloc (by simp; try omega) _)
  clear hW
  obtain ⟨g, hg⟩ : ∃ g, g = w.heap.size := ⟨_, rfl⟩
  rw [← hg] at hS ⊢
  have HG := Lib.hid hg
  have HS := Lib.hid hS
  clear hS hg
  go_region_held3 (fun w' => w'.cell? ⟨g, 0, none⟩ = some (.float .f64 x0) ∧ w'.cell? ⟨g + 1, 0, none⟩ = some (.float .f64 x1) ∧ w'.cell? ⟨g + 1 + 1, 0, none⟩ = some (.float .f64 x2) ∧ (w'.cell? ⟨g + 1 + 1 + 1, 0, none⟩).isSome = true ∧ w'.frozen? ⟨g + 1 + 1 + 1, 0, none⟩ = false ∧ g ≤ w'.heap.size ∧ Below g w w')
    (first | exact HS.out.drew | (refine BS3.keep ‹Below _ _ _› ?_; assumption) | (refine BS3.set ?_; assumption))
    (first | (go_at_call 81; refine (mMax_any _ _ _).mono ?_; rintro e w' ⟨rfl, hb⟩) | (go_at_call 42; refine (NewF64_any _ _).mono ?_; rintro e w' ⟨rfl, hb⟩))
  rename_i hH
  have hc := set_val _ _ _ _ hH.2.2.2.1
  have hB := hH.2.2.2.2.2.2
  clear hH HS
  go_wp2
  refine bodyPost_ret (v := .agg #[.float .f64 (maxW (maxW x0 x1) x2)]) (by simp [results, Try.results68, go_sem, hc]) rfl ⟨rfl, ?_⟩
  rw [← HG.out]; exact hB
set_option maxRecDepth 100000 in
set_option maxHeartbeats 2000000 in
theorem Min3_any (x0 x1 x2 : Nat) (w : World) :
    Calls Try.prog 69 #[.agg #[.float .f64 x0], .agg #[.float .f64 x1], .agg #[.float .f64 x2]] w fun e w' => e = .returned (.agg #[.float .f64 (minW (minW x0 x1) x2)]) ∧ Below w.heap.size w w' := by

  go_enter Try.func69, Try.ntmps69
  go_wp2
  generalize hW : World.alloc _ _ = W
  have hS : BS3 w.heap.size x0 x1 x2 w W := by
    subst hW
    refine ⟨by simp [go_sem], by simp [go_sem], by simp [go_sem], by simp [go_sem], by simp [go_sem], by simp; try omega, ?_⟩
    exact (((((Below.refl _ _).alloc (by simp; try omega) _).alloc (by simp; try omega) _).alloc (by simp; try omega) _).alloc (by simp; try omega) _)
  clear hW
  obtain ⟨g, hg⟩ : ∃ g, g = w.heap.size := ⟨_, rfl⟩
  rw [← hg] at hS ⊢
  have HG := Lib.hid hg
  have HS := Lib.hid hS
  clear hS hg
  go_region_held3 (fun w' => w'.cell? ⟨g, 0, none⟩ = some (.float .f64 x0) ∧ w'.cell? ⟨g + 1, 0, none⟩ = some (.float .f64 x1) ∧ w'.cell? ⟨g + 1 + 1, 0, none⟩ = some (.float .f64 x2) ∧ (w'.cell? ⟨g + 1 + 1 + 1, 0, none⟩).isSome = true ∧ w'.frozen? ⟨g + 1 + 1 + 1, 0, none⟩ = false ∧ g ≤ w'.heap.size ∧ Below g w w')
    (first | exact HS.out.drew | (refine BS3.keep ‹Below _ _ _› ?_; assumption) | (refine BS3.set ?_; assumption))
    (first | (go_at_call 82; refine (mMin_any _ _ _).mono ?_; rintro e w' ⟨rfl, hb⟩) | (go_at_call 42; refine (NewF64_any _ _).mono ?_; rintro e w' ⟨rfl, hb⟩))
  rename_i hH
  have hc := set_val _ _ _ _ hH.2.2.2.1
  have hB := hH.2.2.2.2.2.2
  clear hH HS
  go_wp2
  refine bodyPost_ret (v := .agg #[.float .f64 (minW (minW x0 x1) x2)]) (by simp [results, Try.results69, go_sem, hc]) rfl ⟨rfl, ?_⟩
  rw [← HG.out]; exact hB
set_option maxRecDepth 100000 in
set_option maxHeartbeats 2000000 in
theorem Lerp_any (x0 x1 x2 p q r : Nat) (h0 : Ieee.double.sub x1 x0 = some p) (h1 : Ieee.double.mul p x2 = some q) (h2 : Ieee.double.add q x0 = some r) (w : World) :
    Calls Try.prog 78 #[.agg #[.float .f64 x0], .agg #[.float .f64 x1], .agg #[.float .f64 x2]] w fun e w' => e = .returned (.agg #[.float .f64 r]) ∧ Below w.heap.size w w' := by
  have H0 := Lib.hid h0
  have H1 := Lib.hid h1
  have H2 := Lib.hid h2
  clear h0 h1 h2
  go_enter Try.func78, Try.ntmps78
  go_wp2
  generalize hW : World.alloc _ _ = W
  have hS : BS3 w.heap.size x0 x1 x2 w W := by
    subst hW
    refine ⟨by simp [go_sem], by simp [go_sem], by simp [go_sem], by simp [go_sem], by simp [go_sem], by simp; try omega, ?_⟩
    exact (((((Below.refl _ _).alloc (by simp; try omega) _).alloc (by simp; try omega) _).alloc (by simp; try omega) _).alloc (by simp; try omega) _)
  clear hW
  obtain ⟨g, hg⟩ : ∃ g, g = w.heap.size := ⟨_, rfl⟩
  rw [← hg] at hS ⊢
  have HG := Lib.hid hg
  have HS := Lib.hid hS
  clear hS hg
  go_region_held3 (fun w' => w'.cell? ⟨g, 0, none⟩ = some (.float .f64 x0) ∧ w'.cell? ⟨g + 1, 0, none⟩ = some (.float .f64 x1) ∧ w'.cell? ⟨g + 1 + 1, 0, none⟩ = some (.float .f64 x2) ∧ (w'.cell? ⟨g + 1 + 1 + 1, 0, none⟩).isSome = true ∧ w'.frozen? ⟨g + 1 + 1 + 1, 0, none⟩ = false ∧ g ≤ w'.heap.size ∧ Below g w w')
    (first | exact HS.out.drew | (refine BS3.keep ‹Below _ _ _› ?_; assumption) | (refine BS3.set ?_; assumption))
    (first | (go_at_call 62; refine (Sub_any _ _ _ H0.out _).mono ?_; rintro e w' ⟨rfl, hb⟩) | (go_at_call 60; refine (Mul_any _ _ _ H1.out _).mono ?_; rintro e w' ⟨rfl, hb⟩) | (go_at_call 61; refine (Add_any _ _ _ H2.out _).mono ?_; rintro e w' ⟨rfl, hb⟩) )
  rename_i hH
  have hc := set_val _ _ _ _ hH.2.2.2.1
  have hB := hH.2.2.2.2.2.2
  clear hH HS
  go_wp2
  refine bodyPost_ret (v := .agg #[.float .f64 r]) (by simp [results, Try.results78, go_sem, hc]) rfl ⟨rfl, ?_⟩
  rw [← HG.out]; exact hB
set_option maxRecDepth 100000 in
set_option maxHeartbeats 2000000 in
theorem Cubed_any (x0 p r : Nat) (h0 : Ieee.double.mul x0 x0 = some p) (h1 : Ieee.double.mul p x0 = some r) (w : World) :
    Calls Try.prog 66 #[.agg #[.float .f64 x0]] w fun e w' => e = .returned (.agg #[.float .f64 r]) ∧ Below w.heap.size w w' := by
  have H0 := Lib.hid h0
  have H1 := Lib.hid h1
  clear h0 h1
  go_enter Try.func66, Try.ntmps66
  go_wp2
  generalize hW : World.alloc _ _ = W
  have hS : BS1 w.heap.size x0 w W := by
    subst hW
    refine ⟨by simp [go_sem], by simp [go_sem], by simp [go_sem], by simp; try omega, ?_⟩
    exact (((Below.refl _ _).alloc (by simp; try omega) _).alloc (by simp; try omega) _)
  clear hW
  obtain ⟨g, hg⟩ : ∃ g, g = w.heap.size := ⟨_, rfl⟩
  rw [← hg] at hS ⊢
  have HG := Lib.hid hg
  have HS := Lib.hid hS
  clear hS hg
  go_region_held3 (fun w' => w'.cell? ⟨g, 0, none⟩ = some (.float .f64 x0) ∧ (w'.cell? ⟨g + 1, 0, none⟩).isSome = true ∧ w'.frozen? ⟨g + 1, 0, none⟩ = false ∧ g ≤ w'.heap.size ∧ Below g w w')
    (first | exact HS.out.drew | (refine BS1.keep ‹Below _ _ _› ?_; assumption) | (refine BS1.set ?_; assumption))
    (first | (go_at_call 60; (first | refine (Mul_any x0 x0 p H0.out _).mono ?_ | refine (Mul_any p x0 r H1.out _).mono ?_); rintro e w' ⟨rfl, hb⟩) )
  rename_i hH
  have hc := set_val _ _ _ _ hH.2.1
  have hB := hH.2.2.2.2
  clear hH HS
  go_wp2
  refine bodyPost_ret (v := .agg #[.float .f64 r]) (by simp [results, Try.results66, go_sem, hc]) rfl ⟨rfl, ?_⟩
  rw [← HG.out]; exact hB
end Go.Proofs.Ytafeeebgleecfaa.Mat
