/-
  For every six floats, the distance from p to q and that from q to p are both NaN, or equal and not negative; the distance of a finite point to itself is 0: the Go law FnDeltaEOKIsSymmetricAndZeroOnItself returns true for every input. No condition.
-/
import Derived.Test.YthjgigahhooilaaRows
import Derived.WalkKit
import Derived.ProofKit
import Derived.OpenShut
import Derived.ShutString
import Derived.ChangeOld
import Derived.Below
import Derived.Lib.Hide
import Derived.Outline
import Derived.Laws.Cover2
import Derived.Test.YthjgigahhooilaaWrap
import Derived.Test.YthjgigahhooilaaFLC
import Derived.Laws.Externs
namespace Go.Proofs.Ythjgigahhooilaa.fnDeltaEOKIsSymmetricAndZeroOnItself
open Go.ChangeShapes Go.WideShapes Go.ChangeAt Go.RowKit
open Go.ChangeMaps (open_string shut_string)
set_option linter.unusedVariables false

theorem own : ownKnob Try.prog.godebug = none := by kernel_rfl
theorem laidOut : laidOutB Try.prog = true := by kernel_rfl

open FL Mat
attribute [local go_sem] run_store_float build_f64
theorem run_neg (x : Nat) (w : World) : (Op.unary .neg (.float .f64 x)).run Try.prog w = .ok (.float .f64 (flip x)) w := rfl
/-- an invalid operation gives some NaN, which the tape names -/
def nanAt (w : World) (x y : Nat) : Nat := Question.cut (.nanBits .f64 x y) (w.tape w.drawn (.nanBits .f64 x y))
theorem nanAt_nan (w : World) (x y : Nat) : NaN (nanAt w x y) := nan_cut _
theorem run_float_nan {P : Program} (op : BinOp) (hop : op = .add ∨ op = .sub ∨ op = .mul ∨ op = .quo) (t : TypeId) (x y : Nat) (h : floatBits op .f64 x y = none) (w : World) : (binOp op t (.float .f64 x) (.float .f64 y)).run P w = .ok (.float .f64 (nanAt w x y)) w.drew := by
  rcases hop with rfl | rfl | rfl | rfl <;> simp only [floatBits] at h <;> simp [binOp, Op.floatArith, h, Question.forced, nanAt]
/-- some F64 that is the answer 'o' -/
def SomeF (o : Option Nat) (w : World) (e : Ending) (w' : World) : Prop := ∃ r, FV o r ∧ e = .returned (.agg #[.float .f64 r]) ∧ Below w.heap.size w w'
set_option maxRecDepth 100000 in
set_option maxHeartbeats 400000 in
theorem Sub_nan (x y : Nat) (h : Ieee.double.sub x y = none) (w : World) : Calls Try.prog 45 #[.agg #[.float .f64 x], .agg #[.float .f64 y]] w (SomeF none w) := by
  have hm : ∀ w, (binOp .sub 22 (.float .f64 x) (.float .f64 y)).run Try.prog w = .ok (.float .f64 (nanAt w x y)) w.drew := fun w => run_float_nan .sub (.inr (.inl rfl)) 22 x y h w
  clear h
  go_enter Try.func45, Try.ntmps45
  go_wp2_with fail
  generalize hr : nanAt _ x y = r
  have hn : NaN r := by rw [← hr]; exact nanAt_nan _ x y
  clear hr
  refine (NewF64_any r _).mono ?_
  rintro e w1 ⟨rfl, hb⟩
  have c0 := hb.cell (p := ⟨w.heap.size + 1 + 1, 0, none⟩) (by simp)
  have f0 := hb.frozen (p := ⟨w.heap.size + 1 + 1, 0, none⟩) (by simp)
  have hz := hb.size
  simp at c0 f0 hz
  go_wp2
  refine bodyPost_ret (v := .agg #[.float .f64 r]) (by simp [results, Try.results45, go_sem, c0]) rfl ⟨r, hn, rfl, ?_⟩
  exact ((((((Below.refl _ _).alloc (Nat.le_refl _) _).alloc (by simp) _).alloc (by simp; omega) _).drew).trans (hb.mono (by simp; omega))).setCell (by simp; try omega) _
theorem Sub_fv (x y : Nat) (w : World) : Calls Try.prog 45 #[.agg #[.float .f64 x], .agg #[.float .f64 y]] w (SomeF (Ieee.double.sub x y) w) := by
  cases h : Ieee.double.sub x y with
  | none => exact Sub_nan x y h w
  | some r => exact (Sub_any x y r h w).mono fun e w' ⟨he, hb⟩ => ⟨r, rfl, he, hb⟩
set_option maxRecDepth 100000 in
set_option maxHeartbeats 400000 in
theorem Mul_nan (x y : Nat) (h : Ieee.double.mul x y = none) (w : World) : Calls Try.prog 50 #[.agg #[.float .f64 x], .agg #[.float .f64 y]] w (SomeF none w) := by
  have hm : ∀ w, (binOp .mul 22 (.float .f64 x) (.float .f64 y)).run Try.prog w = .ok (.float .f64 (nanAt w x y)) w.drew := fun w => run_float_nan .mul (.inr (.inr (.inl rfl))) 22 x y h w
  clear h
  go_enter Try.func50, Try.ntmps50
  go_wp2_with fail
  generalize hr : nanAt _ x y = r
  have hn : NaN r := by rw [← hr]; exact nanAt_nan _ x y
  clear hr
  refine (NewF64_any r _).mono ?_
  rintro e w1 ⟨rfl, hb⟩
  have c0 := hb.cell (p := ⟨w.heap.size + 1 + 1, 0, none⟩) (by simp)
  have f0 := hb.frozen (p := ⟨w.heap.size + 1 + 1, 0, none⟩) (by simp)
  have hz := hb.size
  simp at c0 f0 hz
  go_wp2
  refine bodyPost_ret (v := .agg #[.float .f64 r]) (by simp [results, Try.results50, go_sem, c0]) rfl ⟨r, hn, rfl, ?_⟩
  exact ((((((Below.refl _ _).alloc (Nat.le_refl _) _).alloc (by simp) _).alloc (by simp; omega) _).drew).trans (hb.mono (by simp; omega))).setCell (by simp; try omega) _
theorem Mul_fv (x y : Nat) (w : World) : Calls Try.prog 50 #[.agg #[.float .f64 x], .agg #[.float .f64 y]] w (SomeF (Ieee.double.mul x y) w) := by
  cases h : Ieee.double.mul x y with
  | none => exact Mul_nan x y h w
  | some r => exact (Mul_any x y r h w).mono fun e w' ⟨he, hb⟩ => ⟨r, rfl, he, hb⟩
set_option maxRecDepth 100000 in
set_option maxHeartbeats 400000 in
theorem Add_nan (x y : Nat) (h : Ieee.double.add x y = none) (w : World) : Calls Try.prog 47 #[.agg #[.float .f64 x], .agg #[.float .f64 y]] w (SomeF none w) := by
  have hm : ∀ w, (binOp .add 22 (.float .f64 x) (.float .f64 y)).run Try.prog w = .ok (.float .f64 (nanAt w x y)) w.drew := fun w => run_float_nan .add (.inl rfl) 22 x y h w
  clear h
  go_enter Try.func47, Try.ntmps47
  go_wp2_with fail
  generalize hr : nanAt _ x y = r
  have hn : NaN r := by rw [← hr]; exact nanAt_nan _ x y
  clear hr
  refine (NewF64_any r _).mono ?_
  rintro e w1 ⟨rfl, hb⟩
  have c0 := hb.cell (p := ⟨w.heap.size + 1 + 1, 0, none⟩) (by simp)
  have f0 := hb.frozen (p := ⟨w.heap.size + 1 + 1, 0, none⟩) (by simp)
  have hz := hb.size
  simp at c0 f0 hz
  go_wp2
  refine bodyPost_ret (v := .agg #[.float .f64 r]) (by simp [results, Try.results47, go_sem, c0]) rfl ⟨r, hn, rfl, ?_⟩
  exact ((((((Below.refl _ _).alloc (Nat.le_refl _) _).alloc (by simp) _).alloc (by simp; omega) _).drew).trans (hb.mono (by simp; omega))).setCell (by simp; try omega) _
theorem Add_fv (x y : Nat) (w : World) : Calls Try.prog 47 #[.agg #[.float .f64 x], .agg #[.float .f64 y]] w (SomeF (Ieee.double.add x y) w) := by
  cases h : Ieee.double.add x y with
  | none => exact Add_nan x y h w
  | some r => exact (Add_any x y r h w).mono fun e w' ⟨he, hb⟩ => ⟨r, rfl, he, hb⟩
set_option maxRecDepth 100000 in
set_option maxHeartbeats 400000 in
theorem sq_fv (x : Nat) (w : World) : Calls Try.prog 46 #[.agg #[.float .f64 x]] w (SomeF (Ieee.double.mul x x) w) := by
  go_enter Try.func46, Try.ntmps46
  go_wp2_with fail
  refine (Mul_fv x x _).mono ?_
  rintro e w1 ⟨r, hr, rfl, hb⟩
  have HR := Lib.hid hr
  clear hr
  have c0 := hb.cell (p := ⟨w.heap.size + 1, 0, none⟩) (by simp)
  have f0 := hb.frozen (p := ⟨w.heap.size + 1, 0, none⟩) (by simp)
  have hz := hb.size
  simp at c0 f0 hz
  go_wp2
  refine bodyPost_ret (v := .agg #[.float .f64 r]) (by simp [results, Try.results46, go_sem, c0]) rfl ⟨r, HR.out, rfl, ?_⟩
  exact ((((Below.refl _ _).alloc (Nat.le_refl _) _).alloc (by simp) _).trans (hb.mono (by simp; omega))).setCell (by simp) _
/-- some float that is the answer 'o' -/
def SomeN (o : Option Nat) (w : World) (e : Ending) (w' : World) : Prop := ∃ r, FV o r ∧ e = .returned (.float .f64 r) ∧ Below w.heap.size w w'
theorem sqrt_eq (x : Nat) : Extern.MathSqrt.sqrt #[.float .f64 x] = (match Ieee.double.sqrt x with | some r => (pure (Value.float .f64 r) : Sem Value) | none => (choose (.nanBits .f64 x x)) >>= fun b => pure (Value.float .f64 b)) := rfl
theorem sqrt_call_some (x r : Nat) (h : Ieee.double.sqrt x = some r) (w : World) : (callFunc 52 #[.float .f64 x]).run Try.prog w = .ok (.value (.float .f64 r)) w := by
  rw [run_callFunc_extern (e := Extern.MathSqrt.sqrt) Try.func52 (by kernel_rfl) (by kernel_rfl) (by kernel_rfl) (by kernel_rfl), sqrt_eq, h]
  rfl
theorem sqrt_call_none (x : Nat) (h : Ieee.double.sqrt x = none) (w : World) : (callFunc 52 #[.float .f64 x]).run Try.prog w = .ok (.value (.float .f64 (nanAt w x x))) w.drew := by
  rw [run_callFunc_extern (e := Extern.MathSqrt.sqrt) Try.func52 (by kernel_rfl) (by kernel_rfl) (by kernel_rfl) (by kernel_rfl), sqrt_eq, h]
  rfl
set_option maxRecDepth 100000 in
set_option maxHeartbeats 400000 in
theorem msqrt_fv (x : Nat) (w : World) : Calls Try.prog 51 #[.float .f64 x] w (SomeN (Ieee.double.sqrt x) w) := by
  cases h : Ieee.double.sqrt x with
  | some r =>
    have hm := sqrt_call_some x r h
    clear h
    go_enter Try.func51, Try.ntmps51
    go_wp2
    go_ret
    exact ⟨r, rfl, rfl, Below.refl _ _⟩
  | none =>
    have hm := sqrt_call_none x h
    clear h
    go_enter Try.func51, Try.ntmps51
    go_wp2
    go_ret
    exact ⟨_, nanAt_nan _ _ _, rfl, (Below.refl _ _).drew⟩
set_option maxRecDepth 100000 in
set_option maxHeartbeats 400000 in
theorem Sqrt_fv (x : Nat) (w : World) : Calls Try.prog 48 #[.agg #[.float .f64 x]] w (SomeF (Ieee.double.sqrt x) w) := by
  go_enter Try.func48, Try.ntmps48
  go_wp2_with fail
  refine (msqrt_fv x _).mono ?_
  rintro e w0 ⟨r, hr, rfl, hb0⟩
  have HR := Lib.hid hr
  clear hr
  go_wp2_with fail
  refine (NewF64_any r _).mono ?_
  rintro e w1 ⟨rfl, hb1⟩
  have hb := hb0.trans (hb1.mono hb0.size)
  clear hb0 hb1
  have c0 := hb.cell (p := ⟨w.heap.size + 1, 0, none⟩) (by simp)
  have f0 := hb.frozen (p := ⟨w.heap.size + 1, 0, none⟩) (by simp)
  have hz := hb.size
  simp at c0 f0 hz
  go_wp2
  refine bodyPost_ret (v := .agg #[.float .f64 r]) (by simp [results, Try.results48, go_sem, c0]) rfl ⟨r, HR.out, rfl, ?_⟩
  exact ((((Below.refl _ _).alloc (Nat.le_refl _) _).alloc (by simp) _).trans (hb.mono (by simp; omega))).setCell (by simp) _
def sqd (x y : Nat) : Option Nat := (Ieee.double.sub x y).bind fun d => Ieee.double.mul d d
def deok (a b c x y z : Nat) : Option Nat := (((sqd a x).bind fun p => (sqd b y).bind fun q => Ieee.double.add p q).bind fun s => (sqd c z).bind fun t => Ieee.double.add s t).bind fun s => Ieee.double.sqrt s
theorem deok_swap (a b c x y z : Nat) : deok a b c x y z = deok x y z a b c := by
  unfold deok sqd
  rw [sq_sub_swap a x, sq_sub_swap b y, sq_sub_swap c z]
theorem deok_self (a b c : Nat) (fa : Finite a) (fb : Finite b) (fc : Finite c) : deok a b c a b c = some 0 := by
  have h0 : Ieee.double.mul 0 0 = some 0 := by decide +kernel
  have h1 : Ieee.double.add 0 0 = some 0 := by decide +kernel
  have h2 : Ieee.double.sqrt 0 = some 0 := by decide +kernel
  simp [deok, sqd, sub_self_zero fa, sub_self_zero fb, sub_self_zero fc, h0, h1, h2]
theorem deok_some {a b c x y z s : Nat} (h : deok a b c x y z = some s) : FL.Good s ∧ ¬ Ieee.double.order s 0 = some .lt := by
  unfold deok at h
  obtain ⟨t, -, ht⟩ := Option.bind_eq_some_iff.1 h
  exact ⟨sqrt_good ht, sqrt_nonneg ht⟩
theorem alloc_cell {w : World} {p : Addr} {v : Value} (h : w.cell? p = some v) : ∀ o, (w.alloc o).cell? p = some v := fun o => by
  rw [World.cell?_alloc_lt w o p (World.block_lt_of_cell? w p h)]; exact h
theorem alloc_cell_new (w : World) (v : Value) (t : TypeId) : (w.alloc (.cells #[v] t)).cell? ⟨w.heap.size, 0, none⟩ = some v := by simp
/-- the boxes of delta_eok: six arguments and the result -/
def DS (g a b c x y z : Nat) (w0 w' : World) : Prop :=
  w'.cell? ⟨g, 0, none⟩ = some (.float .f64 a) ∧ w'.cell? ⟨g + 1, 0, none⟩ = some (.float .f64 b) ∧ w'.cell? ⟨g + 1 + 1, 0, none⟩ = some (.float .f64 c) ∧
  w'.cell? ⟨g + 1 + 1 + 1, 0, none⟩ = some (.float .f64 x) ∧ w'.cell? ⟨g + 1 + 1 + 1 + 1, 0, none⟩ = some (.float .f64 y) ∧ w'.cell? ⟨g + 1 + 1 + 1 + 1 + 1, 0, none⟩ = some (.float .f64 z) ∧
  (w'.cell? ⟨g + 1 + 1 + 1 + 1 + 1 + 1, 0, none⟩ = some (.float .f64 0) ∧ w'.frozen? ⟨g + 1 + 1 + 1 + 1 + 1 + 1, 0, none⟩ = false) ∧ g + 7 ≤ w'.heap.size ∧ Below g w0 w'
theorem DS.keep {g a b c x y z : Nat} {w0 w1 w2 : World} (h : DS g a b c x y z w0 w1) (hb : Below w1.heap.size w1 w2) : DS g a b c x y z w0 w2 := by
  obtain ⟨h0, h1, h2, h3, h4, h5, ⟨h6, f6⟩, hz, hB⟩ := h
  exact ⟨later hb h0, later hb h1, later hb h2, later hb h3, later hb h4, later hb h5, ⟨later hb h6, by rw [hb.frozen (World.block_lt_of_cell? w1 _ h6)]; exact f6⟩, Nat.le_trans hz hb.size, hB.trans (hb.mono (by omega))⟩
theorem DS.alloc {g a b c x y z : Nat} {w0 w1 : World} (h : DS g a b c x y z w0 w1) (o : Obj) : DS g a b c x y z w0 (w1.alloc o) := h.keep ((Below.refl _ _).alloc (Nat.le_refl _) o)
def ES (g g1 g2 g3 p q t : Nat) (w0 w' : World) : Prop :=
  w'.cell? ⟨g1, 0, none⟩ = some (.float .f64 p) ∧ w'.cell? ⟨g2, 0, none⟩ = some (.float .f64 q) ∧ w'.cell? ⟨g3, 0, none⟩ = some (.float .f64 t) ∧
  (w'.cell? ⟨g + 1 + 1 + 1 + 1 + 1 + 1, 0, none⟩).isSome = true ∧ w'.frozen? ⟨g + 1 + 1 + 1 + 1 + 1 + 1, 0, none⟩ = false ∧ g ≤ w'.heap.size ∧ Below g w0 w'
theorem ES.keep {g g1 g2 g3 p q t : Nat} {w0 w1 w2 : World} (hb : Below w1.heap.size w1 w2) (h : ES g g1 g2 g3 p q t w0 w1) : ES g g1 g2 g3 p q t w0 w2 := by
  obtain ⟨h0, h1, h2, e, f, hz, hB⟩ := h
  exact ⟨later hb h0, later hb h1, later hb h2, later_some hb e, later_frozen hb e f, Nat.le_trans hz hb.size, hB.trans (hb.mono hz)⟩
theorem ES.drew {g g1 g2 g3 p q t : Nat} {w0 w1 : World} (h : ES g g1 g2 g3 p q t w0 w1) : ES g g1 g2 g3 p q t w0 w1.drew := by
  obtain ⟨h0, h1, h2, e, f, hz, hB⟩ := h
  exact ⟨h0, h1, h2, e, f, hz, hB.drew⟩
theorem ES.set {g g1 g2 g3 p q t : Nat} {w0 w1 : World} {v : Value} (hne : g + 1 + 1 + 1 + 1 + 1 + 1 ≠ g1 ∧ g + 1 + 1 + 1 + 1 + 1 + 1 ≠ g2 ∧ g + 1 + 1 + 1 + 1 + 1 + 1 ≠ g3) (h : ES g g1 g2 g3 p q t w0 w1) : ES g g1 g2 g3 p q t w0 (w1.setCell ⟨g + 1 + 1 + 1 + 1 + 1 + 1, 0, none⟩ v) := by
  obtain ⟨h0, h1, h2, e, f, hz, hB⟩ := h
  obtain ⟨n1, n2, n3⟩ := hne
  exact ⟨set_far n1 h0, set_far n2 h1, set_far n3 h2, set_some e, by rw [World.frozen?_setCell]; exact f, by simpa [World.setCell] using hz, hB.setCell (p := ⟨g + 1 + 1 + 1 + 1 + 1 + 1, 0, none⟩) (by show g ≤ g + 1 + 1 + 1 + 1 + 1 + 1; omega) _⟩
attribute [-go_sem] run_store_float
attribute [local go_sem] run_store_float_ok
set_option maxRecDepth 100000 in
set_option maxHeartbeats 2000000 in
theorem delta_fv (a b c x y z : Nat) (w : World) : Calls Try.prog 43 #[.agg #[.float .f64 a], .agg #[.float .f64 b], .agg #[.float .f64 c], .agg #[.float .f64 x], .agg #[.float .f64 y], .agg #[.float .f64 z]] w (SomeF (deok a b c x y z) w) := by
  go_enter Try.func43, Try.ntmps43
  go_wp2_with fail
  generalize hW : World.alloc _ _ = W
  have hD : DS w.heap.size a b c x y z w W := by
    subst hW
    refine ⟨by simp [go_sem], by simp [go_sem], by simp [go_sem], by simp [go_sem], by simp [go_sem], by simp [go_sem], ⟨by simp [go_sem], by simp [go_sem]⟩, by simp, ?_⟩
    exact below7 w _ _ _ _ _ _ _
  clear hW
  refine (Sub_fv a x _).mono ?_
  rintro e w1 ⟨d0, hd0, rfl, b1⟩
  have D1 := hD.keep b1
  clear hD b1
  go_wp2_with fail
  refine (sq_fv d0 _).mono ?_
  rintro e w2 ⟨p0, hp0, rfl, b2⟩
  have D2 := D1.keep b2
  clear D1 b2
  have HP := Lib.hid (hd0.sq hp0)
  clear hd0 hp0
  have k1 := alloc_cell D2.2.1
  have k4 := alloc_cell D2.2.2.2.2.1
  have HD2 := Lib.hid D2
  clear D2
  go_wp2_with fail
  have D3 := HD2.out.alloc (.cells #[.float .f64 p0] 33)
  have s1 := alloc_cell_new w2 (.float .f64 p0) 33
  have n1 : w.heap.size + 1 + 1 + 1 + 1 + 1 + 1 ≠ w2.heap.size := by have := HD2.out.2.2.2.2.2.2.2.1; omega
  have N1 := Lib.hid n1
  clear k1 k4 HD2 n1
  generalize w2.heap.size = g1 at s1 N1 ⊢
  generalize World.alloc w2 _ = W2 at D3 s1 ⊢
  refine (Sub_fv b y _).mono ?_
  rintro e w3 ⟨d1, hd1, rfl, b3⟩
  have D4 := D3.keep b3
  have s2 := later b3 s1
  clear D3 s1 b3
  go_wp2_with fail
  refine (sq_fv d1 _).mono ?_
  rintro e w4 ⟨q0, hq0, rfl, b4⟩
  have D5 := D4.keep b4
  have s3 := later b4 s2
  clear D4 s2 b4
  have HQ := Lib.hid (hd1.sq hq0)
  clear hd1 hq0
  have k2 := alloc_cell D5.2.2.1
  have k5 := alloc_cell D5.2.2.2.2.2.1
  have HD5 := Lib.hid D5
  have HS3 := Lib.hid s3
  clear D5 s3
  go_wp2_with fail
  have D6 := HD5.out.alloc (.cells #[.float .f64 q0] 33)
  have s4 := alloc_cell HS3.out (.cells #[.float .f64 q0] 33)
  have t4 := alloc_cell_new w4 (.float .f64 q0) 33
  have n2 : w.heap.size + 1 + 1 + 1 + 1 + 1 + 1 ≠ w4.heap.size := by have := HD5.out.2.2.2.2.2.2.2.1; omega
  have N2 := Lib.hid n2
  clear k2 k5 HD5 HS3 n2
  generalize w4.heap.size = g2 at t4 N2 ⊢
  generalize World.alloc w4 _ = W4 at D6 s4 t4 ⊢
  refine (Sub_fv c z _).mono ?_
  rintro e w5 ⟨d2, hd2, rfl, b5⟩
  have D7 := D6.keep b5
  have s5 := later b5 s4
  have t5 := later b5 t4
  clear D6 s4 t4 b5
  go_wp2_with fail
  refine (sq_fv d2 _).mono ?_
  rintro e w6 ⟨t0, ht0, rfl, b6⟩
  have D8 := D7.keep b6
  have s6 := later b6 s5
  have t6 := later b6 t5
  clear D7 s5 t5 b6
  have HT := Lib.hid (hd2.sq ht0)
  clear hd2 ht0
  have hne : w.heap.size + 1 + 1 + 1 + 1 + 1 + 1 ≠ w6.heap.size := by have := D8.2.2.2.2.2.2.2.1; omega
  have hE0 : ES w.heap.size g1 g2 w6.heap.size p0 q0 t0 w (w6.alloc (.cells #[.float .f64 t0] 33)) := by
    have D9 := D8.alloc (.cells #[.float .f64 t0] 33)
    exact ⟨alloc_cell s6 _, alloc_cell t6 _, alloc_cell_new w6 (.float .f64 t0) 33, by rw [D9.2.2.2.2.2.2.1.1]; rfl, D9.2.2.2.2.2.2.1.2, by have := D9.2.2.2.2.2.2.2.1; omega, D9.2.2.2.2.2.2.2.2⟩
  have NN := Lib.hid (And.intro N1.out (And.intro N2.out hne))
  have HE := Lib.hid hE0
  clear D8 s6 t6 N1 N2 hne hE0
  go_wp2
  generalize hW6 : World.alloc w6 _ = W6 at HE ⊢
  obtain ⟨g3, hg3⟩ : ∃ g, g = w6.heap.size := ⟨_, rfl⟩
  rw [← hg3] at NN HE ⊢
  clear hW6 hg3
  obtain ⟨g, hg⟩ : ∃ g, g = w.heap.size := ⟨_, rfl⟩
  rw [← hg] at NN HE ⊢
  have HG := Lib.hid hg
  clear hg
  go_region_held3 (fun w' => w'.cell? ⟨g1, 0, none⟩ = some (.float .f64 p0) ∧ w'.cell? ⟨g2, 0, none⟩ = some (.float .f64 q0) ∧ w'.cell? ⟨g3, 0, none⟩ = some (.float .f64 t0) ∧
      (w'.cell? ⟨g + 1 + 1 + 1 + 1 + 1 + 1, 0, none⟩).isSome = true ∧ w'.frozen? ⟨g + 1 + 1 + 1 + 1 + 1 + 1, 0, none⟩ = false ∧ g ≤ w'.heap.size ∧ Below g w w')
    (first | exact HE.out.drew | (refine ES.keep ‹Below _ _ _› ?_; assumption) | (refine ES.set NN.out ?_; assumption))
    (first | (go_at_call 47; refine (Add_fv _ _ _).mono ?_; rintro e w' ⟨r, hr, rfl, hb⟩; have HR := Lib.hid hr; clear hr) | (go_at_call 48; refine (Sqrt_fv _ _).mono ?_; rintro e w' ⟨r, hr, rfl, hb⟩; have HR := Lib.hid hr; clear hr))
  rename_i w8 r1 hb8 HR1 w9 r2 hb9 HR2 hH
  obtain ⟨-, -, -, e1, -, -, hB⟩ := hH
  have c6 := set_val _ _ _ _ e1
  have hF : FV (deok a b c x y z) r := ((HP.out.add HQ.out HR1.out).add HT.out HR2.out).sqrt HR.out
  clear e1 HR1 HR2 HR HP HQ HT
  have HF := Lib.hid hF
  clear hF
  generalize hWW : World.setCell _ _ _ = WW at c6 hB ⊢
  clear hWW
  go_wp2
  refine bodyPost_ret (v := .agg #[.float .f64 r]) (by simp [results, Try.results43, go_sem, c6]) rfl ⟨r, HF.out, rfl, ?_⟩
  rw [← HG.out]
  exact hB
set_option maxRecDepth 100000 in
set_option maxHeartbeats 2000000 in
theorem zz_fv (a b c x y z : Nat) (w : World) : Calls Try.prog 29 #[.float .f64 a, .float .f64 b, .float .f64 c, .float .f64 x, .float .f64 y, .float .f64 z] w (SomeN (deok a b c x y z) w) := by
  go_enter Try.func29, Try.ntmps29
  go_wp2_with fail
  refine (NewF64_any a _).mono ?_
  rintro e w1 ⟨rfl, b1⟩
  go_wp2_with fail
  refine (NewF64_any b _).mono ?_
  rintro e w2 ⟨rfl, b2⟩
  have B2 := b1.trans (b2.mono b1.size)
  clear b1 b2
  go_wp2_with fail
  refine (NewF64_any c _).mono ?_
  rintro e w3 ⟨rfl, b3⟩
  have B3 := B2.trans (b3.mono B2.size)
  clear B2 b3
  go_wp2_with fail
  refine (NewF64_any x _).mono ?_
  rintro e w4 ⟨rfl, b4⟩
  have B4 := B3.trans (b4.mono B3.size)
  clear B3 b4
  go_wp2_with fail
  refine (NewF64_any y _).mono ?_
  rintro e w5 ⟨rfl, b5⟩
  have B5 := B4.trans (b5.mono B4.size)
  clear B4 b5
  go_wp2_with fail
  refine (NewF64_any z _).mono ?_
  rintro e w6 ⟨rfl, b6⟩
  have B6 := B5.trans (b6.mono B5.size)
  clear B5 b6
  go_wp2_with fail
  refine (delta_fv a b c x y z _).mono ?_
  rintro e w7 ⟨r, hr, rfl, b7⟩
  have B7 := B6.trans (b7.mono B6.size)
  clear B6 b7
  have HR := Lib.hid hr
  clear hr
  go_wp2_with fail
  refine (Value_any r _).mono ?_
  rintro e w8 ⟨rfl, b8⟩
  have B8 := B7.trans (b8.mono B7.size)
  clear B7 b8
  go_wp2
  go_ret
  exact ⟨r, HR.out, rfl, B8⟩
set_option maxHeartbeats 400000 in
theorem isNaN_any (x : Nat) (b : Bool) (h : (FloatKind.f64.format.order x x != some .eq) = b) (w : World) : Calls Try.prog 30 #[.float .f64 x] w fun e w' => e = .returned (.bool b) ∧ w = w' := by
  go_enter Try.func30, Try.ntmps30
  go_wp2
  go_ret
  exact ⟨rfl, rfl⟩
set_option maxHeartbeats 400000 in
theorem fin_yes (x : Nat) (h : Finite x) (w : World) : Calls Try.prog 31 #[.float .f64 x] w fun e w' => e = .returned (.bool true) ∧ Below w.heap.size w w' := by
  obtain ⟨d, hd, fd, vd⟩ := fin_sub_self h
  have hm : ∀ w, (binOp .sub 22 (.float .f64 x) (.float .f64 x)).run Try.prog w = .ok (.float .f64 d) w := fun w => run_float_arith w .sub 22 .f64 x x d hd
  have o2 : FloatKind.f64.format.order d 0 = some .eq := by
    have := order_ok d 0 fd fin_zero
    rw [vd, val_zero, if_neg Rat.lt_irrefl, if_pos rfl] at this
    exact this
  clear hd fd vd h
  go_enter Try.func31, Try.ntmps31
  go_wp2
  go_ret
  exact ⟨rfl, Below.refl _ _⟩
set_option maxHeartbeats 400000 in
theorem fin_no (x : Nat) (h : Ieee.double.sub x x = none) (w : World) : Calls Try.prog 31 #[.float .f64 x] w fun e w' => e = .returned (.bool false) ∧ Below w.heap.size w w' := by
  have hm : ∀ w, (binOp .sub 22 (.float .f64 x) (.float .f64 x)).run Try.prog w = .ok (.float .f64 (nanAt w x x)) w.drew := fun w => run_float_nan .sub (.inr (.inl rfl)) 22 x x h w
  have o2 : ∀ w, FloatKind.f64.format.order (nanAt w x x) 0 = none := fun w => nan_order_l (nanAt_nan w x x) 0
  clear h
  go_enter Try.func31, Try.ntmps31
  go_wp2
  go_ret
  exact ⟨rfl, (Below.refl _ _).drew⟩
/-- finite or not, as the program asks it -/
theorem fin_cases (x : Nat) (h : x < 2 ^ 64) : (Finite x ∧ ∀ w, Calls Try.prog 31 #[.float .f64 x] w fun e w' => e = .returned (.bool true) ∧ Below w.heap.size w w') ∨ (∀ w, Calls Try.prog 31 #[.float .f64 x] w fun e w' => e = .returned (.bool false) ∧ Below w.heap.size w w') := by
  rcases classes x h with f | f | f
  · exact .inl ⟨f, fin_yes x f⟩
  · exact .inr (fin_no x (inf_sub_self f))
  · exact .inr (fin_no x (sub_nan_l f x))

set_option maxRecDepth 100000 in
set_option maxHeartbeats 4000000 in
/-- THE WALK -/
theorem walk (a0 : Nat) (a1 : Nat) (a2 : Nat) (a3 : Nat) (a4 : Nat) (a5 : Nat) (w : World) (w0 : (Lit.float .f64 a0).wf = true) (w1 : (Lit.float .f64 a1).wf = true) (w2 : (Lit.float .f64 a2).wf = true) (w3 : (Lit.float .f64 a3).wf = true) (w4 : (Lit.float .f64 a4).wf = true) (w5 : (Lit.float .f64 a5).wf = true) :
    Calls Try.prog 8 #[.float .f64 a0, .float .f64 a1, .float .f64 a2, .float .f64 a3, .float .f64 a4, .float .f64 a5] w fun e w' => e = .returned (.bool true) ∧ Below w.heap.size w w' := by
  have q0 : a0 < 2 ^ 64 := by simpa [Lit.wf] using w0
  have q1 : a1 < 2 ^ 64 := by simpa [Lit.wf] using w1
  have q2 : a2 < 2 ^ 64 := by simpa [Lit.wf] using w2
  clear w0 w1 w2 w3 w4 w5
  go_enter Try.func8, Try.ntmps8
  go_wp2_with fail
  refine (zz_fv a0 a1 a2 a3 a4 a5 _).mono ?_
  rintro e w1 ⟨p, hp, rfl, b1⟩
  have HP := Lib.hid hp
  clear hp
  go_wp2_with fail
  refine (zz_fv a3 a4 a5 a0 a1 a2 _).mono ?_
  rintro e w2 ⟨q, hq, rfl, b2⟩
  rw [deok_swap] at hq
  have hp := HP.out
  clear HP
  have B2 := b1.trans (b2.mono b1.size)
  clear b1 b2
  cases hd : deok a0 a1 a2 a3 a4 a5 with
  | none =>
    rw [hd] at hp hq
    have t1 : (FloatKind.f64.format.order p p != some .eq) = true := by rw [show FloatKind.f64.format.order p p = none from nan_order_l hp p]; rfl
    have t2 : (FloatKind.f64.format.order q q != some .eq) = true := by rw [show FloatKind.f64.format.order q q = none from nan_order_l hq q]; rfl
    have HT := Lib.hid (And.intro t1 t2)
    clear hd hp hq t1 t2
    go_wp2_with fail
    refine (isNaN_any p true HT.out.1 _).mono ?_
    rintro e w' ⟨rfl, rfl⟩
    go_wp2_with fail
    refine (isNaN_any q true HT.out.2 _).mono ?_
    rintro e w' ⟨rfl, rfl⟩
    go_wp2_with fail
    refine (isNaN_any p true HT.out.1 _).mono ?_
    rintro e w' ⟨rfl, rfl⟩
    clear HT
    rcases fin_cases a0 q0 with ⟨f0, H0⟩ | H0
    · rcases fin_cases a1 q1 with ⟨f1, H1⟩ | H1
      · rcases fin_cases a2 q2 with ⟨f2, H2⟩ | H2
        · have HS := Lib.hid (deok_self a0 a1 a2 f0 f1 f2)
          have K0 := Lib.hid H0
          have K1 := Lib.hid H1
          have K2 := Lib.hid H2
          clear H0 H1 H2 f0 f1 f2 q0 q1 q2
          go_wp2_with fail
          refine (K0.out _).mono ?_
          rintro e w3 ⟨rfl, b3⟩
          have B3 := B2.trans (b3.mono B2.size)
          clear B2 b3
          go_wp2_with fail
          refine (K1.out _).mono ?_
          rintro e w4 ⟨rfl, b4⟩
          have B4 := B3.trans (b4.mono B3.size)
          clear B3 b4
          go_wp2_with fail
          refine (K2.out _).mono ?_
          rintro e w5 ⟨rfl, b5⟩
          have B5 := B4.trans (b5.mono B4.size)
          clear B4 b5
          go_wp2_with fail
          refine (zz_fv a0 a1 a2 a0 a1 a2 _).mono ?_
          rintro e w6 ⟨r, hr, rfl, b6⟩
          rw [HS.out] at hr
          obtain rfl : r = 0 := hr
          have B6 := B5.trans (b6.mono B5.size)
          clear B5 b6 HS
          have o0 : FloatKind.f64.format.order 0 0 = some .eq := by decide +kernel
          go_wp2
          go_ret
          exact ⟨rfl, B6⟩
        · have K0 := Lib.hid H0
          have K1 := Lib.hid H1
          have K2 := Lib.hid H2
          clear H0 H1 H2 f0 f1 q0 q1 q2
          go_wp2_with fail
          refine (K0.out _).mono ?_
          rintro e w3 ⟨rfl, b3⟩
          have B3 := B2.trans (b3.mono B2.size)
          clear B2 b3
          go_wp2_with fail
          refine (K1.out _).mono ?_
          rintro e w4 ⟨rfl, b4⟩
          have B4 := B3.trans (b4.mono B3.size)
          clear B3 b4
          go_wp2_with fail
          refine (K2.out _).mono ?_
          rintro e w5 ⟨rfl, b5⟩
          have B5 := B4.trans (b5.mono B4.size)
          clear B4 b5
          go_wp2
          go_ret
          exact ⟨rfl, B5⟩
      · have K0 := Lib.hid H0
        have K1 := Lib.hid H1
        clear H0 H1 f0 q0 q1 q2
        go_wp2_with fail
        refine (K0.out _).mono ?_
        rintro e w3 ⟨rfl, b3⟩
        have B3 := B2.trans (b3.mono B2.size)
        clear B2 b3
        go_wp2_with fail
        refine (K1.out _).mono ?_
        rintro e w4 ⟨rfl, b4⟩
        have B4 := B3.trans (b4.mono B3.size)
        clear B3 b4
        go_wp2
        go_ret
        exact ⟨rfl, B4⟩
    · have K0 := Lib.hid H0
      clear H0 q0 q1 q2
      go_wp2_with fail
      refine (K0.out _).mono ?_
      rintro e w3 ⟨rfl, b3⟩
      have B3 := B2.trans (b3.mono B2.size)
      clear B2 b3
      go_wp2
      go_ret
      exact ⟨rfl, B3⟩
  | some s =>
    rw [hd] at hp hq
    obtain rfl : p = s := hp
    obtain rfl : q = p := hq
    obtain ⟨hg, hl⟩ := deok_some hd
    have o1 : FloatKind.f64.format.order q q = some .eq := good_self hg
    have t1 : (FloatKind.f64.format.order q q != some .eq) = false := by rw [o1]; rfl
    have t3 : (FloatKind.f64.format.order q 0 == some .lt) = false := beq_eq_false_iff_ne.2 hl
    have HT := Lib.hid t1
    clear hd hg hl t1
    go_wp2_with fail
    refine (isNaN_any q false HT.out _).mono ?_
    rintro e w' ⟨rfl, rfl⟩
    go_wp2_with fail
    refine (isNaN_any q false HT.out _).mono ?_
    rintro e w' ⟨rfl, rfl⟩
    go_wp2_with fail
    refine (isNaN_any q false HT.out _).mono ?_
    rintro e w' ⟨rfl, rfl⟩
    clear HT
    rcases fin_cases a0 q0 with ⟨f0, H0⟩ | H0
    · rcases fin_cases a1 q1 with ⟨f1, H1⟩ | H1
      · rcases fin_cases a2 q2 with ⟨f2, H2⟩ | H2
        · have HS := Lib.hid (deok_self a0 a1 a2 f0 f1 f2)
          have K0 := Lib.hid H0
          have K1 := Lib.hid H1
          have K2 := Lib.hid H2
          clear H0 H1 H2 f0 f1 f2 q0 q1 q2
          go_wp2_with fail
          refine (K0.out _).mono ?_
          rintro e w3 ⟨rfl, b3⟩
          have B3 := B2.trans (b3.mono B2.size)
          clear B2 b3
          go_wp2_with fail
          refine (K1.out _).mono ?_
          rintro e w4 ⟨rfl, b4⟩
          have B4 := B3.trans (b4.mono B3.size)
          clear B3 b4
          go_wp2_with fail
          refine (K2.out _).mono ?_
          rintro e w5 ⟨rfl, b5⟩
          have B5 := B4.trans (b5.mono B4.size)
          clear B4 b5
          go_wp2_with fail
          refine (zz_fv a0 a1 a2 a0 a1 a2 _).mono ?_
          rintro e w6 ⟨r, hr, rfl, b6⟩
          rw [HS.out] at hr
          obtain rfl : r = 0 := hr
          have B6 := B5.trans (b6.mono B5.size)
          clear B5 b6 HS
          have o0 : FloatKind.f64.format.order 0 0 = some .eq := by decide +kernel
          go_wp2
          go_ret
          exact ⟨rfl, B6⟩
        · have K0 := Lib.hid H0
          have K1 := Lib.hid H1
          have K2 := Lib.hid H2
          clear H0 H1 H2 f0 f1 q0 q1 q2
          go_wp2_with fail
          refine (K0.out _).mono ?_
          rintro e w3 ⟨rfl, b3⟩
          have B3 := B2.trans (b3.mono B2.size)
          clear B2 b3
          go_wp2_with fail
          refine (K1.out _).mono ?_
          rintro e w4 ⟨rfl, b4⟩
          have B4 := B3.trans (b4.mono B3.size)
          clear B3 b4
          go_wp2_with fail
          refine (K2.out _).mono ?_
          rintro e w5 ⟨rfl, b5⟩
          have B5 := B4.trans (b5.mono B4.size)
          clear B4 b5
          go_wp2
          go_ret
          exact ⟨rfl, B5⟩
      · have K0 := Lib.hid H0
        have K1 := Lib.hid H1
        clear H0 H1 f0 q0 q1 q2
        go_wp2_with fail
        refine (K0.out _).mono ?_
        rintro e w3 ⟨rfl, b3⟩
        have B3 := B2.trans (b3.mono B2.size)
        clear B2 b3
        go_wp2_with fail
        refine (K1.out _).mono ?_
        rintro e w4 ⟨rfl, b4⟩
        have B4 := B3.trans (b4.mono B3.size)
        clear B3 b4
        go_wp2
        go_ret
        exact ⟨rfl, B4⟩
    · have K0 := Lib.hid H0
      clear H0 q0 q1 q2
      go_wp2_with fail
      refine (K0.out _).mono ?_
      rintro e w3 ⟨rfl, b3⟩
      have B3 := B2.trans (b3.mono B2.size)
      clear B2 b3
      go_wp2
      go_ret
      exact ⟨rfl, B3⟩

set_option maxRecDepth 100000 in
theorem lifted (os : Os) (started : os.Started) (H : Type) (enc : TypeId × Value → H) :
    ReturnsInHanded {} Try.checked os 8 .any (Rows.fnDeltaEOKIsSymmetricAndZeroOnItselfSpec.pre6 enc Try.prog Try.f8 Rows.fnDeltaEOKIsSymmetricAndZeroOnItselfRow.domain false) (Rows.fnDeltaEOKIsSymmetricAndZeroOnItselfSpec.post enc Try.prog Try.f8 false true false false) := by
  refine returnsInHanded_of_change (C := Try.checked) own started (by kernel_rfl) Try.func8
    (ChangeSpec.witness6 (enc := enc) (C := Try.checked) false ⟨#[], #[.float .f64 0, .float .f64 0, .float .f64 0, .float .f64 0, .float .f64 0, .float .f64 0], []⟩ 8 (by kernel_rfl) (by kernel_rfl) (by kernel_rfl) (by kernel_rfl)) ?_
  intro W base args ds gs before hval0 hW hcnd _
  have hval : ∀ (j : Nat) t v, Try.f8.params[j]? = some t → args[j]? = some v → Value.okWide Try.prog W .any base t v := hval0
  have hW' := hW
  obtain ⟨p, q, hA0, hV, rfl, hfz, hnd⟩ := hW
  have hA : DataW.TrodAll enc Try.prog W 0 (fun _ => true) true Try.f8.params.toList args.toList ds p := hA0
  rw [Try.params8] at hA hval
  obtain ⟨v0, vs0, d0, ds0, p0, q0, hargs, rfl, rfl, h0, r0⟩ := trodAll_cons hA
  obtain ⟨v1, vs1, d1, ds1, p1, q1, rfl, rfl, rfl, h1, r1⟩ := trodAll_cons r0
  obtain ⟨v2, vs2, d2, ds2, p2, q2, rfl, rfl, rfl, h2, r2⟩ := trodAll_cons r1
  obtain ⟨v3, vs3, d3, ds3, p3, q3, rfl, rfl, rfl, h3, r3⟩ := trodAll_cons r2
  obtain ⟨v4, vs4, d4, ds4, p4, q4, rfl, rfl, rfl, h4, r4⟩ := trodAll_cons r3
  obtain ⟨v5, vs5, d5, ds5, p5, q5, rfl, rfl, rfl, h5, r5⟩ := trodAll_cons r4
  obtain ⟨rfl, rfl, rfl⟩ := trodAll_nil r5
  obtain rfl : args = #[v0, v1, v2, v3, v4, v5] := by cases args; simp_all
  obtain ⟨rfl, rfl⟩ := trodVars_none hV
  obtain ⟨a0, rfl, rfl, rfl, w0⟩ := open_float Try.underlying22 (hval 0 22 v0 rfl rfl) h0
  obtain ⟨a1, rfl, rfl, rfl, w1⟩ := open_float Try.underlying22 (hval 1 22 v1 rfl rfl) h1
  obtain ⟨a2, rfl, rfl, rfl, w2⟩ := open_float Try.underlying22 (hval 2 22 v2 rfl rfl) h2
  obtain ⟨a3, rfl, rfl, rfl, w3⟩ := open_float Try.underlying22 (hval 3 22 v3 rfl rfl) h3
  obtain ⟨a4, rfl, rfl, rfl, w4⟩ := open_float Try.underlying22 (hval 4 22 v4 rfl rfl) h4
  obtain ⟨a5, rfl, rfl, rfl, w5⟩ := open_float Try.underlying22 (hval 5 22 v5 rfl rfl) h5
  clear hA0 hval0
  refine (walk a0 a1 a2 a3 a4 a5 W w0 w1 w2 w3 w4 w5).mono fun e W' ⟨he, bel⟩ => ?_
  subst he
  exact ⟨_, rfl, _, _, _, [], _, [], hW', trodAll_mk1 (shut_bool Try.underlying4 _), (trodAll_cons_mk (shut_float Try.underlying22 w0) (trodAll_cons_mk (shut_float Try.underlying22 w1) (trodAll_cons_mk (shut_float Try.underlying22 w2) (trodAll_cons_mk (shut_float Try.underlying22 w3) (trodAll_cons_mk (shut_float Try.underlying22 w4) (trodAll_cons_mk (shut_float Try.underlying22 w5) trodAll_mk0)))))), rfl, bel.frame _, fun h => by cases h⟩

theorem over : Rows.fnDeltaEOKIsSymmetricAndZeroOnItselfRow.holds Try.pinned (OpenSpec.ofChange Rows.fnDeltaEOKIsSymmetricAndZeroOnItselfSpec) :=
  OpenClaim.holds_of_wide 8 Try.f8 rfl rfl rfl rfl rfl rfl rfl ⟨rfl, rfl, rfl, rfl, rfl⟩ rfl rfl rfl rfl rfl (by kernel_rfl) Try.func8 (by kernel_rfl)
    (of_decide_eq_true (by kernel_rfl)) (by unfold Func.isWrapper; first | (rw [if_pos (by decide +kernel)]; kernel_rfl) | (rw [if_neg (by decide +kernel)]; exact ⟨rfl, rfl⟩))
    (fun os started H enc _ => lifted os started H enc)

/-- THE STATEMENT -/
theorem proved : Rows.FnDeltaEOKIsSymmetricAndZeroOnItselfSaid := over
#print axioms proved
end Go.Proofs.Ythjgigahhooilaa.fnDeltaEOKIsSymmetricAndZeroOnItself
