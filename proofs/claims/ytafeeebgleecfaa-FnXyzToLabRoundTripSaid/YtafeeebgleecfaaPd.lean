/-
  Boxes of floats, continued: lists that differ in their numbers alone; contracts whose answer bears a name.
-/
import Derived.Test.YtafeeebgleecfaaPc
import Derived.Deep.Cut
import Derived.Laws.StructEq
namespace Go.Proofs.Ytafeeebgleecfaa.Mat
open Go.ChangeShapes Go.WideShapes Go.ChangeAt Go.RowKit
open FL Pl
set_option linter.unusedVariables false
theorem Apart.of_fst {base : Nat} : ∀ {L L' : List (Nat × Nat)}, L.map Prod.fst = L'.map Prod.fst → Apart base L → Apart base L'
  | [], [], _, _ => True.intro
  | [], _ :: _, h, _ => by simp at h
  | _ :: _, [], h, _ => by simp at h
  | (g, x) :: L, (g', x') :: L', h, ha => by
    simp only [List.map_cons, List.cons.injEq] at h
    obtain ⟨rfl, h⟩ := h
    refine ⟨ha.1, fun p hp e => ?_, Apart.of_fst h ha.2.2⟩
    have h1 : p.1 ∈ L'.map Prod.fst := List.mem_map.2 ⟨p, hp, rfl⟩
    rw [← h] at h1
    obtain ⟨q, hq, hqe⟩ := List.mem_map.1 h1
    exact ha.2.1 q hq (hqe.trans e)
theorem ev_const (a : Act) (v : Value) : a.eval (.const v) = v := rfl
theorem neq_ok {x y : Nat} {b : Bool} (h : eqB x y = b) : (FloatKind.f64.format.order x y != some .eq) = !b := by subst h; rfl
theorem off_cons {L : List (Nat × Nat)} {g x k : Nat} (h1 : g ≠ k) (h2 : ∀ p ∈ L, p.1 ≠ k) : ∀ p ∈ (g, x) :: L, p.1 ≠ k := by
  intro p hp
  rcases List.mem_cons.1 hp with rfl | hp
  · exact h1
  · exact h2 p hp
theorem Max3_as (x0 x1 x2 r : Nat) (h : maxW (maxW x0 x1) x2 = r) (w : World) : Calls Try.prog 68 #[.agg #[.float .f64 x0], .agg #[.float .f64 x1], .agg #[.float .f64 x2]] w fun e w' => e = .returned (.agg #[.float .f64 r]) ∧ Below w.heap.size w w' := by
  subst h; exact Max3_any x0 x1 x2 w
theorem Min3_as (x0 x1 x2 r : Nat) (h : minW (minW x0 x1) x2 = r) (w : World) : Calls Try.prog 69 #[.agg #[.float .f64 x0], .agg #[.float .f64 x1], .agg #[.float .f64 x2]] w fun e w' => e = .returned (.agg #[.float .f64 r]) ∧ Below w.heap.size w w' := by
  subst h; exact Min3_any x0 x1 x2 w
theorem Min2_as (x0 x1 r : Nat) (h : minW x0 x1 = r) (w : World) : Calls Try.prog 71 #[.agg #[.float .f64 x0], .agg #[.float .f64 x1]] w fun e w' => e = .returned (.agg #[.float .f64 r]) ∧ Below w.heap.size w w' := by
  subst h; exact Min2_any x0 x1 w
theorem Max2_as (x0 x1 r : Nat) (h : maxW x0 x1 = r) (w : World) : Calls Try.prog 76 #[.agg #[.float .f64 x0], .agg #[.float .f64 x1]] w fun e w' => e = .returned (.agg #[.float .f64 r]) ∧ Below w.heap.size w w' := by
  subst h; exact Max2_any x0 x1 w
theorem Neg_as (x r : Nat) (h : flip x = r) (w : World) : Calls Try.prog 72 #[.agg #[.float .f64 x]] w fun e w' => e = .returned (.agg #[.float .f64 r]) ∧ Below w.heap.size w w' := by
  subst h; exact Neg_any x w
theorem Floor_as (x r : Nat) (hf : Finite x) (h : floorW x = r) (w : World) : Calls Try.prog 74 #[.agg #[.float .f64 x]] w fun e w' => e = .returned (.agg #[.float .f64 r]) ∧ Below w.heap.size w w' := by
  subst h; exact Floor_any x hf w
theorem run_unbits (x : Int) (w : World) : (callFunc 83 #[.int .u64 x]).run Try.prog w = .ok (.value (.float .f64 x.toNat)) w := by
  rw [run_callFunc_extern (e := Extern.MathFloatBits.float64frombits) Try.func83 (by decide +kernel) rfl (by kernel_rfl) (by kernel_rfl)]; rfl
theorem NaN_any (w : World) : Calls Try.prog 70 #[] w fun e w' => e = .returned (.float .f64 9221120237041090561) ∧ Below w.heap.size w w' := by
  have h := run_unbits 9221120237041090561
  go_enter Try.func70, Try.ntmps70
  go_wp2
  go_ret
  exact ⟨rfl, Below.refl _ _⟩
theorem run_equalIn_float {P : Program} (w : World) (d : Nat) (t : TypeId) (k k' : FloatKind) (a b : Nat) (h : P.underlying t = some (.float k')) : (Op.equalIn (d + 1) t (.float k a) (.float k b)).run P w = .ok (Op.floatEq k a b) w := by
  simp [Op.equalIn, run_underlying h]
theorem run_eql_f64 (x y : Nat) (v : Bool) (w : World) (h : eqB x y = v) : (binOp .eql 41 (.agg #[.float .f64 x]) (.agg #[.float .f64 y])).run Try.prog w = .ok (.bool v) w := by
  subst h
  have hF : Try.prog.fieldsOf 41 = #[{ name := "value", type := 22, offset := 0, embedded := false, tag := "", pkgPath := "github.com/evanw/esbuild/internal/helpers", byteOffset := 0 }] := by kernel_rfl
  have hl := fun d w => run_equalIn_float (P := Try.prog) w d 22 .f64 .f64 x y (by kernel_rfl)
  have hp : ∀ z w, (part 22 #[.float .f64 z] 0).run Try.prog w = .ok (.float .f64 z) w := fun z w => by kernel_rfl
  rw [run_eql_struct, run_equalIn_struct w 9999 41 _ _ (by kernel_rfl) (by kernel_rfl), hF]
  simp [Op.eqFields, hp, hl, Op.floatEq, eqB]
  cases hh : FloatKind.f64.format.order x y == some .eq <;> simp_all <;> exact hh
end Go.Proofs.Ytafeeebgleecfaa.Mat
