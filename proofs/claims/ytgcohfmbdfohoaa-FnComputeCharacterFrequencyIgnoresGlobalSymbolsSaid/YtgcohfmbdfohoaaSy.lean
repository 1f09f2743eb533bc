/-
  A symbol (10 cells): zzSymbolCssB1.
-/
import Derived.Test.YtgcohfmbdfohoaaFq
import Derived.Test.YtgcohfmbdfohoaaSl
namespace Go.Proofs.Ytgcohfmbdfohoaa.Fq
open Go.ChangeShapes Go.WideShapes Go.ChangeAt Go.RowKit Rg
set_option linter.unusedVariables false
/-- the ten cells of a symbol -/
def symc (s : ByteArray) (u k : Int) : List Value := [.pointer none, .string s, .int .u32 0, .int .u32 0, .int .u32 u, .int .u32 0, .int .u32 0, .int .u16 0, .int .u8 k, .int .u8 0]
def kd (l : Bool) : Int := if l = true then 26 else 25
theorem tySym : ∃ d, Try.prog.underlying 39 = some d ∧ d.isRow = true := by
  cases h : Try.prog.underlying 39 with
  | none => have h2 : (Try.prog.underlying 39).isSome = true := by kernel_rfl
            rw [h] at h2; simp at h2
  | some d =>
    have h2 : (Try.prog.underlying 39).map (·.isRow) = some true := by kernel_rfl
    rw [h] at h2
    exact ⟨d, rfl, by simpa using h2⟩
theorem szSym : (Try.prog.info? 39).map (·.size) = some 10 := by kernel_rfl
def SymPost (s : ByteArray) (u k : Int) (w : World) (e : Ending) (w' : World) : Prop := e = .returned (.agg (symc s u k).toArray) ∧ Below w.heap.size w w'
set_option maxRecDepth 100000 in
set_option maxHeartbeats 1000000 in
theorem symbol_any (s : ByteArray) (l : Bool) (u : Int) (w : World) :
    Calls Try.prog 6 #[.string s, .bool l, .int .u32 u] w (SymPost s u (kd l) w) := by
  obtain ⟨du, hu, hu2⟩ := tySym
  have HU := Lib.hid hu
  clear hu
  cases l
  · go_enter Try.func6, Try.ntmps6
    go_wp2_with fail
    exact bodyPost_ret (results_cell_mid rfl _ _ w.heap.size 0 (symc s u 25) du rfl (rg_new w (symc s u 25).toArray _) HU.out hu2 szSym) rfl ⟨rfl, (Below.refl _ _).alloc (Nat.le_refl _) _⟩
  · go_enter Try.func6, Try.ntmps6
    go_wp2_with fail
    exact bodyPost_ret (results_cell_mid rfl _ _ w.heap.size 0 (symc s u 26) du rfl (rg_new w (symc s u 26).toArray _) HU.out hu2 szSym) rfl ⟨rfl, (Below.refl _ _).alloc (Nat.le_refl _) _⟩
end Go.Proofs.Ytgcohfmbdfohoaa.Fq
