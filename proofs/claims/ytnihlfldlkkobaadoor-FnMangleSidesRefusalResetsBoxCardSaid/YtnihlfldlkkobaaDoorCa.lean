/-
  Tokens by their code; rows of tokens.
-/
import Derived.Test.YtnihlfldlkkobaaDoorSl
import Derived.Test.YtnihlfldlkkobaaDoorEq
namespace Go.Proofs.YtnihlfldlkkobaaDoor.Bx
open Go.ChangeShapes Go.WideShapes Go.ChangeAt Go.RowKit Rg Quad
set_option linter.unusedVariables false
set_option linter.unusedSimpArgs false
def tT (m : Int) : ByteArray := if m = 0 then ⟨#[49, 37]⟩ else if m = 1 then ⟨#[50, 37]⟩ else if m = 2 then ⟨#[51, 37]⟩ else if m = 3 then ⟨#[48]⟩ else if m = 4 then ⟨#[53, 48, 37]⟩ else if m = 5 then ⟨#[49]⟩ else if m = 6 then ⟨#[97, 117, 116, 111]⟩ else ⟨#[47]⟩
def tK (m : Int) : Int := if m = 0 then 34 else if m = 1 then 34 else if m = 2 then 34 else if m = 3 then 30 else if m = 4 then 34 else if m = 5 then 30 else if m = 6 then 29 else 24
/-- a token: code and whitespace -/
abbrev TY := Int × Int
def tyR (x : TY) : List Value := [.pointer none, .string (tT x.1), .int .i32 0, .int .u32 0, .int .u16 0, .int .u8 (tK x.1), .int .u8 x.2]
def tyV (x : TY) : Value := .agg #[.pointer none, .string (tT x.1), .int .i32 0, .int .u32 0, .int .u16 0, .int .u8 (tK x.1), .int .u8 x.2]
theorem tyR_len (x : TY) : (tyR x).length = 7 := rfl
theorem eq_code {m n : Int} (hm : 0 ≤ m ∧ m < 8) (hn : 0 ≤ n ∧ n < 8) : eqT (tT m) 0 (tK m) (tT n) 0 (tK n) = decide (m = n) := by
  have h : ∀ i j : Fin 8, eqT (tT (i.val : Int)) 0 (tK (i.val : Int)) (tT (j.val : Int)) 0 (tK (j.val : Int)) = decide ((i.val : Int) = (j.val : Int)) := by
    intro i j
    unfold eqT
    simp only [ByteArray.toList_eq]
    revert i j
    decide
  have := h ⟨m.toNat, by omega⟩ ⟨n.toNat, by omega⟩
  simpa [Int.toNat_of_nonneg hm.1, Int.toNat_of_nonneg hn.1] using this
theorem tyTok : ∃ d, Tryd.prog.underlying 43 = some d ∧ d.isRow = true := ⟨_, Tryd.underlying43, rfl⟩
theorem szTok : (Tryd.prog.info? 43).map (·.size) = some 7 := by kernel_rfl
theorem rowg_set {f f' : Nat → List Value} {s : Nat} (hs : ∀ i, (f i).length = s) {i j : Nat} {u : Value} (hi : f' i = (f i).set j u) (hj : j < s) (ho : ∀ k, k ≠ i → f' k = f k) : ∀ n, i < n → (rowg f n).set (i * s + j) u = rowg f' n
  | 0, h => absurd h (by omega)
  | n + 1, h => by
    rw [rowg_succ, rowg_succ]
    have hl := rowg_len f hs n
    by_cases e : i = n
    · subst e
      rw [List.set_append_right _ _ (by omega), hl, Nat.add_sub_cancel_left, ← hi, rowg_congr i fun k hk => (ho k (by omega)).symm]
    · have hlt : i * s + j < n * s := by
        have : (i + 1) * s ≤ n * s := Nat.mul_le_mul_right _ (by omega)
        rw [Nat.add_mul, Nat.one_mul] at this
        omega
      rw [List.set_append_left _ _ (by omega), rowg_set hs hi hj ho n (by omega), ho n (fun e2 => e e2.symm)]
/-- n tokens in block g -/
def TR (w : World) (g n : Nat) (X : Nat → TY) : Prop := ∀ i, i < n → w.rangeAt g (i * 7) (tyR (X i))
theorem TR.lt {w : World} {g n : Nat} {X : Nat → TY} (h : TR w g n X) (hn : 0 < n) : g < w.heap.size := rg_lt (h 0 hn) (by simp [tyR])
theorem TR.keep {w w' : World} {g n : Nat} {X : Nat → TY} (h : TR w g n X) (hb : Below w.heap.size w w') : TR w' g n X := fun i hi => rg_keep hb (h i hi)
theorem TR.below {w w' : World} {g n B : Nat} {X : Nat → TY} (h : TR w g n X) (hg : g < B) (hb : Below B w w') : TR w' g n X := fun i hi => rg_below hb hg (h i hi)
end Go.Proofs.YtnihlfldlkkobaaDoor.Bx
