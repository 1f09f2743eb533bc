/-
  Trees of selectors in memory, with the number of their simple selectors.
-/
import Derived.Test.YtgdodkfbobhfoaaSl
namespace Go.Proofs.Ytgdodkfbobhfoaa.Tr
open Go.ChangeShapes Go.WideShapes Go.ChangeAt Go.RowKit Rg
set_option linter.unusedVariables false
def sumN (f : Nat → Nat) : Nat → Nat
  | 0 => 0
  | n + 1 => sumN f n + f n
theorem sumN_congr {f g : Nat → Nat} : ∀ n, (∀ i, i < n → f i = g i) → sumN f n = sumN g n
  | 0, _ => rfl
  | n + 1, h => by rw [sumN, sumN, sumN_congr n (fun i hi => h i (by omega)), h n (by omega)]
/-- a compound's six cells -/
def compc (v : Value) : List Value := [.pointer none, v, .slice none 0 0, .int .i32 0, .int .u8 0, .bool false]
def subc (D : Value) : List Value := [D, .int .i32 0, .int .i32 0]
def leafD (h : Nat) : Value := .iface 52 (.pointer (some ⟨h, 0, none⟩))
def nestD (h : Nat) : Value := .iface 56 (.pointer (some ⟨h, 0, none⟩))
/-- n elements of s cells at the head of block g -/
def Row (w : World) (g s n : Nat) (f : Nat → List Value) : Prop := ∀ i, i < n → ∀ j u, (f i)[j]? = some u → w.cell? ⟨g, i * s + j, none⟩ = some u
theorem Row.keep {w w' : World} {g s n : Nat} {f : Nat → List Value} (h : Row w g s n f) (hg : w'.heap[g]? = w.heap[g]?) : Row w' g s n f := fun i hi j u hu => by
  rw [World.cell?_of_block (a := ⟨g, i * s + j, none⟩) hg]; exact h i hi j u hu
/-- a tree: kind 0 a list of simple selectors, 1 of compounds, 2 of complex selectors; its blocks lie in X; c simple selectors -/
inductive TT (w : World) (X : Nat → Prop) : Nat → Value → Nat → Prop
  | nil (k : Nat) (a : Option Addr) (cp : Nat) : TT w X k (.slice a 0 cp) 0
  | subs (g n cp : Nat) (D : Nat → Value) (b : Nat → Bool) (hb : Nat → Nat) (vv : Nat → Value) (cc : Nat → Nat) (hX : X g) (hn : (n : Int) ≤ 1000000) (hnc : n ≤ cp) (hr : Row w g 3 n (fun i => subc (D i)))
      (hD : ∀ i, i < n → D i = if b i then nestD (hb i) else leafD (hb i)) (hc : ∀ i, i < n → b i = true → X (hb i) ∧ w.cell? ⟨hb i, 0, none⟩ = some (vv i)) (ht : ∀ i, i < n → b i = true → TT w X 2 (vv i) (cc i)) :
      TT w X 0 (.slice (some ⟨g, 0, none⟩) n cp) (sumN (fun i => 1 + if b i then cc i else 0) n)
  | comps (g n cp : Nat) (S : Nat → Value) (cc : Nat → Nat) (hX : X g) (hn : (n : Int) ≤ 1000000) (hnc : n ≤ cp) (hr : Row w g 6 n (fun i => compc (S i))) (ht : ∀ i, i < n → TT w X 0 (S i) (cc i)) :
      TT w X 1 (.slice (some ⟨g, 0, none⟩) n cp) (sumN cc n)
  | cmpl (g n cp : Nat) (S : Nat → Value) (cc : Nat → Nat) (hX : X g) (hn : (n : Int) ≤ 1000000) (hnc : n ≤ cp) (hr : Row w g 1 n (fun i => [S i])) (ht : ∀ i, i < n → TT w X 1 (S i) (cc i)) :
      TT w X 2 (.slice (some ⟨g, 0, none⟩) n cp) (sumN cc n)
theorem TT.keep {w w' : World} {X : Nat → Prop} (hX : ∀ g, X g → w'.heap[g]? = w.heap[g]?) {k : Nat} {v : Value} {c : Nat} (h : TT w X k v c) : TT w' X k v c := by
  induction h with
  | nil k a cp => exact .nil k a cp
  | subs g n cp D b hb vv cc h1 h2 h3 hr hD hc ht ih =>
    exact .subs g n cp D b hb vv cc h1 h2 h3 (hr.keep (hX g h1)) hD (fun i hi hbi => ⟨(hc i hi hbi).1, by rw [World.cell?_of_block (a := ⟨hb i, 0, none⟩) (hX _ (hc i hi hbi).1)]; exact (hc i hi hbi).2⟩) ih
  | comps g n cp S cc h1 h2 h3 hr ht ih => exact .comps g n cp S cc h1 h2 h3 (hr.keep (hX g h1)) ih
  | cmpl g n cp S cc h1 h2 h3 hr ht ih => exact .cmpl g n cp S cc h1 h2 h3 (hr.keep (hX g h1)) ih
theorem TT.more {w : World} {X Y : Nat → Prop} (hXY : ∀ g, X g → Y g) {k : Nat} {v : Value} {c : Nat} (h : TT w X k v c) : TT w Y k v c := by
  induction h with
  | nil k a cp => exact .nil k a cp
  | subs g n cp D b hb vv cc h1 h2 h3 hr hD hc ht ih => exact .subs g n cp D b hb vv cc (hXY _ h1) h2 h3 hr hD (fun i hi hbi => ⟨hXY _ (hc i hi hbi).1, (hc i hi hbi).2⟩) ih
  | comps g n cp S cc h1 h2 h3 hr ht ih => exact .comps g n cp S cc (hXY _ h1) h2 h3 hr ih
  | cmpl g n cp S cc h1 h2 h3 hr ht ih => exact .cmpl g n cp S cc (hXY _ h1) h2 h3 hr ih
end Go.Proofs.Ytgdodkfbobhfoaa.Tr
