/-
  Rows of selectors under construction.
-/
import Derived.Test.YtgdodkfbobhfoaaTc
namespace Go.Proofs.Ytgdodkfbobhfoaa.Tr
open Go.ChangeShapes Go.WideShapes Go.ChangeAt Go.RowKit Rg
set_option linter.unusedVariables false
/-- the number of opening bytes ahead of k -/
def cntF (Z : Nat → Int) : Nat → Nat
  | 0 => 0
  | k + 1 => cntF Z k + if Z k % 5 ≤ 1 then 1 else 0
theorem cntF_le (Z : Nat → Int) : ∀ k, cntF Z k ≤ k
  | 0 => Nat.le_refl _
  | k + 1 => by have := cntF_le Z k; rw [cntF]; split <;> omega
theorem own_of {w w' : World} {B : Nat} {e : TypeId} {s n : Nat} {v : Value} {xs : List Value} (h : w.ownsRow B e s v n xs) (hv : ∀ g, v.ownBlock = some g → w'.heap[g]? = w.heap[g]?) : w'.ownsRow B e s v n xs := by
  rcases h with ⟨h1, h2 | ⟨g, cap, cur, rfl, h3, h4, h5⟩⟩
  · exact ⟨h1, .inl h2⟩
  · exact ⟨h1, .inr ⟨g, cap, cur, rfl, h3, (hv g rfl).trans h4, h5⟩⟩
theorem own_ne {w : World} {B B' : Nat} {e e' : TypeId} {s s' n n' : Nat} {v v' : Value} {xs xs' : List Value} (h : w.ownsRow B e s v n xs) (h' : w.ownsRow B' e' s' v' n' xs') (hne : e ≠ e') {g : Nat} (hg : v.ownBlock = some g) : v'.ownBlock ≠ some g := by
  rcases h.2 with ⟨rfl, _⟩ | ⟨g1, cap, cur, rfl, _, h4, _⟩
  · simp [Value.ownBlock] at hg
  · rcases h'.2 with ⟨rfl, _⟩ | ⟨g2, cap2, cur2, rfl, _, h4', _⟩
    · simp [Value.ownBlock]
    · simp [Value.ownBlock] at hg ⊢
      rintro rfl
      subst hg
      rw [h4] at h4'
      simp at h4'
      exact hne h4'.2
theorem Row.of_own {w : World} {B g c s n : Nat} {e : TypeId} {f : Nat → List Value} (h : w.ownsRow B e s (.slice (some ⟨g, 0, none⟩) n c) n (rowg f n)) (hs : ∀ i, (f i).length = s) : Row w g s n f := fun i hi j u hu => own_cell h hs hi hu
theorem own_cap {w : World} {B g c n s : Nat} {e : TypeId} {xs : List Value} (h : w.ownsRow B e s (.slice (some ⟨g, 0, none⟩) n c) n xs) : n ≤ c := by
  rcases h.2 with ⟨h, _⟩ | ⟨g', cap, cur, h, _, _, h3, _⟩
  · simp at h
  · simp only [Value.slice.injEq] at h
    obtain ⟨_, _, rfl⟩ := h
    exact h3
def P0 (w : World) (X : Nat → Prop) (B : Nat) (v : Value) (n c : Nat) (xs : List Value) : Prop :=
  ∃ (D : Nat → Value) (b : Nat → Bool) (hb : Nat → Nat) (vv : Nat → Value) (cc : Nat → Nat), xs = rowg (fun i => subc (D i)) n ∧ w.ownsRow B 41 3 v n xs ∧ (∀ i, i < n → D i = if b i then nestD (hb i) else leafD (hb i)) ∧
    (∀ i, i < n → b i = true → X (hb i) ∧ w.cell? ⟨hb i, 0, none⟩ = some (vv i)) ∧ (∀ i, i < n → b i = true → TT w X 2 (vv i) (cc i)) ∧ c = sumN (fun i => 1 + if b i then cc i else 0) n ∧ ∀ g, v.ownBlock = some g → ¬ X g
def P1 (w : World) (X : Nat → Prop) (B : Nat) (v : Value) (n c : Nat) (xs : List Value) : Prop :=
  ∃ (S : Nat → Value) (cc : Nat → Nat), xs = rowg (fun i => compc (S i)) n ∧ w.ownsRow B 49 6 v n xs ∧ (∀ i, i < n → TT w X 0 (S i) (cc i)) ∧ c = sumN cc n ∧ ∀ g, v.ownBlock = some g → ¬ X g
def P2 (w : World) (X : Nat → Prop) (B : Nat) (v : Value) (n c : Nat) (xs : List Value) : Prop :=
  ∃ (S : Nat → Value) (cc : Nat → Nat), xs = rowg (fun i => [S i]) n ∧ w.ownsRow B 51 1 v n xs ∧ (∀ i, i < n → TT w X 1 (S i) (cc i)) ∧ c = sumN cc n ∧ ∀ g, v.ownBlock = some g → ¬ X g
section
variable {w w' : World} {X Y : Nat → Prop} {B n c : Nat} {v : Value} {xs : List Value}
theorem P0.nil (w : World) (X : Nat → Prop) (B : Nat) : P0 w X B (.slice none 0 0) 0 0 [] := ⟨fun _ => .nilIface, fun _ => false, fun _ => 0, fun _ => .nilIface, fun _ => 0, rfl, World.ownsRow_nil _ _ _ _, fun i hi => absurd hi (by omega), fun i hi => absurd hi (by omega), fun i hi => absurd hi (by omega), rfl, fun g hg => by simp [Value.ownBlock] at hg⟩
theorem P1.nil (w : World) (X : Nat → Prop) (B : Nat) : P1 w X B (.slice none 0 0) 0 0 [] := ⟨fun _ => .nilIface, fun _ => 0, rfl, World.ownsRow_nil _ _ _ _, fun i hi => absurd hi (by omega), rfl, fun g hg => by simp [Value.ownBlock] at hg⟩
theorem P0.keep (h : P0 w X B v n c xs) (hX : ∀ g, X g → w'.heap[g]? = w.heap[g]?) (hv : ∀ g, v.ownBlock = some g → w'.heap[g]? = w.heap[g]?) : P0 w' X B v n c xs := by
  obtain ⟨D, b, hb, vv, cc, h0', h1, h2, h3, h4, h5, h6⟩ := h
  exact ⟨D, b, hb, vv, cc, h0', own_of h1 hv, h2, fun i hi hbi => ⟨(h3 i hi hbi).1, by rw [World.cell?_of_block (a := ⟨hb i, 0, none⟩) (hX _ (h3 i hi hbi).1)]; exact (h3 i hi hbi).2⟩, fun i hi hbi => (h4 i hi hbi).keep hX, h5, h6⟩
theorem P1.keep (h : P1 w X B v n c xs) (hX : ∀ g, X g → w'.heap[g]? = w.heap[g]?) (hv : ∀ g, v.ownBlock = some g → w'.heap[g]? = w.heap[g]?) : P1 w' X B v n c xs := by
  obtain ⟨S, cc, h0', h1, h2, h3, h4⟩ := h
  exact ⟨S, cc, h0', own_of h1 hv, fun i hi => (h2 i hi).keep hX, h3, h4⟩
theorem P2.keep (h : P2 w X B v n c xs) (hX : ∀ g, X g → w'.heap[g]? = w.heap[g]?) (hv : ∀ g, v.ownBlock = some g → w'.heap[g]? = w.heap[g]?) : P2 w' X B v n c xs := by
  obtain ⟨S, cc, h0', h1, h2, h3, h4⟩ := h
  exact ⟨S, cc, h0', own_of h1 hv, fun i hi => (h2 i hi).keep hX, h3, h4⟩
theorem P0.more (h : P0 w X B v n c xs) (hXY : ∀ g, X g → Y g) (hn : ∀ g, v.ownBlock = some g → ¬ Y g) : P0 w Y B v n c xs := by
  obtain ⟨D, b, hb, vv, cc, h0', h1, h2, h3, h4, h5, h6⟩ := h
  exact ⟨D, b, hb, vv, cc, h0', h1, h2, fun i hi hbi => ⟨hXY _ (h3 i hi hbi).1, (h3 i hi hbi).2⟩, fun i hi hbi => (h4 i hi hbi).more hXY, h5, hn⟩
theorem P1.more (h : P1 w X B v n c xs) (hXY : ∀ g, X g → Y g) (hn : ∀ g, v.ownBlock = some g → ¬ Y g) : P1 w Y B v n c xs := by
  obtain ⟨S, cc, h0', h1, h2, h3, h4⟩ := h
  exact ⟨S, cc, h0', h1, fun i hi => (h2 i hi).more hXY, h3, hn⟩
theorem P2.more (h : P2 w X B v n c xs) (hXY : ∀ g, X g → Y g) (hn : ∀ g, v.ownBlock = some g → ¬ Y g) : P2 w Y B v n c xs := by
  obtain ⟨S, cc, h0', h1, h2, h3, h4⟩ := h
  exact ⟨S, cc, h0', h1, fun i hi => (h2 i hi).more hXY, h3, hn⟩
/-- X and one block more -/
def Ad (X : Nat → Prop) (v : Value) : Nat → Prop := fun g => X g ∨ v.ownBlock = some g
theorem P0.tree (h : P0 w X B v n c xs) (hn : (n : Int) ≤ 1000000) : TT w (Ad X v) 0 v c := by
  obtain ⟨D, b, hb, vv, cc, h0', h1, h2, h3, h4, rfl, h6⟩ := h
  subst h0'
  rcases h1.2 with ⟨rfl, rfl⟩ | ⟨g, cap, cur, rfl, _⟩
  · exact .nil 0 none 0
  · exact .subs g n cap D b hb vv cc (.inr rfl) hn (own_cap h1) (Row.of_own h1 fun _ => rfl) h2 (fun i hi hbi => ⟨.inl (h3 i hi hbi).1, (h3 i hi hbi).2⟩) (fun i hi hbi => (h4 i hi hbi).more fun g hg => .inl hg)
theorem P1.tree (h : P1 w X B v n c xs) (hn : (n : Int) ≤ 1000000) : TT w (Ad X v) 1 v c := by
  obtain ⟨S, cc, h0', h1, h2, rfl, h4⟩ := h
  subst h0'
  rcases h1.2 with ⟨rfl, rfl⟩ | ⟨g, cap, cur, rfl, _⟩
  · exact .nil 1 none 0
  · exact .comps g n cap S cc (.inr rfl) hn (own_cap h1) (Row.of_own h1 fun _ => rfl) (fun i hi => (h2 i hi).more fun g hg => .inl hg)
theorem P2.tree (h : P2 w X B v n c xs) (hn : (n : Int) ≤ 1000000) : TT w (Ad X v) 2 v c := by
  obtain ⟨S, cc, h0', h1, h2, rfl, h4⟩ := h
  subst h0'
  rcases h1.2 with ⟨rfl, rfl⟩ | ⟨g, cap, cur, rfl, _⟩
  · exact .nil 2 none 0
  · exact .cmpl g n cap S cc (.inr rfl) hn (own_cap h1) (Row.of_own h1 fun _ => rfl) (fun i hi => (h2 i hi).more fun g hg => .inl hg)
theorem not_new {v2 : Value} (hn : ∀ g, v.ownBlock = some g → ¬ X g) (hX : ∀ g, X g → g < w.heap.size) (hat : v2.ownBlock = v.ownBlock ∨ ∃ q, v2.ownBlock = some q ∧ w.heap.size ≤ q) : ∀ g, v2.ownBlock = some g → ¬ X g := by
  intro g hg hx
  rcases hat with h | ⟨q, h, hq⟩
  · exact hn g (h ▸ hg) hx
  · have := hX g hx
    rw [hg] at h
    injection h with h
    omega
theorem P0.push {w2 : World} {v2 D0 v0 : Value} {b0 : Bool} {h0 c0 : Nat} (h : P0 w X B v n c xs) (hX : ∀ g, X g → g < w.heap.size) (hg : w.grownBy w2 v.ownBlock)
    (ho : w2.ownsRow B 41 3 v2 (n + 1) (xs ++ subc D0))
    (hat : v2.ownBlock = v.ownBlock ∨ ∃ q, v2.ownBlock = some q ∧ w.heap.size ≤ q) (hD : D0 = if b0 then nestD h0 else leafD h0) (hc : b0 = true → X h0 ∧ w2.cell? ⟨h0, 0, none⟩ = some v0) (ht : b0 = true → TT w X 2 v0 c0) :
    P0 w2 X B v2 (n + 1) (c + 1 + if b0 then c0 else 0) (xs ++ subc D0) := by
  obtain ⟨D, b, hb, vv, cc, h0', h1, h2, h3, h4, rfl, h6⟩ := h
  have hX2 : ∀ g, X g → w2.heap[g]? = w.heap[g]? := fun g hx => hg.block g (hX g hx) (fun e => h6 g e.symm hx)
  refine ⟨fun i => if i = n then D0 else D i, fun i => if i = n then b0 else b i, fun i => if i = n then h0 else hb i, fun i => if i = n then v0 else vv i, fun i => if i = n then c0 else cc i, ?_, ho, fun i hi => ?_, fun i hi hbi => ?_, fun i hi hbi => ?_, ?_, not_new h6 hX hat⟩
  · rw [rowg_succ, rowg_congr (f' := fun i => subc (D i)) n (fun j hj => by simp [show j ≠ n by omega])]
    simp [h0']
  · by_cases e : i = n
    · simp [e, hD]
    · simp [e, h2 i (by omega)]
  · by_cases e : i = n
    · simp [e] at hbi ⊢
      exact hc hbi
    · simp [e] at hbi ⊢
      have := h3 i (by omega) hbi
      exact ⟨this.1, by rw [World.cell?_of_block (a := ⟨hb i, 0, none⟩) (hX2 _ this.1)]; exact this.2⟩
  · by_cases e : i = n
    · simp [e] at hbi ⊢
      exact (ht hbi).keep hX2
    · simp [e] at hbi ⊢
      exact (h4 i (by omega) hbi).keep hX2
  · have e : sumN (fun i => 1 + if (if i = n then b0 else b i) then (if i = n then c0 else cc i) else 0) n = sumN (fun i => 1 + if b i then cc i else 0) n := sumN_congr n (fun i hi => by simp [show i ≠ n by omega])
    rw [sumN, e]
    simp
    omega
theorem P1.push {w2 : World} {v2 S0 : Value} {c0 : Nat} (h : P1 w X B v n c xs) (hX : ∀ g, X g → g < w.heap.size) (hg : w.grownBy w2 v.ownBlock)
    (ho : w2.ownsRow B 49 6 v2 (n + 1) (xs ++ compc S0))
    (hat : v2.ownBlock = v.ownBlock ∨ ∃ q, v2.ownBlock = some q ∧ w.heap.size ≤ q) (ht : TT w X 0 S0 c0) :
    P1 w2 X B v2 (n + 1) (c + c0) (xs ++ compc S0) := by
  obtain ⟨S, cc, h0', h1, h2, rfl, h6⟩ := h
  have hX2 : ∀ g, X g → w2.heap[g]? = w.heap[g]? := fun g hx => hg.block g (hX g hx) (fun e => h6 g e.symm hx)
  refine ⟨fun i => if i = n then S0 else S i, fun i => if i = n then c0 else cc i, ?_, ho, fun i hi => ?_, ?_, not_new h6 hX hat⟩
  · rw [rowg_succ, rowg_congr (f' := fun i => compc (S i)) n (fun j hj => by simp [show j ≠ n by omega])]
    simp [h0']
  · by_cases e : i = n
    · simp [e]; exact ht.keep hX2
    · simp [e]; exact (h2 i (by omega)).keep hX2
  · have e : sumN (fun i => if i = n then c0 else cc i) n = sumN cc n := sumN_congr n (fun i hi => by simp [show i ≠ n by omega])
    rw [sumN, e]
    simp
theorem P2.push {w2 : World} {v2 S0 : Value} {c0 : Nat} (h : P2 w X B v n c xs) (hX : ∀ g, X g → g < w.heap.size) (hg : w.grownBy w2 v.ownBlock)
    (ho : w2.ownsRow B 51 1 v2 (n + 1) (xs ++ [S0]))
    (hat : v2.ownBlock = v.ownBlock ∨ ∃ q, v2.ownBlock = some q ∧ w.heap.size ≤ q) (ht : TT w X 1 S0 c0) :
    P2 w2 X B v2 (n + 1) (c + c0) (xs ++ [S0]) := by
  obtain ⟨S, cc, h0', h1, h2, rfl, h6⟩ := h
  have hX2 : ∀ g, X g → w2.heap[g]? = w.heap[g]? := fun g hx => hg.block g (hX g hx) (fun e => h6 g e.symm hx)
  refine ⟨fun i => if i = n then S0 else S i, fun i => if i = n then c0 else cc i, ?_, ho, fun i hi => ?_, ?_, not_new h6 hX hat⟩
  · rw [rowg_succ, rowg_congr (f' := fun i => [S i]) n (fun j hj => by simp [show j ≠ n by omega])]
    simp [h0']
  · by_cases e : i = n
    · simp [e]; exact ht.keep hX2
    · simp [e]; exact (h2 i (by omega)).keep hX2
  · have e : sumN (fun i => if i = n then c0 else cc i) n = sumN cc n := sumN_congr n (fun i hi => by simp [show i ≠ n by omega])
    rw [sumN, e]
    simp
end
end Go.Proofs.Ytgdodkfbobhfoaa.Tr
