/-
  What holds at the heads of the law's loops.
-/
import Derived.Test.YtbjcolglkegicaaPb
namespace Go.Proofs.Ytbjcolglkegicaa.Pd
open Go.ChangeShapes Go.WideShapes Go.ChangeAt Go.RowKit Rg
set_option linter.unusedVariables false
def ivf (m : Nat) (IV : Nat → Bool) (i : Nat) : Bool := decide (0 < i) && (decide (i < m) && IV i)
theorem ivf_zero (m : Nat) (IV : Nat → Bool) : ivf m IV 0 = false := rfl
theorem ivf_true {m : Nat} {IV : Nat → Bool} {i : Nat} (h0 : 0 < i) (h1 : i < m) (h2 : IV i = true) : ivf m IV i = true := by simp [ivf, *]
theorem ivf_no {m : Nat} {IV : Nat → Bool} {i : Nat} (h1 : i < m) (h2 : IV i = false) : ivf m IV i = false := by simp [ivf, *]
theorem ivf_out {m : Nat} {IV : Nat → Bool} {i : Nat} (h1 : ¬ i < m) : ivf m IV i = false := by simp [ivf, *]
/-- k terms are built -/
def LT (k : Nat) (v : Value) (iv : Nat → Bool) (T : Nat → ByteArray) (w0 w : World) : Prop :=
  ∃ G H : Nat → Nat, w.ownsRow w0.heap.size 49 2 v k (rowg (fun i => tc (iv i) (G i)) k) ∧ (∀ i, i < k → TV w (iv i) (G i) (H i) (T i)) ∧ Below w0.heap.size w0 w
theorem LT.next {k : Nat} {v : Value} {iv : Nat → Bool} {T : Nat → ByteArray} {w0 w w2 : World} {e : Ending} {b : Bool} {G H : Nat → Nat} (h1 : w.ownsRow w0.heap.size 49 2 v k (rowg (fun i => tc (iv i) (G i)) k)) (h2 : ∀ i, i < k → TV w (iv i) (G i) (H i) (T i)) (h3 : Below w0.heap.size w0 w)
    (hb : iv k = b) (hw : Wth w0.heap.size k v (rowg (fun i => tc (iv i) (G i)) k) b (T k) w e w2) : ∃ v', e = .returned v' ∧ LT (k + 1) v' iv T w0 w2 := by
  obtain ⟨v', g, h, rfl, ho, hg, ht⟩ := hw
  subst hb
  refine ⟨v', rfl, fun i => if i = k then g else G i, fun i => if i = k then h else H i, ?_, fun i hi => ?_, h3.grown hg h3.size (fun q hq => (h1.lt q hq).1)⟩
  · rw [rowg_succ]
    have e1 : rowg (fun i => tc (iv i) (if i = k then g else G i)) k = rowg (fun i => tc (iv i) (G i)) k := rowg_congr k fun j hj => by simp [show j ≠ k by omega]
    rw [e1]
    simpa using ho
  · by_cases hik : i = k
    · subst hik; simpa using ht
    · have := (h2 i (by omega)).grown h1 hg
      simpa [hik] using this
set_option maxHeartbeats 400000 in
theorem noterms_any (w : World) : Calls Try.prog 7 #[] w fun e w' => e = .returned (.slice none 0 0) ∧ w = w' := by
  go_enter Try.func7, Try.ntmps7
  go_wp2
  go_ret
  exact ⟨rfl, rfl⟩
theorem tkc_even (iv : Nat → Bool) (T : Nat → ByteArray) (ws : Int) (k : Nat) : tkc iv T ws (2 * k) = (vtok (T k)).toList := by
  unfold tkc
  rw [if_pos (by omega), show 2 * k / 2 = k by omega]
theorem tkc_odd (iv : Nat → Bool) (T : Nat → ByteArray) (ws : Int) (k : Nat) : tkc iv T ws (2 * k + 1) = opc (iv (k + 1)) ws := by
  unfold tkc
  rw [if_neg (by omega), show (2 * k + 1 + 1) / 2 = k + 1 by omega]
/-- the seven cells of a token -/
def T7 (w : World) (g o : Nat) (t : ByteArray) (k s : Int) : Prop :=
  w.cell? ⟨g, o, none⟩ = some (.pointer none) ∧ w.cell? ⟨g, o + 1, none⟩ = some (.string t) ∧ w.cell? ⟨g, o + 2, none⟩ = some (.int .i32 0) ∧ w.cell? ⟨g, o + 3, none⟩ = some (.int .u32 0) ∧ w.cell? ⟨g, o + 4, none⟩ = some (.int .u16 0) ∧ w.cell? ⟨g, o + 5, none⟩ = some (.int .u8 k) ∧ w.cell? ⟨g, o + 6, none⟩ = some (.int .u8 s)
theorem T7_even {w : World} {B N g c : Nat} {iv : Nat → Bool} {T : Nat → ByteArray} {ws : Int} (h : w.ownsRow B 38 7 (.slice (some ⟨g, 0, none⟩) N c) N (rowg (tkc iv T ws) N)) {k : Nat} (hk : 2 * k < N) : T7 w g (2 * k * 7) (T k) 29 0 := by
  have hc : ∀ j u, (vtok (T k)).toList[j]? = some u → w.cell? ⟨g, 2 * k * 7 + j, none⟩ = some u := fun j u hu => own_cell h (tkc_len iv T ws) hk (by rw [tkc_even]; exact hu)
  exact ⟨hc 0 _ rfl, hc 1 _ rfl, hc 2 _ rfl, hc 3 _ rfl, hc 4 _ rfl, hc 5 _ rfl, hc 6 _ rfl⟩
theorem T7_odd {w : World} {B N g c : Nat} {iv : Nat → Bool} {T : Nat → ByteArray} {ws : Int} (h : w.ownsRow B 38 7 (.slice (some ⟨g, 0, none⟩) N c) N (rowg (tkc iv T ws) N)) {k : Nat} (hk : 2 * k + 1 < N) : T7 w g ((2 * k + 1) * 7) (if iv (k + 1) then sB else mB) (if iv (k + 1) then 24 else 13) ws := by
  have hc : ∀ j u, (opc (iv (k + 1)) ws)[j]? = some u → w.cell? ⟨g, (2 * k + 1) * 7 + j, none⟩ = some u := fun j u hu => own_cell h (tkc_len iv T ws) hk (by rw [tkc_odd]; exact hu)
  generalize iv (k + 1) = b at *
  cases b
  · exact ⟨hc 0 _ rfl, hc 1 _ rfl, hc 2 _ rfl, hc 3 _ rfl, hc 4 _ rfl, hc 5 _ rfl, hc 6 _ rfl⟩
  · exact ⟨hc 0 _ rfl, hc 1 _ rfl, hc 2 _ rfl, hc 3 _ rfl, hc 4 _ rfl, hc 5 _ rfl, hc 6 _ rfl⟩
theorem own_cap {w : World} {B g c n s : Nat} {e : TypeId} {xs : List Value} (h : w.ownsRow B e s (.slice (some ⟨g, 0, none⟩) n c) n xs) : n ≤ c := by
  rcases h.2 with ⟨h, _⟩ | ⟨g', cap, cur, h, _, _, h3, _⟩
  · simp at h
  · simp only [Value.slice.injEq] at h
    obtain ⟨_, _, rfl⟩ := h
    exact h3
end Go.Proofs.Ytbjcolglkegicaa.Pd
