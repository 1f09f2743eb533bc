/-
  Plain facts on IEEE double words, continued: an operation's answer as an option, NaN for none; squares of differences; square roots.
-/
import Derived.Test.YtafeeebgleecfaaFLB
namespace FL
open Ieee
set_option linter.unusedVariables false

/-- 'r' is the answer 'o', some NaN where there is none -/
def FV : Option Nat → Nat → Prop
  | some s, r => r = s
  | none, r => NaN r

/-! ### the word of a number, and its sign -/
def rungOf (mag : Nat) (place : Int) : Nat :=
  if mag = 0 then 0 else
  let last := max (place + mag.log2 - 52) (-1074)
  min ((last - -1074).toNat * 2 ^ 52 + Toward.even.cut false (mag <<< (place - last).toNat) (last - place).toNat) (2047 * 2 ^ 52)
theorem nearest_word (neg : Bool) (mag : Nat) (place : Int) : double.nearest neg mag place = double.word neg (rungOf mag place) := by
  unfold Format.nearest rungOf
  split
  · rfl
  · simp only [d_lp, d_bin, d_inf]
    rfl
theorem rungOf_le (mag : Nat) (place : Int) : rungOf mag place ≤ 2047 * 2 ^ 52 := by
  unfold rungOf
  split
  · exact Nat.zero_le _
  · exact Nat.min_le_right _ _
theorem nearest_mod (neg : Bool) (mag : Nat) (place : Int) : double.nearest neg mag place < 2 ^ 64 ∧ double.nearest neg mag place % 2 ^ 63 = rungOf mag place := by
  have h := rungOf_le mag place
  rw [nearest_word]
  obtain ⟨h1, h2, _⟩ := word_lt neg (rungOf mag place) (by omega)
  exact ⟨h1, h2⟩
theorem inf_mod (neg : Bool) : double.word neg (2047 * 2 ^ 52) < 2 ^ 64 ∧ double.word neg (2047 * 2 ^ 52) % 2 ^ 63 = 2047 * 2 ^ 52 := by
  obtain ⟨h1, h2, _⟩ := word_lt neg (2047 * 2 ^ 52) (by decide)
  exact ⟨h1, h2⟩

/-- a datum that is no NaN is written as a word that is no NaN -/
theorem write_ok (d : Datum) (h : ∀ s t, d ≠ .nan s t) : double.write d < 2 ^ 64 ∧ double.write d % 2 ^ 63 ≤ 2047 * 2 ^ 52 := by
  cases d with
  | number s m i =>
    obtain ⟨h1, h2⟩ := nearest_mod s m i
    exact ⟨h1, by show double.nearest s m i % 2 ^ 63 ≤ _; rw [h2]; exact rungOf_le m i⟩
  | infinity s =>
    obtain ⟨h1, h2⟩ := inf_mod s
    exact ⟨h1, by show double.word s (2047 * 2 ^ 52) % 2 ^ 63 ≤ _; rw [h2]; exact Nat.le_refl _⟩
  | nan s t => exact absurd rfl (h s t)
theorem sum_noNaN (a b : Datum) (d : Datum) (h : a.sum b = some d) : ∀ s t, d ≠ .nan s t := by
  intro s t hd
  subst hd
  cases a <;> cases b <;> simp [Datum.sum] at h
theorem product_noNaN (a b : Datum) (d : Datum) (h : a.product b = some d) : ∀ s t, d ≠ .nan s t := by
  intro s t hd
  subst hd
  cases a <;> cases b <;> simp [Datum.product] at h
theorem root_noNaN (n : Nat) (a : Datum) (d : Datum) (h : a.root n = some d) : (∀ s t, d ≠ .nan s t) := by
  intro s t hd
  subst hd
  cases a with
  | number s m i =>
    simp only [Datum.root] at h
    split at h
    · simp at h
    · split at h <;> simp at h
  | infinity s => cases s <;> simp [Datum.root] at h
  | nan s t => simp [Datum.root] at h
/-- what an operation answers is a word that is no NaN -/
def Good (r : Nat) : Prop := Finite r ∨ Inf r
theorem good_of (r : Nat) (h : r < 2 ^ 64 ∧ r % 2 ^ 63 ≤ 2047 * 2 ^ 52) : Good r := by
  rcases Nat.lt_or_ge (r % 2 ^ 63) (2047 * 2 ^ 52) with h1 | h1
  · exact .inl ⟨h.1, h1⟩
  · exact .inr ⟨h.1, by omega⟩
theorem add_good {x y r : Nat} (h : double.add x y = some r) : Good r := by
  unfold Format.add at h
  obtain ⟨d, hd, rfl⟩ := Option.map_eq_some_iff.1 h
  exact good_of _ (write_ok d (sum_noNaN _ _ d hd))
theorem sub_good {x y r : Nat} (h : double.sub x y = some r) : Good r := by
  unfold Format.sub at h
  obtain ⟨d, hd, rfl⟩ := Option.map_eq_some_iff.1 h
  exact good_of _ (write_ok d (sum_noNaN _ _ d hd))
theorem mul_good {x y r : Nat} (h : double.mul x y = some r) : Good r := by
  unfold Format.mul at h
  obtain ⟨d, hd, rfl⟩ := Option.map_eq_some_iff.1 h
  exact good_of _ (write_ok d (product_noNaN _ _ d hd))
theorem sqrt_good {x r : Nat} (h : double.sqrt x = some r) : Good r := by
  unfold Format.sqrt at h
  obtain ⟨d, hd, rfl⟩ := Option.map_eq_some_iff.1 h
  exact good_of _ (write_ok d (root_noNaN _ _ d hd))
theorem good_self {r : Nat} (h : Good r) : double.order r r = some .eq := order_self h

/-! ### NaN in, none out -/
theorem add_nan_l {x : Nat} (h : NaN x) (y : Nat) : double.add x y = none := by
  unfold Format.add; rw [read_nan x h.2]; rfl
theorem add_nan_r {y : Nat} (h : NaN y) (x : Nat) : double.add x y = none := by
  unfold Format.add; rw [read_nan y h.2]; cases double.read x <;> rfl
theorem sub_nan_l {x : Nat} (h : NaN x) (y : Nat) : double.sub x y = none := by
  unfold Format.sub; rw [read_nan x h.2]; rfl
theorem sub_nan_r {y : Nat} (h : NaN y) (x : Nat) : double.sub x y = none := by
  unfold Format.sub; rw [read_nan y h.2]; cases double.read x <;> rfl
theorem mul_nan_l {x : Nat} (h : NaN x) (y : Nat) : double.mul x y = none := by
  unfold Format.mul; rw [read_nan x h.2]; rfl
theorem sqrt_nan {x : Nat} (h : NaN x) : double.sqrt x = none := by
  unfold Format.sqrt; rw [read_nan x h.2]; rfl
theorem FV.sq {o : Option Nat} {x r : Nat} (hx : FV o x) (hr : FV (double.mul x x) r) : FV (o.bind fun a => double.mul a a) r := by
  cases o with
  | some s => cases hx; exact hr
  | none => rw [mul_nan_l hx] at hr; exact hr
theorem FV.add {o p : Option Nat} {x y r : Nat} (hx : FV o x) (hy : FV p y) (hr : FV (double.add x y) r) : FV (o.bind fun a => p.bind fun b => double.add a b) r := by
  cases o with
  | some s =>
    cases hx
    cases p with
    | some t => cases hy; exact hr
    | none => rw [add_nan_r hy] at hr; exact hr
  | none => rw [add_nan_l hx] at hr; exact hr
theorem FV.sqrt {o : Option Nat} {x r : Nat} (hx : FV o x) (hr : FV (double.sqrt x) r) : FV (o.bind fun a => double.sqrt a) r := by
  cases o with
  | some s => cases hx; exact hr
  | none => rw [sqrt_nan hx] at hr; exact hr

/-! ### the square of a difference does not hang on the order -/
theorem sq_mod {r r' : Nat} (h : r % 2 ^ 63 = r' % 2 ^ 63) : double.mul r r = double.mul r' r' := by
  unfold Format.mul
  by_cases c1 : r % 2 ^ 63 < 2 ^ 52
  · rw [read_lo r c1, read_lo r' (by rw [← h]; exact c1), h]
    simp [Datum.product]
  · by_cases c2 : r % 2 ^ 63 < 2047 * 2 ^ 52
    · rw [read_hi r c1 c2, read_hi r' (by rw [← h]; exact c1) (by rw [← h]; exact c2), h]
      simp [Datum.product]
    · by_cases c3 : r % 2 ^ 63 = 2047 * 2 ^ 52
      · rw [read_inf r c3, read_inf r' (by rw [← h]; exact c3)]
        simp [Datum.product]
      · rw [read_nan r (by omega), read_nan r' (by omega)]
        simp [Datum.product]
theorem signed_neg (s : Bool) (m a : Nat) : signed (!s) m a = - signed s m a := by
  cases s <;> simp [signed]
theorem sub_swap (x y : Nat) : (double.sub x y = none ∧ double.sub y x = none) ∨ ∃ d d', double.sub x y = some d ∧ double.sub y x = some d' ∧ d % 2 ^ 63 = d' % 2 ^ 63 := by
  unfold Format.sub
  cases hx : double.read x with
  | nan s t => left; cases double.read y <;> simp [Datum.opposite, Datum.sum]
  | infinity s =>
    cases hy : double.read y with
    | nan s t => left; simp [Datum.opposite, Datum.sum]
    | infinity t =>
      by_cases hst : s = !t
      · right
        subst hst
        refine ⟨_, _, by simp [Datum.opposite, Datum.sum]; rfl, by simp [Datum.opposite, Datum.sum]; rfl, ?_⟩
        show double.word _ (2047 * 2 ^ 52) % 2 ^ 63 = double.word _ (2047 * 2 ^ 52) % 2 ^ 63
        rw [(inf_mod _).2, (inf_mod _).2]
      · left
        have : ¬ t = !s := by cases s <;> cases t <;> simp_all
        simp [Datum.opposite, Datum.sum, hst, this]
    | number t n j =>
      right
      refine ⟨_, _, by simp [Datum.opposite, Datum.sum]; rfl, by simp [Datum.opposite, Datum.sum]; rfl, ?_⟩
      show double.word _ (2047 * 2 ^ 52) % 2 ^ 63 = double.word _ (2047 * 2 ^ 52) % 2 ^ 63
      rw [(inf_mod _).2, (inf_mod _).2]
  | number s m i =>
    cases hy : double.read y with
    | nan s t => left; simp [Datum.opposite, Datum.sum]
    | infinity t =>
      right
      refine ⟨_, _, by simp [Datum.opposite, Datum.sum]; rfl, by simp [Datum.opposite, Datum.sum]; rfl, ?_⟩
      show double.word _ (2047 * 2 ^ 52) % 2 ^ 63 = double.word _ (2047 * 2 ^ 52) % 2 ^ 63
      rw [(inf_mod _).2, (inf_mod _).2]
    | number t n j =>
      right
      refine ⟨_, _, rfl, rfl, ?_⟩
      show double.nearest _ _ _ % 2 ^ 63 = double.nearest _ _ _ % 2 ^ 63
      rw [(nearest_mod _ _ _).2, (nearest_mod _ _ _).2]
      have hmin : min i j = min j i := by omega
      congr 1
      rw [signed_neg, signed_neg, hmin]
      generalize signed s m (i - min j i).toNat = A
      generalize signed t n (j - min j i).toNat = B
      omega
theorem sq_sub_swap (x y : Nat) : (double.sub x y).bind (fun d => double.mul d d) = (double.sub y x).bind (fun d => double.mul d d) := by
  rcases sub_swap x y with ⟨h1, h2⟩ | ⟨d, d', h1, h2, h3⟩
  · rw [h1, h2]
  · rw [h1, h2]
    exact sq_mod h3
theorem sub_self_zero {x : Nat} (h : Finite x) : double.sub x x = some 0 := by
  obtain ⟨s, m, i, hr, -, -, -⟩ := read_fin x h
  unfold Format.sub
  rw [hr]
  simp only [Datum.opposite, Datum.sum, Option.map]
  rw [signed_neg]
  have : signed s m (i - min i i).toNat + -signed s m (i - min i i).toNat = 0 := by omega
  rw [this]
  simp only [if_true, Format.write, Int.natAbs_zero]
  have : (s && !s) = false := by cases s <;> rfl
  rw [this]
  simp [Format.nearest, Format.word]

/-! ### a square root is not below zero -/
theorem nearest_nonneg (m : Nat) (i : Int) : ¬ double.order (double.nearest false m i) 0 = some .lt := by
  obtain ⟨h1, h2⟩ := nearest_mod false m i
  have hlt : double.nearest false m i < 2 ^ 63 := by
    have := rungOf_le m i
    rw [nearest_word]; unfold Format.word; simp; omega
  rcases good_of _ ⟨h1, by rw [h2]; exact rungOf_le m i⟩ with hf | hi
  · have := lt_ok _ 0 hf fin_zero
    intro h
    rw [h, val_zero] at this
    have hn := val_nonneg _ hlt
    simp at this
    grind
  · unfold Format.order
    rw [read_inf _ hi.2]
    have hs : (double.nearest false m i / 2 ^ 63 % 2 == 1) = false := by
      have : double.nearest false m i / 2 ^ 63 = 0 := by omega
      rw [this]; rfl
    rw [hs, read_lo 0 (by decide)]
    simp [Datum.order]
theorem sqrt_nonneg {x r : Nat} (h : double.sqrt x = some r) : ¬ double.order r 0 = some .lt := by
  unfold Format.sqrt at h
  obtain ⟨d, hd, rfl⟩ := Option.map_eq_some_iff.1 h
  cases hx : double.read x with
  | nan s t => rw [hx] at hd; simp [Datum.root] at hd
  | infinity s =>
    rw [hx] at hd
    cases s <;> simp [Datum.root] at hd
    subst hd
    show ¬ double.order (double.word false (2047 * 2 ^ 52)) 0 = some .lt
    decide +kernel
  | number s m i =>
    rw [hx] at hd
    simp only [Datum.root] at hd
    split at hd
    · rename_i hm
      simp at hd
      subst hd
      subst hm
      show ¬ double.order (double.nearest s 0 i) 0 = some .lt
      have : double.nearest s 0 i = double.word s 0 := by simp [Format.nearest]
      rw [this]
      cases s <;> decide +kernel
    · split at hd
      · simp at hd
      · simp at hd
        subst hd
        exact nearest_nonneg _ _
end FL
