/-
  The plain law: what shiftDot writes for a percentage over 100 is what the model writes.
-/
import Derived.WalkKit
namespace Go.Proofs.YtfhkkpfkkhpohaaFmt.Sd
set_option linter.unusedVariables false
/-- drop leading zeros while the dot stands right of the start -/
def lead : List UInt8 → Int → List UInt8 × Int
  | [], d => ([], d)
  | b :: r, d => if 0 < d ∧ b = 48 then lead r (d - 1) else (b :: r, d)
/-- the length that is left when trailing zeros behind d are dropped -/
def tl (l : List UInt8) (d : Int) : Nat → Nat
  | 0 => 0
  | k + 1 => if d < ((k + 1 : Nat) : Int) ∧ l[k]? = some 48 then tl l d k else k + 1
def zeros (n : Nat) : List UInt8 := List.replicate n 48
/-- what shiftDot writes behind the sign: the digits A, the dot behind place d -/
def shf (A : List UInt8) (d : Int) : List UInt8 :=
  let l := (lead A d).1
  let e := (lead A d).2
  let t := l.take (tl l e l.length)
  if (t.length : Int) ≤ e then t ++ zeros (e - t.length).toNat
  else if e < 0 then 46 :: (zeros (-e).toNat ++ t)
  else t.take e.toNat ++ 46 :: t.drop e.toNat
def dz : List UInt8 → List UInt8
  | [] => []
  | b :: r => if b = 48 then dz r else b :: r
/-- what zzPercentOver100 writes behind the sign -/
def po (I F : List UInt8) : List UInt8 :=
  let q : Int := (I.length : Int) - 2
  let ip0 := if 0 < q then (I ++ F).take q.toNat else []
  let fp0 := if 0 < q then (I ++ F).drop q.toNat else if q < 0 then zeros (-q).toNat ++ (I ++ F) else I ++ F
  let ip := dz ip0
  let fp := fp0.take (tl fp0 (-1) fp0.length)
  if ip = [] ∧ fp = [] then (if q < 0 then 46 :: zeros (-q).toNat else [])
  else if fp = [] then ip else ip ++ 46 :: fp
theorem lead_app (fp : List UInt8) : ∀ ip : List UInt8, lead (ip ++ fp) ip.length = (dz ip ++ fp, ((dz ip).length : Int))
  | [] => by
    cases fp with
    | nil => rfl
    | cons b r => simp [lead, dz]
  | b :: r => by
    have ih := lead_app fp r
    by_cases hb : b = 48
    · subst hb
      simp only [List.cons_append, lead, List.length_cons, dz, if_true, and_true]
      rw [if_pos (by omega)]
      rw [show (((r.length + 1 : Nat) : Int) - 1) = (r.length : Int) by omega]
      exact ih
    · simp [lead, dz, hb]
theorem lead_neg (A : List UInt8) (d : Int) (h : d ≤ 0) : lead A d = (A, d) := by
  cases A with
  | nil => rfl
  | cons b r => simp only [lead]; rw [if_neg (by omega)]
theorem tl_app (ip fp : List UInt8) : ∀ k, tl (ip ++ fp) ip.length (ip.length + k) = ip.length + tl fp (-1) k
  | 0 => by
    cases hl : ip.length with
    | zero => rfl
    | succ m => simp [tl]
  | k + 1 => by
    have ih := tl_app ip fp k
    rw [← Nat.add_assoc, tl, tl]
    have e : (ip ++ fp)[ip.length + k]? = fp[k]? := by rw [List.getElem?_append_right (by omega)]; congr 1; omega
    rw [e]
    by_cases h : fp[k]? = some 48
    · rw [if_pos ⟨by omega, h⟩, if_pos ⟨by omega, h⟩]; exact ih
    · rw [if_neg (fun c => h c.2), if_neg (fun c => h c.2)]; omega
theorem tl_neg (l : List UInt8) (d : Int) (h : d ≤ 0) : ∀ k, tl l d k = tl l (-1) k
  | 0 => rfl
  | k + 1 => by
    rw [tl, tl, tl_neg l d h k]
    by_cases h2 : l[k]? = some 48
    · rw [if_pos ⟨by omega, h2⟩, if_pos ⟨by omega, h2⟩]
    · rw [if_neg (fun c => h2 c.2), if_neg (fun c => h2 c.2)]
theorem tl_le (l : List UInt8) (d : Int) : ∀ k, tl l d k ≤ k
  | 0 => Nat.le_refl _
  | k + 1 => by rw [tl]; have := tl_le l d k; split <;> omega
theorem tl_zeros (A : List UInt8) (z : Nat) : ∀ k, tl (zeros z ++ A) (-1) (z + k) = if tl A (-1) k = 0 then 0 else z + tl A (-1) k
  | 0 => by
    have : ∀ m, m ≤ z → tl (zeros z ++ A) (-1) m = 0 := by
      intro m
      induction m with
      | zero => intro _; rfl
      | succ m ih =>
        intro hm
        have hm2 : m < z := by omega
        have hlen : m < (zeros z).length := by rw [zeros, List.length_replicate]; exact hm2
        have hz1 : (zeros z ++ A)[m]? = some 48 := by
          rw [List.getElem?_append_left hlen, zeros, List.getElem?_replicate, if_pos hm2]
        rw [tl, if_pos ⟨by omega, hz1⟩]
        exact ih (by omega)
    simp [tl, this z (Nat.le_refl _)]
  | k + 1 => by
    have ih := tl_zeros A z k
    have e : (zeros z ++ A)[z + k]? = A[k]? := by rw [List.getElem?_append_right (by simp [zeros])]; congr 1; simp [zeros]
    have e1 : tl (zeros z ++ A) (-1) (z + (k + 1)) = if (-1 : Int) < ((z + k + 1 : Nat) : Int) ∧ (zeros z ++ A)[z + k]? = some 48 then tl (zeros z ++ A) (-1) (z + k) else z + k + 1 := rfl
    have e2 : tl A (-1) (k + 1) = if (-1 : Int) < ((k + 1 : Nat) : Int) ∧ A[k]? = some 48 then tl A (-1) k else k + 1 := rfl
    rw [e] at e1
    by_cases h : A[k]? = some 48
    · rw [if_pos ⟨by omega, h⟩] at e1 e2
      rw [e1, e2]; exact ih
    · rw [if_neg (fun c => h c.2)] at e1 e2
      rw [e1, e2, if_neg (by omega)]; omega
theorem shf_po (I F : List UInt8) : shf (I ++ F) ((I.length : Int) - 2) = po I F := by
  rcases Int.lt_trichotomy ((I.length : Int) - 2) 0 with hq | hq | hq
  · -- the dot left of every digit
    have hl := lead_neg (I ++ F) ((I.length : Int) - 2) (by omega)
    obtain ⟨z, hz⟩ : ∃ z : Nat, -((I.length : Int) - 2) = z := ⟨(-((I.length : Int) - 2)).toNat, by omega⟩
    have hzp : 0 < z := by omega
    have h2 := tl_neg (I ++ F) ((I.length : Int) - 2) (by omega) (I ++ F).length
    have hzl : (zeros z).length = z := by simp [zeros]
    have ht := tl_zeros (I ++ F) z (I ++ F).length
    have hnq : ¬ (0 : Int) < (I.length : Int) - 2 := by omega
    have hle : ¬ (((I ++ F).take (tl (I ++ F) (-1) (I ++ F).length)).length : Int) ≤ (I.length : Int) - 2 := by omega
    have hll : (zeros z ++ (I ++ F)).length = z + (I ++ F).length := by rw [List.length_append, hzl]
    unfold shf po
    simp only [hl, h2, hz, Int.toNat_natCast, if_neg hnq, if_pos hq, if_neg hle, hll, ht]
    generalize tl (I ++ F) (-1) (I ++ F).length = T
    generalize I ++ F = A
    by_cases h0 : T = 0
    · subst h0
      simp [dz]
    · have e1 : (zeros z ++ A).take (z + T) = zeros z ++ A.take T := by
        rw [List.take_append, hzl, List.take_of_length_le (by omega)]
        congr 2
        omega
      have hne : zeros z ++ A.take T ≠ [] := by
        intro e
        have := congrArg List.length e
        simp [hzl] at this
        omega
      rw [if_neg h0, e1, if_neg (fun c => hne c.2), if_neg hne]
      simp [dz]
  · have hl := lead_neg (I ++ F) 0 (by omega)
    unfold shf po
    simp only [hq, hl, Int.lt_irrefl, if_false, Int.toNat_zero, List.take_zero, List.nil_append, List.drop_zero]
    rw [tl_neg (I ++ F) 0 (by omega)]
    generalize (I ++ F).take (tl (I ++ F) (-1) (I ++ F).length) = t
    cases t with
    | nil => simp [dz, zeros]
    | cons b r => simp [dz]; omega
  · obtain ⟨q, hqn⟩ : ∃ q : Nat, (I.length : Int) - 2 = q := ⟨((I.length : Int) - 2).toNat, by omega⟩
    rw [hqn] at hq ⊢
    have hqp : 0 < q := by omega
    obtain ⟨ip, fp, hA, hip⟩ : ∃ ip fp, I ++ F = ip ++ fp ∧ ip.length = q := ⟨(I ++ F).take q, (I ++ F).drop q, (List.take_append_drop q _).symm, by rw [List.length_take, List.length_append]; omega⟩
    have hl : lead (ip ++ fp) (q : Int) = (dz ip ++ fp, ((dz ip).length : Int)) := by rw [← hip]; exact lead_app fp ip
    have ht : tl (dz ip ++ fp) ((dz ip).length : Int) (dz ip ++ fp).length = (dz ip).length + tl fp (-1) fp.length := by
      rw [List.length_append]; exact tl_app (dz ip) fp fp.length
    have e1 : (ip ++ fp).take q = ip := by rw [← hip]; simp
    have e2 : (ip ++ fp).drop q = fp := by rw [← hip]; simp
    unfold shf po
    simp only [hA, hl, hqn, ht, Int.toNat_natCast, e1, e2, if_pos hq]
    have e3 : (dz ip ++ fp).take ((dz ip).length + tl fp (-1) fp.length) = dz ip ++ fp.take (tl fp (-1) fp.length) := by
      rw [List.take_append, List.take_of_length_le (by omega)]
      congr 2
      omega
    rw [e3]
    generalize fp.take (tl fp (-1) fp.length) = t
    generalize dz ip = p
    cases t with
    | nil =>
      simp [zeros]
      cases p with
      | nil => simp
      | cons b r => simp
    | cons b r =>
      rw [if_neg (by simp; omega), if_neg (by omega)]
      simp
end Go.Proofs.YtfhkkpfkkhpohaaFmt.Sd
