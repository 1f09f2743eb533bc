/-
  A region that draws its order, by an invariant: each operation is looked at once, whatever was done before it.
-/
import Derived.Orders
import Derived.Tactics
import Derived.Below
namespace Pl
open Go
set_option linter.unusedVariables false

def upd (b : Nat → Bool) (i : Nat) : Nat → Bool := fun j => if j = i then true else b j
def bOf (listed : Array Bool) : Nat → Bool := fun i => listed.getD i false
/-- for each operation those that must have come before it, through whatever edges bind -/
def clo (ops : Array Oper) : Nat → List (List Nat)
  | 0 => []
  | n + 1 => clo ops n ++ [(List.range n).filter fun j => ((ops[n]?).map fun o => o.after.any fun e => Region.binds .any e && (e.on == j || (((clo ops n)[e.on]?).getD []).contains j)).getD false]
theorem clo_length (ops : Array Oper) : ∀ n, (clo ops n).length = n
  | 0 => rfl
  | n + 1 => by unfold clo; simp [clo_length ops n]
/-- what is done is closed under the edges that bind -/
def Down (ops : Array Oper) (b : Nat → Bool) : Prop := ∀ i o, ops[i]? = some o → b i = true → ∀ e ∈ o.after, Region.binds .any e = true → b e.on = true
theorem clo_ok {ops : Array Oper} {b : Nat → Bool} (hD : Down ops b) : ∀ n k row, (clo ops n)[k]? = some row → b k = true → ∀ j ∈ row, b j = true
  | 0, k, row, h, _, _, _ => by simp [clo] at h
  | n + 1, k, row, h, hb, j, hj => by
    unfold clo at h
    rcases Nat.lt_or_ge k n with hk | hk
    · rw [List.getElem?_append_left (by rw [clo_length]; exact hk)] at h
      exact clo_ok hD n k row h hb j hj
    · rw [List.getElem?_append_right (by rw [clo_length]; exact hk), clo_length] at h
      have hkn : k = n := by
        rcases Nat.lt_or_ge n k with h1 | h1
        · rw [List.getElem?_eq_none (by simp; omega)] at h; cases h
        · omega
      subst hkn
      simp only [Nat.sub_self, List.getElem?_cons_zero, Option.some.injEq] at h
      subst h
      simp only [List.mem_filter, List.mem_range] at hj
      obtain ⟨hjk, hj⟩ := hj
      cases ho : ops[k]? with
      | none => rw [ho] at hj; simp at hj
      | some o =>
        rw [ho] at hj
        simp only [Option.map_some, Option.getD_some, Array.any_eq_true'] at hj
        obtain ⟨e, he, h4⟩ := hj
        simp only [Bool.and_eq_true, Bool.or_eq_true, beq_iff_eq, List.contains_eq_mem, decide_eq_true_eq] at h4
        have hbe := hD k o ho hb e he h4.1
        rcases h4.2 with h5 | h5
        · rw [← h5]; exact hbe
        · cases hr : (clo ops k)[e.on]? with
          | none => rw [hr] at h5; simp at h5
          | some r => rw [hr] at h5; exact clo_ok hD k e.on r hr hbe j (by simpa using h5)
/-- no guard; every edge leads back; from 'm' on each operation waits for all before it -/
def planB (m : Nat) (ops : Array Oper) : Bool :=
  decide (m ≤ ops.size) && (List.range ops.size).all fun i => ((ops[i]?).map fun o => o.guard.isNone && o.after.all (fun e => decide (e.on < i)) && (decide (i < m) || (List.range i).all fun j => o.after.any fun e => Region.binds .any e && (e.on == j || (((clo ops ops.size)[e.on]?).getD []).contains j))).getD false
theorem planB_spec {m : Nat} {ops : Array Oper} (h : planB m ops = true) : m ≤ ops.size ∧ ∀ i o, ops[i]? = some o → o.guard = none ∧ (∀ e ∈ o.after, e.on < i) ∧ (m ≤ i → ∀ b, Down ops b → (∀ e ∈ o.after, Region.binds .any e = true → b e.on = true) → ∀ j < i, b j = true) := by
  unfold planB at h
  simp only [Bool.and_eq_true, decide_eq_true_eq, List.all_eq_true, List.mem_range] at h
  refine ⟨h.1, fun i o ho => ?_⟩
  have hi : i < ops.size := by
    rcases Nat.lt_or_ge i ops.size with h1 | h1
    · exact h1
    · rw [Array.getElem?_eq_none h1] at ho; cases ho
  have h2 := h.2 i hi
  rw [ho] at h2
  simp only [Option.map_some, Option.getD_some, Bool.and_eq_true, Option.isNone_iff_eq_none, Array.all_eq_true', decide_eq_true_eq, Bool.or_eq_true, List.all_eq_true, List.mem_range] at h2
  refine ⟨h2.1.1, fun e he => h2.1.2 e he, fun hm b hD hr j hj => ?_⟩
  rcases h2.2 with h3 | h3
  · omega
  · have := h3 j hj
    rw [Array.any_eq_true'] at this
    obtain ⟨e, he, h4⟩ := this
    simp only [Bool.and_eq_true, Bool.or_eq_true, beq_iff_eq, List.contains_eq_mem, decide_eq_true_eq] at h4
    have hbe := hr e he h4.1
    rcases h4.2 with h5 | h5
    · rw [← h5]; exact hbe
    · cases hc : (clo ops ops.size)[e.on]? with
      | none => rw [hc] at h5; simp at h5
      | some r => rw [hc] at h5; exact clo_ok hD ops.size e.on r hc hbe j (by simpa using h5)
theorem bOf_set {listed : Array Bool} {i : Nat} (hi : i < listed.size) : bOf (listed.setIfInBounds i true) = upd (bOf listed) i := by
  funext j
  unfold bOf upd
  by_cases h : j = i
  · subst h; simp [Array.getD, hi]
  · rw [if_neg h]
    simp only [Array.getD_eq_getD_getElem?]
    rw [Array.getElem?_setIfInBounds_ne (fun e => h e.symm)]
theorem ready_spec {ops : Array Oper} {listed : Array Bool} {i : Nat} (hs : listed.size = ops.size) (h : i ∈ Region.ready .any ops listed) :
    ∃ o, ops[i]? = some o ∧ bOf listed i = false ∧ ∀ e ∈ o.after, Region.binds .any e = true → bOf listed e.on = true := by
  unfold Region.ready at h
  simp only [List.mem_filter, List.mem_range, Bool.and_eq_true, Bool.not_eq_true'] at h
  obtain ⟨hi, h1, h2⟩ := h
  have ho : ops[i]? = some ops[i] := Array.getElem?_eq_getElem hi
  rw [ho] at h2
  simp only [Option.map_some, Option.getD_some, Array.all_eq_true', Bool.or_eq_true, Bool.not_eq_true'] at h2
  refine ⟨_, ho, ?_, fun e he hb => ?_⟩
  · unfold bOf
    have hl : i < listed.size := by omega
    simp only [Array.getD, hl, dif_pos] at h1 ⊢
    exact h1
  · rcases h2 e he with h3 | h3
    · rw [h3] at hb; cases hb
    · exact h3
theorem ready_mk {ops : Array Oper} {listed : Array Bool} {i : Nat} {o : Oper} (hs : listed.size = ops.size) (ho : ops[i]? = some o) (h1 : bOf listed i = false) (h2 : ∀ e ∈ o.after, bOf listed e.on = true) : i ∈ Region.ready .any ops listed := by
  have hi : i < ops.size := by
    rcases Nat.lt_or_ge i ops.size with h1 | h1
    · exact h1
    · rw [Array.getElem?_eq_none h1] at ho; cases ho
  unfold Region.ready
  simp only [List.mem_filter, List.mem_range, Bool.and_eq_true, Bool.not_eq_true']
  refine ⟨hi, ?_, ?_⟩
  · unfold bOf at h1
    have hl : i < listed.size := by omega
    simp only [Array.getD, hl, dif_pos] at h1 ⊢
    exact h1
  · rw [ho]
    simp only [Option.map_some, Option.getD_some, Array.all_eq_true', Bool.or_eq_true, Bool.not_eq_true']
    exact fun e he => .inr (h2 e he)

section
variable {P : Program} {ops : Array Oper} {Q : Exit → Act → World → Prop} {m : Nat}
theorem wpAny_tail (hB : planB m ops = true) : ∀ (fuel k : Nat) (listed : Array Bool) (a : Act) (w : World), m ≤ k → k ≤ ops.size → listed.size = ops.size → (∀ i < k, bOf listed i = true) → (∀ i ≥ k, bOf listed i = false) → ops.size - k ≤ fuel →
    wpOps P ops Q (List.range' k (ops.size - k)) a w → wpAny P .any ops Q fuel listed a w := by
  obtain ⟨hm, hsp⟩ := planB_spec hB
  have honly : ∀ (k : Nat) (listed : Array Bool), m ≤ k → listed.size = ops.size → (∀ i < k, bOf listed i = true) → (∀ i ≥ k, bOf listed i = false) → ∀ i ∈ Region.ready .any ops listed, i ≤ k := by
    intro k listed hk hs ht hn i hi
    obtain ⟨o, ho, hf, he⟩ := ready_spec hs hi
    rcases Nat.lt_or_ge k i with h | h
    · have hD : Down ops (bOf listed) := by
        intro i' o' ho' hb' e he' _
        have hik : i' < k := by
          rcases Nat.lt_or_ge i' k with h1 | h1
          · exact h1
          · rw [hn i' h1] at hb'; cases hb'
        exact ht e.on (by have := (hsp i' o' ho').2.1 e he'; omega)
      have := (hsp i o ho).2.2 (by omega) _ hD he k h
      rw [hn k (Nat.le_refl _)] at this
      cases this
    · exact h
  intro fuel
  induction fuel with
  | zero =>
    intro k listed a w hk hks hs ht hn hf h
    have hk2 : k = ops.size := by omega
    subst hk2
    refine ⟨?_, by simpa [wpOps] using h⟩
    apply List.eq_nil_iff_forall_not_mem.2
    intro i hi
    obtain ⟨o, ho, hfi, -⟩ := ready_spec hs hi
    have hio : i < ops.size := by
      rcases Nat.lt_or_ge i ops.size with h1 | h1
      · exact h1
      · rw [Array.getElem?_eq_none h1] at ho; cases ho
    rw [ht i hio] at hfi; cases hfi
  | succ fuel ih =>
    intro k listed a w hk hks hs ht hn hf h
    rcases Nat.lt_or_ge k ops.size with hlt | hge
    · have ho : ops[k]? = some ops[k] := Array.getElem?_eq_getElem hlt
      have hmem : k ∈ Region.ready .any ops listed := ready_mk hs ho (hn k (Nat.le_refl _)) (fun e he => ht _ ((hsp k _ ho).2.1 e he))
      refine ⟨(fun hnil => by rw [hnil] at hmem; cases hmem), fun i hi => ?_⟩
      have hik : i = k := by
        have h1 := honly k listed hk hs ht hn i hi
        obtain ⟨o, ho', hfi, -⟩ := ready_spec hs hi
        rcases Nat.lt_or_ge i k with h2 | h2
        · rw [ht i h2] at hfi; cases hfi
        · omega
      subst hik
      have hr : List.range' i (ops.size - i) = i :: List.range' (i + 1) (ops.size - (i + 1)) := by
        have : ops.size - i = (ops.size - (i + 1)) + 1 := by omega
        rw [this, List.range'_succ]
      rw [hr, wpOps_cons] at h
      refine wpOp_mono (fun a w hh => ih (i + 1) _ a w (by omega) (by omega) (by simpa using hs) ?_ ?_ (by omega) hh) h
      · intro j hj
        rw [bOf_set (by omega)]
        unfold upd
        split
        · rfl
        · exact ht j (by omega)
      · intro j hj
        rw [bOf_set (by omega)]
        unfold upd
        rw [if_neg (by omega)]
        exact hn j (by omega)
    · have hk2 : k = ops.size := by omega
      subst hk2
      refine ⟨fun _ => by simpa [wpOps] using h, fun i hi => ?_⟩
      obtain ⟨o, ho, hfi, -⟩ := ready_spec hs hi
      have hio : i < ops.size := by
        rcases Nat.lt_or_ge i ops.size with h1 | h1
        · exact h1
        · rw [Array.getElem?_eq_none h1] at ho; cases ho
      rw [ht i hio] at hfi; cases hfi

/-- how many of the first 'm' are still to be done -/
def left (b : Nat → Bool) : Nat → Nat
  | 0 => 0
  | m + 1 => left b m + (if b m then 0 else 1)
theorem left_zero {b : Nat → Bool} : ∀ {m : Nat}, left b m = 0 → ∀ i < m, b i = true
  | 0, _, i, hi => by omega
  | m + 1, h, i, hi => by
    unfold left at h
    cases hb : b m with
    | false => rw [hb] at h; simp at h
    | true =>
      rcases Nat.lt_or_ge i m with h1 | h1
      · exact left_zero (by omega) i h1
      · have : i = m := by omega
        subst this; exact hb
theorem left_upd {b : Nat → Bool} {i : Nat} (hi : b i = false) : ∀ {m : Nat}, i < m → left (upd b i) m + 1 = left b m
  | 0, h => by omega
  | m + 1, h => by
    unfold left
    rcases Nat.lt_or_ge i m with h1 | h1
    · have := left_upd hi h1
      have e : upd b i m = b m := by unfold upd; rw [if_neg (by omega)]
      rw [e]; omega
    · have hm : i = m := by omega
      subst hm
      have key : ∀ k, k ≤ i → left (upd b i) k = left b k := by
        intro k
        induction k with
        | zero => intro _; rfl
        | succ k ih =>
          intro hk
          unfold left
          rw [ih (by omega)]
          have e : upd b i k = b k := by unfold upd; rw [if_neg (by omega)]
          rw [e]
      rw [key i (Nat.le_refl _), hi]
      have e : upd b i i = true := by unfold upd; rw [if_pos rfl]
      rw [e]; rfl
theorem wpAny_plan (hB : planB m ops = true) (I : (Nat → Bool) → Act → World → Prop)
    (hs : ∀ i o b a w, i < m → ops[i]? = some o → b i = false → (∀ e ∈ o.after, Region.binds .any e = true → b e.on = true) → I b a w → o.wp P a w (fun a' w' => I (upd b i) a' w') Q)
    (he : ∀ b a w, (∀ i < m, b i = true) → I b a w → wpOps P ops Q (List.range' m (ops.size - m)) a w) :
    ∀ (n fuel : Nat) (listed : Array Bool) (a : Act) (w : World), left (bOf listed) m = n → n + (ops.size - m) ≤ fuel → listed.size = ops.size → (∀ i ≥ m, bOf listed i = false) → Down ops (bOf listed) → I (bOf listed) a w → wpAny P .any ops Q fuel listed a w := by
  obtain ⟨hm, hsp⟩ := planB_spec hB
  intro n
  induction n with
  | zero =>
    intro fuel listed a w hl hf hsz hn hDn hI
    have ht := left_zero hl
    exact wpAny_tail hB fuel m listed a w (Nat.le_refl _) hm hsz ht hn (by omega) (he _ a w ht hI)
  | succ n ih =>
    intro fuel listed a w hl hf hsz hn hDn hI
    cases fuel with
    | zero => omega
    | succ fuel =>
      -- some operation below m is left; the least of them can come up
      have hex : ∃ i, i < m ∧ bOf listed i = false ∧ ∀ j < i, bOf listed j = true := by
        have key : ∀ k, k ≤ m → (∀ j < k, bOf listed j = true) ∨ ∃ i, i < k ∧ bOf listed i = false ∧ ∀ j < i, bOf listed j = true := by
          intro k
          induction k with
          | zero => intro _; exact .inl (fun j hj => by omega)
          | succ k ihk =>
            intro hk
            rcases ihk (by omega) with h | ⟨i, h1, h2, h3⟩
            · cases hb : bOf listed k with
              | true =>
                left
                intro j hj
                rcases Nat.lt_or_ge j k with h4 | h4
                · exact h j h4
                · have : j = k := by omega
                  subst this; exact hb
              | false => exact .inr ⟨k, by omega, hb, h⟩
            · exact .inr ⟨i, by omega, h2, h3⟩
        rcases key m (Nat.le_refl _) with h | h
        · exfalso
          have : ∀ k, k ≤ m → left (bOf listed) k = 0 := by
            intro k
            induction k with
            | zero => intro _; rfl
            | succ k ihk => intro hk; unfold left; rw [ihk (by omega), h k (by omega)]; rfl
          rw [this m (Nat.le_refl _)] at hl; omega
        · exact h
      obtain ⟨i0, hi0, hf0, hb0⟩ := hex
      have hlt0 : i0 < ops.size := by omega
      have ho0 : ops[i0]? = some ops[i0] := Array.getElem?_eq_getElem hlt0
      have hmem : i0 ∈ Region.ready .any ops listed := ready_mk hsz ho0 hf0 (fun e hem => hb0 _ ((hsp i0 _ ho0).2.1 e hem))
      refine ⟨(fun hnil => by rw [hnil] at hmem; cases hmem), fun i hi => ?_⟩
      obtain ⟨o, ho, hfi, hed⟩ := ready_spec hsz hi
      have him : i < m := by
        rcases Nat.lt_or_ge i m with h | h
        · exact h
        · have := (hsp i o ho).2.2 h _ hDn hed i0 (by omega)
          rw [hf0] at this; cases this
      have hstep := hs i o _ a w him ho hfi hed hI
      unfold wpOp
      simp only [ho]
      have hw : Region.wanted o (yielded ops a.tmps) = true := by unfold Region.wanted; rw [(hsp i o ho).1]
      rw [if_pos hw]
      left
      refine Oper.wp_mono (fun a' w' hI' => ?_) hstep
      have hil : i < listed.size := by omega
      refine ih fuel _ a' w' ?_ (by omega) (by simpa using hsz) ?_ ?_ (by rw [bOf_set hil]; exact hI')
      · rw [bOf_set hil]
        have := left_upd hfi him
        omega
      · intro j hj
        rw [bOf_set hil]
        unfold upd
        rw [if_neg (by omega)]
        exact hn j hj
      · rw [bOf_set hil]
        intro i' o' ho' hb' e he' hbe
        have key : ∀ k, bOf listed k = true → upd (bOf listed) i k = true := by
          intro k hk
          unfold upd
          split
          · rfl
          · exact hk
        unfold upd at hb'
        split at hb'
        · rename_i hii
          subst hii
          rw [ho] at ho'
          cases ho'
          exact key _ (hed e he' hbe)
        · exact key _ (hDn i' o' ho' hb' e he' hbe)
/-- THE RULE -/
theorem wp_region_plan {id : Nat} {l : List Oper} {a : Act} {w : World} (m : Nat) (hm : P.follows .mixedOrders = true) (hB : planB m l.toArray = true) (I : (Nat → Bool) → Act → World → Prop)
    (h0 : I (fun _ => false) a { w with drawn := w.drawn + 1 })
    (hs : ∀ i o b a w, i < m → l[i]? = some o → b i = false → (∀ e ∈ o.after, Region.binds .any e = true → b e.on = true) → I b a w → o.wp P a w (fun a' w' => I (upd b i) a' w') Q)
    (he : ∀ b a w, (∀ i < m, b i = true) → I b a w → wpList P l.toArray Q (l.drop m) a w) : (Code.region id l.toArray true).wp P Q a w := by
  have hml : m ≤ l.length := by simpa using (planB_spec hB).1
  have hz : bOf (Array.replicate l.toArray.size false) = fun _ => false := by
    funext i
    unfold bOf
    simp only [Array.getD_eq_getD_getElem?, Array.getElem?_replicate]
    split <;> rfl
  refine wp_region_any hm (wpAny_plan (m := m) hB I (fun i o b a w hi ho => hs i o b a w hi (by simpa using ho)) (fun b a w hb hI => ?_) _ _ _ a _ rfl ?_ (by simp) ?_ ?_ (by rw [hz]; exact h0))
  · have := he b a w hb hI
    have e : wpOps P l.toArray Q (List.range' m (l.drop m).length) = wpList P l.toArray Q (l.drop m) := wpOps_eq_wpList (l.drop m) m (fun j => by simp)
    rw [← e] at this
    simpa using this
  · rw [hz]
    have key : ∀ k, left (fun _ => false) k = k := by
      intro k
      induction k with
      | zero => rfl
      | succ k ih => unfold left; rw [ih]; rfl
    rw [key]
    simp; omega
  · intro i _
    rw [hz]
  · rw [hz]
    intro i o _ hb
    cases hb
end
end Pl
