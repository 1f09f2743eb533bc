/-
  A region that draws its order and ends in a tail that waits for all else: the head in any order, then the tail.
-/
import Derived.Test.YtbpnmiedomchpaaPl
import Derived.OrdersHeld
import Derived.Deep.RegionHeld3
namespace Pl
open Go
set_option linter.unusedVariables false
section
variable {P : Program} {ops : Array Oper} {Q : Exit → Act → World → Prop} {m : Nat}
/-- behind the head: the tail, in order -/
def behind (P : Program) (ops : Array Oper) (Q : Exit → Act → World → Prop) (m : Nat) : Exit → Act → World → Prop
  | .normal, a, w => wpOps P ops Q (List.range' m (ops.size - m)) a w
  | e, a, w => Q e a w
theorem letsOut_behind (h : LetsOut (behind P ops Q m)) : LetsOut Q := h
theorem upon_behind {o : Oper} {a : Act} {K : Act → World → Prop} {r : Result Next} (h : o.upon P a K (behind P ops Q m) r) : o.upon P a K Q r := by
  cases r with
  | ok n w' =>
    cases n <;> simp only [Oper.upon] at h ⊢ <;> first | exact h | exact Calls.mono h (fun e w'' he => by cases e <;> exact he)
  | halt x w' => cases x <;> simp only [Oper.upon] at h ⊢ <;> exact h
theorem head_get {ops : Array Oper} {m i : Nat} (hi : i < m) : (ops.extract 0 m)[i]? = ops[i]? := by
  rw [Array.getElem?_extract]
  split
  · simp
  · rename_i h
    rw [Array.getElem?_eq_none]
    omega
theorem wpAny_split (hB : planB m ops = true) : ∀ (fuel : Nat) (l1 listed : Array Bool) (a : Act) (w : World), l1.size = m → listed.size = ops.size → (∀ i < m, bOf listed i = bOf l1 i) → (∀ i ≥ m, bOf listed i = false) → Down ops (bOf listed) →
    wpAny P .any (ops.extract 0 m) (behind P ops Q m) fuel l1 a w → wpAny P .any ops Q (fuel + (ops.size - m)) listed a w := by
  obtain ⟨hm, hsp⟩ := planB_spec hB
  have hes : (ops.extract 0 m).size = m := by simp; omega
  -- all of the head done: the tail
  have hend : ∀ (fuel : Nat) (listed : Array Bool) (a : Act) (w : World), listed.size = ops.size → (∀ i < m, bOf listed i = true) → (∀ i ≥ m, bOf listed i = false) → behind P ops Q m .normal a w → wpAny P .any ops Q (fuel + (ops.size - m)) listed a w :=
    fun fuel listed a w hs ht hn h => wpAny_tail hB _ m listed a w (Nat.le_refl _) hm hs ht hn (by omega) h
  -- what may come up: of the head, the same; of the tail, nothing while the head is not done
  have hleast : ∀ (b : Nat → Bool), (∃ i, i < m ∧ b i = false) → ∃ i, i < m ∧ b i = false ∧ ∀ j < i, b j = true := by
    rintro b ⟨i, hi, hb⟩
    have key : ∀ k, k ≤ m → (∀ j < k, b j = true) ∨ ∃ i, i < k ∧ b i = false ∧ ∀ j < i, b j = true := by
      intro k
      induction k with
      | zero => intro _; exact .inl (fun j hj => by omega)
      | succ k ihk =>
        intro hk
        rcases ihk (by omega) with h | ⟨i, h1, h2, h3⟩
        · cases hb : b k with
          | true =>
            left
            intro j hj
            rcases Nat.lt_or_ge j k with h4 | h4
            · exact h j h4
            · have : j = k := by omega
              subst this; exact hb
          | false => exact .inr ⟨k, by omega, hb, h⟩
        · exact .inr ⟨i, by omega, h2, h3⟩
    rcases key m (Nat.le_refl _) with h | h
    · rw [h i hi] at hb; cases hb
    · exact h
  have hready : ∀ (l1 listed : Array Bool), l1.size = m → listed.size = ops.size → (∀ i < m, bOf listed i = bOf l1 i) → ∀ i < m, i ∈ Region.ready .any ops listed → i ∈ Region.ready .any (ops.extract 0 m) l1 := by
    intro l1 listed h1 h2 h3 i hi hr
    obtain ⟨o, ho, hf, he⟩ := ready_spec h2 hr
    have hir : i < (ops.extract 0 m).size := by omega
    have ho' : (ops.extract 0 m)[i]? = some o := by rw [head_get hi]; exact ho
    unfold Region.ready
    simp only [List.mem_filter, List.mem_range, Bool.and_eq_true, Bool.not_eq_true']
    refine ⟨hir, ?_, ?_⟩
    · have : bOf l1 i = false := by rw [← h3 i hi]; exact hf
      unfold bOf at this
      have hl : i < l1.size := by omega
      simp only [Array.getD, hl, dif_pos] at this ⊢
      exact this
    · rw [ho']
      simp only [Option.map_some, Option.getD_some, Array.all_eq_true', Bool.or_eq_true, Bool.not_eq_true']
      intro e hem
      cases hb : Region.binds .any e with
      | false => exact .inl rfl
      | true =>
        right
        have hlt : e.on < m := by have := (hsp i o ho).2.1 e hem; omega
        have := he e hem hb
        rw [h3 e.on hlt] at this
        exact this
  have hhead : ∀ (listed : Array Bool), listed.size = ops.size → (∀ i ≥ m, bOf listed i = false) → Down ops (bOf listed) → (∃ i, i < m ∧ bOf listed i = false) → ∀ i ∈ Region.ready .any ops listed, i < m := by
    intro listed hs hn hD hx i hi
    obtain ⟨i0, hi0, hf0, hb0⟩ := hleast _ hx
    obtain ⟨o, ho, hfi, hed⟩ := ready_spec hs hi
    rcases Nat.lt_or_ge i m with h | h
    · exact h
    · have := (hsp i o ho).2.2 h _ hD hed i0 (by omega)
      rw [hf0] at this; cases this
  have hone : ∀ (l1 listed : Array Bool), l1.size = m → listed.size = ops.size → (∀ i < m, bOf listed i = bOf l1 i) → (∃ i, i < m ∧ bOf listed i = false) → Region.ready .any (ops.extract 0 m) l1 ≠ [] ∧ Region.ready .any ops listed ≠ [] := by
    intro l1 listed h1 h2 h3 hx
    obtain ⟨i0, hi0, hf0, hb0⟩ := hleast _ hx
    have hlt0 : i0 < ops.size := by omega
    have ho0 : ops[i0]? = some ops[i0] := Array.getElem?_eq_getElem hlt0
    have hmem : i0 ∈ Region.ready .any ops listed := ready_mk h2 ho0 hf0 (fun e hem => hb0 _ ((hsp i0 _ ho0).2.1 e hem))
    have hmem2 := hready l1 listed h1 h2 h3 i0 hi0 hmem
    refine ⟨fun e => ?_, fun e => ?_⟩
    · rw [e] at hmem2; cases hmem2
    · rw [e] at hmem; cases hmem
  intro fuel
  induction fuel with
  | zero =>
    intro l1 listed a w h1 h2 h3 h4 h5 h
    refine hend 0 listed a w h2 (fun i hi => ?_) h4 h.2
    cases hb : bOf listed i with
    | true => rfl
    | false => exact absurd h.1 (hone l1 listed h1 h2 h3 ⟨i, hi, hb⟩).1
  | succ fuel ih =>
    intro l1 listed a w h1 h2 h3 h4 h5 h
    by_cases hx : ∃ i, i < m ∧ bOf listed i = false
    · rw [show fuel + 1 + (ops.size - m) = (fuel + (ops.size - m)) + 1 by omega]
      refine ⟨fun e => absurd e (hone l1 listed h1 h2 h3 hx).2, fun i hi => ?_⟩
      have him := hhead listed h2 h4 h5 hx i hi
      have hir := hready l1 listed h1 h2 h3 i him hi
      obtain ⟨o, ho, hfi, hed⟩ := ready_spec h2 hi
      have hop := h.2 i hir
      have hg : o.guard = none := (hsp i o ho).1
      unfold wpOp at hop ⊢
      rw [head_get him, ho] at hop
      simp only [ho] at hop ⊢
      have hw : ∀ y, Region.wanted o y = true := fun y => by unfold Region.wanted; rw [hg]
      rw [if_pos (hw _)] at hop ⊢
      have hl1 : i < l1.size := by omega
      have hl2 : i < listed.size := by omega
      refine hop.imp (fun hh => ?_) (fun hh => ⟨hh.1, letsOut_behind hh.2⟩)
      unfold Oper.wp at hh ⊢
      refine upon_behind (ops := ops) (m := m) ?_
      refine Oper.wp_mono (o := o) (a := a) (w := w) (fun a' w' hk => ?_) hh
      refine ih _ _ a' w' (by simpa using h1) (by simpa using h2) (fun j hj => ?_) (fun j hj => ?_) ?_ hk
      · rw [bOf_set hl1, bOf_set hl2]
        unfold upd
        split
        · rfl
        · exact h3 j hj
      · rw [bOf_set hl2]
        unfold upd
        rw [if_neg (by omega)]
        exact h4 j hj
      · rw [bOf_set hl2]
        intro i' o' ho' hb' e he' hbe
        have key : ∀ k, bOf listed k = true → upd (bOf listed) i k = true := by
          intro k hk
          unfold upd
          split
          · rfl
          · exact hk
        unfold upd at hb'
        split at hb'
        · rename_i hii
          subst hii
          rw [ho] at ho'
          cases ho'
          exact key _ (hed e he' hbe)
        · exact key _ (h5 i' o' ho' hb' e he' hbe)
    · have ht : ∀ i < m, bOf listed i = true := fun i hi => by
        cases hb : bOf listed i with
        | true => rfl
        | false => exact absurd ⟨i, hi, hb⟩ hx
      have hr : Region.ready .any (ops.extract 0 m) l1 = [] := by
        apply List.eq_nil_iff_forall_not_mem.2
        intro i hi
        obtain ⟨o, ho, hfi, -⟩ := ready_spec (by omega) hi
        have hio : i < m := by
          rcases Nat.lt_or_ge i (ops.extract 0 m).size with h | h
          · omega
          · rw [Array.getElem?_eq_none h] at ho; cases ho
        rw [← h3 i hio, ht i hio] at hfi; cases hfi
      exact hend (fuel + 1) listed a w h2 ht h4 (h.1 hr)
/-- THE RULE: the head under a condition S that is held, the tail by the plain walk. -/
theorem wp_region_split {id : Nat} {l : List Oper} {a : Act} {w : World} (S : World → Prop) (m : Nat) (hm : P.follows .mixedOrders = true) (hB : planB m l.toArray = true)
    (h : wpAnyH P .any (l.take m).toArray (behind P l.toArray Q m) S m (Array.replicate m false) a w.drew) : (Code.region id l.toArray true).wp P Q a w := by
  have hml : m ≤ l.length := by simpa using (planB_spec hB).1
  have e : (l.take m).toArray = l.toArray.extract 0 m := by simp
  rw [e] at h
  have h2 := wpAny_of_held _ _ _ _ h
  have hz : ∀ n, bOf (Array.replicate n false) = fun _ => false := by
    intro n
    funext i
    unfold bOf
    simp only [Array.getD_eq_getD_getElem?, Array.getElem?_replicate]
    split <;> rfl
  refine wp_region_any hm ?_
  have h3 := wpAny_split (P := P) (Q := Q) hB m (Array.replicate m false) (Array.replicate l.toArray.size false) a w.drew (by simp) (by simp) (fun i _ => by rw [hz, hz]) (fun i _ => by rw [hz]) (by rw [hz]; intro i o _ hb; cases hb) h2
  rw [show m + (l.toArray.size - m) = l.toArray.size by simp; omega] at h3
  exact h3
theorem take_l {md : Region.Mode} {l : List Oper} {S : World → Prop} {i : Nat} {oi : Oper} {v : Value} {fuel : Nat} {listed : Array Bool} {a : Act} {w : World} (hi : l[i]? = some oi)
    (hs : Region.noSelect l.toArray = true) (hf : Region.free md l.toArray listed i = true) (hr : (Region.ready md l.toArray listed).contains i = true)
    (hQ : ∀ c a w, Q (.panic c) (a.put oi.dst v) w → Q (.panic c) a w) (hg : oi.guard = none) (hy : ∀ w, S w → (execOp a.eval oi).run P w = .ok (.value v) w) (hS : S w)
    (h : wpAnyH P md l.toArray Q S fuel (listed.setIfInBounds i true) (a.put oi.dst v) w) : wpAnyH P md l.toArray Q S (fuel + 1) listed a w :=
  wpAnyH_take (by simpa using hi) hs hf hr hQ (.inl ⟨by unfold Region.wanted; rw [hg], hy⟩) hS h
theorem alone_l {md : Region.Mode} {l : List Oper} {S : World → Prop} {i : Nat} {o : Oper} {fuel : Nat} {listed : Array Bool} {a : Act} {w : World} (hr : Region.ready md l.toArray listed = [i]) (ho : l[i]? = some o)
    (h : ∀ K' : Act → World → Prop, Shut (∀ a w, S w → (S w → wpAnyH P md l.toArray Q S fuel (listed.setIfInBounds i true) a w) → K' a w) → if Region.wanted o (yielded l.toArray a.tmps) = true then Oper.wp P o a w K' Q else K' (a.put o.dst undef) w) :
    wpAnyH P md l.toArray Q S (fuel + 1) listed a w :=
  wpAnyH_ready hr (by simp) (AllReadyH.cons (by simpa using ho) h AllReadyH.nil)
theorem behind_normal {l : List Oper} {a : Act} {w : World} (hm : m ≤ l.length) (h : wpList P l.toArray Q (l.drop m) a w) : behind P l.toArray Q m .normal a w := by
  have e : wpOps P l.toArray Q (List.range' m (l.drop m).length) = wpList P l.toArray Q (l.drop m) := wpOps_eq_wpList (l.drop m) m (fun j => by simp)
  rw [← e] at h
  simpa [behind] using h
end
end Pl
