/-
  The replacement function, the warning that is not given, the clones.
-/
import Derived.Test.YtaiofdgiabmelaaFmtUb
namespace Go.Proofs.YtaiofdgiabmelaaFmt.Sb
open Go.ChangeShapes Go.WideShapes Go.ChangeAt Go.RowKit Rg
set_option linter.unusedVariables false
set_option maxRecDepth 100000 in
set_option maxHeartbeats 1000000 in
theorem fn_any (b gx cx : Nat) (pa : Option Addr) (pm pc : Nat) (w : World) (h1 : w.cell? ⟨b, 0, none⟩ = some (.slice (some ⟨gx, 0, none⟩) 1 cx)) (h2 : w.cell? ⟨gx, 0, none⟩ = some (.slice pa pm pc)) :
    Calls Tryf.prog 28 #[.agg #[.int .i32 0], .pointer (some ⟨b, 0, none⟩)] w fun e w' => e = .returned (.agg #[.slice pa pm pc]) ∧ Below w.heap.size w w' := by
  have c1 := alloc_cell h1
  have c2 := alloc_cell h2
  have c3 := fun o o' => alloc_cell (c1 o) o'
  have c4 := fun o o' => alloc_cell (c2 o) o'
  clear h1 h2
  go_enter Tryf.func28, Tryf.ntmps28
  go_wp2_with fail
  refine bodyPost_ret (v := .agg #[.slice pa pm pc]) (by simp [results, Tryf.results28, go_sem]) rfl ⟨rfl, ?_⟩
  exact (((Below.refl _ _).alloc (Nat.le_refl _) _).alloc (by simp) _)
set_option maxRecDepth 100000 in
set_option maxHeartbeats 1000000 in
theorem has_any (w : World) : Calls Tryf.prog 31 #[.int .u16 0, .int .u16 256] w fun e w' => e = .returned (.bool false) ∧ w = w' := by
  go_enter Tryf.func31, Tryf.ntmps31
  go_wp2
  go_ret
  exact ⟨rfl, rfl⟩
set_option maxRecDepth 100000 in
set_option maxHeartbeats 1000000 in
theorem rep_any (pp : Nat) (w : World) (h0 : w.cell? ⟨pp, 48, none⟩ = some (.int .u16 0)) :
    Calls Tryf.prog 25 #[.pointer (some ⟨pp, 0, none⟩), .agg #[.int .i32 0]] w fun e w' => e = .returned (.tuple #[]) ∧ Below w.heap.size w w' := by
  have h := fun o => alloc_cell h0 o
  clear h0
  go_enter Tryf.func25, Tryf.ntmps25
  go_wp2_with fail
  refine (has_any _).mono ?_
  rintro e wk ⟨rfl, hwk⟩
  rw [← hwk]
  clear hwk
  go_wp2_with fail
  go_end0
  exact ⟨rfl, (Below.refl _ _).alloc (Nat.le_refl _) _⟩
/-- what SSPseudoClass.Clone answers -/
def PcP (nm : ByteArray) (w : World) (e : Ending) (w' : World) : Prop := ∃ q, e = .returned (.iface 124 (.pointer (some ⟨q, 0, none⟩))) ∧ w'.rangeAt q 0 (psc nm) ∧ w.heap.size ≤ q ∧ q < w'.heap.size ∧ Below w.heap.size w w'
set_option maxRecDepth 100000 in
set_option maxHeartbeats 1000000 in
theorem pcl_any (p : Nat) (nm : ByteArray) (w : World) (h : w.rangeAt p 0 (psc nm)) :
    Calls Tryf.prog 72 #[.pointer (some ⟨p, 0, none⟩)] w (PcP nm w) := by
  have d0 := h 0 _ rfl
  have d1 := h 1 _ rfl
  have d2 := h 2 _ rfl
  simp only [Nat.add_zero] at d0 d1 d2
  have e1 := alloc_cell d1
  clear h
  go_enter Tryf.func72, Tryf.ntmps72
  go_wp2_with fail
  go_ret
  exact ⟨w.heap.size, rfl, rg_new w #[.string nm, .slice none 0 0, .bool false] 127, Nat.le_refl _, by simp, (Below.refl _ _).alloc (Nat.le_refl _) _⟩
/-- a row of n places of which the first are cloned -/
def ClS (g n : Nat) (N : List ByteArray) (k : Nat) (w0 w : World) : Prop :=
  ∃ (P : List (Nat × ByteArray)) (C : List Value), P.length = k ∧ P.map (·.2) = N.take k ∧ w.ownsRow w0.heap.size 56 3 (.slice (some ⟨g, 0, none⟩) n n) n (P.flatMap spc ++ C) ∧ (∀ x ∈ P, (w0.heap.size ≤ x.1 ∧ x.1 < w.heap.size) ∧ g < x.1 ∧ w.rangeAt x.1 0 (psc x.2)) ∧ Below w0.heap.size w0 w
theorem own_set3 {w : World} {B g c n : Nat} {e : TypeId} {A C : List Value} {z0 z1 z2 a b d : Value} (h : w.ownsRow B e 3 (.slice (some ⟨g, 0, none⟩) n c) n (A ++ ([z0, z1, z2] ++ C))) {k : Nat} (hk : A.length = k) :
    (w.setCells g k [a, b, d]).ownsRow B e 3 (.slice (some ⟨g, 0, none⟩) n c) n (A ++ ([a, b, d] ++ C)) ∧ w.grownBy (w.setCells g k [a, b, d]) (some g) := by
  obtain ⟨h1, g1⟩ := h.stored k a
  obtain ⟨h2, g2⟩ := h1.stored (k + 1) b
  obtain ⟨h3, g3⟩ := h2.stored (k + 1 + 1) d
  refine ⟨?_, (g1.trans g2).trans g3⟩
  have e : (((A ++ ([z0, z1, z2] ++ C)).set k a).set (k + 1) b).set (k + 1 + 1) d = A ++ ([a, b, d] ++ C) := by
    subst hk
    rw [List.set_append_right _ _ (Nat.le_refl _), List.set_append_right _ _ (by omega), List.set_append_right _ _ (by omega)]
    rw [Nat.sub_self, show A.length + 1 - A.length = 1 by omega, show A.length + 1 + 1 - A.length = 2 by omega]
    rfl
  rw [e] at h3
  exact h3
theorem own_there {w : World} {B g c n s : Nat} {e : TypeId} {xs : List Value} (h : w.ownsRow B e s (.slice (some ⟨g, 0, none⟩) n c) n xs) {k m : Nat} (hk : k + m ≤ n * s) : w.there g k m := fun j hj => by
  have hl := h.1
  refine ⟨?_, h.frozenAt _⟩
  rw [h.cellAt _ (by omega), List.getElem?_eq_getElem (by omega)]
  rfl
theorem ClS.put {g n : Nat} {N : List ByteArray} {k : Nat} {w0 w : World} (h : ClS g n N k w0 w) (hk : k < n) (hn : n = N.length) {q : Nat} (hq : w0.heap.size ≤ q ∧ q < w.heap.size) (hqg : g < q) (hr : w.rangeAt q 0 (psc (N[k]'(by omega)))) (hg : w0.heap.size ≤ g) : ClS g n N (k + 1) w0 (w.setCells g (k * 3) (sbc q)) := by
  obtain ⟨P, C, h1, h2, h3, h4, h5⟩ := h
  have hfl : (P.flatMap spc).length = k * 3 := by rw [flat_len spc (s := 3) (fun _ => rfl), h1]
  have hcl : k * 3 + C.length = n * 3 := by have := h3.1; rw [List.length_append, hfl] at this; exact this
  obtain ⟨z0, z1, z2, C', rfl⟩ : ∃ z0 z1 z2 C', C = [z0, z1, z2] ++ C' := by
    match C, hcl with
    | [], h => simp at h; omega
    | [_], h => simp at h; omega
    | [_, _], h => simp at h; omega
    | z0 :: z1 :: z2 :: C', _ => exact ⟨z0, z1, z2, C', rfl⟩
  obtain ⟨h6, h7⟩ := own_set3 (a := .iface 124 (.pointer (some ⟨q, 0, none⟩))) (b := .int .i32 0) (d := .int .i32 0) h3 (k := k * 3) (by rw [flat_len spc (s := 3) (fun _ => rfl), h1])
  have hsz := size_setCells g (sbc q) (k * 3) w
  refine ⟨P ++ [(q, N[k]'(by omega))], C', by simp [h1], ?_, ?_, ?_, below_setCells hg _ _ h5⟩
  · rw [List.map_append, h2]
    rw [List.take_succ_eq_append_getElem (show k < N.length by omega)]
    rfl
  · rw [List.flatMap_append]
    simpa [spc, sbc] using h6
  · intro x hx
    rcases List.mem_append.1 hx with hx | hx
    · obtain ⟨a, b, c⟩ := h4 x hx
      exact ⟨⟨a.1, by rw [hsz]; exact a.2⟩, b, rg_ag (h7.block _ a.2 (fun e => by injection e with e; omega)) c⟩
    · obtain rfl : x = (q, N[k]'(by omega)) := by simpa using hx
      exact ⟨⟨hq.1, by rw [hsz]; exact hq.2⟩, hqg, rg_ag (h7.block _ hq.2 (fun e => by injection e with e; omega)) hr⟩
theorem ClS.keep {g n : Nat} {N : List ByteArray} {k : Nat} {w0 w w' : World} (h : ClS g n N k w0 w) (hb : Below w.heap.size w w') : ClS g n N k w0 w' := by
  obtain ⟨P, C, h1, h2, h3, h4, h5⟩ := h
  exact ⟨P, C, h1, h2, own_keep h3 hb, fun x hx => ⟨⟨(h4 x hx).1.1, Nat.lt_of_lt_of_le (h4 x hx).1.2 hb.size⟩, (h4 x hx).2.1, rg_keep hb (h4 x hx).2.2⟩, h5.trans (hb.mono h5.size)⟩
theorem ClS.done {g n : Nat} {N : List ByteArray} {w0 w : World} (h : ClS g n N n w0 w) (hn : n = N.length) (hg : g < w.heap.size ∧ w0.heap.size ≤ g) : FSub (fun b => g ≤ b ∧ b < w.heap.size) w (.slice (some ⟨g, 0, none⟩) n n) N := by
  obtain ⟨P, C, h1, h2, h3, h4, h5⟩ := h
  have hC : C = [] := by
    have h6 := h3.1
    rw [List.length_append, flat_len spc (s := 3) (fun _ => rfl), h1] at h6
    exact List.eq_nil_of_length_eq_zero (by omega)
  subst hC
  refine ⟨P, ?_, by rw [h2, hn, List.take_length], fun q hq => ?_, fun x hx => ⟨⟨Nat.le_of_lt (h4 x hx).2.1, (h4 x hx).1.2⟩, (h4 x hx).2.2⟩⟩
  · rw [h1]
    have h6 := own_zero h3
    rw [List.append_nil] at h6
    exact h6
  · simp [Value.ownBlock] at hq
    exact ⟨by omega, by omega⟩
end Go.Proofs.YtaiofdgiabmelaaFmt.Sb
