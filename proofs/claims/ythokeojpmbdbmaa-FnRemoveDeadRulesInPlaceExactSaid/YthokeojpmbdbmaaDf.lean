/-
  Rows under construction, in general; lists of numbers that grow.
-/
import Derived.Test.YthokeojpmbdbmaaDe
namespace Go.Proofs.Ythokeojpmbdbmaa.Dr
open Go.ChangeShapes Go.WideShapes Go.ChangeAt Go.RowKit Rg
set_option linter.unusedVariables false
set_option linter.unusedSimpArgs false
/-- a row under construction: what it leads to lies from lo on, outside Av and outside the row itself -/
def Bld {α β : Type} (t : TypeId) (s : Nat) (cells : β → List Value) (el : (Nat → Prop) → World → β → α → Prop) (lo : Nat) (Av : Nat → Prop) (v : Value) (L : List α) (w : World) : Prop :=
  ∃ B : List β, B.length = L.length ∧ w.ownsRow lo t s v L.length (B.flatMap cells) ∧ (∀ i (h : i < B.length) (h' : i < L.length), el (fun b => (lo ≤ b ∧ b < w.heap.size) ∧ ¬ Av b ∧ some b ≠ v.ownBlock) w B[i] L[i]) ∧ ∀ b, v.ownBlock = some b → ¬ Av b
def LocE {α β : Type} (el : (Nat → Prop) → World → β → α → Prop) : Prop := ∀ (X Y : Nat → Prop) (w w' : World) (x : β) (a : α), To X w Y w' → el X w x a → el Y w' x a
section
variable {α β : Type} {t : TypeId} {s : Nat} {cells : β → List Value} {el : (Nat → Prop) → World → β → α → Prop} {lo : Nat} {Av Av' : Nat → Prop} {v : Value} {L : List α} {w w' : World}
theorem Bld.lt (h : Bld t s cells el lo Av v L w) {b : Nat} (hb : v.ownBlock = some b) : lo ≤ b ∧ b < w.heap.size := by
  obtain ⟨B, -, h2, -⟩ := h
  exact h2.lt b hb
theorem Bld.slice (h : Bld t s cells el lo Av v L w) : ∃ a c, v = .slice a L.length c := by
  obtain ⟨B, -, h2, -⟩ := h
  exact own_slice h2
/-- other blocks turn -/
theorem Bld.other (hl : LocE el) (h : Bld t s cells el lo Av v L w) (hb : ∀ b, lo ≤ b → b < w.heap.size → ¬ Av b → w'.heap[b]? = w.heap[b]?) (hz : w.heap.size ≤ w'.heap.size) (ha : ∀ b, b < w.heap.size → Av' b → Av b) : Bld t s cells el lo Av' v L w' := by
  obtain ⟨B, h1, h2, h3, h4⟩ := h
  refine ⟨B, h1, own_ag h2 (fun g hg => hb g (h2.lt g hg).1 (h2.lt g hg).2 (h4 g hg)), fun i a b => hl _ _ _ _ _ _ (fun c hc => ⟨⟨⟨hc.1.1, Nat.lt_of_lt_of_le hc.1.2 hz⟩, fun e => hc.2.1 (ha c hc.1.2 e), hc.2.2⟩, hb c hc.1.1 hc.1.2 hc.2.1⟩) (h3 i a b), fun b hb' e => h4 b hb' (ha b (h2.lt b hb').2 e)⟩
theorem Bld.keep (hl : LocE el) (h : Bld t s cells el lo Av v L w) (hb : Below w.heap.size w w') (ha : ∀ b, b < w.heap.size → Av' b → Av b) : Bld t s cells el lo Av' v L w' :=
  h.other hl (fun b _ h2 _ => hb.block b h2) hb.size ha
/-- one element more: B is the row so far -/
theorem Bld.push (hl : LocE el) {v' : Value} {x : β} {a : α} {B : List β} (h1 : B.length = L.length) (h3 : ∀ i (h : i < B.length) (h' : i < L.length), el (fun b => (lo ≤ b ∧ b < w.heap.size) ∧ ¬ Av b ∧ some b ≠ v.ownBlock) w B[i] L[i]) (h4 : ∀ b, v.ownBlock = some b → ¬ Av b)
    (hx : el (fun b => (lo ≤ b ∧ b < w.heap.size) ∧ ¬ Av b ∧ some b ≠ v.ownBlock) w x a) (ho : w'.ownsRow lo t s v' (L.length + 1) (B.flatMap cells ++ cells x)) (hg : w.grownBy w' v.ownBlock) (hv : v'.ownBlock = v.ownBlock ∨ ∀ b, v'.ownBlock = some b → w.heap.size ≤ b ∧ ¬ Av b) : Bld t s cells el lo Av v' (L ++ [a]) w' := by
  have hto : To (fun b => (lo ≤ b ∧ b < w.heap.size) ∧ ¬ Av b ∧ some b ≠ v.ownBlock) w (fun b => (lo ≤ b ∧ b < w'.heap.size) ∧ ¬ Av b ∧ some b ≠ v'.ownBlock) w' := fun b hb => ⟨⟨⟨hb.1.1, Nat.lt_of_lt_of_le hb.1.2 hg.size⟩, hb.2.1, fun e => by
    rcases hv with h | h
    · exact hb.2.2 (by rw [← h]; exact e)
    · have := (h b e.symm).1; omega⟩, hg.block b hb.1.2 hb.2.2⟩
  refine ⟨B ++ [x], by simp [h1], by rw [List.length_append, List.flatMap_append]; simpa using ho, fun i a' b' => ?_, fun b hb => ?_⟩
  · by_cases e : i < B.length
    · rw [List.getElem_append_left e, List.getElem_append_left (by omega)]
      exact hl _ _ _ _ _ _ hto (h3 i e (by omega))
    · have : i = B.length := by simp at a'; omega
      subst this
      have e2 : (L ++ [a])[B.length]'b' = a := by rw [List.getElem_append_right (by omega)]; simp [h1]
      rw [e2, List.getElem_append_right (Nat.le_refl _)]
      simp only [Nat.sub_self, List.getElem_cons_zero]
      exact hl _ _ _ _ _ _ hto hx
  · rcases hv with h | h
    · exact h4 b (by rw [← h]; exact hb)
    · exact (h b hb).2
theorem Bld.done (hl : LocE el) (h : Bld t s cells el lo Av v L w) : RowV (fun b => (lo ≤ b ∧ b < w.heap.size) ∧ ¬ Av b) w t s cells (el (fun b => (lo ≤ b ∧ b < w.heap.size) ∧ ¬ Av b) w) v L := by
  obtain ⟨B, h1, h2, h3, h4⟩ := h
  exact ⟨B, h1, own_zero h2, fun g hg => ⟨h2.lt g hg, h4 g hg⟩, fun i a b => hl _ _ _ _ _ _ (To.same fun c hc => ⟨hc.1, hc.2.1⟩) (h3 i a b)⟩
theorem Bld.made (w : World) (cur : Array Value) (n : Nat) (hlo : lo ≤ w.heap.size) (hm : n ≤ maxLen) (hs : cur.size = n * s) (ha : ¬ Av w.heap.size) : Bld t s cells el lo Av (.slice (some ⟨w.heap.size, 0, none⟩) 0 n) ([] : List α) (w.alloc (.cells cur t)) :=
  ⟨[], rfl, by simpa using World.ownsRow_made w cur n hlo hm hs, fun i h => absurd h (Nat.not_lt_zero _), fun b hb => by simp [Value.ownBlock] at hb; subst hb; exact ha⟩
end
/-! a list of numbers -/
def ki (n : Nat) : Value := .int .i64 (n : Nat)
def KRow (D : Nat) (w : World) (v : Value) (ks : List Nat) : Prop := w.ownsRow D 3 1 v ks.length (ks.map ki)
/-- from w0 to w only the list kv0 and new blocks turned; kv is the list now -/
def Gro (kv0 : Value) (w0 : World) (kv : Value) (w : World) : Prop := w0.grownBy w kv0.ownBlock ∧ (kv.ownBlock = kv0.ownBlock ∨ ∀ b, kv.ownBlock = some b → w0.heap.size ≤ b)
theorem Gro.refl (kv : Value) (w : World) : Gro kv w kv w := ⟨⟨rfl, rfl, rfl, Nat.le_refl _, fun _ _ _ => rfl⟩, .inl rfl⟩
theorem Gro.trans {k0 k1 k2 : Value} {w0 w1 w2 : World} (h : Gro k0 w0 k1 w1) (h' : Gro k1 w1 k2 w2) : Gro k0 w0 k2 w2 := by
  obtain ⟨g1, a1⟩ := h
  obtain ⟨g2, a2⟩ := h'
  refine ⟨⟨g2.os.trans g1.os, g2.tape.trans g1.tape, g2.output.trans g1.output, Nat.le_trans g1.size g2.size, fun b hb hne => ?_⟩, ?_⟩
  · rw [g2.block b (Nat.lt_of_lt_of_le hb g1.size) (fun e => ?_), g1.block b hb hne]
    rcases a1 with h | h
    · exact hne (by rw [← h]; exact e)
    · have := h b e.symm; omega
  · rcases a2 with h | h
    · rcases a1 with h' | h'
      · exact .inl (h.trans h')
      · exact .inr (fun b hb => h' b (by rw [← h]; exact hb))
    · exact .inr (fun b hb => Nat.le_trans g1.size (h b hb))
theorem Gro.below {kv : Value} {w w' : World} (h : Below w.heap.size w w') : Gro kv w kv w' := ⟨grown_below h _, .inl rfl⟩
theorem Gro.row {kv0 kv sv : Value} {w0 w w' : World} (h : Gro kv0 w0 kv w) (hg : w.grownBy w' sv.ownBlock) (hs : ∀ b, sv.ownBlock = some b → w0.heap.size ≤ b) : Gro kv0 w0 kv w' :=
  ⟨⟨hg.os.trans h.1.os, hg.tape.trans h.1.tape, hg.output.trans h.1.output, Nat.le_trans h.1.size hg.size, fun b hb hne => by
    rw [hg.block b (Nat.lt_of_lt_of_le hb h.1.size) (fun e => by have := hs b e.symm; omega), h.1.block b hb hne]⟩, h.2⟩
theorem Gro.av {kv0 kv : Value} {w0 w : World} (h : Gro kv0 w0 kv w) : ∀ b, b < w0.heap.size → some b = kv.ownBlock → some b = kv0.ownBlock := fun b hb e => by
  rcases h.2 with h | h
  · rw [← h]; exact e
  · have := h b e.symm; omega
theorem KRow.keep {D : Nat} {w w' : World} {v : Value} {ks : List Nat} (h : KRow D w v ks) (hb : Below w.heap.size w w') : KRow D w' v ks := own_keep h hb
theorem KRow.ag {D : Nat} {w w' : World} {v : Value} {ks : List Nat} (h : KRow D w v ks) (hb : ∀ b, v.ownBlock = some b → w'.heap[b]? = w.heap[b]?) : KRow D w' v ks := own_ag h hb
theorem infoInt : (Try.prog.info? 3).map (fun i => (i.zero, i.size, i.bytes)) = some (some (.int .i64 0), 1, 8) := by kernel_rfl
theorem ki_one (ks : List Nat) : ∀ u ∈ ks.map ki, u.oneCell' = true := by
  intro u hu
  obtain ⟨n, -, rfl⟩ := List.mem_map.1 hu
  rfl
theorem loc1E : LocE Sb1 := loc1
theorem locC : LocE (fun X w v a => CpV Sb1 X w v a) := fun X Y w w' x a ht h => CpV.to loc1 h ht
theorem locX : LocE (fun X w v a => CxV Sb1 X w v a) := fun X Y w w' x a ht h => CxV.to loc1 h ht
theorem results_cell_mid4 {P : Program} {fn : Func} {p t u x : Tmp} {ty : TypeId} (h : fn.results = #[.cell p ty, .tmp t, .tmp u, .tmp x]) (tmps : Array Value) (w : World) (g o : Nat) (cs : List Value) (d : TypeDesc)
    (hp : tmps.getD p undef = .pointer (some ⟨g, o, none⟩)) (hc : w.rangeAt g o cs)
    (hu : P.underlying ty = some d) (hd : d.isRow = true) (hi : (P.info? ty).map (·.size) = some cs.length) :
    (results fn tmps).run P w = .ok (.tuple #[.agg cs.toArray, tmps.getD t undef, tmps.getD u undef, tmps.getD x undef]) w := by
  have hp' : tmps[p]?.getD undef = .pointer (some ⟨g, o, none⟩) := by simpa using hp
  simp [results, h, hp', asAddr, run_loadVar_mid w g o ty cs d hc hu hd hi]
end Go.Proofs.Ythokeojpmbdbmaa.Dr
