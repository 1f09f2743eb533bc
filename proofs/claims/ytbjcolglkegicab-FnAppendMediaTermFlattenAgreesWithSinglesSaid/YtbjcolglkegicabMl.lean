/-
  What holds at the heads of the law's two loops.
-/
import Derived.Test.YtbjcolglkegicabMz
namespace Go.Proofs.Ytbjcolglkegicab.Mq
open Go.ChangeShapes Go.WideShapes Go.ChangeAt Go.RowKit Rg
set_option linter.unusedVariables false
theorem rowc_app (L L' : Nat → Int) (G G' : Nat → Nat) (n : Nat) : ∀ m, rowc L G n ++ rowc L' G' m = rowc (fun i => if i < n then L i else L' (i - n)) (fun i => if i < n then G i else G' (i - n)) (n + m)
  | 0 => by
    rw [show rowc L' G' 0 = [] from rfl, List.append_nil]
    exact rowc_congr n fun j hj => ⟨by simp [hj], by simp [hj]⟩
  | m + 1 => by
    rw [rowc_succ, ← List.append_assoc, rowc_app L L' G G' n m, show n + (m + 1) = n + m + 1 by omega, rowc_succ]
    simp [show ¬ n + m < n by omega]
abbrev ownM (B : Nat) (w : World) (v : Value) (n : Nat) (xs : List Value) : Prop := w.ownsRow B 33 2 v n xs
/-- the head of the loop that appends one by one -/
def ST (B n m k gs cs ga ca : Nat) (Ls La : Nat → Int) (Gs Ga Gb : Nat → Nat) (vb : Value) (w0 w : World) : Prop :=
  ownM B w (.slice (some ⟨gs, 0, none⟩) m cs) m (rowc Ls Gs m) ∧ ownM B w (.slice (some ⟨ga, 0, none⟩) (n + m) ca) (n + m) (rowc La Ga n ++ rowc Ls Gs m) ∧
  (∃ gb cb, vb = .slice (some ⟨gb, 0, none⟩) (n + k) cb ∧ ownM B w (.slice (some ⟨gb, 0, none⟩) (n + k) cb) (n + k) (rowc La Gb n ++ rowc Ls Gs k) ∧ gb ≠ gs ∧ gb ≠ ga) ∧
  (∀ j, j < n → PB w (Ga j) ∧ PB w (Gb j)) ∧ (∀ j, j < m → PB w (Gs j)) ∧ Below B w0 w ∧ B ≤ w.heap.size
theorem ownM_mono {w : World} {B B' : Nat} {e : TypeId} {s n : Nat} {v : Value} {xs : List Value} (h : w.ownsRow B' e s v n xs) (hb : B ≤ B') : w.ownsRow B e s v n xs :=
  ⟨h.1, h.2.imp id (fun ⟨g, cap, cur, a, b, r⟩ => ⟨g, cap, cur, a, Nat.le_trans hb b, r⟩)⟩
theorem own_lt {B n g c : Nat} {w : World} {xs : List Value} (h : ownM B w (.slice (some ⟨g, 0, none⟩) n c) n xs) : B ≤ g ∧ g < w.heap.size := h.lt g rfl
theorem ST.next {B n m k gs cs ga ca gb cb : Nat} {Ls La : Nat → Int} {Gs Ga Gb : Nat → Nat} {w0 w w2 : World} {e : Ending} (h : ST B n m k gs cs ga ca Ls La Gs Ga Gb (.slice (some ⟨gb, 0, none⟩) (n + k) cb) w0 w) (hk : k < m)
    (ha : App B (n + k + 1) gb ((rowc La Gb n ++ rowc Ls Gs k) ++ mqc (Ls k) (Gs k)) w e w2) : ∃ g c, e = .returned (.slice (some ⟨g, 0, none⟩) (n + (k + 1)) c) ∧ ST B n m (k + 1) gs cs ga ca Ls La Gs Ga Gb (.slice (some ⟨g, 0, none⟩) (n + (k + 1)) c) w0 w2 := by
  obtain ⟨h1, h2, ⟨gb', cb', hv, h3, hne1, hne2⟩, h4, h5, h6, h7⟩ := h
  obtain ⟨g, c, rfl, ho, hg, hr⟩ := ha
  simp only [Value.slice.injEq, Option.some.injEq, Addr.mk.injEq] at hv
  obtain ⟨⟨rfl, _⟩, _, rfl⟩ := hv
  have l1 := own_lt h1
  have l2 := own_lt h2
  have l3 := own_lt h3
  refine ⟨g, c, rfl, h1.kept hg (.inr ?_), h2.kept hg (.inr ?_), ⟨g, c, rfl, ?_, ?_, ?_⟩, fun j hj => ⟨?_, ?_⟩, fun j hj => ?_, ?_, Nat.le_trans h7 hg.size⟩
  · simp [Value.ownBlock]; omega
  · simp [Value.ownBlock]; omega
  · rw [rowc_succ, ← List.append_assoc]; exact ho
  · omega
  · omega
  · exact (h4 j hj).1.grown hg ((h4 j hj).1.ne_row h3)
  · exact (h4 j hj).2.grown hg ((h4 j hj).2.ne_row h3)
  · exact (h5 j hj).grown hg ((h5 j hj).ne_row h3)
  · exact h6.grown hg h7 (fun q hq => by injection hq with hq; omega)
/-- the head of the loop that compares -/
def S2 (B N ga ca gb cb : Nat) (L : Nat → Int) (Gx Gy : Nat → Nat) (w0 w : World) : Prop :=
  ownM B w (.slice (some ⟨ga, 0, none⟩) N ca) N (rowc L Gx N) ∧ ownM B w (.slice (some ⟨gb, 0, none⟩) N cb) N (rowc L Gy N) ∧ (∀ j, j < N → PB w (Gx j) ∧ PB w (Gy j)) ∧ Below B w0 w ∧ B ≤ w.heap.size
theorem S2.keep {B N ga ca gb cb : Nat} {L : Nat → Int} {Gx Gy : Nat → Nat} {w0 w w' : World} (h : S2 B N ga ca gb cb L Gx Gy w0 w) (hb : Below w.heap.size w w') : S2 B N ga ca gb cb L Gx Gy w0 w' := by
  obtain ⟨h1, h2, h3, h4, h5⟩ := h
  exact ⟨own_keep h1 hb, own_keep h2 hb, fun j hj => ⟨(h3 j hj).1.keep hb, (h3 j hj).2.keep hb⟩, h4.trans (hb.mono h5), Nat.le_trans h5 hb.size⟩
theorem S2.at_ {B N ga ca gb cb : Nat} {L : Nat → Int} {Gx Gy : Nat → Nat} {w0 w : World} (h : S2 B N ga ca gb cb L Gx Gy w0 w) {i : Nat} (hi : i < N) :
    (w.cell? ⟨ga, i * 2, none⟩ = some (.int .i32 (L i)) ∧ w.cell? ⟨ga, i * 2 + 1, none⟩ = some (.iface 87 (.pointer (some ⟨Gx i, 0, none⟩)))) ∧ w.cell? ⟨gb, i * 2, none⟩ = some (.int .i32 (L i)) ∧ w.cell? ⟨gb, i * 2 + 1, none⟩ = some (.iface 87 (.pointer (some ⟨Gy i, 0, none⟩))) := by
  obtain ⟨h1, h2, _⟩ := h
  have a := rowc_at L Gx N i hi
  have b := rowc_at L Gy N i hi
  exact ⟨⟨(h1.cellAt _ (by omega)).trans a.1, (h1.cellAt _ (by omega)).trans a.2⟩, (h2.cellAt _ (by omega)).trans b.1, (h2.cellAt _ (by omega)).trans b.2⟩
theorem ST.done {B n m gs cs ga ca : Nat} {Ls La : Nat → Int} {Gs Ga Gb : Nat → Nat} {vb : Value} {w0 w : World} (h : ST B n m m gs cs ga ca Ls La Gs Ga Gb vb w0 w) :
    ∃ gb cb L Gx Gy, vb = .slice (some ⟨gb, 0, none⟩) (n + m) cb ∧ S2 B (n + m) ga ca gb cb L Gx Gy w0 w := by
  obtain ⟨h1, h2, ⟨gb, cb, rfl, h3, hne1, hne2⟩, h4, h5, h6, h7⟩ := h
  rw [rowc_app] at h2 h3
  refine ⟨gb, cb, _, _, _, rfl, h2, h3, fun j hj => ?_, h6, h7⟩
  by_cases hjn : j < n
  · simp only [hjn, if_true]; exact h4 j hjn
  · simp only [hjn, if_false]; exact ⟨h5 _ (by omega), h5 _ (by omega)⟩
end Go.Proofs.Ytbjcolglkegicab.Mq
