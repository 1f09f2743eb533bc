import Derived.Test.YtoaanhipdjjeiaaRows
import Derived.WalkKit
import Derived.ProofKit
import Derived.OpenShut
import Derived.Below
import Derived.Lib.Hide
import Derived.Outline
import Derived.Deep.Slices
import Derived.Deep.Fields
import Derived.ChangeSame
namespace Go.Proofs.Ytoaanhipdjjeiaa.Scan
open Go.ChangeShapes Go.WideShapes Go.ChangeAt Go.RowKit Go.Deep
set_option linter.unusedVariables false
/-- a slice of n ZTok -/
def Toks (w : World) (a : Option Addr) (n : Nat) (K S L : Nat → Int) (T : Nat → ByteArray) : Prop :=
  ∀ i, i < n → ∃ ab ao, a = some ⟨ab, ao, none⟩ ∧ (w.cell? ⟨ab, ao + i * 4, none⟩ = some (.int .u8 (K i)) ∧ w.cell? ⟨ab, ao + i * 4 + 1, none⟩ = some (.string (T i)) ∧ w.cell? ⟨ab, ao + i * 4 + 2, none⟩ = some (.int .u8 (S i)) ∧ w.cell? ⟨ab, ao + i * 4 + 3, none⟩ = some (.int .i32 (L i))) ∧ (0 ≤ K i ∧ K i ≤ 255) ∧ (0 ≤ S i ∧ S i ≤ 255) ∧ (T i).size ≤ maxLen
theorem u72 : (Try.prog.underlying 45).map (fun d => match d with | .struct fs => (fs.toList.map fun f => (f.type, f.offset)) | _ => []) = some [(5, 0), (9, 1), (5, 2), (21, 3)] := by kernel_rfl
theorem c72 : Try.prog.cellsOf 45 = 4 := by kernel_rfl
theorem add_none (ab ao j : Nat) : (⟨ab, ao, none⟩ : Addr).add j = ⟨ab, ao + j, none⟩ := by
  unfold Addr.add
  split
  · rename_i h0; subst h0; rfl
  · rfl
theorem fields72 : ∃ f0 f1 f2 f3 : Field, Try.prog.underlying 45 = some (.struct #[f0, f1, f2, f3]) ∧ (f0.type = 5 ∧ f0.offset = 0) ∧ (f1.type = 9 ∧ f1.offset = 1) ∧ (f2.type = 5 ∧ f2.offset = 2) ∧ (f3.type = 21 ∧ f3.offset = 3) := by
  have h := u72
  cases hq : Try.prog.underlying 45 with
  | none => rw [hq] at h; simp at h
  | some d =>
    rw [hq] at h
    cases d with
    | struct fs =>
      obtain ⟨l⟩ := fs
      simp at h
      match l, h with
      | [f0, f1, f2, f3], h =>
        simp at h
        exact ⟨f0, f1, f2, f3, rfl, h.1, h.2.1, h.2.2.1, h.2.2.2⟩
    | _ => simp at h
section
variable {H : Type} {enc : TypeId × Value → H} {w : World} {base : Nat} {hd : Bool}
theorem toks_of {fuel : Nat} {a : Option Addr} {len cap : Nat} {x : DataW H × List MemPlace} (ht : Try.prog.underlying 22 = some (.slice 45))
    (hf : DataW.trod enc Try.prog w base (fun _ => true) hd fuel 22 (Value.slice a len cap).cells.toList = some x) : ∃ K S L T, Toks w a len K S L T := by
  rcases open_slice ht hf with ⟨hcs, _⟩ | ⟨y, l, c, m, n, D, Pl, hcs, hb, hl, hm, hmm, hx, hi⟩
  · simp [Value.cells] at hcs
    obtain ⟨rfl, rfl, rfl⟩ := hcs
    exact ⟨fun _ => 0, fun _ => 0, fun _ => 0, fun _ => ⟨#[]⟩, fun i hi => by omega⟩
  · simp [Value.cells] at hcs
    obtain ⟨rfl, rfl, rfl⟩ := hcs
    obtain ⟨f0, f1, f2, f3, hu, ⟨t0, o0⟩, ⟨t1, o1⟩, ⟨t2, o2⟩, ⟨t3, o3⟩⟩ := fields72
    have hall : ∀ i : Nat, ∃ q : Int × Int × Int × ByteArray, i < len → (w.cell? (y.add (i * 4)) = some (.int .u8 q.1) ∧ w.cell? ((y.add (i * 4)).add 1) = some (.string q.2.2.2) ∧ w.cell? ((y.add (i * 4)).add 2) = some (.int .u8 q.2.1) ∧ w.cell? ((y.add (i * 4)).add 3) = some (.int .i32 q.2.2.1)) ∧ (Lit.int .u8 q.1).wf = true ∧ (Lit.int .u8 q.2.1).wf = true ∧ q.2.2.2.size ≤ maxLen := by
      intro i
      by_cases hlt : i < len
      · obtain ⟨cs', hc, ht'⟩ := hi i (by simp at hmm; omega)
        rw [c72] at hc
        obtain ⟨ys, n', _, _, hlen, hyl, hfl⟩ := DataW.trod_struct hu ht'
        obtain ⟨_, hcl, hat⟩ := World.cells?_some hc
        match cs', hcl with
        | [v0, v1, v2, v3], _ =>
          have g0 := hfl 0 f0 rfl
          have g1 := hfl 1 f1 rfl
          have g2 := hfl 2 f2 rfl
          have g3 := hfl 3 f3 rfl
          rw [t0, o0, show Try.prog.cellsOf 5 = 1 by kernel_rfl] at g0
          rw [t1, o1, show Try.prog.cellsOf 9 = 1 by kernel_rfl] at g1
          rw [t2, o2, show Try.prog.cellsOf 5 = 1 by kernel_rfl] at g2
          rw [t3, o3, show Try.prog.cellsOf 21 = 1 by kernel_rfl] at g3
          match ys, hyl with
          | [y0, y1, y2, y3], _ =>
            simp at g0 g1 g2 g3
            obtain ⟨k, e0, _, w0⟩ := DataW.trod_int (k := .u8) (by kernel_rfl) g0
            obtain ⟨s, e1, _, w1⟩ := DataW.trod_string (by kernel_rfl) g1
            obtain ⟨z, e2, _, w2⟩ := DataW.trod_int (k := .u8) (by kernel_rfl) g2
            obtain ⟨l, e3, _, w3⟩ := DataW.trod_int (k := .i32) (by kernel_rfl) g3
            simp at e0 e1 e2 e3
            subst e0 e1 e2 e3
            refine ⟨(k, z, l, s), fun _ => ⟨⟨?_, hat 1 (by omega), hat 2 (by omega), hat 3 (by omega)⟩, w0, w2, w1⟩⟩
            have := hat 0 (by omega)
            simpa [Addr.add] using this
      · exact ⟨(0, 0, 0, ⟨#[]⟩), fun h => absurd h hlt⟩
    obtain ⟨q, hq⟩ := Classical.axiomOfChoice hall
    refine ⟨fun i => (q i).1, fun i => (q i).2.1, fun i => (q i).2.2.1, fun i => (q i).2.2.2, ?_⟩
    intro i hi'
    obtain ⟨⟨h0, h1, h2, h3⟩, h4, h5, h6⟩ := hq i hi'
    obtain ⟨ab, ao, sp⟩ := y
    have hs : sp = none := by simpa [Addr.add] using World.cell?_spot (hq 0 (by omega)).1.1
    subst hs
    rw [add_none] at h0 h1 h2 h3
    rw [add_none] at h1 h2 h3
    exact ⟨ab, ao, rfl, ⟨h0, h1, h2, h3⟩, by simpa [Lit.wf, IntKind.min, IntKind.max, IntKind.bits, IntKind.signed] using h4, by simpa [Lit.wf, IntKind.min, IntKind.max, IntKind.bits, IntKind.signed] using h5, h6⟩
end
end Go.Proofs.Ytoaanhipdjjeiaa.Scan
