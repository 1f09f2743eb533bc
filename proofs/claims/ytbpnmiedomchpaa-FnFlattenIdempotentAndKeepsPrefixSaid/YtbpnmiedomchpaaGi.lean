/-
  The readers of the law's parameters.
-/
import Derived.Test.YtbpnmiedomchpaaGf
namespace Go.Proofs.Ytbpnmiedomchpaa.Fg
open Go.ChangeShapes Go.WideShapes Go.ChangeAt Go.RowKit Go.Deep Rg
set_option linter.unusedVariables false
set_option linter.unusedSimpArgs false
section
variable {H : Type} {enc : TypeId × Value → H} {w : World} {base : Nat} {spare : Nat → Bool} {hd : Bool}
set_option maxRecDepth 100000 in
theorem coo_rd {fuel a len cap} {x : DataW H × List MemPlace} (_ : Try.prog.underlying 23 = some (.slice 55)) (hf : DataW.trod enc Try.prog w base spare hd fuel 23 (Value.slice a len cap).cells.toList = some x) : ∃ C, CoV (Old w) w (.slice a len cap) C := by
  obtain ⟨u, L, e, h⟩ := rw_of (cells := Gc.cells) (el := GcE (Old w) w) (sz := 4) ⟨⟨0, 0, 0, []⟩, .slice none 0 0⟩ ⟨0, 0, 0, []⟩ Try.underlying23 cCoo (fun _ => rfl) (by omega) coo_of hf
  simp [Value.cells] at e
  subst e
  exact ⟨L, h⟩
set_option maxRecDepth 100000 in
theorem pru_rd {fuel a len cap} {x : DataW H × List MemPlace} (_ : Try.prog.underlying 22 = some (.slice 5)) (hf : DataW.trod enc Try.prog w base spare hd fuel 22 (Value.slice a len cap).cells.toList = some x) : ∃ P, PrU w (.slice a len cap) P := by
  obtain ⟨u, L, e, h⟩ := rw_of (E := 5) (cells := fun k : Nat => [Value.int .u8 (k : Nat)]) (el := fun k t => k = t ∧ t < 256) (sz := 1) (0 : Nat) (0 : Nat) Try.underlying22 (by kernel_rfl) (fun _ => rfl) (by omega) (fun {fuel cs x} h => by
    obtain ⟨k, h1, -, h2⟩ := DataW.trod_int (k := .u8) (by kernel_rfl) h
    simp only [Lit.wf, IntKind.min, IntKind.max, IntKind.bits, IntKind.signed] at h2
    have h2' : 0 ≤ k ∧ k ≤ 255 := by simpa using h2
    obtain ⟨n, rfl⟩ : ∃ a : Nat, k = a := ⟨k.toNat, by omega⟩
    exact ⟨n, n, h1, rfl, by omega⟩) hf
  simp [Value.cells] at e
  subst e
  exact ⟨L, h⟩
end
end Go.Proofs.Ytbpnmiedomchpaa.Fg
