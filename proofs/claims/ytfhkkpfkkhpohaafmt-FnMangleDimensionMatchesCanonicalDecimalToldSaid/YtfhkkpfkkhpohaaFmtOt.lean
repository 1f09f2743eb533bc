/-
  The tables that SimpleFold reads; SimpleFold at five runes; DecodeRuneInString at two closed strings.
-/
import Derived.Test.YtfhkkpfkkhpohaaFmtZp
import Derived.Lib.LaidU8
import Derived.MakeChecks
import Derived.Deep.QuietTactic
import Derived.BigQuiet
namespace Go.Proofs.YtfhkkpfkkhpohaaFmt.Sd
open Go.ChangeShapes Go.WideShapes Go.ChangeAt Go.RowKit Rg
open Go.Lib (VarReads array_elem ints_of_struct)
set_option linter.unusedVariables false
def afL : List (DataW Unit) := match (Rows.laid_unicode_asciiFold : DataW Unit) with
  | .agg l => l
  | _ => []
def orL : List (DataW Unit) := match (Rows.laid_unicode_caseOrbit : DataW Unit) with
  | .slice l _ => l
  | _ => []
theorem af_cell {W : World} (h : VarReads Tryf.prog W "unicode.asciiFold" Rows.laid_unicode_asciiFold) (r : Nat) (v : Int) (hr : r < 128) (hv : afL[r]? = some (.lit (.int .u16 v))) : W.cell? ⟨0, r, none⟩ = some (.int .u16 v) := by
  obtain ⟨g, t, cs, fuel, p, hg, ht, hvar, hd⟩ := h
  obtain rfl := Option.some.inj ((show Tryf.prog.globalNamed "unicode.asciiFold" = some 0 by kernel_rfl).symm.trans hg)
  obtain rfl := Option.some.inj ((show (Tryf.prog.globals[0]?).map (·.type) = some 41 by kernel_rfl).symm.trans ht)
  have hd' : DataW.trod (fun _ => ()) Tryf.prog W 0 (fun _ => true) false fuel 41 cs.toList = some (.agg afL, p) := hd
  obtain ⟨fuel', d, q, h1, h2⟩ := array_elem Tryf.underlying41 hd' r hr
  rw [hv] at h1
  obtain rfl := Option.some.inj h1
  have c40 : Tryf.prog.cellsOf 40 = 1 := by kernel_rfl
  rw [c40, Nat.mul_one] at h2
  obtain ⟨z, e1, e2, _⟩ := DataW.trod_int Tryf.underlying40 h2
  have hz : z = v := by
    have := congrArg Prod.fst (show ((DataW.lit (.int .u16 v) : DataW Unit), q) = _ from e2)
    simpa using this.symm
  subst hz
  rw [World.var?_cell hg hvar r]
  have h0 : ((cs.toList.drop r).take 1)[0]? = some (.int .u16 z) := by rw [e1]; rfl
  have : cs.toList[r]? = some (.int .u16 z) := by simpa using h0
  simpa using this
/-- caseOrbit's rows -/
def OR (W : World) (R oR cap : Nat) : Prop := W.cell? ⟨1, 0, none⟩ = some (.slice (some ⟨R, oR, none⟩) 94 cap) ∧ ∀ i f t, orL[i]? = some (.agg [.lit (.int .u16 f), .lit (.int .u16 t)]) → W.cell? ⟨R, oR + 2 * i, none⟩ = some (.int .u16 f) ∧ W.cell? ⟨R, oR + 2 * i + 1, none⟩ = some (.int .u16 t)
theorem or_cell {W : World} (h : VarReads Tryf.prog W "unicode.caseOrbit" Rows.laid_unicode_caseOrbit) : ∃ R oR cap, OR W R oR cap := by
  obtain ⟨g, t, cs, fuel, p, hg, ht, hvar, hd⟩ := h
  obtain rfl := Option.some.inj ((show Tryf.prog.globalNamed "unicode.caseOrbit" = some 1 by kernel_rfl).symm.trans hg)
  obtain rfl := Option.some.inj ((show (Tryf.prog.globals[1]?).map (·.type) = some 42 by kernel_rfl).symm.trans ht)
  have hd' : DataW.trod (fun _ => ()) Tryf.prog W 0 (fun _ => true) false fuel 42 cs.toList = some (.slice orL [], p) := hd
  rcases DataW.trod_slice Tryf.underlying42 hd' with ⟨_, hx'⟩ | ⟨a', len, cap, el, rs, m, hcs, hc0, hx', _, hlc, _, hel, helem, hsp, _⟩
  · cases hx'
  have e0 := congrArg Prod.fst hx'
  simp only [DataW.slice.injEq] at e0
  obtain ⟨eE, eR⟩ := e0
  have c45 : Tryf.prog.cellsOf 45 = 2 := by kernel_rfl
  have c40 : Tryf.prog.cellsOf 40 = 1 := by kernel_rfl
  have hlen : len = 94 := by
    have h1 := congrArg List.length eE
    have h2 : orL.length = 94 := by kernel_rfl
    simp at h1
    omega
  have hrow : ∀ i f t, orL[i]? = some (.agg [.lit (.int .u16 f), .lit (.int .u16 t)]) → W.cell? ((a'.add (i * 2)).add 0) = some (.int .u16 f) ∧ W.cell? ((a'.add (i * 2)).add 1) = some (.int .u16 t) := by
    intro i f t hi
    have hil : i < len := by
      have h1 := (List.getElem?_eq_some_iff.1 hi).1
      have h2 : orL.length = 94 := by kernel_rfl
      omega
    have h1 := helem i hil
    rw [c45] at h1
    obtain ⟨b, hb⟩ : ∃ b, el[i]? = some b := ⟨el[i]'(by omega), List.getElem?_eq_getElem (by omega)⟩
    rw [hb] at h1
    obtain ⟨ce, hce, hte⟩ := Option.bind_eq_some_iff.1 h1
    have hb1 : b.1 = .agg ([f, t].map fun z => .lit (.int .u16 z)) := by
      rw [eE, List.getElem?_map, hb] at hi
      simpa using hi
    have hcc := ints_of_struct (p := b.2) (zs := [f, t]) Tryf.underlying45 (fun j fl hj => by
      match j, hj with
      | 0, hj => simp at hj; subst hj; exact ⟨Tryf.underlying40, rfl, c40⟩
      | 1, hj => simp at hj; subst hj; exact ⟨Tryf.underlying40, rfl, c40⟩
      | j + 2, hj => simp at hj) (by rw [c45]; rfl) (by rw [← hb1]; exact hte)
    obtain ⟨_, _, hc2⟩ := World.cells?_some hce
    exact ⟨by rw [hc2 0 (by omega), hcc]; rfl, by rw [hc2 1 (by omega), hcc]; rfl⟩
  obtain ⟨R, oR, sR⟩ := a'
  obtain rfl : sR = none := by
    have h00 := (hrow 0 75 107 (by rfl)).1
    have e : (Addr.add (Addr.add ⟨R, oR, sR⟩ (0 * 2)) 0) = ⟨R, oR, sR⟩ := by simp [Addr.add]
    rw [e] at h00
    exact World.cell?_spot h00
  refine ⟨R, oR, cap, ?_, fun i f t hi => ?_⟩
  · have := World.var?_cell hg hvar 0
    rw [this, ← Array.getElem?_toList, hc0, hlen]; rfl
  · have h1 := hrow i f t hi
    rw [add_none, add_none, add_none] at h1
    rw [Nat.mul_comm 2 i]
    exact h1
/-- what SimpleFold and the decoder want of the world -/
structure FT (W : World) : Prop where
  a115 : W.cell? ⟨0, 115, none⟩ = some (.int .u16 383)
  a83 : W.cell? ⟨0, 83, none⟩ = some (.int .u16 115)
  a109 : W.cell? ⟨0, 109, none⟩ = some (.int .u16 77)
  a77 : W.cell? ⟨0, 77, none⟩ = some (.int .u16 109)
  orb : ∃ R oR cap, OR W R oR cap
theorem FT.keep {W W' : World} (h : FT W) (hb : Below W.heap.size W W') : FT W' := by
  obtain ⟨a, b, c, d, R, oR, cap, e, f⟩ := h
  exact ⟨later hb a, later hb b, later hb c, later hb d, R, oR, cap, later hb e, fun i x y hi => ⟨later hb (f i x y hi).1, later hb (f i x y hi).2⟩⟩
theorem FT_of {l : List (String × DataW Unit)} {w : World} (h : laidMetH Tryf.prog l w) (hp : (l.all fun x => x.2.handleName?.isNone) = true) (h1 : ("unicode.asciiFold", Rows.laid_unicode_asciiFold) ∈ l) (h2 : ("unicode.caseOrbit", Rows.laid_unicode_caseOrbit) ∈ l) : FT w := by
  rw [MakeChecks.laidMetH_plain _ _ _ hp] at h
  have hA := Lib.laidMet.reads h h1
  exact ⟨af_cell hA 115 383 (by decide) (by rfl), af_cell hA 83 115 (by decide) (by rfl), af_cell hA 109 77 (by decide) (by rfl), af_cell hA 77 109 (by decide) (by rfl), or_cell (Lib.laidMet.reads h h2)⟩
end Go.Proofs.YtfhkkpfkkhpohaaFmt.Sd
