/-
  One name handled: refused, or turned into a symbol.
-/
import Derived.Test.YtkphnplmjpjbjaaDoorEn
import Derived.StillTailTactics
import Derived.Deep.DeepCutAuto
import Derived.Maps.OwnIn
namespace Go.Proofs.YtkphnplmjpjbjaaDoor.Sy
open Go.ChangeShapes Go.WideShapes Go.ChangeAt Go.RowKit Rg
set_option linter.unusedVariables false
/-- a text that is no name -/
def rsv (s : ByteArray) : Bool := ((lowB s).toList == [110, 111, 110, 101]) || lookD (.map cssL) (lowB s)
/-- what handleSingleAnimationName turns into a symbol -/
def cA (ml : Bool) (_ : Nat) (x : TK) : Bool := !((decide (x.2.1 = 29) || (decide (x.2.1 = 36) && !ml)) && rsv x.1)
/-- what handleSingleContainerName turns into a symbol -/
def cC (_ : Nat) (x : TK) : Bool := !rsv x.1
section
variable {B p g i : Nat} {X X' : Nat → Prop} {ml : Bool} {z : List TK × SY} {w w' : World} {s : ByteArray} {K P0 : Int}
theorem ST.off (h : ST B X p ml g z w) {Y : Nat → Prop} (ho : Off Y w w') (hY : ∀ j, Y j → B ≤ j ∧ ¬ X j) {T : List TK} (ht : TB w' g T) : ST B X p ml g (T, z.2) w' :=
  ⟨h.ev.below (ho.below (fun j hj => (hY j hj).1) h.ev.size), h.ps.off ho (fun j hj hy => (hY j hy).2 hj), ht, h.bg, fun j hj => ⟨(h.xs j hj).1, Nat.lt_of_lt_of_le (h.xs j hj).2.1 ho.2.2.2.1, (h.xs j hj).2.2⟩⟩
theorem ST.setC (h : ST B X p ml g z w) {o : Nat} {u : Value} {T : List TK} (ht : TB (w.setCell ⟨g, o, none⟩ u) g T) : ST B X p ml g (T, z.2) (w.setCell ⟨g, o, none⟩ u) ∧ GO X g w X (w.setCell ⟨g, o, none⟩ u) :=
  ⟨h.off (Y := fun j => j = g) (Off.of_setCell w g o u rfl) (fun j hj => by subst hj; exact ⟨h.bg, fun hx => (h.xs _ hx).2.2 rfl⟩) ht, ⟨Off.of_setCell w g o u (.inr rfl), fun _ hj => .inl hj⟩⟩
theorem ST.mark (h : ST B X p ml g z w) (hi : i < z.1.length) (he : z.1.getD i tk0 = (s, K, P0)) : ST B X p ml g (z.1.set i (s, 39, P0), z.2) (w.setCell ⟨g, i * 7 + 5, none⟩ (.int .u8 39)) ∧ GO X g w X (w.setCell ⟨g, i * 7 + 5, none⟩ (.int .u8 39)) := by
  have := h.tb.setK hi 39
  rw [he] at this
  exact h.setC this
theorem ST.pay (h : ST B X p ml g z w) (hi : i < z.1.length) (he : z.1.getD i tk0 = (s, K, P0)) (P : Int) : ST B X p ml g (z.1.set i (s, K, P), z.2) (w.setCell ⟨g, i * 7 + 3, none⟩ (.int .u32 P)) ∧ GO X g w X (w.setCell ⟨g, i * 7 + 3, none⟩ (.int .u32 P)) :=
  h.setC (h.tb.setP' hi he P)
theorem ST.sym (h : ST B X p ml g z w) {S' : SY} (hp : PS w' X' p ml S') (ho : Off X w w') (hx : ∀ j, X' j → X j ∨ (w.heap.size ≤ j ∧ j < w'.heap.size)) : ST B X' p ml g (z.1, S') w' ∧ GO X g w X' w' := by
  refine ⟨⟨h.ev.below (ho.below (fun j hj => (h.xs j hj).1) h.ev.size), hp, ho.keep_bk h.tb (fun hx => (h.xs _ hx).2.2 rfl), h.bg, fun j hj => ?_⟩, ?_, fun j hj => (hx j hj).imp id And.left⟩
  · rcases hx j hj with h1 | ⟨h1, h2⟩
    · exact ⟨(h.xs j h1).1, Nat.lt_of_lt_of_le (h.xs j h1).2.1 ho.2.2.2.1, (h.xs j h1).2.2⟩
    · have := h.ev.size
      have hg := h.tb.lt
      exact ⟨by omega, h2, by omega⟩
  · exact ⟨ho.1, ho.2.1, ho.2.2.1, ho.2.2.2.1, fun j hj hn => ho.2.2.2.2 j hj fun e => hn (.inl e)⟩
/-- what is read of a token -/
def TX (g i : Nat) (s : ByteArray) (w : World) : Prop := w.cell? ⟨g, i * 7 + 1, none⟩ = some (.string s) ∧ w.cell? ⟨g, i * 7 + 2, none⟩ = some (.int .i32 0)
theorem TX.keep (hs : ST B X p ml g z w) (h : TX g i s w) (ho : Off X w w') : TX g i s w' := by
  have e := ho.2.2.2.2 g hs.tb.lt (fun hx => (hs.xs _ hx).2.2 rfl)
  unfold TX World.cell? at h ⊢
  rw [e]
  exact h
theorem set_len (T : List TK) (x : TK) : (T.set i x).length = T.length := by simp
/-- the three turns together -/
theorem ST.conv {w1 w2 w3 : World} (h : ST B X p ml g z w) (hi : i < z.1.length) (he : z.1.getD i tk0 = (s, K, P0)) (h1 : Below (w.setCell ⟨g, i * 7 + 5, none⟩ (.int .u8 39)).heap.size (w.setCell ⟨g, i * 7 + 5, none⟩ (.int .u8 39)) w1)
    (hp : PS w2 X' p ml (addS s z.2)) (ho : Off X w1 w2) (hx : ∀ j, X' j → X j ∨ (w1.heap.size ≤ j ∧ j < w2.heap.size)) (h3 : Below (w2.setCell ⟨g, i * 7 + 3, none⟩ (.int .u32 (plS s z.2 : Int))).heap.size (w2.setCell ⟨g, i * 7 + 3, none⟩ (.int .u32 (plS s z.2 : Int))) w3) :
    ST B X' p ml g (z.1.set i (s, 39, (plS s z.2 : Int)), addS s z.2) w3 ∧ GO X g w X' w3 := by
  obtain ⟨a1, a2⟩ := h.mark hi he
  obtain ⟨b1, b2⟩ := (a1.keep h1).sym hp ho hx
  obtain ⟨c1, c2⟩ := b1.pay (i := i) (s := s) (K := 39) (P0 := P0) (by simpa using hi) (getD_set_eq hi) (plS s z.2 : Int)
  simp only [List.set_set] at c1
  exact ⟨c1.keep h3, ((((a2.trans (GO.keep h1)).trans b2).trans c2).trans (GO.keep h3))⟩
end
theorem fld1 (n : Int) (w : World) : (Instr.field 104 (.agg #[.int .i32 0, .int .u32 0, .int .u32 n]) 1).run Tryd.prog w = .ok (.agg #[.int .u32 0, .int .u32 n]) w := by kernel_rfl
theorem fld2 (n : Int) (w : World) : (Instr.field 92 (.agg #[.int .u32 0, .int .u32 n]) 1).run Tryd.prog w = .ok (.int .u32 n) w := by kernel_rfl
end Go.Proofs.YtkphnplmjpjbjaaDoor.Sy
