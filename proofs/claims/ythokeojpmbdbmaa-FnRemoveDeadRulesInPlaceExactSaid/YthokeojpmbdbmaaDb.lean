/-
  Rules in memory: lists of complex selectors over a set of blocks; the small builders.
-/
import Derived.Test.YthokeojpmbdbmaaDa
import Derived.Test.YthokeojpmbdbmaaPn
import Derived.Great.BuildSlice
import Derived.KernelRfl
import Derived.Deep.DeepCutAuto
import Derived.Deep.CutBlock
import Derived.LoopN
import Derived.Laws.Rows
namespace Go.Proofs.Ythokeojpmbdbmaa.Dr
open Go.ChangeShapes Go.WideShapes Go.ChangeAt Go.RowKit Rg
set_option linter.unusedVariables false
set_option linter.unusedSimpArgs false
/-! cells -/
def hov : ByteArray := ⟨#[104, 111, 118, 101, 114]⟩
def pcl : List Value := [.string ⟨#[104, 111, 118, 101, 114]⟩, .slice none 0 0, .bool false]
def ilc (v : Value) (k : Int) : List Value := [v, .string ⟨#[]⟩, .string ⟨#[]⟩, .int .u8 k]
def sbc (x : Value) : List Value := [x, .int .i32 0, .int .i32 0]
def cmc (vs : Value) : List Value := [.pointer none, vs, .slice none 0 0, .int .i32 0, .int .u8 0, .bool false]
def one (v : Value) : List Value := [v]
abbrev ifP (p : Nat) : Value := .iface 105 (.pointer (some ⟨p, 0, none⟩))
abbrev ifL (p : Nat) : Value := .iface 96 (.pointer (some ⟨p, 0, none⟩))
abbrev ifR (p : Nat) : Value := .iface 62 (.pointer (some ⟨p, 0, none⟩))
/-- a row of elements -/
def RowV {α β : Type} (X : Nat → Prop) (w : World) (t : TypeId) (s : Nat) (cells : β → List Value) (el : β → α → Prop) (v : Value) (L : List α) : Prop :=
  ∃ B : List β, B.length = L.length ∧ w.ownsRow 0 t s v L.length (B.flatMap cells) ∧ (∀ g, v.ownBlock = some g → X g) ∧ ∀ i (h : i < B.length) (h' : i < L.length), el B[i] L[i]
abbrev SbP := (Nat → Prop) → World → Value → Nat → Prop
def CpV (S : SbP) (X : Nat → Prop) (w : World) (v : Value) (a : Cp) : Prop := RowV X w 94 3 sbc (S X w) v a
def CxV (S : SbP) (X : Nat → Prop) (w : World) (v : Value) (a : Cx) : Prop := RowV X w 83 6 cmc (CpV S X w) v a
def MdV (S : SbP) (X : Nat → Prop) (w : World) (v : Value) (a : Md) : Prop := RowV X w 48 1 one (CxV S X w) v a
def Sb0 : SbP := fun X w x c => c = 0 ∧ ∃ p, x = ifP p ∧ X p ∧ w.rangeAt p 0 pcl
def Sb1 : SbP := fun X w x c => Sb0 X w x c ∨ ∃ p v M0 k, x = ifL p ∧ X p ∧ w.rangeAt p 0 (ilc v (k : Nat)) ∧ k < 256 ∧ MdV Sb0 X w v M0 ∧ ((c = 256 + k ∧ M0 = []) ∨ (c = 512 + k ∧ M0 = [[[0]]]))
/-! other worlds -/
section
variable {X Y : Nat → Prop} {w w' : World}
/-- what X names is as it was, and Y names it too -/
def To (X : Nat → Prop) (w : World) (Y : Nat → Prop) (w' : World) : Prop := ∀ b, X b → Y b ∧ w'.heap[b]? = w.heap[b]?
theorem rg_ag {g o : Nat} {cs : List Value} (hg : w'.heap[g]? = w.heap[g]?) (h : w.rangeAt g o cs) : w'.rangeAt g o cs := fun j v hv => by
  rw [World.cell?_of_block (a := ⟨g, o + j, none⟩) hg]; exact h j v hv
theorem cell_ag {g o : Nat} {v : Value} (hg : w'.heap[g]? = w.heap[g]?) (h : w.cell? ⟨g, o, none⟩ = some v) : w'.cell? ⟨g, o, none⟩ = some v := by
  rw [World.cell?_of_block (a := ⟨g, o, none⟩) hg]; exact h
theorem own_ag {B n s : Nat} {e : TypeId} {v : Value} {xs : List Value} (h : w.ownsRow B e s v n xs) (hg : ∀ g, v.ownBlock = some g → w'.heap[g]? = w.heap[g]?) : w'.ownsRow B e s v n xs := by
  refine ⟨h.1, h.2.imp id ?_⟩
  rintro ⟨g, cap, cur, rfl, hb, hh, r⟩
  exact ⟨g, cap, cur, rfl, hb, (hg g rfl).trans hh, r⟩
theorem own_zero {B n s : Nat} {e : TypeId} {v : Value} {xs : List Value} (h : w.ownsRow B e s v n xs) : w.ownsRow 0 e s v n xs := own_mono h (Nat.zero_le _)
theorem RowV.to {α β : Type} {t : TypeId} {s : Nat} {cells : β → List Value} {el el' : β → α → Prop} {v : Value} {L : List α} (h : RowV X w t s cells el v L) (ht : To X w Y w') (hel : ∀ x a, el x a → el' x a) : RowV Y w' t s cells el' v L := by
  obtain ⟨B, h1, h2, h3, h4⟩ := h
  exact ⟨B, h1, own_ag h2 (fun g hg => (ht g (h3 g hg)).2), fun g hg => (ht g (h3 g hg)).1, fun i a b => hel _ _ (h4 i a b)⟩
/-- a way to read subclass selectors that looks at its own blocks alone -/
def Loc (S : SbP) : Prop := ∀ (X Y : Nat → Prop) (w w' : World) (x : Value) (c : Nat), To X w Y w' → S X w x c → S Y w' x c
theorem CpV.to {S : SbP} (hS : Loc S) {v : Value} {a : Cp} (h : CpV S X w v a) (ht : To X w Y w') : CpV S Y w' v a := RowV.to h ht (fun _ _ => hS _ _ _ _ _ _ ht)
theorem CxV.to {S : SbP} (hS : Loc S) {v : Value} {a : Cx} (h : CxV S X w v a) (ht : To X w Y w') : CxV S Y w' v a := RowV.to h ht (fun _ _ h => CpV.to hS h ht)
theorem MdV.to {S : SbP} (hS : Loc S) {v : Value} {a : Md} (h : MdV S X w v a) (ht : To X w Y w') : MdV S Y w' v a := RowV.to h ht (fun _ _ h => CxV.to hS h ht)
theorem loc0 : Loc Sb0 := fun X Y w w' x c ht h => by
  obtain ⟨h1, p, h2, h3, h4⟩ := h
  exact ⟨h1, p, h2, (ht p h3).1, rg_ag (ht p h3).2 h4⟩
theorem loc1 : Loc Sb1 := fun X Y w w' x c ht h => by
  rcases h with h | ⟨p, v, M0, k, h1, h2, h3, h4, h5, h6⟩
  · exact .inl (loc0 _ _ _ _ _ _ ht h)
  · exact .inr ⟨p, v, M0, k, h1, (ht p h2).1, rg_ag (ht p h2).2 h3, h4, MdV.to loc0 h5 ht, h6⟩
theorem To.below (hX : ∀ b, X b → b < w.heap.size) (hb : Below w.heap.size w w') : To X w X w' := fun b h => ⟨h, hb.block b (hX b h)⟩
theorem To.same (h : ∀ b, X b → Y b) : To X w Y w := fun b hb => ⟨h b hb, rfl⟩
end
theorem flat_len {α : Type} (f : α → List Value) {s : Nat} (hs : ∀ x, (f x).length = s) : ∀ L : List α, (L.flatMap f).length = L.length * s
  | [] => by simp
  | x :: r => by rw [List.flatMap_cons, List.length_append, flat_len f hs r, hs, List.length_cons, Nat.add_mul]; omega
theorem flat_at {α : Type} (f : α → List Value) {s : Nat} (hs : ∀ x, (f x).length = s) : ∀ (L : List α) (i j : Nat) (h : i < L.length), j < s → (L.flatMap f)[i * s + j]? = (f L[i])[j]?
  | [], _, _, h, _ => absurd h (by simp)
  | x :: r, 0, j, h, hj => by
    rw [List.flatMap_cons, List.getElem?_append_left (by rw [hs]; omega)]
    simp
  | x :: r, i + 1, j, h, hj => by
    rw [List.flatMap_cons, List.getElem?_append_right (by rw [hs, Nat.add_mul]; omega), hs, show (i + 1) * s + j - s = i * s + j by rw [Nat.add_mul]; omega, flat_at f hs r i j (by simpa using h) hj]
    simp
theorem own_slice {w : World} {B n s : Nat} {e : TypeId} {v : Value} {xs : List Value} (h : w.ownsRow B e s v n xs) : ∃ a c, v = .slice a n c := by
  rcases h.2 with ⟨rfl, h0⟩ | ⟨g, cap, cur, rfl, _⟩
  · exact ⟨none, 0, by rw [h0]⟩
  · exact ⟨_, _, rfl⟩
/-- a row at its element i -/
theorem RowV.at {α β : Type} {X : Nat → Prop} {w : World} {t : TypeId} {s : Nat} {cells : β → List Value} {el : β → α → Prop} {v : Value} {L : List α} (h : RowV X w t s cells el v L) (hs : ∀ x, (cells x).length = s) {i : Nat} (hi : i < L.length) :
    ∃ g c x, v = .slice (some ⟨g, 0, none⟩) L.length c ∧ X g ∧ w.rangeAt g (i * s) (cells x) ∧ el x L[i] := by
  obtain ⟨B, h1, h2, h3, h4⟩ := h
  obtain ⟨g, c, rfl, -, -⟩ := h2.form (by omega)
  refine ⟨g, c, B[i]'(by omega), rfl, h3 g rfl, fun j u hj => ?_, h4 i (by omega) hi⟩
  have hj2 : j < s := by rw [← hs (B[i]'(by omega))]; exact (List.getElem?_eq_some_iff.1 hj).1
  have hlt : i * s + j < L.length * s := by
    have : (i + 1) * s ≤ L.length * s := Nat.mul_le_mul_right _ (by omega)
    rw [Nat.add_mul, Nat.one_mul] at this
    omega
  rw [h2.cellAt _ hlt, flat_at cells hs B i j (by omega) hj2]
  exact hj
theorem RowV.slice {α β : Type} {X : Nat → Prop} {w : World} {t : TypeId} {s : Nat} {cells : β → List Value} {el : β → α → Prop} {v : Value} {L : List α} (h : RowV X w t s cells el v L) : ∃ a c, v = .slice a L.length c := by
  obtain ⟨B, -, h2, -, -⟩ := h
  exact own_slice h2
/-! given lists of bytes -/
/-- a list of n bytes that reads as f, with noughts behind its end -/
def Bt (X : Nat → Prop) (w : World) (a : Option Addr) (n : Nat) (f : Nat → Nat) : Prop :=
  (∀ i, i < n → ∃ g o, a = some ⟨g, o, none⟩ ∧ X g ∧ w.cell? ⟨g, o + i, none⟩ = some (.int .u8 (f i : Nat))) ∧ (∀ i, f i < 256) ∧ ∀ i, n ≤ i → f i = 0
theorem Bt.to {X Y : Nat → Prop} {w w' : World} {a : Option Addr} {n : Nat} {f : Nat → Nat} (h : Bt X w a n f) (ht : To X w Y w') : Bt Y w' a n f :=
  ⟨fun i hi => by
    obtain ⟨g, o, e, hX, hc⟩ := h.1 i hi
    exact ⟨g, o, e, (ht g hX).1, cell_ag (ht g hX).2 hc⟩, h.2⟩
theorem u8_i64 (x : Nat) (h : x < 256) : IntKind.i64.wrap (x : Int) = (x : Int) := by
  simp [IntKind.wrap, IntKind.bits, IntKind.signed]
  omega
set_option maxRecDepth 100000 in
set_option maxHeartbeats 1000000 in
theorem at_any (X : Nat → Prop) (a : Option Addr) (n c : Nat) (f : Nat → Nat) (i : Nat) (w : World) (h : Bt X w a n f) :
    Calls Try.prog 15 #[.slice a n c, .int .i64 (i : Nat)] w (fun e w' => e = .returned (.int .i64 (f i : Nat)) ∧ w = w') := by
  have q0 : (0 : Int) ≤ i := by omega
  have hf := u8_i64 (f i) (h.2.1 i)
  by_cases hi : i < n
  · obtain ⟨g, o, rfl, -, hc⟩ := h.1 i hi
    have q1 : (i : Int) < n := by omega
    clear h
    go_enter Try.func15, Try.ntmps15
    go_wp2_with fail
    go_ret
    exact ⟨rfl, rfl⟩
  · have q1 : ¬ ((i : Int) < n) := by omega
    have hz := h.2.2 i (by omega)
    rw [hz]
    clear h hf
    go_enter Try.func15, Try.ntmps15
    go_wp2_with fail
    go_ret
    exact ⟨rfl, rfl⟩
end Go.Proofs.Ythokeojpmbdbmaa.Dr
