/-
  Selectors: what is given, what is built out of it, how both lie in memory.
-/
import Derived.Test.YtbpnmiedomchpaaSl
import Derived.Test.YtbpnmiedomchpaaPn
import Derived.Great.BuildSlice
import Derived.KernelRfl
import Derived.Deep.DeepCutAuto
import Derived.Deep.CutBlock
import Derived.LoopN
import Derived.Laws.Rows
namespace Go.Proofs.Ytbpnmiedomchpaa.Fg
open Go.ChangeShapes Go.WideShapes Go.ChangeAt Go.RowKit Rg
set_option linter.unusedVariables false
set_option linter.unusedSimpArgs false
/-! what is given -/
structure In where
  cb : Nat
  ty : Nat
  am : Nat
  N : List ByteArray
structure Sj where
  wr : Bool
  kd : Nat
  nm : ByteArray
  I : List In
structure Co where
  cb : Nat
  ty : Nat
  am : Nat
  S : List Sj
def wN (N : List ByteArray) : Nat := N.length + (N.map (·.size)).sum
def wI (I : List In) : Nat := I.length + (I.map fun i => wN i.N).sum
def wS (S : List Sj) : Nat := S.length + (S.map fun s => s.nm.size + wI s.I).sum
def wC (C : List Co) : Nat := C.length + (C.map fun c => wS c.S).sum
theorem sum_take {α : Type} (f : α → Nat) (l : List α) (k : Nat) (hk : k < l.length) : ((l.take (k + 1)).map f).sum = ((l.take k).map f).sum + f l[k] := by
  rw [List.take_succ_eq_append_getElem hk, List.map_append, List.sum_append_nat]
  simp
theorem sum_le {α : Type} (f : α → Nat) (l : List α) (k : Nat) : ((l.take k).map f).sum ≤ (l.map f).sum := by
  conv => rhs; rw [← List.take_append_drop k l]
  rw [List.map_append, List.sum_append_nat]
  omega
theorem sum_mem {α : Type} (f : α → Nat) {l : List α} {x : α} (h : x ∈ l) : f x ≤ (l.map f).sum := by
  obtain ⟨k, hk, rfl⟩ := List.mem_iff_getElem.1 h
  have h1 := sum_take f l k hk
  have h2 := sum_le f l (k + 1)
  omega
theorem sum_all {α : Type} (f : α → Nat) (l : List α) (n : Nat) (hn : n = l.length) : ((l.take n).map f).sum = (l.map f).sum := by
  rw [List.take_of_length_le (by omega)]
/-! selectors -/
structure Cp (σ : Type) where
  tp : Option ByteArray
  subs : List σ
  nest : Nat
  cb : Nat
  we : Bool
inductive Su where
  | bare (n : ByteArray)
  | wrap (k : Nat) (M : List (List (Cp ByteArray)))
def combN (c : Nat) : Nat := if c % 4 = 1 then 62 else if c % 4 = 2 then 43 else if c % 4 = 3 then 126 else 0
def kindN (k : Nat) : Nat := if k % 6 = 0 then 0 else if k % 6 = 1 then 3 else if k % 6 = 2 then 2 else if k % 6 = 3 then 4 else if k % 6 = 4 then 9 else 1
def letr (t : Nat) : ByteArray := ⟨#[97 + UInt8.ofNat ((t + 255) % 256 % 26)]⟩
def tyO (t : Nat) : Option ByteArray := if t = 0 then none else some (letr t)
def bIn (x : In) : Cp ByteArray := ⟨tyO x.ty, x.N, x.am, combN x.cb, false⟩
def bSj (s : Sj) : Su := if s.wr then .wrap (kindN s.kd) [s.I.map bIn] else .bare s.nm
def bCo (c : Co) : Cp Su := ⟨tyO c.ty, c.S.map bSj, c.am, combN c.cb, false⟩
theorem combN_lt (c : Nat) : combN c < 256 := by
  unfold combN
  split
  · omega
  · split
    · omega
    · split <;> omega
theorem kindN_lt (k : Nat) : kindN k < 256 := by
  unfold kindN
  repeat (first | omega | split)
/-! views: what can be read -/
abbrev ifP (p : Nat) : Value := .iface 122 (.pointer (some ⟨p, 0, none⟩))
abbrev ifL (p : Nat) : Value := .iface 126 (.pointer (some ⟨p, 0, none⟩))
def one (v : Value) : List Value := [v]
def sbc (x : Value) : List Value := [x, .int .i32 0, .int .i32 0]
def pcl (n : ByteArray) : List Value := [.string n, .slice none 0 0, .bool false]
def ilc (v : Value) (k : Nat) : List Value := [v, .string ⟨#[]⟩, .string ⟨#[]⟩, .int .u8 (k : Nat)]
def nsc (t : ByteArray) : List Value := [.pointer none, .string t, .int .i32 0, .int .i32 0, .int .u8 0]
structure Cv where
  tv : Value
  vs : Value
  vn : Value
  cb : Nat
  we : Bool
def Cv.cells (c : Cv) : List Value := [c.tv, c.vs, c.vn, .int .i32 0, .int .u8 (c.cb : Nat), .bool c.we]
def RW {α β : Type} (X : Nat → Prop) (w : World) (s : Nat) (cells : β → List Value) (el : β → α → Prop) (v : Value) (L : List α) : Prop :=
  ∃ a c, v = .slice a L.length c ∧ ∀ i (h : i < L.length), ∃ g o x, a = some ⟨g, o, none⟩ ∧ X g ∧ w.rangeAt g (o + i * s) (cells x) ∧ el x L[i]
def TyV (X : Nat → Prop) (w : World) (v : Value) : Option ByteArray → Prop
  | none => v = .pointer none
  | some t => ∃ p, v = .pointer (some ⟨p, 0, none⟩) ∧ X p ∧ w.rangeAt p 0 (nsc t)
def LcV (X : Nat → Prop) (w : World) (v : Value) (n : Nat) : Prop := ∃ a c, v = .slice a n c ∧ ∀ i, i < n → ∃ g o z, a = some ⟨g, o, none⟩ ∧ X g ∧ w.cell? ⟨g, o + i, none⟩ = some (.int .i32 z)
abbrev El (σ : Type) := (Nat → Prop) → World → Value → σ → Prop
def CpV {σ : Type} (e : El σ) (X : Nat → Prop) (w : World) (x : Cv) (c : Cp σ) : Prop := TyV X w x.tv c.tp ∧ RW X w 3 sbc (e X w) x.vs c.subs ∧ LcV X w x.vn c.nest ∧ x.cb = c.cb ∧ x.we = c.we ∧ c.cb < 256
def CxV {σ : Type} (e : El σ) (X : Nat → Prop) (w : World) (v : Value) (M : List (Cp σ)) : Prop := RW X w 6 Cv.cells (CpV e X w) v M
def MdV {σ : Type} (e : El σ) (X : Nat → Prop) (w : World) (v : Value) (L : List (List (Cp σ))) : Prop := RW X w 1 one (CxV e X w) v L
def e0 : El ByteArray := fun X w x n => ∃ p, x = ifP p ∧ X p ∧ w.rangeAt p 0 (pcl n)
def e1 : El Su := fun X w x c => match c with
  | .bare n => e0 X w x n
  | .wrap k M => ∃ p v, x = ifL p ∧ X p ∧ w.rangeAt p 0 (ilc v k) ∧ k < 256 ∧ MdV e0 X w v M
/-! what is given, in memory -/
def NmV (X : Nat → Prop) (w : World) (v : Value) (N : List ByteArray) : Prop := RW X w 1 (fun s => [.string s]) (fun s n => s = n) v N
structure Gi where
  i : In
  v : Value
structure Gs where
  s : Sj
  v : Value
structure Gc where
  c : Co
  v : Value
def Gi.cells (x : Gi) : List Value := [.int .u8 (x.i.cb : Nat), .int .u8 (x.i.ty : Nat), .int .u8 (x.i.am : Nat), x.v]
def Gs.cells (x : Gs) : List Value := [.bool x.s.wr, .int .u8 (x.s.kd : Nat), .string x.s.nm, x.v]
def Gc.cells (x : Gc) : List Value := [.int .u8 (x.c.cb : Nat), .int .u8 (x.c.ty : Nat), .int .u8 (x.c.am : Nat), x.v]
def GiE (X : Nat → Prop) (w : World) (x : Gi) (i : In) : Prop := x.i = i ∧ i.cb < 256 ∧ i.ty < 256 ∧ i.am < 256 ∧ NmV X w x.v i.N
def InV (X : Nat → Prop) (w : World) (v : Value) (I : List In) : Prop := RW X w 4 Gi.cells (GiE X w) v I
def GsE (X : Nat → Prop) (w : World) (x : Gs) (s : Sj) : Prop := x.s = s ∧ s.kd < 256 ∧ InV X w x.v s.I
def SjV (X : Nat → Prop) (w : World) (v : Value) (S : List Sj) : Prop := RW X w 4 Gs.cells (GsE X w) v S
def GcE (X : Nat → Prop) (w : World) (x : Gc) (c : Co) : Prop := x.c = c ∧ c.cb < 256 ∧ c.ty < 256 ∧ c.am < 256 ∧ SjV X w x.v c.S
def CoV (X : Nat → Prop) (w : World) (v : Value) (C : List Co) : Prop := RW X w 4 Gc.cells (GcE X w) v C
/-! other worlds -/
section
variable {X Y : Nat → Prop} {w w' : World}
/-- what X names is as it was, and Y names it too -/
def To (X : Nat → Prop) (w : World) (Y : Nat → Prop) (w' : World) : Prop := ∀ b, X b → Y b ∧ w'.heap[b]? = w.heap[b]?
theorem rg_ag {g o : Nat} {cs : List Value} (hg : w'.heap[g]? = w.heap[g]?) (h : w.rangeAt g o cs) : w'.rangeAt g o cs := fun j v hv => by
  rw [World.cell?_of_block (a := ⟨g, o + j, none⟩) hg]; exact h j v hv
theorem th_ag {g o n : Nat} (hg : w'.heap[g]? = w.heap[g]?) (h : w.there g o n) : w'.there g o n := fun j hj => ⟨by rw [World.cell?_of_block (a := ⟨g, o + j, none⟩) hg]; exact (h j hj).1, by rw [World.frozen?_of_block (a := ⟨g, o + j, none⟩) hg]; exact (h j hj).2⟩
theorem cell_ag {g o : Nat} {v : Value} (hg : w'.heap[g]? = w.heap[g]?) (h : w.cell? ⟨g, o, none⟩ = some v) : w'.cell? ⟨g, o, none⟩ = some v := by
  rw [World.cell?_of_block (a := ⟨g, o, none⟩) hg]; exact h
theorem own_ag {B n s : Nat} {e : TypeId} {v : Value} {xs : List Value} (h : w.ownsRow B e s v n xs) (hg : ∀ g, v.ownBlock = some g → w'.heap[g]? = w.heap[g]?) : w'.ownsRow B e s v n xs := by
  refine ⟨h.1, h.2.imp id ?_⟩
  rintro ⟨g, cap, cur, rfl, hb, hh, r⟩
  exact ⟨g, cap, cur, rfl, hb, (hg g rfl).trans hh, r⟩
theorem To.below (hX : ∀ b, X b → b < w.heap.size) (hb : Below w.heap.size w w') : To X w X w' := fun b h => ⟨h, hb.block b (hX b h)⟩
theorem To.same (h : ∀ b, X b → Y b) : To X w Y w := fun b hb => ⟨h b hb, rfl⟩
theorem RW.to {α β : Type} {s : Nat} {cells : β → List Value} {el el' : β → α → Prop} {v : Value} {L : List α} (h : RW X w s cells el v L) (ht : To X w Y w') (hel : ∀ x a, el x a → el' x a) : RW Y w' s cells el' v L := by
  obtain ⟨a, c, h1, h2⟩ := h
  refine ⟨a, c, h1, fun i hi => ?_⟩
  obtain ⟨g, o, x, h3, h4, h5, h6⟩ := h2 i hi
  exact ⟨g, o, x, h3, (ht g h4).1, rg_ag (ht g h4).2 h5, hel _ _ h6⟩
theorem TyV.to {v : Value} {t : Option ByteArray} (h : TyV X w v t) (ht : To X w Y w') : TyV Y w' v t := by
  cases t with
  | none => exact h
  | some t =>
    obtain ⟨p, h1, h2, h3⟩ := h
    exact ⟨p, h1, (ht p h2).1, rg_ag (ht p h2).2 h3⟩
theorem LcV.to {v : Value} {n : Nat} (h : LcV X w v n) (ht : To X w Y w') : LcV Y w' v n := by
  obtain ⟨a, c, h1, h2⟩ := h
  refine ⟨a, c, h1, fun i hi => ?_⟩
  obtain ⟨g, o, z, h3, h4, h5⟩ := h2 i hi
  exact ⟨g, o, z, h3, (ht g h4).1, cell_ag (ht g h4).2 h5⟩
/-- a way to read subclass selectors that looks at its own blocks alone -/
def Loc {σ : Type} (e : El σ) : Prop := ∀ (X Y : Nat → Prop) (w w' : World) (x : Value) (c : σ), To X w Y w' → e X w x c → e Y w' x c
theorem CpV.to {σ : Type} {e : El σ} (he : Loc e) {x : Cv} {c : Cp σ} (h : CpV e X w x c) (ht : To X w Y w') : CpV e Y w' x c :=
  ⟨h.1.to ht, h.2.1.to ht (fun _ _ => he _ _ _ _ _ _ ht), h.2.2.1.to ht, h.2.2.2⟩
theorem CxV.to {σ : Type} {e : El σ} (he : Loc e) {v : Value} {M : List (Cp σ)} (h : CxV e X w v M) (ht : To X w Y w') : CxV e Y w' v M := RW.to h ht (fun _ _ h => CpV.to he h ht)
theorem MdV.to {σ : Type} {e : El σ} (he : Loc e) {v : Value} {M : List (List (Cp σ))} (h : MdV e X w v M) (ht : To X w Y w') : MdV e Y w' v M := RW.to h ht (fun _ _ h => CxV.to he h ht)
theorem loc0 : Loc e0 := fun X Y w w' x c ht h => by
  obtain ⟨p, h1, h2, h3⟩ := h
  exact ⟨p, h1, (ht p h2).1, rg_ag (ht p h2).2 h3⟩
theorem loc1 : Loc e1 := fun X Y w w' x c ht h => by
  cases c with
  | bare n => exact loc0 _ _ _ _ _ _ ht h
  | wrap k M =>
    obtain ⟨p, v, h1, h2, h3, h4, h5⟩ := h
    exact ⟨p, v, h1, (ht p h2).1, rg_ag (ht p h2).2 h3, h4, h5.to loc0 ht⟩
theorem NmV.to {v : Value} {N : List ByteArray} (h : NmV X w v N) (ht : To X w Y w') : NmV Y w' v N := RW.to h ht (fun _ _ h => h)
theorem GiE.to {x : Gi} {i : In} (h : GiE X w x i) (ht : To X w Y w') : GiE Y w' x i := ⟨h.1, h.2.1, h.2.2.1, h.2.2.2.1, h.2.2.2.2.to ht⟩
theorem InV.to {v : Value} {I : List In} (h : InV X w v I) (ht : To X w Y w') : InV Y w' v I := RW.to h ht (fun _ _ h => h.to ht)
theorem GsE.to {x : Gs} {s : Sj} (h : GsE X w x s) (ht : To X w Y w') : GsE Y w' x s := ⟨h.1, h.2.1, h.2.2.to ht⟩
theorem SjV.to {v : Value} {S : List Sj} (h : SjV X w v S) (ht : To X w Y w') : SjV Y w' v S := RW.to h ht (fun _ _ h => h.to ht)
theorem GcE.to {x : Gc} {c : Co} (h : GcE X w x c) (ht : To X w Y w') : GcE Y w' x c := ⟨h.1, h.2.1, h.2.2.1, h.2.2.2.1, h.2.2.2.2.to ht⟩
theorem CoV.to {v : Value} {C : List Co} (h : CoV X w v C) (ht : To X w Y w') : CoV Y w' v C := RW.to h ht (fun _ _ h => h.to ht)
end
section
variable {α β : Type} {X : Nat → Prop} {w : World} {s : Nat} {cells : β → List Value} {el : β → α → Prop} {v : Value} {L : List α}
theorem RW.slice (h : RW X w s cells el v L) : ∃ a c, v = .slice a L.length c := by
  obtain ⟨a, c, h1, -⟩ := h
  exact ⟨a, c, h1⟩
theorem RW.at (h : RW X w s cells el v L) {i : Nat} (hi : i < L.length) : ∃ g o c x, v = .slice (some ⟨g, o, none⟩) L.length c ∧ X g ∧ w.rangeAt g (o + i * s) (cells x) ∧ el x L[i] := by
  obtain ⟨a, c, h1, h2⟩ := h
  obtain ⟨g, o, x, rfl, h4, h5, h6⟩ := h2 i hi
  exact ⟨g, o, c, x, h1, h4, h5, h6⟩
theorem RW.nil (X : Nat → Prop) (w : World) (s : Nat) (cells : β → List Value) (el : β → α → Prop) (a : Option Addr) (c : Nat) : RW X w s cells el (.slice a 0 c) [] := ⟨a, c, rfl, fun i hi => absurd hi (Nat.not_lt_zero _)⟩
/-- from the k-th on -/
theorem RW.drop {a : Option Addr} {n c : Nat} (h : RW X w s cells el (.slice a n c) L) {k g o : Nat} (hk : k ≤ n) (ha : a = some ⟨g, o, none⟩) (c' : Nat) : RW X w s cells el (.slice (some ⟨g, o + k * s, none⟩) (n - k) c') (L.drop k) := by
  obtain ⟨a', c'', h1, h2⟩ := h
  simp only [Value.slice.injEq] at h1
  obtain ⟨rfl, hn, -⟩ := h1
  refine ⟨_, c', by rw [List.length_drop, hn], fun i hi => ?_⟩
  rw [List.length_drop] at hi
  obtain ⟨g', o', x, h3, h4, h5, h6⟩ := h2 (k + i) (by omega)
  rw [ha] at h3
  obtain ⟨rfl, rfl⟩ : g = g' ∧ o = o' := by simpa using h3
  refine ⟨g, o + k * s, x, rfl, h4, ?_, by simpa using h6⟩
  rwa [Nat.add_mul, ← Nat.add_assoc] at h5
/-- the first k -/
theorem RW.take {a : Option Addr} {n c : Nat} (h : RW X w s cells el (.slice a n c) L) {k : Nat} (hk : k ≤ n) (c' : Nat) : RW X w s cells el (.slice a k c') (L.take k) := by
  obtain ⟨a', c'', h1, h2⟩ := h
  simp only [Value.slice.injEq] at h1
  obtain ⟨rfl, hn, -⟩ := h1
  refine ⟨_, c', by rw [List.length_take]; congr 1; omega, fun i hi => ?_⟩
  rw [List.length_take] at hi
  obtain ⟨g', o', x, h3, h4, h5, h6⟩ := h2 i (by omega)
  exact ⟨g', o', x, h3, h4, h5, by simpa using h6⟩
end
end Go.Proofs.Ytbpnmiedomchpaa.Fg
