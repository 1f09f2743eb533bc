/-
  The state of the flattening: the results' row, the compound at work.
-/
import Derived.Test.YtbpnmiedomchpaaFn
namespace Go.Proofs.Ytbpnmiedomchpaa.Fg
open Go.ChangeShapes Go.WideShapes Go.ChangeAt Go.RowKit Rg
set_option linter.unusedVariables false
set_option linter.unusedSimpArgs false
theorem loc1C : LocE (CpV e1) := fun X Y w w' x a ht h => CpV.to loc1 h ht
/-- what may be read: of the old blocks those in P, and the new ones -/
def XB (D0 : Nat) (P : Nat → Prop) (W : World) (y : Nat) : Prop := (y < D0 ∧ P y) ∨ (D0 < y ∧ y < W.heap.size)
/-- a compound that is done with -/
def OKC (Q : Su → Prop) (c : Cp Su) : Prop := lgC c = false ∧ (∀ s ∈ c.subs, Q s) ∧ c.nest ≤ 1048576
def OKL (Q : Su → Prop) (c : Cp Su) : Prop := OKC Q c ∧ c.subs.length ≤ 4398046511104
/-- the results so far -/
structure Rs (Q : Su → Prop) (D0 : Nat) (w1 : World) (P E ex : Nat → Prop) (rv : Value) (L : List (Cp Su)) (W : World) : Prop where
  bl : Bld 37 6 Cv.cells (CpV e1) (D0 + 1) (fun y => XB D0 P W y ∧ ¬ ex y) rv L W
  kp : Fr E w1 W
  ok : ∀ c ∈ L, OKL Q c
  w1 : w1.heap.size = D0 + 1
section
variable {Q : Su → Prop} {D0 : Nat} {w1 W W' : World} {P P' E E' F ex ex' : Nat → Prop} {rv v' : Value} {L ls : List (Cp Su)}
theorem XB.lt {y : Nat} (h : XB D0 P W y) (hs : D0 ≤ W.heap.size) : y < W.heap.size := by
  rcases h with h | h
  · omega
  · exact h.2
theorem XB.mono {y : Nat} (h : XB D0 P W y) (hp : P y → P' y) (hs : W.heap.size ≤ W'.heap.size) : XB D0 P' W' y := by
  rcases h with h | h
  · exact .inl ⟨h.1, hp h.2⟩
  · exact .inr ⟨h.1, Nat.lt_of_lt_of_le h.2 hs⟩
theorem Rs.sz (h : Rs Q D0 w1 P E ex rv L W) : D0 < W.heap.size := by
  have := h.kp.size; have := h.w1; omega
theorem Rs.fr (h : Rs Q D0 w1 P E ex rv L W) (hf : Fr F W W') (h1 : ∀ y, XB D0 P W y → ¬ ex y → ¬ F y ∧ XB D0 P' W' y ∧ ¬ ex' y) (h2 : ∀ y, rv.ownBlock = some y → ¬ F y) (h3 : ∀ y, y < w1.heap.size → F y → E' y) (h4 : ∀ y, E y → E' y) : Rs Q D0 w1 P' E' ex' rv L W' := by
  refine ⟨h.bl.to loc1C (fun y hy => ⟨(h1 y hy.1 hy.2).2, hf.block y (hy.1.lt (Nat.le_of_lt h.sz)) (h1 y hy.1 hy.2).1⟩) (fun y hy => hf.block y (h.bl.lt hy).2 (h2 y hy)), ?_, h.ok, h.w1⟩
  exact ⟨hf.os.trans h.kp.os, hf.tape.trans h.kp.tape, hf.output.trans h.kp.output, Nat.le_trans h.kp.size hf.size, fun k hk hn => (hf.block k (Nat.lt_of_lt_of_le hk h.kp.size) (fun q => hn (h3 k hk q))).trans (h.kp.block k hk (fun q => hn (h4 k q)))⟩
theorem Rs.keep (h : Rs Q D0 w1 P E ex rv L W) (hb : Below W.heap.size W W') : Rs Q D0 w1 P E ex rv L W' :=
  h.fr (F := fun _ => False) (Fr.new hb) (fun y hy he => ⟨id, hy.mono id hb.size, he⟩) (fun _ _ => id) (fun _ _ q => q.elim) (fun _ => id)
theorem Rs.mono (h : Rs Q D0 w1 P E ex rv L W) (hp : ∀ y, P y → P' y) (he : ∀ y, E y → E' y) (hx : ∀ y, ex' y → ex y) : Rs Q D0 w1 P' E' ex' rv L W :=
  h.fr (F := fun _ => False) (Fr.refl _ _) (fun y hy hn => ⟨id, hy.mono (hp y) (Nat.le_refl _), fun q => hn (hx y q)⟩) (fun _ _ => id) (fun _ _ q => q.elim) he
/-- results are appended -/
theorem Rs.pushN (h : Rs Q D0 w1 P E ex rv L W) {B xs : List Cv} (h1 : B.length = L.length) (h3 : ∀ i (p : i < B.length) (q : i < L.length), CpV e1 (fun y => (XB D0 P W y ∧ ¬ ex y) ∧ some y ≠ rv.ownBlock) W B[i] L[i])
    (hlx : xs.length = ls.length) (hx : ∀ i (p : i < xs.length) (q : i < ls.length), CpV e1 (fun y => (XB D0 P W y ∧ ¬ ex y) ∧ some y ≠ rv.ownBlock) W xs[i] ls[i]) (hok : ∀ c ∈ ls, OKL Q c)
    (ho : W'.ownsRow (D0 + 1) 37 6 v' (L.length + ls.length) (B.flatMap Cv.cells ++ xs.flatMap Cv.cells)) (hg : W.grownBy W' rv.ownBlock) (hv : v'.ownBlock = rv.ownBlock ∨ ∀ y, v'.ownBlock = some y → W.heap.size ≤ y) : Rs Q D0 w1 P E ex v' (L ++ ls) W' := by
  refine ⟨Bld.pushN loc1C h1 h3 hlx hx (fun y hy => hy.1.lt (Nat.le_of_lt h.sz)) (fun y hy => ⟨hy.1.mono id hg.size, hy.2⟩) ho hg hv, ?_, fun c hc => ?_, h.w1⟩
  · have hown : ∀ y, rv.ownBlock = some y → D0 + 1 ≤ y := fun y hy => (h.bl.lt hy).1
    exact ⟨hg.os.trans h.kp.os, hg.tape.trans h.kp.tape, hg.output.trans h.kp.output, Nat.le_trans h.kp.size hg.size, fun k hk hn => (hg.block k (Nat.lt_of_lt_of_le hk h.kp.size) (fun q => by have := hown k q.symm; have := h.w1; omega)).trans (h.kp.block k hk hn)⟩
  · rcases List.mem_append.1 hc with hc | hc
    · exact h.ok c hc
    · exact hok c hc
end
/-- the results and the compound at work, in its box at b -/
structure Fs (Q : Su → Prop) (D0 : Nat) (w1 : World) (P E : Nat → Prop) (rv : Value) (L : List (Cp Su)) (b : Nat) (x : Cv) (c : Cp Su) (W : World) : Prop where
  rs : Rs Q D0 w1 P E (fun y => y = b ∨ some y = x.vs.ownBlock) rv L W
  tg : Tg b x c (fun y => XB D0 P W y ∧ y ≠ b ∧ some y ≠ rv.ownBlock) W
  so : ∀ y, x.vs.ownBlock = some y → D0 < y ∨ (y < D0 ∧ E y)
  ro : ∀ y, rv.ownBlock = some y → some y ≠ x.vs.ownBlock ∧ y ≠ b
  bD : D0 < b
  ok : OKC Q c
theorem lgC_app {c : Cp Su} {l : List Su} (h : lgC c = false) (h2 : l.any lgU = false) : lgC { c with subs := c.subs ++ l } = false := by
  unfold lgC at h ⊢
  rw [List.any_append, h, h2]
  rfl
section
variable {Q : Su → Prop} {D0 : Nat} {w1 W W' : World} {P P' E E' : Nat → Prop} {rv : Value} {L : List (Cp Su)} {b : Nat} {x : Cv} {c : Cp Su}
theorem Fs.bs (h : Fs Q D0 w1 P E rv L b x c W) : b < W.heap.size := h.tg.bs
theorem Fs.keep (h : Fs Q D0 w1 P E rv L b x c W) (hb : Below W.heap.size W W') : Fs Q D0 w1 P E rv L b x c W' := by
  refine ⟨h.rs.keep hb, h.tg.keep hb (fun y hy => ⟨hy.1.mono id hb.size, hy.2⟩) (fun y hy => ⟨hy.1.lt (Nat.le_trans (Nat.le_of_lt h.rs.sz) hb.size), hy.2.1⟩), h.so, h.ro, h.bD, h.ok⟩
theorem Fs.up (h : Fs Q D0 w1 P E rv L b x c W) (hp : ∀ y, P y → P' y) (he : ∀ y, E y → E' y) : Fs Q D0 w1 P' E' rv L b x c W :=
  ⟨h.rs.mono hp he (fun _ => id), h.tg.fr (E := fun _ => False) (Fr.refl _ _) id (fun _ _ => id) (fun _ _ => id) (fun y hy => ⟨hy.1.mono (hp y) (Nat.le_refl _), hy.2⟩) (fun y hy => ⟨hy.1.lt (Nat.le_of_lt h.rs.sz), hy.2.1⟩), fun y hy => (h.so y hy).imp id (fun q => ⟨q.1, he y q.2⟩), h.ro, h.bD, h.ok⟩
/-- the compound's row has changed by F, the box has a new row -/
theorem Fs.tgt (h : Fs Q D0 w1 P E rv L b x c W) {x' : Cv} {c' : Cp Su} (ht : Tg b x' c' (fun y => XB D0 P W' y ∧ y ≠ b ∧ some y ≠ rv.ownBlock) W') (hf : Fr (fun k => k = b ∨ some k = x.vs.ownBlock) W W') (hv : x'.vs.ownBlock = x.vs.ownBlock ∨ ∀ y, x'.vs.ownBlock = some y → W.heap.size ≤ y) (hok : OKC Q c') : Fs Q D0 w1 P E rv L b x' c' W' := by
  have hsz := h.rs.sz
  refine ⟨h.rs.fr hf (fun y hy hn => ⟨hn, hy.mono id hf.size, fun q => ?_⟩) (fun y hy q => ?_) (fun y hy q => ?_) (fun _ => id), ht, fun y hy => ?_, fun y hy => ?_, h.bD, hok⟩
  · rcases q with q | q
    · exact hn (.inl q)
    · rcases hv with hv | hv
      · exact hn (.inr (by rw [← hv]; exact q))
      · have := hv y q.symm; have := hy.lt (Nat.le_of_lt hsz); omega
  · rcases q with q | q
    · exact (h.ro y hy).2 q
    · exact (h.ro y hy).1 q
  · have hw := h.rs.w1
    rcases q with q | q
    · have := h.bD; omega
    · rcases h.so y q.symm with h2 | h2
      · omega
      · exact h2.2
  · rcases hv with hv | hv
    · exact h.so y (by rw [← hv]; exact hy)
    · have := hv y hy; left; omega
  · refine ⟨fun q => ?_, (h.ro y hy).2⟩
    rcases hv with hv | hv
    · exact (h.ro y hy).1 (by rw [← hv]; exact q)
    · have := hv y q.symm; have := (h.rs.bl.lt hy).2; omega
/-- subclass selectors are appended -/
theorem Fs.pushN (h : Fs Q D0 w1 P E rv L b x c W) {v' : Value} {B xs : List Value} {ls : List Su} (h1 : B.length = c.subs.length) (h3 : ∀ i (p : i < B.length) (q : i < c.subs.length), e1 (fun y => (XB D0 P W y ∧ y ≠ b ∧ some y ≠ rv.ownBlock) ∧ some y ≠ x.vs.ownBlock) W B[i] c.subs[i])
    (hlx : xs.length = ls.length) (hx : ∀ i (p : i < xs.length) (q : i < ls.length), e1 (fun y => (XB D0 P W y ∧ y ≠ b ∧ some y ≠ rv.ownBlock) ∧ some y ≠ x.vs.ownBlock) W xs[i] ls[i]) (ho : W'.ownsRow 0 119 3 v' (c.subs.length + ls.length) (B.flatMap sbc ++ xs.flatMap sbc)) (hg : W.grownBy W' x.vs.ownBlock)
    (hv : v'.ownBlock = x.vs.ownBlock ∨ ∀ y, v'.ownBlock = some y → W.heap.size ≤ y) (hl : ls.any lgU = false) (hq : ∀ s ∈ ls, Q s) : Fs Q D0 w1 P E rv L b { x with vs := v' } { c with subs := c.subs ++ ls } (W'.setCell ⟨b, 1, none⟩ v') := by
  have hz : (W'.setCell ⟨b, 1, none⟩ v').heap.size = W'.heap.size := size_set
  refine h.tgt (h.tg.pushN h1 h3 hlx hx ho hg hv (fun y hy => ⟨hy.1.mono id (by rw [hz]; exact hg.size), hy.2⟩) (fun y hy => ⟨?_, hy.2.1⟩)) ((Fr.ofGrown hg (fun k q => .inr q)).trans (Fr.set W' (.inl rfl))) hv ⟨lgC_app h.ok.1 hl, fun s hs => ?_, h.ok.2.2⟩
  · have := hy.1.lt (by rw [hz]; exact Nat.le_trans (Nat.le_of_lt h.rs.sz) hg.size)
    rwa [hz] at this
  · rcases List.mem_append.1 hs with hs | hs
    · exact h.ok.2.1 s hs
    · exact hq s hs
theorem Fs.merge (h : Fs Q D0 w1 P E rv L b x c W) {c2 : Cp ByteArray} (hm : MgP b x c c2 (fun y => XB D0 P W y ∧ y ≠ b ∧ some y ≠ rv.ownBlock) W W') (hok : OKC Q (mg c c2)) : ∃ x', Fs Q D0 w1 P E rv L b x' (mg c c2) W' := by
  obtain ⟨x', h1, h2, h3⟩ := hm
  have hsz := h.rs.sz
  refine ⟨x', h.tgt (h1.fr (E := fun _ => False) (Fr.refl _ _) id (fun _ _ => id) (fun _ _ => id) (fun y hy => ?_) (fun y hy => ⟨hy.1.lt (by have := h3.size; omega), hy.2.1⟩)) h3 h2 hok⟩
  rcases hy with hy | hy
  · exact ⟨hy.1.mono id h3.size, hy.2⟩
  · refine ⟨.inr ⟨by omega, hy.2⟩, by have := h.bs; omega, fun q => ?_⟩
    have := (h.rs.bl.lt q.symm).2
    omega
/-- the compound as a view -/
theorem Tg.view {Z X : Nat → Prop} (h : Tg b x c Z W) (hX : ∀ y, Z y → X y) (ho : ∀ y, x.vs.ownBlock = some y → X y) : CpV e1 X W x c :=
  ⟨h.ty.to (To.same fun y hy => hX y hy.1), Bld.view (s := 3) (cells := sbc) loc1E (fun _ => rfl) h.sub hX ho, h.lc.to (To.same fun y hy => hX y hy.1), h.cb, h.we, h.lt⟩
theorem Fs.cv (h : Fs Q D0 w1 P E rv L b x c W) (hpe : ∀ y, E y → P y) : CpV e1 (fun y => (XB D0 P W y ∧ ¬ y = b) ∧ some y ≠ rv.ownBlock) W x c :=
  h.tg.view (fun y hy => ⟨⟨hy.1, hy.2.1⟩, hy.2.2⟩) (fun y hy => ⟨⟨(h.so y hy).elim (fun q => .inr ⟨q, (h.tg.sub.lt hy).2⟩) (fun q => .inl ⟨q.1, hpe y q.2⟩), h.tg.own y hy⟩, fun q => (h.ro y q.symm).1 hy.symm⟩)
/-- the compound is let go -/
theorem Fs.free (h : Fs Q D0 w1 P E rv L b x c W) : Rs Q D0 w1 P E (fun y => y = b) rv L W := h.rs.mono (fun _ => id) (fun _ => id) (fun _ q => .inl q)
theorem Rs.loose (h : Rs Q D0 w1 P E (fun y => y = b) rv L W) : Rs Q D0 w1 P E (fun _ => False) rv L W := h.mono (fun _ => id) (fun _ => id) (fun _ q => q.elim)
/-- a new compound at work: what it reads lies in P2, its row outside of P -/
theorem Rs.work (h : Rs Q D0 w1 P E (fun y => y = b) rv L W) {P2 : Nat → Prop} (hbD : D0 < b) (hth : W.there b 0 6) (hro : ∀ y, rv.ownBlock = some y → y ≠ b) (hone : x.cells.length = 6)
    (ty : TyV (fun y => (y < D0 ∧ P2 y) ∧ some y ≠ x.vs.ownBlock) W x.tv c.tp) (lc : LcV (fun y => (y < D0 ∧ P2 y) ∧ some y ≠ x.vs.ownBlock) W x.vn c.nest) (sub : Bld 119 3 sbc e1 0 (fun y => y < D0 ∧ P2 y) x.vs c.subs W) (cb : x.cb = c.cb) (we : x.we = c.we) (lt : c.cb < 256)
    (so : ∀ y, x.vs.ownBlock = some y → y < D0 ∧ E' y ∧ ¬ P y) (hP : ∀ y, P y → P' y) (hP2 : ∀ y, P2 y → P' y) (hE : ∀ y, E y → E' y) (hok : OKC Q c) : Fs Q D0 w1 P' E' rv L b x c (W.setCells b 0 x.cells) := by
  have hz : (W.setCells b 0 x.cells).heap.size = W.heap.size := size_setCells b x.cells 0 W
  have hrb : ∀ y, rv.ownBlock = some y → D0 < y := fun y hy => (h.bl.lt hy).1
  have hfr : Fr (fun y => y = b) W (W.setCells b 0 x.cells) := by
    have hb : Below b W (W.setCells b 0 x.cells) := below_setCells (Nat.le_refl _) _ _ (Below.refl _ _)
    exact ⟨hb.os, hb.tape, hb.output, hb.size, fun k hk hn => hso b _ 0 W hn⟩
  have hto : To (fun y => (y < D0 ∧ P2 y) ∧ some y ≠ x.vs.ownBlock) W (fun y => (XB D0 P' (W.setCells b 0 x.cells) y ∧ y ≠ b ∧ some y ≠ rv.ownBlock) ∧ some y ≠ x.vs.ownBlock) (W.setCells b 0 x.cells) := fun y hy =>
    ⟨⟨⟨.inl ⟨hy.1.1, hP2 y hy.1.2⟩, by omega, fun q => by have := hrb y q.symm; omega⟩, hy.2⟩, hso b _ 0 W (by omega)⟩
  refine ⟨h.fr hfr (fun y hy hn => ⟨hn, hy.mono (hP y) (Nat.le_of_eq hz.symm), fun q => ?_⟩) (fun y hy q => hro y hy q) (fun y hy q => ?_) hE, ?_, fun y hy => .inr ⟨(so y hy).1, (so y hy).2.1⟩, fun y hy => ⟨fun q => ?_, hro y hy⟩, hbD, hok⟩
  · rcases q with q | q
    · exact hn q
    · have h2 := so y q.symm
      rcases hy with hy | hy
      · exact h2.2.2 hy.2
      · omega
  · have := h.w1; omega
  · refine ⟨World.rangeAt_setCells_same W b 0 x.cells (by rw [hone]; exact hth), World.there_setCells hth b 0 _, ty.to hto, lc.to hto, sub.to loc1E (fun y hy => ⟨⟨.inl ⟨hy.1, hP2 y hy.2⟩, by omega, fun q => by have := hrb y q.symm; omega⟩, hso b _ 0 W (by omega)⟩) (fun y hy => hso b _ 0 W (by have := (so y hy).1; omega)), cb, we, lt, fun y hy => ⟨?_, hy.2.1⟩, fun y hy => by have := (so y hy).1; omega⟩
    have := hy.1.lt (by rw [hz]; exact Nat.le_of_lt h.sz)
    rwa [hz] at this ⊢
  · have := so y q.symm; have := hrb y hy; omega
end
end Go.Proofs.Ytbpnmiedomchpaa.Fg
