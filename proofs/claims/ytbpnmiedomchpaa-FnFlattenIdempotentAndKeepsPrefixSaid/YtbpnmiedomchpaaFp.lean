/-
  What is built, read only; what the flattening has been through.
-/
import Derived.Test.YtbpnmiedomchpaaFo
namespace Go.Proofs.Ytbpnmiedomchpaa.Fg
open Go.ChangeShapes Go.WideShapes Go.ChangeAt Go.RowKit Rg
set_option linter.unusedVariables false
set_option linter.unusedSimpArgs false
/-- an owned row, read only -/
theorem own_view {α β : Type} {w : World} {lo s : Nat} {t : TypeId} {v : Value} {cells : β → List Value} {el : β → α → Prop} {B : List β} {L : List α} {X : Nat → Prop} (ho : w.ownsRow lo t s v L.length (B.flatMap cells)) (hl : B.length = L.length) (hs : ∀ x, (cells x).length = s)
    (hX : ∀ b, v.ownBlock = some b → X b) (he : ∀ i (p : i < B.length) (q : i < L.length), el B[i] L[i]) : RW X w s cells el v L := by
  obtain ⟨a, c, rfl⟩ := own_slice ho
  refine ⟨a, c, rfl, fun i hi => ?_⟩
  obtain ⟨g, cap, hv2, -, -⟩ := ho.form (by omega)
  simp only [Value.slice.injEq] at hv2
  obtain ⟨rfl, -, rfl⟩ := hv2
  refine ⟨g, 0, B[i]'(by omega), rfl, hX g rfl, ?_, he i (by omega) hi⟩
  rw [Nat.zero_add]
  exact own_range ho hl hs (by omega)
theorem CpI.view {w : World} {y : Ib} {c : Cp ByteArray} (h : CpI w y c) : CpV e0 (InB y) w y.x c := by
  obtain ⟨h1, h2, h3, h4, h5, h6, h7, h8⟩ := h
  exact ⟨h1.to (To.same fun b hb => hb.1), Bld.view (s := 3) (cells := sbc) loc0E (fun _ => rfl) h3 (fun b hb => hb) h4, h2.to (To.same fun b hb => hb.1), h5, h6, h7⟩
theorem Ins.view {lo : Nat} {v : Value} {M : List (Cp ByteArray)} {ys : List Ib} {w : World} {X : Nat → Prop} (h : Ins lo v M ys w) (hX : ∀ y ∈ ys, ∀ b, InB y b → X b) (hv : ∀ b, v.ownBlock = some b → X b) : CxV e0 X w v M := by
  obtain ⟨h1, h2, h3, h4, h5⟩ := h
  have ho : w.ownsRow lo 37 6 v M.length ((ys.map Ib.x).flatMap Cv.cells) := by rwa [List.flatMap_map]
  refine own_view (B := ys.map Ib.x) ho (by rw [List.length_map, h1]) (fun _ => rfl) hv (fun i p q => ?_)
  rw [List.getElem_map]
  have hi : i < ys.length := by simpa using p
  exact CpV.to loc0 (h5 i hi q).view (To.same fun b hb => hX _ (List.getElem_mem hi) b hb)
theorem Wr.view {lo hi : Nat} {w : World} {v : Value} {M : List (Cp ByteArray)} {X : Nat → Prop} (h : Wr lo hi w v M) (hX : ∀ b, lo ≤ b → b < hi → X b) : MdV e0 X w v [M] := by
  obtain ⟨q, u, ys, rfl, h2, h3, h4, h5, h6, h7, h8⟩ := h
  refine ⟨some ⟨q, 0, none⟩, 1, rfl, fun i hi => ?_⟩
  obtain rfl : i = 0 := by simp at hi; omega
  refine ⟨q, 0, u, rfl, hX q h2 h3, h4, ?_⟩
  exact h5.view (fun y hy b hb => hX b (Nat.le_trans (h5.2.2.2.1 y hy).1 hb.1) (Nat.lt_trans (Nat.lt_of_lt_of_le hb.2 (h6 y hy)) h3)) (fun b hb => hX b (h5.2.1.lt b hb).1 (Nat.lt_trans (h7 b hb) h3))
theorem S1.view {lo hi : Nat} {w : World} {x : Value} {c : Su} {X : Nat → Prop} (h : S1 lo hi w x c) (hX : ∀ b, lo ≤ b → b < hi → X b) : e1 X w x c := by
  cases c with
  | bare n =>
    obtain ⟨p, h1, h2, h3, h4⟩ := h
    exact ⟨p, h1, hX p h2 h3, h4⟩
  | wrap k M =>
    obtain ⟨p, v, M0, h2, rfl, a2, a3, a4, a5, a6, a7, a8⟩ := h
    exact ⟨p, v, a2, hX p (by omega) a5, a6, a7, a8.view (fun b p1 p2 => hX b p1 (by omega))⟩
theorem CpT.view {w : World} {z : Tc} {c : Cp Su} {X : Nat → Prop} (h : CpT w z c) (hX : ∀ b, InC z b → X b) : CpV e1 X w z.x c := by
  have ho : w.ownsRow z.lo 119 3 z.x.vs c.subs.length ((z.ys.map Sx.v).flatMap sbc) := by rw [List.flatMap_map]; exact h.row
  refine ⟨h.ty.to (To.same fun b hb => hX b hb.1.1), own_view (B := z.ys.map Sx.v) ho (by rw [List.length_map, h.len]) (fun _ => rfl) (fun b hb => hX b (h.rown b hb).1) (fun i p q => ?_), h.lc.to (To.same fun b hb => hX b hb.1.1), h.cb, h.we, h.lt⟩
  rw [List.getElem_map]
  have hi : i < z.ys.length := by simpa using p
  have hr := h.rng _ (List.getElem_mem hi)
  exact (h.els i hi q).view (fun b p1 p2 => hX b ⟨Nat.le_trans hr.1 p1, Nat.lt_of_lt_of_le p2 hr.2.2⟩)
theorem SelT.view {lo : Nat} {v : Value} {M : List (Cp Su)} {zs : List Tc} {w : World} {X : Nat → Prop} (h : SelT lo v M zs w) (hX : ∀ b, lo ≤ b → b < w.heap.size → X b) : CxV e1 X w v M := by
  obtain ⟨h1, h2, h3, h4, h5⟩ := h
  have ho : w.ownsRow lo 37 6 v M.length ((zs.map Tc.x).flatMap Cv.cells) := by rwa [List.flatMap_map]
  refine own_view (B := zs.map Tc.x) ho (by rw [List.length_map, h1]) (fun _ => rfl) (fun b hb => hX b (h2.lt b hb).1 (h2.lt b hb).2) (fun i p q => ?_)
  rw [List.getElem_map]
  have hi : i < zs.length := by simpa using p
  exact (h5 i hi q).view (fun b hb => hX b (Nat.le_trans (h4 _ (List.getElem_mem hi)).1 hb.1) (Nat.lt_of_lt_of_le hb.2 (h5 i hi q).hi))
theorem CpT.form {w : World} {z : Tc} {c : Cp Su} (h : CpT w z c) : ∃ pa sa sc la lc, z.x = ⟨.pointer pa, .slice sa c.subs.length sc, .slice la c.nest lc, c.cb, c.we⟩ := by
  obtain ⟨pa, hpa⟩ := Pty.ptr h.ty.pty
  obtain ⟨sa, sc, hs⟩ := own_slice h.row
  obtain ⟨la, lc, hl, -⟩ := h.lc
  have hcb := h.cb
  have hwe := h.we
  obtain ⟨⟨tv, vs, vn, cb, we⟩, lo, hi, ys⟩ := z
  dsimp only at hpa hs hl hcb hwe ⊢
  subst hpa hs hl hcb hwe
  exact ⟨pa, sa, sc, la, lc, rfl⟩
theorem CpI.form {w : World} {y : Ib} {c : Cp ByteArray} (h : CpI w y c) : ∃ pa sa sc la lc, y.x = ⟨.pointer pa, .slice sa c.subs.length sc, .slice la c.nest lc, c.cb, c.we⟩ := by
  obtain ⟨h1, h2, h3, h4, h5, h6, h7, h8⟩ := h
  obtain ⟨pa, hpa⟩ := Pty.ptr h1.pty
  obtain ⟨sa, sc, hs⟩ := h3.slice
  obtain ⟨la, lc, hl, -⟩ := h2
  obtain ⟨⟨tv, vs, vn, cb, we⟩, lo, hi⟩ := y
  dsimp only at hpa hs hl h5 h6 ⊢
  subst hpa hs hl h5 h6
  exact ⟨pa, sa, sc, la, lc, rfl⟩
/-! the thresholds -/
/-- a block that the subclass selectors' builders made -/
def IvX (zs : List Tc) (b : Nat) : Prop := ∃ z ∈ zs, ∃ y ∈ z.ys, InX y b
def ET (zs : List Tc) (th b : Nat) : Prop := IvX zs b ∧ b < th
def PT (zs : List Tc) (th b : Nat) : Prop := ET zs th b ∨ (¬ IvX zs b ∧ ∃ z ∈ zs, InC z b)
def Thr (zs : List Tc) (k j th : Nat) : Prop := ∀ k' (h : k' < zs.length) j' (h' : j' < zs[k'].ys.length), (k < k' ∨ (k = k' ∧ j ≤ j')) → th ≤ zs[k'].ys[j'].lo
theorem ET.p {zs : List Tc} {th b : Nat} (h : ET zs th b) : PT zs th b := .inl h
section
variable {lo : Nat} {v : Value} {M : List (Cp Su)} {zs : List Tc} {w W : World}
theorem SelT.out (h : SelT lo v M zs w) {k : Nat} (hk : k < zs.length) {b : Nat} (hb : OutC zs[k] b) : ¬ IvX zs b := by
  obtain ⟨h1, h2, h3, h4, h5⟩ := h
  rintro ⟨z, hz, y, hy, hin⟩
  obtain ⟨k', hk', rfl⟩ := List.mem_iff_getElem.1 hz
  have hpw := List.pairwise_iff_getElem.1 h3
  rcases Nat.lt_trichotomy k' k with hlt | heq | hgt
  · have := hpw k' k hk' hk hlt
    have hr := (h5 k' hk' (by omega)).rng y hy
    have := hb.1.1
    have := hin.2
    omega
  · subst heq
    exact hb.2 y hy hin
  · have := hpw k k' hk hk' hgt
    have hr := (h5 k' hk' (by omega)).rng y hy
    have := hb.1.2
    have := hin.1
    omega
theorem SelT.row (h : SelT lo v M zs w) {b : Nat} (hb : v.ownBlock = some b) : ¬ IvX zs b := by
  obtain ⟨h1, h2, h3, h4, h5⟩ := h
  rintro ⟨z, hz, y, hy, hin⟩
  obtain ⟨k', hk', rfl⟩ := List.mem_iff_getElem.1 hz
  have hr := (h5 k' hk' (by omega)).rng y hy
  exact (h4 _ hz).2.2 b hb ⟨Nat.le_trans hr.1 hin.1, Nat.lt_of_lt_of_le hin.2 hr.2.2⟩
theorem Thr.next (h : SelT lo v M zs w) {k j : Nat} (hk : k < zs.length) (hj : j < zs[k].ys.length) : Thr zs k (j + 1) zs[k].ys[j].hi := by
  obtain ⟨h1, h2, h3, h4, h5⟩ := h
  intro k' hk' j' hj' hx
  rcases hx with hx | ⟨rfl, hx⟩
  · have := List.pairwise_iff_getElem.1 h3 k k' hk hk' hx
    have := ((h5 k hk (by omega)).rng _ (List.getElem_mem hj)).2.2
    have := ((h5 k' hk' (by omega)).rng _ (List.getElem_mem hj')).1
    omega
  · exact List.pairwise_iff_getElem.1 (h5 k hk (by omega)).pw j j' hj hj' (by omega)
theorem Thr.row {k th j : Nat} (h : Thr zs k j th) : Thr zs (k + 1) 0 th := fun k' hk' j' hj' hx => h k' hk' j' hj' (.inl (by omega))
theorem Thr.hit {k j th : Nat} (h : Thr zs k j th) (hk : k < zs.length) (hj : j < zs[k].ys.length) {b : Nat} (hb : InX zs[k].ys[j] b) : IvX zs b ∧ th ≤ b := by
  have := h k hk j hj (.inr ⟨rfl, Nat.le_refl _⟩)
  exact ⟨⟨_, List.getElem_mem hk, _, List.getElem_mem hj, hb⟩, Nat.le_trans this hb.1⟩
end
/-- a compound is taken up -/
theorem Rs.begin {Q : Su → Prop} {D0 : Nat} {w1 W W' : World} {P E : Nat → Prop} {rv : Value} {L : List (Cp Su)} {b g m cb : Nat} {tv vn : Value} {we : Bool} {c : Cp Su} (h : Rs Q D0 w1 P E (fun _ => False) rv L W) (hb : Below W.heap.size W W') (hbs : W.heap.size ≤ b)
    (box : W'.rangeAt b 0 (Cv.cells ⟨tv, .slice (some ⟨g, 0, none⟩) 0 m, vn, cb, we⟩)) (thr : W'.there b 0 6) (row : W'.ownsRow 0 119 3 (.slice (some ⟨g, 0, none⟩) 0 m) 0 []) (hg : W.heap.size ≤ g) (hgb : g ≠ b)
    (ty : TyV (fun y => y < D0 ∧ P y) W tv c.tp) (lc : LcV (fun y => y < D0 ∧ P y) W vn c.nest) (hcb : cb = c.cb) (hwe : we = c.we) (hlt : c.cb < 256) (hn : c.nest ≤ 1048576) :
    Fs Q D0 w1 P E rv L b ⟨tv, .slice (some ⟨g, 0, none⟩) 0 m, vn, cb, we⟩ ⟨c.tp, [], c.nest, c.cb, c.we⟩ W' := by
  have hsz := h.sz
  have hro : ∀ y, rv.ownBlock = some y → D0 < y ∧ y < W.heap.size := fun y hy => ⟨(h.bl.lt hy).1, (h.bl.lt hy).2⟩
  have hto : To (fun y => y < D0 ∧ P y) W (fun y => (XB D0 P W' y ∧ y ≠ b ∧ some y ≠ rv.ownBlock) ∧ some y ≠ some g) W' := fun y hy =>
    ⟨⟨⟨.inl hy, by omega, fun q => by have := hro y q.symm; omega⟩, fun q => absurd (Option.some.inj q) (by omega)⟩, hb.block y (by omega)⟩
  refine ⟨h.fr (F := fun k => W.heap.size ≤ k) (Fr.ofBelow hb (fun _ _ q => q)) (fun y hy _ => ?_) (fun y hy q => by have := hro y hy; omega) (fun y hy q => by have := h.w1; omega) (fun _ => id), ?_, fun y hy => .inl ?_, fun y hy => ⟨fun q => ?_, by have := hro y hy; omega⟩, by omega, ⟨rfl, (fun s hs => (by cases hs)), hn⟩⟩
  · have hlt := hy.lt (Nat.le_of_lt hsz)
    refine ⟨by omega, hy.mono id hb.size, fun q => ?_⟩
    rcases q with q | q
    · omega
    · have q2 : y = g := Option.some.inj q
      omega
  · exact ⟨box, thr, ty.to hto, lc.to hto, ⟨[], rfl, row, fun i p => absurd p (Nat.not_lt_zero _)⟩, hcb, hwe, hlt, fun y hy => ⟨hy.1.lt (by have := hb.size; omega), hy.2.1⟩, fun y hy => by
      have : g = y := by simpa [Value.ownBlock] using hy
      omega⟩
  · have : g = y := by simpa [Value.ownBlock] using hy
    omega
  · have : y = g := by simpa [Value.ownBlock] using q
    have := hro y hy
    omega
end Go.Proofs.Ytbpnmiedomchpaa.Fg
