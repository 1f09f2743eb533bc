/-
  Flattening: what its steps do, with no program in sight.
-/
import Derived.Test.YtbpnmiedomchpaaFr
namespace Go.Proofs.Ytbpnmiedomchpaa.Fg
open Go.ChangeShapes Go.WideShapes Go.ChangeAt Go.RowKit Rg
set_option linter.unusedVariables false
set_option linter.unusedSimpArgs false
/-- what the flattening leaves -/
def FlB (Q : Su → Prop) (zs : List Tc) (pp nl : Nat) (lv : Value) (cs : List Value) (w : World) (e : Ending) (w' : World) : Prop :=
  ∃ v' M', FlR lv nl cs v' w e w' ∧ CxV e1 (fun y => y < w'.heap.size) w' v' M' ∧ (∀ c ∈ M', OKL Q c) ∧ M'.length ≤ 4194305 ∧ Fr (fun k => some k = lv.ownBlock ∨ IvX zs k ∨ k = pp) w w'
/-- what is given to the flattening -/
structure Cx (Q : Su → Prop) (lo : Nat) (v : Value) (M : List (Cp Su)) (zs : List Tc) (D0 : Nat) (w w1 : World) : Prop where
  sel : SelT lo v M zs w
  mok : MOK Q M
  hD : w.heap.size = D0
  bel : Below w.heap.size w w1
  sz : w1.heap.size = D0 + 1
/-- the state at the head of the outer loop -/
def OutS (Q : Su → Prop) (zs : List Tc) (M : List (Cp Su)) (D0 : Nat) (w1 : World) (k : Nat) (ra : Option Addr) (rn rc : Nat) (W : World) : Prop :=
  ∃ L th, rn = L.length ∧ Rs Q D0 w1 (PT zs th) (ET zs th) (fun _ => False) (.slice ra rn rc) L W ∧ Thr zs k 0 th ∧ rn ≤ LB M k [] 0
/-- the state at the head of the inner loop -/
def InS (Q : Su → Prop) (zs : List Tc) (M : List (Cp Su)) (D0 : Nat) (w1 : World) (b k : Nat) (S : List Su) (j : Nat) (ra : Option Addr) (rn rc : Nat) (W : World) : Prop :=
  ∃ L x c th, rn = L.length ∧ Fs Q D0 w1 (PT zs th) (ET zs th) (.slice ra rn rc) L b x c W ∧ Thr zs k j th ∧ rn ≤ LB M k S j ∧ c.subs.length ≤ j * 2097152
theorem Bld.map {α α' β : Type} {t : TypeId} {s : Nat} {cells : β → List Value} {el : (Nat → Prop) → World → β → α → Prop} {el' : (Nat → Prop) → World → β → α' → Prop} {lo : Nat} {Z : Nat → Prop} {v : Value} {L : List α} {w : World} (f : α → α') (h : Bld t s cells el lo Z v L w) (he : ∀ X x a, el X w x a → el' X w x (f a)) : Bld t s cells el' lo Z v (L.map f) w := by
  obtain ⟨B, h1, h2, h3⟩ := h
  exact ⟨B, by simpa using h1, by rw [List.length_map]; exact h2, fun i p q => by rw [List.getElem_map]; exact he _ _ _ (h3 i p (by simpa using q))⟩
theorem Bld.zmono {α β : Type} {t : TypeId} {s : Nat} {cells : β → List Value} {el : (Nat → Prop) → World → β → α → Prop} {lo lo' : Nat} {Z Z' : Nat → Prop} {v : Value} {L : List α} {w : World} (hl : LocE el) (h : Bld t s cells el lo Z v L w) (hz : ∀ y, Z y → Z' y) (hlo : lo' ≤ lo) : Bld t s cells el lo' Z' v L w := by
  obtain ⟨B, h1, h2, h3⟩ := h
  exact ⟨B, h1, own_mono h2 hlo, fun i p q => hl _ _ _ _ _ _ (To.same fun y hy => ⟨hz y hy.1, hy.2⟩) (h3 i p q)⟩
theorem RW.map {α α' β : Type} {X : Nat → Prop} {w : World} {s : Nat} {cells : β → List Value} {el : β → α → Prop} {el' : β → α' → Prop} {v : Value} {L : List α} (f : α → α') (h : RW X w s cells el v L) (he : ∀ x a, el x a → el' x (f a)) : RW X w s cells el' v (L.map f) := by
  obtain ⟨a, cc, hv, h2⟩ := h
  refine ⟨a, cc, by rw [List.length_map]; exact hv, fun i hi => ?_⟩
  obtain ⟨g, o, x', p1, p2, p3, p4⟩ := h2 i (by simpa using hi)
  exact ⟨g, o, x', p1, p2, p3, by rw [List.getElem_map]; exact he _ _ p4⟩
/-- an inner compound's view, at the top -/
theorem CpV.upC {X : Nat → Prop} {w : World} {x : Cv} {c : Cp ByteArray} (h : CpV e0 X w x c) : CpV e1 X w x (Fg.upC c) :=
  ⟨h.1, RW.map Su.bare h.2.1 (fun x a h => h), h.2.2⟩
section
variable {Q : Su → Prop} {lo : Nat} {v : Value} {M : List (Cp Su)} {zs : List Tc} {D0 : Nat} {w w1 W W' : World} {th k j : Nat}
theorem Cx.blk (C : Cx Q lo v M zs D0 w w1) (h : Fr (ET zs th) w1 W) {y : Nat} (hy : y < D0) (hn : ¬ ET zs th y) : W.heap[y]? = w.heap[y]? := by
  have h1 := C.hD
  have h2 := C.sz
  exact (h.block y (by omega) hn).trans (C.bel.block y (by omega))
theorem Cx.cp (C : Cx Q lo v M zs D0 w w1) (hk : k < M.length) (kz : k < zs.length) : CpT w zs[k] M[k] := C.sel.2.2.2.2 k kz hk
theorem Cx.outD (C : Cx Q lo v M zs D0 w w1) (hk : k < M.length) (kz : k < zs.length) {y : Nat} (hy : OutC zs[k] y) : y < D0 ∧ ¬ IvX zs y :=
  ⟨by have := (C.cp hk kz).hi; have := hy.1.2; have := C.hD; omega, C.sel.out kz hy⟩
/-- the row of the compounds, read at the k-th -/
theorem Cx.row (C : Cx Q lo v M zs D0 w w1) (hfr : Fr (ET zs th) w1 W) (hk : k < M.length) (kz : k < zs.length) : ∃ g c, v = .slice (some ⟨g, 0, none⟩) M.length c ∧ W.rangeAt g (k * 6) zs[k].x.cells := by
  obtain ⟨h1, h2, h3, h4, h5⟩ := C.sel
  obtain ⟨a, c, hv⟩ := own_slice h2
  obtain ⟨g, cap, hv2, -, -⟩ := h2.form (by omega)
  rw [hv] at hv2
  simp only [Value.slice.injEq] at hv2
  obtain ⟨rfl, -, rfl⟩ := hv2
  refine ⟨g, c, hv, ?_⟩
  rw [hv] at h2
  have hr := own_range h2 h1 (fun _ => rfl) kz
  have hg : v.ownBlock = some g := by rw [hv]; rfl
  exact rg_ag (C.blk hfr (by rw [← C.hD]; exact (h2.lt g rfl).2) (fun q => C.sel.row hg q.1)) hr
/-- the row of a compound's subclass selectors, read at the j-th -/
theorem Cx.sub (C : Cx Q lo v M zs D0 w w1) (hfr : Fr (ET zs th) w1 W) (hk : k < M.length) (kz : k < zs.length) (hj : j < zs[k].ys.length) : ∃ g c, zs[k].x.vs = .slice (some ⟨g, 0, none⟩) M[k].subs.length c ∧ W.rangeAt g (j * 3) (sbc zs[k].ys[j].v) := by
  have hc := C.cp hk kz
  have h2 := hc.row
  obtain ⟨a, c, hv⟩ := own_slice h2
  have hl := hc.len
  obtain ⟨g, cap, hv2, -, -⟩ := h2.form (by omega)
  rw [hv] at hv2
  simp only [Value.slice.injEq] at hv2
  obtain ⟨rfl, -, rfl⟩ := hv2
  refine ⟨g, c, hv, ?_⟩
  have hg : zs[k].x.vs.ownBlock = some g := by rw [hv]; rfl
  rw [hv] at h2
  have hr := own_range h2 hl (fun _ => rfl) hj
  have ho := C.outD hk kz (hc.rown g hg)
  exact rg_ag (C.blk hfr ho.1 (fun q => ho.2 q.1)) hr
theorem Cx.hiD (C : Cx Q lo v M zs D0 w w1) (hk : k < M.length) (kz : k < zs.length) (hj : j < zs[k].ys.length) : zs[k].ys[j].hi ≤ D0 ∧ zs[k].ys[j].lo ≤ zs[k].ys[j].hi := by
  have hc := C.cp hk kz
  have h1 := hc.rng _ (List.getElem_mem hj)
  have h2 := hc.hi
  have h3 := C.hD
  omega
theorem Cx.blk2 (C : Cx Q lo v M zs D0 w w1) (hfr : Fr (ET zs th) w1 W) (hthr : Thr zs k j th) (hk : k < M.length) (kz : k < zs.length) (hj : j < zs[k].ys.length) {y : Nat} (h1 : zs[k].ys[j].lo ≤ y) (h2 : y < zs[k].ys[j].hi) : W.heap[y]? = w.heap[y]? :=
  C.blk hfr (by have := (C.hiD hk kz hj).1; omega) (fun q => by have := (hthr.hit kz hj (b := y) ⟨h1, h2⟩).2; have := q.2; omega)
theorem Cx.s1 (C : Cx Q lo v M zs D0 w w1) (hfr : Fr (ET zs th) w1 W) (hthr : Thr zs k j th) (hk : k < M.length) (kz : k < zs.length) (hj : j < zs[k].ys.length) (hj2 : j < M[k].subs.length) : S1 zs[k].ys[j].lo zs[k].ys[j].hi W zs[k].ys[j].v M[k].subs[j] :=
  ((C.cp hk kz).els j hj hj2).to (fun b p1 p2 => C.blk2 hfr hthr hk kz hj p1 p2) (Nat.le_trans C.bel.size hfr.size)
theorem Thr.le {zs : List Tc} {k j th : Nat} (h : Thr zs k j th) (kz : k < zs.length) (hj : j < zs[k].ys.length) : th ≤ zs[k].ys[j].lo := h k kz j hj (.inr ⟨rfl, Nat.le_refl _⟩)
/-- the compound k is taken up -/
theorem OutS.begin (C : Cx Q lo v M zs D0 w w1) {ra : Option Addr} {rn rc b g m cb : Nat} {tv vs vn : Value} {we : Bool} (h : OutS Q zs M D0 w1 k ra rn rc W) (hk : k < M.length) (kz : k < zs.length) (hx : zs[k].x = ⟨tv, vs, vn, cb, we⟩) (hb : Below W.heap.size W W') (hbs : W.heap.size ≤ b)
    (box : W'.rangeAt b 0 (Cv.cells ⟨tv, .slice (some ⟨g, 0, none⟩) 0 m, vn, cb, we⟩)) (thr : W'.there b 0 6) (row : W'.ownsRow 0 119 3 (.slice (some ⟨g, 0, none⟩) 0 m) 0 []) (hg : W.heap.size ≤ g) (hgb : g ≠ b) : InS Q zs M D0 w1 b k M[k].subs 0 ra rn rc W' := by
  obtain ⟨L, th, h1, h2, h3, h4⟩ := h
  have hc := C.cp hk kz
  have hto : To (OutR zs[k]) w (fun y => y < D0 ∧ PT zs th y) W := fun y hy => by
    have ho := C.outD hk kz hy.1
    exact ⟨⟨ho.1, .inr ⟨ho.2, _, List.getElem_mem kz, hy.1.1⟩⟩, C.blk h2.kp ho.1 (fun q => ho.2 q.1)⟩
  have hty := hc.ty.to hto
  have hlc := hc.lc.to hto
  have hcb := hc.cb
  have hwe := hc.we
  rw [hx] at hty hlc hcb hwe
  refine ⟨L, _, _, th, h1, h2.begin hb hbs box thr row hg hgb hty hlc hcb hwe hc.lt (C.mok.sub _ (List.getElem_mem hk)).2.1, h3, by simpa [LB] using h4, Nat.zero_le _⟩
/-- blocks of what is built, at the threshold and above -/
theorem Fs.far {P : Nat → Prop} {rv : Value} {L : List (Cp Su)} {b : Nat} {x : Cv} {c : Cp Su} (h : Fs Q D0 w1 P (ET zs th) rv L b x c W) {y : Nat} (hy : y < D0) (hth : th ≤ y) : y ≠ b ∧ some y ≠ rv.ownBlock ∧ some y ≠ x.vs.ownBlock := by
  refine ⟨by have := h.bD; omega, fun q => by have := (h.rs.bl.lt q.symm).1; omega, fun q => ?_⟩
  rcases h.so y q.symm with h2 | h2
  · omega
  · have := h2.2.2; omega
theorem ET.up {zs : List Tc} {th th' : Nat} (h : th ≤ th') {y : Nat} (hy : ET zs th y) : ET zs th' y := ⟨hy.1, Nat.lt_of_lt_of_le hy.2 h⟩
theorem PT.up {zs : List Tc} {th th' : Nat} (h : th ≤ th') {y : Nat} (hy : PT zs th y) : PT zs th' y := hy.imp (fun q => ET.up h q) id
/-- a subclass selector is taken over as it is -/
theorem Fs.app (C : Cx Q lo v M zs D0 w w1) {rv : Value} {L : List (Cp Su)} {b : Nat} {x : Cv} {c : Cp Su} {v' : Value} (hF : Fs Q D0 w1 (PT zs th) (ET zs th) rv L b x c W) (hthr : Thr zs k j th) (hk : k < M.length) (kz : k < zs.length) (hj : j < zs[k].ys.length) (hj2 : j < M[k].subs.length)
    {B : List Value} (h1 : B.length = c.subs.length) (h3 : ∀ i (p : i < B.length) (q : i < c.subs.length), e1 (fun y => (XB D0 (PT zs th) W y ∧ y ≠ b ∧ some y ≠ rv.ownBlock) ∧ some y ≠ x.vs.ownBlock) W B[i] c.subs[i])
    (ho : W'.ownsRow 0 119 3 v' (c.subs.length + 1) (B.flatMap sbc ++ sbc zs[k].ys[j].v)) (hg : W.grownBy W' x.vs.ownBlock) (hv : v'.ownBlock = x.vs.ownBlock ∨ ∀ y, v'.ownBlock = some y → W.heap.size ≤ y) (hl : lgU M[k].subs[j] = false) :
    Fs Q D0 w1 (PT zs zs[k].ys[j].hi) (ET zs zs[k].ys[j].hi) rv L b { x with vs := v' } { c with subs := c.subs ++ [M[k].subs[j]] } (W'.setCell ⟨b, 1, none⟩ v') := by
  have hle := hthr.le kz hj
  have hd := C.hiD hk kz hj
  have hup : ∀ y, PT zs th y → PT zs zs[k].ys[j].hi y := fun y => PT.up (by omega)
  have hF2 := hF.up (P' := PT zs zs[k].ys[j].hi) (E' := ET zs zs[k].ys[j].hi) hup (fun y => ET.up (by omega))
  refine hF2.pushN h1 (fun i p q => loc1 _ _ _ _ _ _ (To.same fun y hy => ⟨⟨hy.1.1.mono (hup y) (Nat.le_refl _), hy.1.2⟩, hy.2⟩) (h3 i p q)) (xs := [zs[k].ys[j].v]) (ls := [M[k].subs[j]]) rfl (fun i p q => ?_) (by simpa using ho) hg hv (by simp [hl]) (fun s hs => ?_)
  · obtain rfl : i = 0 := by simp at p; omega
    refine (C.s1 hF.rs.kp hthr hk kz hj hj2).view (fun y p1 p2 => ?_)
    have hf := hF.far (y := y) (by omega) (by omega)
    exact ⟨⟨.inl ⟨by omega, .inl ⟨(hthr.hit kz hj ⟨p1, p2⟩).1, p2⟩⟩, hf.1, hf.2.1⟩, hf.2.2⟩
  · rw [List.mem_singleton.1 hs]
    exact ((C.mok.sub _ (List.getElem_mem hk)).2.2 _ (List.getElem_mem hj2)).1
theorem Tg.form {b : Nat} {x : Cv} {c : Cp Su} {Z : Nat → Prop} (h : Tg b x c Z W) : ∃ pa sa sc la lc, x = ⟨.pointer pa, .slice sa c.subs.length sc, .slice la c.nest lc, c.cb, c.we⟩ := by
  obtain ⟨pa, hpa⟩ := Pty.ptr h.ty.pty
  obtain ⟨sa, sc, hs⟩ := h.sub.slice
  obtain ⟨la, lc, hl, -⟩ := h.lc
  have hcb := h.cb
  have hwe := h.we
  clear h
  obtain ⟨tv, vs, vn, cb, we⟩ := x
  dsimp only at hpa hs hl hcb hwe ⊢
  subst hpa hs hl hcb hwe
  exact ⟨pa, sa, sc, la, lc, rfl⟩
/-- the compound at work goes to the results -/
theorem Fs.push {P E : Nat → Prop} {rv v' : Value} {L : List (Cp Su)} {b : Nat} {x : Cv} {c : Cp Su} {B : List Cv} (hF : Fs Q D0 w1 P E rv L b x c W) (hsl : c.subs.length ≤ 4398046511104) (hpe : ∀ y, E y → P y) (h1 : B.length = L.length) (h3 : ∀ i (p : i < B.length) (q : i < L.length), CpV e1 (fun y => (XB D0 P W y ∧ ¬ (y = b ∨ some y = x.vs.ownBlock)) ∧ some y ≠ rv.ownBlock) W B[i] L[i])
    (ho : W'.ownsRow (D0 + 1) 37 6 v' (L.length + 1) (B.flatMap Cv.cells ++ x.cells)) (hg : W.grownBy W' rv.ownBlock) (hv : v'.ownBlock = rv.ownBlock ∨ ∀ y, v'.ownBlock = some y → W.heap.size ≤ y) : Rs Q D0 w1 P E (fun y => y = b) v' (L ++ [c]) W' := by
  refine hF.free.pushN h1 (fun i p q => CpV.to loc1 (h3 i p q) (To.same fun y hy => ⟨⟨hy.1.1, fun e => hy.1.2 (.inl e)⟩, hy.2⟩)) (xs := [x]) (ls := [c]) rfl (fun i p q => ?_) (fun d hd => ?_) (by simpa using ho) hg hv
  · obtain rfl : i = 0 := by simp at p; omega
    exact hF.cv hpe
  · rw [List.mem_singleton.1 hd]; exact ⟨hF.ok, hsl⟩
/-- what a wrap holds, with all places -/
structure Wi (lo hi p q gi ci kd : Nat) (M0 : List (Cp ByteArray)) (ys : List Ib) (W : World) : Prop where
  kl : kd < 256
  pr : W.rangeAt p 0 (ilc (.slice (some ⟨q, 0, none⟩) 1 1) kd)
  pi : lo ≤ p ∧ p < hi
  qr : W.rangeAt q 0 [.slice (some ⟨gi, 0, none⟩) M0.length ci]
  qi : lo ≤ q ∧ q < hi
  ins : Ins lo (.slice (some ⟨gi, 0, none⟩) M0.length ci) M0 ys W
  bi : ∀ y ∈ ys, y.hi ≤ hi
  gl : gi < hi
  cp : M0.length ≤ ci
theorem Wi.to {lo hi p q gi ci kd : Nat} {M0 : List (Cp ByteArray)} {ys : List Ib} (h : Wi lo hi p q gi ci kd M0 ys W) (hb : ∀ b, lo ≤ b → b < hi → W'.heap[b]? = W.heap[b]?) (hs : W.heap.size ≤ W'.heap.size) : Wi lo hi p q gi ci kd M0 ys W' :=
  ⟨h.kl, rg_ag (hb p h.pi.1 h.pi.2) h.pr, h.pi, rg_ag (hb q h.qi.1 h.qi.2) h.qr, h.qi, h.ins.to hb hs h.bi (fun b hb' => by cases hb'; exact h.gl), h.bi, h.gl, h.cp⟩
theorem Cx.wi (C : Cx Q lo v M zs D0 w w1) (hfr : Fr (ET zs th) w1 W) (hthr : Thr zs k j th) (hk : k < M.length) (kz : k < zs.length) (hj : j < zs[k].ys.length) (hj2 : j < M[k].subs.length) {kd : Nat} {Ms : List (List (Cp ByteArray))} (hs : M[k].subs[j] = .wrap kd Ms) (hkd : kd = 0 ∨ kd = 3) :
    ∃ M0 p q gi ci ys, Ms = [M0] ∧ zs[k].ys[j].v = ifL p ∧ Wi zs[k].ys[j].lo zs[k].ys[j].hi p q gi ci kd M0 ys W ∧ 0 < M0.length ∧ ∀ c ∈ M0, IOK Q c := by
  have h1 := C.s1 hfr hthr hk kz hj hj2
  have h2 := ((C.mok.sub _ (List.getElem_mem hk)).2.2 _ (List.getElem_mem hj2)).2
  rw [hs] at h1 h2
  obtain ⟨p, vl, M0, h3, rfl, a2, a3, a4, a5, a6, a7, q, u, ys, rfl, b2, b3, b4, b5, b6, b7, b8⟩ := h1
  obtain ⟨c1, c2⟩ := h2 hkd M0 rfl
  have hpos : 0 < M0.length := List.length_pos_iff.2 c1
  obtain ⟨gi, cc, hu, hcc⟩ : ∃ gi cc, u = .slice (some ⟨gi, 0, none⟩) M0.length cc ∧ M0.length ≤ cc := by
    rcases b5.2.1.2 with ⟨-, h0⟩ | ⟨g, cap, cur, hv, -, -, hnc, -⟩
    · omega
    · exact ⟨g, cap, hv, hnc⟩
  subst hu
  have hg := b7 gi rfl
  exact ⟨M0, p, q, gi, cc, ys, rfl, a2, ⟨a7, a6, ⟨by omega, a5⟩, b4, ⟨b2, by omega⟩, b5, fun y hy => by have := b6 y hy; omega, by omega, by omega⟩, hpos, c2⟩
theorem Cx.wi2 (C : Cx Q lo v M zs D0 w w1) (hfr : Fr (ET zs th) w1 W) (hfr2 : Fr (ET zs th) w1 W') (hs : W.heap.size ≤ W'.heap.size) (hthr : Thr zs k j th) (hk : k < M.length) (kz : k < zs.length) (hj : j < zs[k].ys.length) {p q gi ci kd : Nat} {M0 : List (Cp ByteArray)} {ys : List Ib} (h : Wi zs[k].ys[j].lo zs[k].ys[j].hi p q gi ci kd M0 ys W) : Wi zs[k].ys[j].lo zs[k].ys[j].hi p q gi ci kd M0 ys W' :=
  h.to (fun b p1 p2 => (C.blk2 hfr2 hthr hk kz hj p1 p2).trans (C.blk2 hfr hthr hk kz hj p1 p2).symm) hs
section
variable {l h p q gi ci kd : Nat} {M0 : List (Cp ByteArray)} {ys : List Ib}
theorem Wi.cell (hW : Wi l h p q gi ci kd M0 ys W) {i : Nat} (hi : i < ys.length) : W.rangeAt gi (i * 6) ys[i].x.cells := own_range hW.ins.2.1 hW.ins.1 (fun _ => rfl) hi
theorem Wi.cpi (hW : Wi l h p q gi ci kd M0 ys W) {i : Nat} (hi : i < ys.length) (hi2 : i < M0.length) : CpI W ys[i] M0[i] := hW.ins.2.2.2.2 i hi hi2
theorem Wi.inb (hW : Wi l h p q gi ci kd M0 ys W) {i : Nat} (hi : i < ys.length) {y : Nat} (hy : InB ys[i] y) : l ≤ y ∧ y < h :=
  ⟨Nat.le_trans (hW.ins.2.2.2.1 _ (List.getElem_mem hi)).1 hy.1, Nat.lt_of_lt_of_le hy.2 (hW.bi _ (List.getElem_mem hi))⟩
theorem Wi.mid (hW : Wi l h p q gi ci kd M0 ys W) {a m : Nat} (ham : a + m ≤ M0.length) : ∀ i u, (((ys.drop a).take m).flatMap Ib.cells)[i]? = some u → W.cell? ⟨gi, a * 6 + i, none⟩ = some u := fun i u hu => by
  have hl := hW.ins.1
  have hlen : ((ys.drop a).take m).length = m := by rw [List.length_take, List.length_drop]; omega
  have hlt := (List.getElem?_eq_some_iff.1 hu).1
  rw [flat_len Ib.cells (s := 6) (fun _ => rfl), hlen] at hlt
  have hi : i / 6 < m := by omega
  have hm : i % 6 < 6 := by omega
  have h2 := flat_at Ib.cells (s := 6) (fun _ => rfl) ((ys.drop a).take m) (i / 6) (i % 6) (by omega) hm
  rw [show i / 6 * 6 + i % 6 = i by omega, hu] at h2
  have h3 : ((ys.drop a).take m)[i / 6]'(by omega) = ys[a + i / 6]'(by omega) := by simp
  rw [h3] at h2
  have h4 := hW.cell (i := a + i / 6) (by omega) (i % 6) u h2.symm
  rwa [show (a + i / 6) * 6 + i % 6 = a * 6 + i by omega] at h4
/-- what may be read while a wrap is taken in -/
def PI (zs : List Tc) (th : Nat) (ys : List Ib) (m : Nat) (y : Nat) : Prop := PT zs th y ∨ ∃ i, ∃ h : i < ys.length, i < m ∧ InB ys[i] y
theorem PI.mono {m m' : Nat} (hm : m ≤ m') {y : Nat} (hy : PI zs th ys m y) : PI zs th ys m' y := hy.imp id (fun ⟨i, h1, h2, h3⟩ => ⟨i, h1, Nat.lt_of_lt_of_le h2 hm, h3⟩)
theorem PI.up (hW : Wi l h p q gi ci kd M0 ys W) (hth : th ≤ h) (hiv : ∀ y, l ≤ y → y < h → IvX zs y) {m y : Nat} (hy : PI zs th ys m y) : PT zs h y := by
  rcases hy with hy | ⟨i, h1, h2, h3⟩
  · exact hy.up hth
  · exact .inl ⟨hiv y (hW.inb h1 h3).1 (hW.inb h1 h3).2, (hW.inb h1 h3).2⟩
/-- some inner compounds go to the results -/
theorem Rs.inn {rv v' : Value} {L : List (Cp Su)} {b n1 a m : Nat} {B : List Cv} {E : Nat → Prop} (hR : Rs Q D0 w1 (PI zs th ys n1) E (fun y => y = b) rv L W) (hW : Wi l h p q gi ci kd M0 ys W) (hD : h ≤ D0) (hbD : D0 < b) (ham : a + m ≤ n1) (hn1 : n1 ≤ M0.length) (hok : ∀ c ∈ M0, IOK Q c)
    (h1 : B.length = L.length) (h3 : ∀ i (p : i < B.length) (q : i < L.length), CpV e1 (fun y => (XB D0 (PI zs th ys n1) W y ∧ ¬ y = b) ∧ some y ≠ rv.ownBlock) W B[i] L[i])
    (ho : W'.ownsRow (D0 + 1) 37 6 v' (L.length + m) (B.flatMap Cv.cells ++ ((ys.drop a).take m).flatMap Ib.cells)) (hg : W.grownBy W' rv.ownBlock) (hv : v'.ownBlock = rv.ownBlock ∨ ∀ y, v'.ownBlock = some y → W.heap.size ≤ y) :
    Rs Q D0 w1 (PI zs th ys n1) E (fun y => y = b) v' (L ++ ((M0.drop a).take m).map upC) W' := by
  have hl := hW.ins.1
  have hlen : (((M0.drop a).take m).map upC).length = m := by rw [List.length_map, List.length_take, List.length_drop]; omega
  have hlen2 : (((ys.drop a).take m).map Ib.x).length = m := by rw [List.length_map, List.length_take, List.length_drop]; omega
  refine hR.pushN h1 h3 (xs := ((ys.drop a).take m).map Ib.x) (by rw [hlen, hlen2]) (fun i p q => ?_) (fun d hd => ?_) (by rw [hlen, List.flatMap_map]; exact ho) hg hv
  · rw [hlen2] at p
    have e1' : (((ys.drop a).take m).map Ib.x)[i]'(by omega) = (ys[a + i]'(by omega)).x := by simp
    have e2' : (((M0.drop a).take m).map upC)[i]'(by omega) = upC (M0[a + i]'(by omega)) := by simp
    rw [e1', e2']
    refine CpV.to loc1 (hW.cpi (i := a + i) (by omega) (by omega)).view.upC (To.same fun y hy => ?_)
    have h2 := hW.inb (i := a + i) (by omega) hy
    refine ⟨⟨.inl ⟨by omega, .inr ⟨a + i, by omega, by omega, hy⟩⟩, by omega⟩, fun e => ?_⟩
    have := (hR.bl.lt e.symm).1
    omega
  · obtain ⟨d', hd', rfl⟩ := List.mem_map.1 hd
    have hk := hok _ (List.mem_of_mem_drop (List.mem_of_mem_take hd'))
    exact ⟨upC.ok hk, by
      show (d'.subs.map Su.bare).length ≤ _
      rw [List.length_map]
      have := hk.1
      omega⟩
/-- the last inner compound is taken up -/
theorem Rs.last (C : Cx Q lo v M zs D0 w w1) {rv : Value} {L : List (Cp Su)} {b n1 : Nat} (hthr : Thr zs k j th) (hk : k < M.length) (kz : k < zs.length) (hj : j < zs[k].ys.length) (hR : Rs Q D0 w1 (PI zs th ys n1) (ET zs th) (fun y => y = b) rv L W) (hW : Wi zs[k].ys[j].lo zs[k].ys[j].hi p q gi ci kd M0 ys W) (hbD : D0 < b) (hth : W.there b 0 6) (hro : ∀ y, rv.ownBlock = some y → y ≠ b)
    (hn1 : n1 < ys.length) (hn2 : n1 < M0.length) (hok : ∀ c ∈ M0, IOK Q c) : Fs Q D0 w1 (PT zs zs[k].ys[j].hi) (ET zs zs[k].ys[j].hi) rv L b ys[n1].x (upC M0[n1]) (W.setCells b 0 ys[n1].x.cells) := by
  have hd := C.hiD hk kz hj
  have hle := hthr.le kz hj
  have hc := hW.cpi hn1 hn2
  have hcv := hc.view
  obtain ⟨c1, c2, c3, c4, c5, c6, c7, c8⟩ := hc
  have hin : ∀ y, InB ys[n1] y → y < D0 ∧ InB ys[n1] y := fun y hy => ⟨by have := hW.inb hn1 hy; omega, hy⟩
  refine hR.work (P2 := InB ys[n1]) hbD hth hro rfl (c1.to (To.same fun y hy => ⟨hin y hy.1, hy.2⟩)) (c2.to (To.same fun y hy => ⟨hin y hy.1, hy.2⟩)) ?_ c5 c6 c7 (fun y hy => ?_) (fun y => PI.up hW (by omega) (fun y p1 p2 => (hthr.hit kz hj ⟨p1, p2⟩).1)) (fun y hy => .inl ⟨(hthr.hit kz hj (hW.inb hn1 hy)).1, (hW.inb hn1 hy).2⟩) (fun y => ET.up (by omega)) (upC.ok (hok _ (List.getElem_mem hn2)))
  · exact Bld.zmono loc1E (c3.map Su.bare (fun X x a h => h)) hin (Nat.zero_le _)
  · have hy2 := c4 y hy
    have hy3 := hW.inb hn1 hy2
    have hit := hthr.hit kz hj (b := y) hy3
    refine ⟨by omega, ⟨hit.1, hy3.2⟩, fun e => ?_⟩
    rcases e with e | ⟨i, i1, i2, i3⟩
    · rcases e with e | e
      · have := e.2; omega
      · exact e.1 hit.1
    · have := List.pairwise_iff_getElem.1 hW.ins.2.2.1 i n1 i1 hn1 i2
      have := i3.2
      have := hy2.1
      omega
end
/-- the next round after a subclass selector is taken over -/
theorem Cx.next1 (C : Cx Q lo v M zs D0 w w1) {ra : Option Addr} {rn rc : Nat} {L : List (Cp Su)} {b : Nat} {x : Cv} {c : Cp Su} {v' : Value} (hF : Fs Q D0 w1 (PT zs th) (ET zs th) (.slice ra rn rc) L b x c W) (hthr : Thr zs k j th) (hk : k < M.length) (kz : k < zs.length) (hj : j < zs[k].ys.length) (hj2 : j < M[k].subs.length)
    {B : List Value} (h1 : B.length = c.subs.length) (h3 : ∀ i (p : i < B.length) (q : i < c.subs.length), e1 (fun y => (XB D0 (PT zs th) W y ∧ y ≠ b ∧ some y ≠ (Value.slice ra rn rc).ownBlock) ∧ some y ≠ x.vs.ownBlock) W B[i] c.subs[i]) (hl : lgU M[k].subs[j] = false)
    (ho : W'.ownsRow 0 119 3 v' (c.subs.length + 1) (B.flatMap sbc ++ sbc zs[k].ys[j].v)) (hg : W.grownBy W' x.vs.ownBlock) (hv : v'.ownBlock = x.vs.ownBlock ∨ ∀ y, v'.ownBlock = some y → W.heap.size ≤ y) (hrn : rn = L.length) (hlb : rn ≤ LB M k M[k].subs j) (hcl : c.subs.length ≤ j * 2097152) :
    InS Q zs M D0 w1 b k M[k].subs (j + 1) ra rn rc (W'.setCell ⟨b, 1, none⟩ v') :=
  ⟨L, _, _, _, hrn, Fs.app C hF hthr hk kz hj hj2 h1 h3 ho hg hv hl, Thr.next C.sel kz hj, by rw [LB.more hj2]; omega, by
    show (c.subs ++ [M[k].subs[j]]).length ≤ _
    rw [List.length_append, List.length_singleton]
    omega⟩
/-- the next round after nothing was done -/
theorem Cx.next0 (C : Cx Q lo v M zs D0 w w1) {ra : Option Addr} {rn rc : Nat} {L : List (Cp Su)} {b m : Nat} {x : Cv} {c : Cp Su} {P : Nat → Prop} (hF : Fs Q D0 w1 P (ET zs th) (.slice ra rn rc) L b x c W) (hthr : Thr zs k j th) (hk : k < M.length) (kz : k < zs.length) (hj : j < zs[k].ys.length) (hj2 : j < M[k].subs.length)
    (hP : ∀ y, P y → PT zs zs[k].ys[j].hi y) (hrn : rn = L.length) (hlb : rn ≤ LB M k M[k].subs j) (hcl : c.subs.length ≤ (j + 1) * 2097152) : InS Q zs M D0 w1 b k M[k].subs (j + 1) ra rn rc W :=
  ⟨L, _, _, _, hrn, hF.up hP (fun y => ET.up (by have := hthr.le kz hj; have := C.hiD hk kz hj; omega)), Thr.next C.sel kz hj, by rw [LB.more hj2]; omega, hcl⟩
theorem Cx.thhi (C : Cx Q lo v M zs D0 w w1) (hthr : Thr zs k j th) (hk : k < M.length) (kz : k < zs.length) (hj : j < zs[k].ys.length) : th ≤ zs[k].ys[j].hi := by
  have := hthr.le kz hj
  have := C.hiD hk kz hj
  omega
end
/-- a wrap that is taken in -/
structure Wx (Q : Su → Prop) (lo : Nat) (v : Value) (M : List (Cp Su)) (zs : List Tc) (D0 : Nat) (w w1 : World) (k j th kd p q gi ci : Nat) (M0 : List (Cp ByteArray)) (ys : List Ib) (W0 : World) : Prop where
  C : Cx Q lo v M zs D0 w w1
  hthr : Thr zs k j th
  hk : k < M.length
  kz : k < zs.length
  hj : j < zs[k].ys.length
  hj2 : j < M[k].subs.length
  hs : M[k].subs[j] = .wrap kd [M0]
  hwi : Wi zs[k].ys[j].lo zs[k].ys[j].hi p q gi ci kd M0 ys W0
  hf0 : Fr (ET zs th) w1 W0
  pos : 0 < M0.length
  ok : ∀ c ∈ M0, IOK Q c
/-- after the first inner compound was merged, or not -/
def MgS (Q : Su → Prop) (zs : List Tc) (M : List (Cp Su)) (D0 : Nat) (w1 : World) (b k j th gi : Nat) (S : List Su) (M0 : List (Cp ByteArray)) (ys : List Ib) (W0 : World) (ra : Option Addr) (rn rc : Nat) (a' : Option Addr) (nn c' : Nat) (W : World) : Prop :=
  ∃ mm L x c, mm + nn = M0.length ∧ mm ≤ 1 ∧ (0 < nn → a' = some ⟨gi, mm * 6, none⟩) ∧ nn ≤ c' ∧ rn = L.length ∧ Fs Q D0 w1 (PI zs th ys mm) (ET zs th) (.slice ra rn rc) L b x c W ∧ rn ≤ LB M k S j ∧ c.subs.length ≤ (j + 1) * 2097152 ∧ W0.heap.size ≤ W.heap.size
/-- after the compound at work went to the results, or not -/
def PuS (Q : Su → Prop) (zs : List Tc) (M : List (Cp Su)) (D0 : Nat) (w1 : World) (b k j th : Nat) (S : List Su) (M0 : List (Cp ByteArray)) (ys : List Ib) (W0 : World) (d : Nat) (ra : Option Addr) (rn rc : Nat) (W : World) : Prop :=
  ∃ L, rn = L.length ∧ Rs Q D0 w1 (PI zs th ys (M0.length - 1)) (ET zs th) (fun y => y = b) (.slice ra rn rc) L W ∧ W.there b 0 6 ∧ (∀ y, (Value.slice ra rn rc).ownBlock = some y → y ≠ b) ∧ D0 < b ∧ rn ≤ LB M k S j + d ∧ W0.heap.size ≤ W.heap.size
section
variable {Q : Su → Prop} {lo : Nat} {v : Value} {M : List (Cp Su)} {zs : List Tc} {D0 : Nat} {w w1 W W' W0 : World} {k j th kd p q gi ci b rn rc nn c' d : Nat} {M0 : List (Cp ByteArray)} {ys : List Ib} {ra a' : Option Addr} {S : List Su}
theorem Wx.wi (h : Wx Q lo v M zs D0 w w1 k j th kd p q gi ci M0 ys W0) (hfr : Fr (ET zs th) w1 W) (hs : W0.heap.size ≤ W.heap.size) : Wi (((zs[k]'h.kz).ys[j]'h.hj).lo) (((zs[k]'h.kz).ys[j]'h.hj).hi) p q gi ci kd M0 ys W := h.C.wi2 h.hf0 hfr hs h.hthr h.hk h.kz h.hj h.hwi
theorem Wx.ylen (h : Wx Q lo v M zs D0 w w1 k j th kd p q gi ci M0 ys W0) : ys.length = M0.length := h.hwi.ins.1
/-- blocks of an inner compound are read by the compound at work -/
theorem Wx.hZ (h : Wx Q lo v M zs D0 w w1 k j th kd p q gi ci M0 ys W0) {P : Nat → Prop} {rv : Value} {L : List (Cp Su)} {x : Cv} {c : Cp Su} (hF : Fs Q D0 w1 P (ET zs th) rv L b x c W) {i : Nat} (hi : i < ys.length) {y : Nat} (hy : InB ys[i] y) (hP : P y) : (XB D0 P W y ∧ y ≠ b ∧ some y ≠ rv.ownBlock) ∧ some y ≠ x.vs.ownBlock := by
  have h1 := h.hwi.inb hi hy
  have h2 := h.C.hiD h.hk h.kz h.hj
  have h3 := h.hthr.le h.kz h.hj
  have hf := hF.far (y := y) (by omega) (by omega)
  exact ⟨⟨.inl ⟨by omega, hP⟩, hf.1, hf.2.1⟩, hf.2.2⟩
theorem MgS.skip (hW : Wx Q lo v M zs D0 w w1 k j th kd p q gi ci M0 ys W0) {L : List (Cp Su)} {x : Cv} {c : Cp Su} (hF : Fs Q D0 w1 (PT zs th) (ET zs th) (.slice ra rn rc) L b x c W) (hrn : rn = L.length) (hlb : rn ≤ LB M k S j) (hcl : c.subs.length ≤ j * 2097152) (hsz : W0.heap.size ≤ W.heap.size) :
    MgS Q zs M D0 w1 b k j th gi S M0 ys W0 ra rn rc (some ⟨gi, 0, none⟩) M0.length ci W := by
  have h8 : c.subs.length ≤ (j + 1) * 2097152 := Nat.le_trans hcl (Nat.mul_le_mul_right _ (Nat.le_succ j))
  refine ⟨0, L, x, c, Nat.zero_add _, Nat.zero_le _, fun _ => ?_, hW.hwi.cp, hrn, hF.up (P' := PI zs th ys 0) (E' := ET zs th) (fun y hy => .inl hy) (fun y hy => hy), hlb, h8, hsz⟩
  rw [Nat.zero_mul]
theorem MgS.merge (hW : Wx Q lo v M zs D0 w w1 k j th kd p q gi ci M0 ys W0) {L : List (Cp Su)} {x : Cv} {c : Cp Su} (hF : Fs Q D0 w1 (PI zs th ys 1) (ET zs th) (.slice ra rn rc) L b x c W) (hrn : rn = L.length) (hlb : rn ≤ LB M k S j) (hcl : c.subs.length ≤ j * 2097152) (hsz : W0.heap.size ≤ W.heap.size)
    (hm : MgP b x c (M0[0]'hW.pos) (fun y => XB D0 (PI zs th ys 1) W y ∧ y ≠ b ∧ some y ≠ (Value.slice ra rn rc).ownBlock) W W') (ha : 0 < M0.length - 1 → a' = some ⟨gi, 6, none⟩) :
    MgS Q zs M D0 w1 b k j th gi S M0 ys W0 ra rn rc a' (M0.length - 1) (ci - 1) W' := by
  have hp := hW.pos
  have hok := hW.ok _ (List.getElem_mem hp)
  have hs' := hm
  obtain ⟨x', hF'⟩ := hF.merge hm (mg_ok hF.ok hok)
  have hcp := hW.hwi.cp
  obtain ⟨-, -, -, hfr⟩ := hs'
  have hl := mg_len c (M0[0]'hp)
  have hl2 := hok.1
  exact ⟨1, L, x', _, by omega, by omega, fun h => ha h, by omega, hrn, hF', hlb, by omega, Nat.le_trans hsz hfr.size⟩
/-- nothing is left -/
theorem MgS.done (hW : Wx Q lo v M zs D0 w w1 k j th kd p q gi ci M0 ys W0) (h : MgS Q zs M D0 w1 b k j th gi (M[k]'hW.hk).subs M0 ys W0 ra rn rc a' nn c' W) : InS Q zs M D0 w1 b k (M[k]'hW.hk).subs (j + 1) ra rn rc W := by
  obtain ⟨mm, L, x, c, h1, h2, h3, h4, h5, h6, h7, h8, h9⟩ := h
  exact hW.C.next0 (m := 0) h6 hW.hthr hW.hk hW.kz hW.hj hW.hj2 (fun y => PI.up hW.hwi (hW.C.thhi hW.hthr hW.hk hW.kz hW.hj) (fun y p1 p2 => (hW.hthr.hit hW.kz hW.hj ⟨p1, p2⟩).1)) h5 h7 h8
theorem MgS.nopush (h : MgS Q zs M D0 w1 b k j th gi S M0 ys W0 ra rn rc a' nn c' W) (hn : 0 < nn) (hb : Below W.heap.size W W') : PuS Q zs M D0 w1 b k j th S M0 ys W0 1 ra rn rc W' := by
  obtain ⟨mm, L, x, c, h1, h2, h3, h4, h5, h6, h7, h8, h9⟩ := h
  have hF := (h6.keep hb).up (P' := PI zs th ys (M0.length - 1)) (fun y => PI.mono (by omega)) (fun y hy => hy)
  exact ⟨L, h5, hF.free, hF.tg.thr, fun y hy => (hF.ro y hy).2, hF.bD, by omega, Nat.le_trans h9 hb.size⟩
theorem MgS.keep (h : MgS Q zs M D0 w1 b k j th gi S M0 ys W0 ra rn rc a' nn c' W) (hb : Below W.heap.size W W') : MgS Q zs M D0 w1 b k j th gi S M0 ys W0 ra rn rc a' nn c' W' := by
  obtain ⟨mm, L, x, c, h1, h2, h3, h4, h5, h6, h7, h8, h9⟩ := h
  exact ⟨mm, L, x, c, h1, h2, h3, h4, h5, h6.keep hb, h7, h8, Nat.le_trans h9 hb.size⟩
theorem MgS.pos (h : MgS Q zs M D0 w1 b k j th gi S M0 ys W0 ra rn rc a' nn c' W) (hn : 0 < nn) : ∃ mm, mm + nn = M0.length ∧ a' = some ⟨gi, mm * 6, none⟩ ∧ nn ≤ c' := by
  obtain ⟨mm, L, x, c, h1, h2, h3, h4, h5, h6, h7, h8, h9⟩ := h
  exact ⟨mm, h1, h3 hn, h4⟩
/-- the compound at work, as it stands in its box -/
theorem MgS.box (h : MgS Q zs M D0 w1 b k j th gi S M0 ys W0 ra rn rc a' nn c' W) : ∃ (pa sa : Option Addr) (sn sc : Nat) (la : Option Addr) (ln lc cb : Nat) (we : Bool), W.rangeAt b 0 (Cv.cells ⟨.pointer pa, .slice sa sn sc, .slice la ln lc, cb, we⟩) ∧ Pty (.pointer pa) := by
  obtain ⟨mm, L, x, c, h1, h2, h3, h4, h5, h6, h7, h8, h9⟩ := h
  obtain ⟨pa, sa, sc, la, lc, hx⟩ := h6.tg.form
  refine ⟨pa, sa, c.subs.length, sc, la, c.nest, lc, c.cb, c.we, ?_, ?_⟩
  · rw [← hx]; exact h6.tg.box
  · have := h6.tg.ty.pty
    rw [hx] at this
    exact this
theorem MgS.push (h : MgS Q zs M D0 w1 b k j th gi S M0 ys W0 ra rn rc a' nn c' W) (hn : 0 < nn) (hj4 : j ≤ 1048576) : ∃ (pa sa : Option Addr) (sn sc : Nat) (la : Option Addr) (ln lc cb : Nat) (we : Bool) (B : List Cv), W.rangeAt b 0 (Cv.cells ⟨.pointer pa, .slice sa sn sc, .slice la ln lc, cb, we⟩) ∧ rn ≤ LB M k S j ∧ D0 < W.heap.size ∧
    ∀ W2, Below W.heap.size W W2 → W2.ownsRow (D0 + 1) 37 6 (.slice ra rn rc) rn (B.flatMap Cv.cells) ∧
    ∀ W' v', W'.ownsRow (D0 + 1) 37 6 v' (rn + 1) (B.flatMap Cv.cells ++ Cv.cells ⟨.pointer pa, .slice sa sn sc, .slice la ln lc, cb, we⟩) → W2.grownBy W' (Value.slice ra rn rc).ownBlock → (v'.ownBlock = (Value.slice ra rn rc).ownBlock ∨ ∀ y, v'.ownBlock = some y → W2.heap.size ≤ y) → ∀ ra' rc', v' = .slice ra' (rn + 1) rc' → PuS Q zs M D0 w1 b k j th S M0 ys W0 1 ra' (rn + 1) rc' W' := by
  obtain ⟨mm, L, x, c, h1, h2, h3, h4, h5, h6, h7, h8, h9⟩ := h
  have hF := h6.up (P' := PI zs th ys (M0.length - 1)) (E' := ET zs th) (fun y => PI.mono (by omega)) (fun y hy => hy)
  obtain ⟨B, hB1, hB2, hB3⟩ := hF.rs.bl
  rw [← h5] at hB2
  obtain ⟨pa, sa, sc, la, lc, hx⟩ := hF.tg.form
  refine ⟨pa, sa, c.subs.length, sc, la, c.nest, lc, c.cb, c.we, B, by rw [← hx]; exact hF.tg.box, h7, hF.rs.sz, fun W2 hb => ⟨own_keep hB2 hb, fun W' v' ho hg hv ra' rc' he => ?_⟩⟩
  subst he
  rw [← hx] at ho
  have hF2 := hF.keep hb
  have hsz : D0 ≤ W.heap.size := Nat.le_of_lt hF.rs.sz
  have hR := hF2.push (by omega) (fun y hy => .inl hy.p) hB1 (fun i p q => loc1C _ _ _ _ _ _ (fun y hy => ⟨⟨⟨hy.1.1.mono id hb.size, hy.1.2⟩, hy.2⟩, hb.block y (hy.1.1.lt hsz)⟩) (hB3 i p q)) (by rw [← h5]; exact ho) hg hv
  have hbb : W'.heap[b]? = W2.heap[b]? := hg.block b hF2.bs (fun q => (hF2.ro b q.symm).2 rfl)
  refine ⟨L ++ [c], by rw [List.length_append, List.length_singleton, h5], hR, th_ag hbb hF2.tg.thr, fun y hy => ?_, hF2.bD, by omega, Nat.le_trans (Nat.le_trans h9 hb.size) hg.size⟩
  rcases hv with hv | hv
  · exact (hF2.ro y (by rw [← hv]; exact hy)).2
  · have := hv y hy; have := hF2.bs; omega
/-- the inner compounds but the last go to the results -/
theorem PuS.inn (hW : Wx Q lo v M zs D0 w w1 k j th kd p q gi ci M0 ys W0) (h : PuS Q zs M D0 w1 b k j th S M0 ys W0 1 ra rn rc W) {mm m : Nat} (hm : mm + m + 1 = M0.length) : ∃ B : List Cv, W.ownsRow (D0 + 1) 37 6 (.slice ra rn rc) rn (B.flatMap Cv.cells) ∧ rn ≤ LB M k S j + 1 ∧ Wi (((zs[k]'hW.kz).ys[j]'hW.hj).lo) (((zs[k]'hW.kz).ys[j]'hW.hj).hi) p q gi ci kd M0 ys W ∧
    ∀ W' v', W'.ownsRow (D0 + 1) 37 6 v' (rn + m) (B.flatMap Cv.cells ++ ((ys.drop mm).take m).flatMap Ib.cells) → W.grownBy W' (Value.slice ra rn rc).ownBlock → (v'.ownBlock = (Value.slice ra rn rc).ownBlock ∨ ∀ y, v'.ownBlock = some y → W.heap.size ≤ y) → ∀ ra' rc', v' = .slice ra' (rn + m) rc' → PuS Q zs M D0 w1 b k j th S M0 ys W0 (1 + m) ra' (rn + m) rc' W' := by
  obtain ⟨L, h1, h2, h3, h4, h5, h6, h7⟩ := h
  have hwi := hW.wi h2.kp h7
  obtain ⟨B, hB1, hB2, hB3⟩ := h2.bl
  rw [← h1] at hB2
  refine ⟨B, hB2, h6, hwi, fun W' v' ho hg hv ra' rc' he => ?_⟩
  subst he
  have hd := hW.C.hiD hW.hk hW.kz hW.hj
  have hR := h2.inn hwi hd.1 h5 (a := mm) (m := m) (by omega) (by omega) hW.ok hB1 hB3 (by rw [← h1]; exact ho) hg hv
  have hbs : b < W.heap.size := th_lt h3 (by decide)
  have hbb : W'.heap[b]? = W.heap[b]? := hg.block b hbs (fun q => h4 b q.symm rfl)
  refine ⟨_, ?_, hR, th_ag hbb h3, fun y hy => ?_, h5, by omega, Nat.le_trans h7 hg.size⟩
  · rw [List.length_append, List.length_map, List.length_take, List.length_drop, ← h1]
    omega
  · rcases hv with hv | hv
    · exact h4 y (by rw [← hv]; exact hy)
    · have := hv y hy; omega
/-- the last inner compound is taken up -/
theorem PuS.last (hW : Wx Q lo v M zs D0 w w1 k j th kd p q gi ci M0 ys W0) (h : PuS Q zs M D0 w1 b k j th (M[k]'hW.hk).subs M0 ys W0 d ra rn rc W) (hd : d ≤ M0.length + 1) {i : Nat} (hi : i + 1 = M0.length) (hi2 : i < ys.length) : W.there b 0 6 ∧ W.rangeAt gi (i * 6) ys[i].x.cells ∧ (∃ (pa sa : Option Addr) (sn sc : Nat) (la : Option Addr) (ln lc cb : Nat) (we : Bool), ys[i].x = ⟨.pointer pa, .slice sa sn sc, .slice la ln lc, cb, we⟩) ∧ InS Q zs M D0 w1 b k (M[k]'hW.hk).subs (j + 1) ra rn rc (W.setCells b 0 ys[i].x.cells) := by
  obtain ⟨L, h1, h2, h3, h4, h5, h6, h7⟩ := h
  have hwi := hW.wi h2.kp h7
  have hi3 : i < M0.length := by omega
  obtain ⟨pa, sa, sc, la, lc, hx⟩ := (hwi.cpi hi2 hi3).form
  obtain rfl : i = M0.length - 1 := by omega
  have hF := h2.last hW.C hW.hthr hW.hk hW.kz hW.hj hwi h5 h3 h4 hi2 hi3 hW.ok
  have hok := (hW.ok _ (List.getElem_mem hi3)).1
  refine ⟨h3, hwi.cell hi2, ⟨pa, sa, _, sc, la, _, lc, _, _, hx⟩, L, _, _, _, h1, hF, Thr.next hW.C.sel hW.kz hW.hj, ?_, ?_⟩
  · rw [LB.more hW.hj2, hW.hs]
    show rn ≤ _ + (2 + ([M0].map (·.length)).sum)
    simp only [List.map_cons, List.map_nil, List.sum_cons, List.sum_nil]
    omega
  · show ((M0[M0.length - 1]'hi3).subs.map Su.bare).length ≤ _
    rw [List.length_map]
    omega
theorem Wx.len (h : Wx Q lo v M zs D0 w w1 k j th kd p q gi ci M0 ys W0) : LB M k (M[k]'h.hk).subs j + (2 + M0.length) ≤ 4194304 := by
  have h1 := LB.le h.C.mok.wt h.hk (j := j + 1)
  rw [LB.more h.hj2, h.hs] at h1
  have h2 : tU (.wrap kd [M0]) = 2 + M0.length := by
    show 2 + ([M0].map (·.length)).sum = _
    simp
  rwa [h2] at h1
theorem one_cv {x : Cv} (h1 : x.tv.oneCell' = true) (h2 : x.vs.oneCell' = true) (h3 : x.vn.oneCell' = true) : ∀ u ∈ x.cells, u.oneCell' = true := fun u hu => by
  simp only [Cv.cells, List.mem_cons, List.not_mem_nil, or_false] at hu
  rcases hu with rfl | rfl | rfl | rfl | rfl | rfl
  · exact h1
  · exact h2
  · exact h3
  all_goals rfl
theorem Wi.one {l h : Nat} (hW : Wi l h p q gi ci kd M0 ys W) (a m : Nat) : ∀ u ∈ ((ys.drop a).take m).flatMap Ib.cells, u.oneCell' = true := fun u hu => by
  obtain ⟨y, hy, hu⟩ := List.mem_flatMap.1 hu
  obtain ⟨i, hi, rfl⟩ := List.mem_iff_getElem.1 (List.mem_of_mem_drop (List.mem_of_mem_take hy))
  obtain ⟨pa, sa, sc, la, lc, hx⟩ := (hW.cpi hi (by have := hW.ins.1; omega)).form
  have hu2 : u ∈ ys[i].x.cells := hu
  rw [hx] at hu2
  exact one_cv rfl rfl rfl u hu2
theorem InS.keep (h : InS Q zs M D0 w1 b k S j ra rn rc W) (hb : Below W.heap.size W W') : InS Q zs M D0 w1 b k S j ra rn rc W' := by
  obtain ⟨L, x, c, th, h1, h2, h3, h4, h5⟩ := h
  exact ⟨L, x, c, th, h1, h2.keep hb, h3, h4, h5⟩
theorem InS.box (h : InS Q zs M D0 w1 b k S j ra rn rc W) : ∃ (pa sa : Option Addr) (sn sc : Nat) (la : Option Addr) (ln lc cb : Nat) (we : Bool), W.rangeAt b 0 (Cv.cells ⟨.pointer pa, .slice sa sn sc, .slice la ln lc, cb, we⟩) ∧ Pty (.pointer pa) := by
  obtain ⟨L, x, c, th, h1, h6, h3, h4, h5⟩ := h
  obtain ⟨pa, sa, sc, la, lc, hx⟩ := h6.tg.form
  refine ⟨pa, sa, c.subs.length, sc, la, c.nest, lc, c.cb, c.we, ?_, ?_⟩
  · rw [← hx]; exact h6.tg.box
  · have := h6.tg.ty.pty
    rw [hx] at this
    exact this
theorem InS.nopush (hk : k < M.length) (h : InS Q zs M D0 w1 b k M[k].subs M[k].subs.length ra rn rc W) : OutS Q zs M D0 w1 (k + 1) ra rn rc W := by
  obtain ⟨L, x, c, th, h1, h2, h3, h4, h5⟩ := h
  exact ⟨L, th, h1, h2.free.loose, h3.row, by rw [← LB.row hk]; omega⟩
theorem InS.push (hk : k < M.length) (hj4 : M[k].subs.length ≤ 1048576) (h : InS Q zs M D0 w1 b k M[k].subs M[k].subs.length ra rn rc W) : ∃ (pa sa : Option Addr) (sn sc : Nat) (la : Option Addr) (ln lc cb : Nat) (we : Bool) (B : List Cv), W.rangeAt b 0 (Cv.cells ⟨.pointer pa, .slice sa sn sc, .slice la ln lc, cb, we⟩) ∧ rn ≤ LB M k M[k].subs M[k].subs.length ∧ D0 < W.heap.size ∧
    ∀ W2, Below W.heap.size W W2 → W2.ownsRow (D0 + 1) 37 6 (.slice ra rn rc) rn (B.flatMap Cv.cells) ∧
    ∀ W' v', W'.ownsRow (D0 + 1) 37 6 v' (rn + 1) (B.flatMap Cv.cells ++ Cv.cells ⟨.pointer pa, .slice sa sn sc, .slice la ln lc, cb, we⟩) → W2.grownBy W' (Value.slice ra rn rc).ownBlock → (v'.ownBlock = (Value.slice ra rn rc).ownBlock ∨ ∀ y, v'.ownBlock = some y → W2.heap.size ≤ y) → ∀ ra' rc', v' = .slice ra' (rn + 1) rc' → OutS Q zs M D0 w1 (k + 1) ra' (rn + 1) rc' W' := by
  obtain ⟨L, x, c, th, h1, hF, h3, h4, h5⟩ := h
  obtain ⟨B, hB1, hB2, hB3⟩ := hF.rs.bl
  rw [← h1] at hB2
  obtain ⟨pa, sa, sc, la, lc, hx⟩ := hF.tg.form
  refine ⟨pa, sa, c.subs.length, sc, la, c.nest, lc, c.cb, c.we, B, by rw [← hx]; exact hF.tg.box, h4, hF.rs.sz, fun W2 hb => ⟨own_keep hB2 hb, fun W' v' ho hg hv ra' rc' he => ?_⟩⟩
  subst he
  rw [← hx] at ho
  have hF2 := hF.keep hb
  have hsz : D0 ≤ W.heap.size := Nat.le_of_lt hF.rs.sz
  have hR := hF2.push (by omega) (fun y hy => hy.p) hB1 (fun i p q => loc1C _ _ _ _ _ _ (fun y hy => ⟨⟨⟨hy.1.1.mono id hb.size, hy.1.2⟩, hy.2⟩, hb.block y (hy.1.1.lt hsz)⟩) (hB3 i p q)) (by rw [← h1]; exact ho) hg hv
  exact ⟨L ++ [c], th, by rw [List.length_append, List.length_singleton, h1], hR.loose, h3.row, by rw [← LB.row hk]; omega⟩
/-- the results as they stand at the end -/
def FinS (Q : Su → Prop) (zs : List Tc) (D0 pp : Nat) (w1 : World) (ra : Option Addr) (rn rc : Nat) (W : World) : Prop :=
  ∃ L E, rn = L.length ∧ Rs Q D0 w1 (fun y => IvX zs y ∨ ∃ z ∈ zs, InC z y) E (fun _ => False) (.slice ra rn rc) L W ∧ rn ≤ 4194305 ∧ ∀ y, E y → IvX zs y ∨ y = pp
theorem OutS.fin {pp : Nat} (C : Cx Q lo v M zs D0 w w1) (h : OutS Q zs M D0 w1 M.length ra rn rc W) : FinS Q zs D0 pp w1 ra rn rc W := by
  obtain ⟨L, th, h1, h2, h3, h4⟩ := h
  refine ⟨L, ET zs th, h1, h2.mono (fun y hy => ?_) (fun _ => id) (fun _ => id), ?_, fun y hy => .inl hy.1⟩
  · rcases hy with hy | hy
    · exact .inl hy.1
    · exact .inr hy.2
  · have h5 : LB M M.length [] 0 = (M.map tC).sum := by
      unfold LB
      rw [List.take_of_length_le (Nat.le_refl _)]
      simp
    have := C.mok.wt
    omega
/-- a subclass selector of which nothing is asked -/
def eW : El Su := fun _ _ x _ => x.oneCell' = true
theorem Cx.weak (C : Cx Q lo v M zs D0 w w1) (hfr : Fr (ET zs th) w1 W) (hk : k < M.length) (kz : k < zs.length) : CpV eW (fun y => y < W.heap.size) W zs[k].x M[k] := by
  have hc := C.cp hk kz
  have hsz := Nat.le_trans C.bel.size hfr.size
  have hblk : ∀ y, OutC zs[k] y → W.heap[y]? = w.heap[y]? := fun y hy => by
    have ho := C.outD hk kz hy
    exact C.blk hfr ho.1 (fun q => ho.2 q.1)
  have hto : To (OutR zs[k]) w (fun y => y < W.heap.size) W := fun y hy => ⟨by have := (C.outD hk kz hy.1).1; have := C.hD; omega, hblk y hy.1⟩
  have ho : W.ownsRow zs[k].lo 119 3 zs[k].x.vs M[k].subs.length ((zs[k].ys.map Sx.v).flatMap sbc) := by rw [List.flatMap_map]; exact own_ag hc.row (fun g hg => hblk g (hc.rown g hg))
  refine ⟨hc.ty.to hto, own_view (B := zs[k].ys.map Sx.v) ho (by rw [List.length_map, hc.len]) (fun _ => rfl) (fun b hb => (ho.lt b hb).2) (fun i p q => ?_), hc.lc.to hto, hc.cb, hc.we, hc.lt⟩
  have hi : i < zs[k].ys.length := by simpa using p
  rw [List.getElem_map]
  show zs[k].ys[i].v.oneCell' = true
  obtain ⟨T, a, he⟩ := e1_form ((hc.els i hi q).view (X := fun _ => True) (fun _ _ _ => trivial))
  rw [he]; rfl
theorem Cx.ivlt (C : Cx Q lo v M zs D0 w w1) {y : Nat} (h : IvX zs y) : lo ≤ y ∧ y < D0 := by
  obtain ⟨z, hz, x, hx, hin⟩ := h
  obtain ⟨k', hk', rfl⟩ := List.mem_iff_getElem.1 hz
  have hcp := C.sel.2.2.2.2 k' hk' (by rw [← C.sel.1]; exact hk')
  have a1 := hcp.rng x hx
  have a2 := (C.sel.2.2.2.1 _ hz).1
  have a3 := hcp.hi
  have a4 := hin.1
  have a5 := hin.2
  have a6 := C.hD
  omega
theorem OutS.kp (h : OutS Q zs M D0 w1 k ra rn rc W) : ∃ th, Fr (ET zs th) w1 W := by
  obtain ⟨L, th, h1, h2, h3, h4⟩ := h
  exact ⟨th, h2.kp⟩
/-- blocks that no step writes -/
theorem OutS.far (C : Cx Q lo v M zs D0 w w1) (h : OutS Q zs M D0 w1 k ra rn rc W) {y : Nat} (hy : y < lo ∨ y = D0) (hD : lo ≤ D0) : W.heap[y]? = w1.heap[y]? := by
  obtain ⟨th, hf⟩ := h.kp
  exact hf.block y (by have := C.sz; omega) (fun q => by have := C.ivlt q.1; omega)
theorem FinS.far {pp : Nat} (C : Cx Q lo v M zs D0 w w1) (h : FinS Q zs D0 pp w1 ra rn rc W) (hpp : pp < lo) (hD : lo ≤ D0) : W.heap[D0]? = w1.heap[D0]? := by
  obtain ⟨L, E, h1, h2, h3, h4⟩ := h
  exact h2.kp.block D0 (by have := C.sz; omega) (fun q => by
    rcases h4 _ q with q | q
    · have := C.ivlt q; omega
    · omega)
/-- nothing came of it: one bare nesting selector -/
theorem OutS.none {pp gl : Nat} {a : Int} {W3 : World} (hpp : pp < D0) (h : OutS Q zs M D0 w1 k ra 0 rc W) (hb : Below W.heap.size W W3) (hgl : W.heap.size ≤ gl) (hgl2 : gl < W3.heap.size) (hr : W3.rangeAt gl 0 [.int .i32 a]) :
    D0 + 1 ≤ W3.heap.size ∧ W3.ownsRow (D0 + 1) 37 6 (.slice ra 0 rc) 0 [] ∧
    ∀ W' v', W'.ownsRow (D0 + 1) 37 6 v' 1 (Cv.cells ⟨.pointer Option.none, .slice Option.none 0 0, .slice (some ⟨gl, 0, Option.none⟩) 1 1, 0, true⟩) → W3.grownBy W' (Value.slice ra 0 rc).ownBlock → (v'.ownBlock = (Value.slice ra 0 rc).ownBlock ∨ ∀ y, v'.ownBlock = some y → W3.heap.size ≤ y) →
      W'.heap[pp]? = W.heap[pp]? ∧ ∀ ra' rc', v' = .slice ra' 1 rc' → ∀ o u, FinS Q zs D0 pp w1 ra' 1 rc' (W'.setCell ⟨pp, o, Option.none⟩ u) := by
  obtain ⟨L, th, h1, h2, h3, h4⟩ := h
  have hL : L = [] := List.eq_nil_of_length_eq_zero h1.symm
  subst hL
  obtain ⟨B, hB1, hB2, hB3⟩ := h2.bl
  have hB : B = [] := List.eq_nil_of_length_eq_zero hB1
  subst hB
  have hsz := h2.sz
  have hown : ∀ y, (Value.slice ra 0 rc).ownBlock = some y → D0 + 1 ≤ y ∧ y < W.heap.size := fun y hy => h2.bl.lt hy
  have hO3 : W3.ownsRow (D0 + 1) 37 6 (.slice ra 0 rc) 0 [] := own_keep hB2 hb
  have hR3 : Rs Q D0 w1 (fun _ => False) (ET zs th) (fun _ => False) (.slice ra 0 rc) [] W3 := ⟨⟨[], rfl, hO3, fun i p => absurd p (Nat.not_lt_zero _)⟩, h2.kp.trans (Fr.new hb), fun c hc => (by cases hc), h2.w1⟩
  refine ⟨Nat.le_trans hsz hb.size, hO3, fun W' v' ho hg hv => ⟨?_, fun ra' rc' he o u => ?_⟩⟩
  · rw [hg.block pp (by have := hb.size; omega) (fun q => by have := hown pp q.symm; omega)]
    exact hb.block pp (by omega)
  · subst he
    have hR := hR3.pushN (B := []) (xs := [⟨.pointer Option.none, .slice Option.none 0 0, .slice (some ⟨gl, 0, Option.none⟩) 1 1, 0, true⟩]) (ls := [⟨Option.none, [], 1, 0, true⟩]) rfl (fun i p => absurd p (Nat.not_lt_zero _)) rfl (fun i p q => ?_) (fun c hc => ?_) (by simpa using ho) hg hv
    · refine ⟨[⟨Option.none, [], 1, 0, true⟩], fun y => ET zs th y ∨ y = pp, rfl, hR.fr (F := fun y => y = pp) (Fr.set W' rfl) (fun y hy _ => ⟨?_, hy.mono (fun q => q.elim) (by rw [size_set]; exact Nat.le_refl _), id⟩) (fun y hy q => ?_) (fun y _ q => .inr q) (fun y q => .inl q), by omega, fun y hy => hy.imp (fun q => q.1) id⟩
      · intro q
        rcases hy with hy | hy
        · exact hy.2
        · omega
      · have := (hR.bl.lt hy).1
        omega
    · obtain rfl : i = 0 := by simp at p; omega
      refine ⟨rfl, RW.nil _ _ _ _ _ _ _, ⟨_, _, rfl, fun j hj => ?_⟩, rfl, rfl, by show 0 < 256; omega⟩
      obtain rfl : j = 0 := by
        have : j < 1 := hj
        omega
      refine ⟨gl, 0, a, rfl, ⟨⟨.inr ⟨by omega, hgl2⟩, id⟩, fun q => by have := hown gl q.symm; omega⟩, hr 0 _ rfl⟩
    · rw [List.mem_singleton.1 hc]
      exact ⟨⟨rfl, fun s hs => (by cases hs), by show 1 ≤ 1048576; omega⟩, by show 0 ≤ _; omega⟩
/-- the end -/
theorem FinS.fin {pp nl : Nat} {lv : Value} {cs : List Value} (C : Cx Q lo v M zs D0 w w1) (h : FinS Q zs D0 pp w1 ra rn rc W) (hpp : pp < lo) (hlv : ∀ y, lv.ownBlock = some y → y < lo ∧ y ≠ pp) (hM : 0 < M.length) (hl : w.ownsRow 0 40 1 lv nl cs) {W2 : World} (hb : Below (W.setCell ⟨D0, 0, none⟩ (.slice ra rn rc)).heap.size (W.setCell ⟨D0, 0, none⟩ (.slice ra rn rc)) W2) :
    W2.ownsRow 0 40 1 lv nl cs ∧ ∀ W' lv', W'.ownsRow 0 40 1 lv' (nl + 1) (cs ++ [.slice ra rn rc]) → W2.grownBy W' lv.ownBlock → (lv'.ownBlock = lv.ownBlock ∨ ((∀ y, lv'.ownBlock = some y → W2.heap.size ≤ y) ∧ ∀ la lc, lv = .slice la nl lc → lc ≤ nl)) → FlB Q zs pp nl lv cs w (.returned lv') W' := by
  obtain ⟨L, E, h1, h2, h3, h4⟩ := h
  have hsz := h2.sz
  have hD := C.hD
  have hloD : lo ≤ D0 := by
    obtain ⟨g, c, hv, -⟩ := C.sel.2.1.form hM
    have := C.sel.2.1.lt g (by rw [hv]; rfl)
    omega
  have hiv : ∀ y, IvX zs y → lo ≤ y ∧ y < D0 := fun y hy => by
    obtain ⟨z, hz, x, hx, hin⟩ := hy
    obtain ⟨k', hk', rfl⟩ := List.mem_iff_getElem.1 hz
    have hcp := C.sel.2.2.2.2 k' hk' (by rw [← C.sel.1]; exact hk')
    have a1 := hcp.rng x hx
    have a2 := (C.sel.2.2.2.1 _ hz).1
    have a3 := hcp.hi
    have a4 := hin.1
    have a5 := hin.2
    omega
  have hP : ∀ y, (IvX zs y ∨ ∃ z ∈ zs, InC z y) → lo ≤ y := fun y hy => by
    rcases hy with hy | ⟨z, hz, hin⟩
    · exact (hiv y hy).1
    · exact Nat.le_trans (C.sel.2.2.2.1 _ hz).1 hin.1
  have hs1 : (W.setCell ⟨D0, 0, none⟩ (.slice ra rn rc)).heap.size = W.heap.size := size_set
  have f1 : Fr (fun k => D0 ≤ k ∨ IvX zs k ∨ k = pp) w W2 := by
    have g1 : Fr (fun k => D0 ≤ k ∨ IvX zs k ∨ k = pp) w w1 := Fr.ofBelow C.bel (fun k hk hn => .inl (by omega))
    have g2 : Fr (fun k => D0 ≤ k ∨ IvX zs k ∨ k = pp) w1 W := h2.kp.mono (fun k _ q => .inr (h4 k q))
    have g3 : Fr (fun k => D0 ≤ k ∨ IvX zs k ∨ k = pp) W (W.setCell ⟨D0, 0, none⟩ (.slice ra rn rc)) := Fr.set W (.inl (Nat.le_refl _))
    exact ((g1.trans g2).trans g3).trans (Fr.new hb)
  have hlw : ∀ y, lv.ownBlock = some y → y < w.heap.size := fun y hy => (hl.lt y hy).2
  have ho2 : W2.ownsRow 0 40 1 lv nl cs := own_ag hl (fun y hy => f1.block y (hlw y hy) (fun q => by
    have b1 := (hlv y hy).1
    rcases q with q | q | q
    · omega
    · have := (hiv y q).1; omega
    · exact (hlv y hy).2 q))
  refine ⟨ho2, fun W' lv' ho hg hv => ?_⟩
  have hW' : W.heap.size ≤ W'.heap.size := by have a1 := hb.size; have a2 := hg.size; omega
  refine ⟨_, L, ⟨lv', rfl, ho, hv.imp id (fun q => ⟨fun y hy => Nat.le_trans f1.size (q.1 y hy), q.2⟩)⟩, ?_, h2.ok, by omega, ?_⟩
  · have hbl := h2.bl
    have hview : CxV e1 (fun y => (XB D0 (fun y => IvX zs y ∨ ∃ z ∈ zs, InC z y) W y ∧ ¬ False) ∨ (Value.slice ra rn rc).ownBlock = some y) W (.slice ra rn rc) L := Bld.view (s := 6) (cells := Cv.cells) loc1C (fun _ => rfl) hbl (fun y hy => .inl hy) (fun y hy => .inr hy)
    refine CxV.to loc1 hview (fun y hy => ?_)
    have hy1 : y < W.heap.size ∧ y ≠ D0 ∧ some y ≠ lv.ownBlock := by
      have c1 : ∀ q : lv.ownBlock = some y, y < lo := fun q => (hlv y q).1
      rcases hy with ⟨hy, -⟩ | hy
      · refine ⟨hy.lt (Nat.le_of_lt hsz), ?_, fun q => ?_⟩
        · rcases hy with hy | hy <;> omega
        · have := c1 q.symm
          rcases hy with hy | hy
          · have := hP y hy.2; omega
          · omega
      · have := hbl.lt hy
        exact ⟨this.2, by omega, fun q => by have := c1 q.symm; omega⟩
    refine ⟨Nat.lt_of_lt_of_le hy1.1 hW', ?_⟩
    rw [hg.block y (by have := hb.size; omega) hy1.2.2, hb.block y (by omega), heap_set hy1.2.1]
  · refine (f1.mono (E' := fun k => some k = lv.ownBlock ∨ IvX zs k ∨ k = pp) (fun k hk q => ?_)).trans (Fr.ofGrown hg (fun k q => .inl q))
    rcases q with q | q
    · omega
    · exact .inr q
end
end Go.Proofs.Ytbpnmiedomchpaa.Fg
