/-
  Appends of what is only read; a compound that is written at its place.
-/
import Derived.Test.YtbpnmiedomchpaaFl
import Derived.Maps.AppendAt
namespace Go.Proofs.Ytbpnmiedomchpaa.Fg
open Go.ChangeShapes Go.WideShapes Go.ChangeAt Go.RowKit Rg
set_option linter.unusedVariables false
set_option linter.unusedSimpArgs false
/-- all blocks outside of E are as they were -/
structure Fr (E : Nat → Prop) (w w' : World) : Prop where
  os : w'.os = w.os
  tape : w'.tape = w.tape
  output : w'.output = w.output
  size : w.heap.size ≤ w'.heap.size
  block : ∀ k, k < w.heap.size → ¬ E k → w'.heap[k]? = w.heap[k]?
section
variable {E E' : Nat → Prop} {w w1 w2 w' : World}
theorem Fr.refl (E : Nat → Prop) (w : World) : Fr E w w := ⟨rfl, rfl, rfl, Nat.le_refl _, fun _ _ _ => rfl⟩
theorem Fr.trans (h : Fr E w w1) (h2 : Fr E w1 w2) : Fr E w w2 := ⟨h2.os.trans h.os, h2.tape.trans h.tape, h2.output.trans h.output, Nat.le_trans h.size h2.size, fun k hk he => (h2.block k (Nat.lt_of_lt_of_le hk h.size) he).trans (h.block k hk he)⟩
theorem Fr.mono (h : Fr E w w') (he : ∀ k, k < w.heap.size → E k → E' k) : Fr E' w w' := ⟨h.os, h.tape, h.output, h.size, fun k hk hn => h.block k hk (fun q => hn (he k hk q))⟩
theorem Fr.ofBelow {n : Nat} (h : Below n w w') (he : ∀ k, k < w.heap.size → n ≤ k → E k) : Fr E w w' := ⟨h.os, h.tape, h.output, h.size, fun k hk hn => h.block k (Nat.lt_of_not_le (fun q => hn (he k hk q)))⟩
theorem Fr.new (h : Below w.heap.size w w') : Fr E w w' := Fr.ofBelow h (fun k hk hn => absurd hk (Nat.not_lt.2 hn))
theorem Fr.ofGrown {r : Option Nat} (h : w.grownBy w' r) (he : ∀ k, some k = r → E k) : Fr E w w' := ⟨h.os, h.tape, h.output, h.size, fun k hk hn => h.block k hk (fun q => hn (he k q))⟩
theorem Fr.set {b k : Nat} {v : Value} (w : World) (he : E b) : Fr E w (w.setCell ⟨b, k, none⟩ v) := by
  have h : Below b w (w.setCell ⟨b, k, none⟩ v) := (Below.refl b w).setCell (by show b ≤ b; exact Nat.le_refl _) _
  exact ⟨h.os, h.tape, h.output, h.size, fun i hi hn => heap_set (fun q => hn (q ▸ he))⟩
theorem Fr.below {n : Nat} (h : Fr E w w') (hn : n ≤ w.heap.size) (he : ∀ k, k < n → ¬ E k) : Below n w w' := ⟨h.os, h.tape, h.output, h.size, fun k hk => h.block k (Nat.lt_of_lt_of_le hk hn) (he k hk)⟩
end
theorem run_append_nil3 {P : Program} (w : World) (base : Nat) (t ty e : TypeId) (i : TypeInfo) (size c : Nat) (ht : P.underlying t = some (.slice e)) (hi : P.info? e = some i) (v : Value) (n : Nat) (xs : List Value) (hown : w.ownsRow base e size v n xs) :
    (Builtin.append_ #[t, t] ty #[v, .slice none 0 c]).run P w = .ok v w := by
  rcases hown.2 with ⟨rfl, rfl⟩ | ⟨g, cap, cur, rfl, hbg, hg, hnc, hcm, hcs, htake⟩
  · simp [Builtin.append_, run_underlying ht, sizeOf, typeInfo, hi, Builtin.lenOf, Builtin.firstCells, loadCells, loadCellsFrom]
  · simp [Builtin.append_, run_underlying ht, sizeOf, typeInfo, hi, Builtin.lenOf, Builtin.firstCells, loadCells, loadCellsFrom, hnc, storeCells]
/-- append(v, u...) of what can be read behind u, if any -/
theorem wpl_appR {P : Program} {w : World} {ops : Array Oper} {rest : List Oper} {o : Oper} {a : Act} {Q : Exit → Act → World → Prop} (hgd : o.guard = none) (s x : Operand) (t : TypeId)
    (ho : o.op = .call { callee := .builtin .append, args := #[s, x], argTypes := #[t, t] })
    (base : Nat) (e : TypeId) (i : TypeInfo) (z : Value) (size bytes : Nat) (ht : P.underlying t = some (.slice e)) (hi : P.info? e = some i) (hz : i.zero = some z)
    (hsize : i.size = size) (hby : i.bytes = bytes) (hzs : z.cells.size = size) (hsz : 0 < size)
    (v : Value) (n : Nat) (xs : List Value) (hs : a.eval s = v) (hown : w.ownsRow base e size v n xs)
    (ad : Option Addr) (m c : Nat) (ys : List Value) (hx : a.eval x = .slice ad m c) (hl : ys.length = m * size) (hnil : ad = none → m = 0) (hys : ∀ aa, ad = some aa → ∀ j u, ys[j]? = some u → w.cell? (aa.add j) = some u) (h1 : ∀ y ∈ ys, y.oneCell' = true)
    (h63 : n + m ≤ maxLen) (hbytes : (n + m) * bytes ≤ 140737488355328) (hbase : base ≤ w.heap.size)
    (h : ∀ v' w', w'.ownsRow base e size v' (n + m) (xs ++ ys) → w.grownBy w' v.ownBlock → (v'.ownBlock = v.ownBlock ∨ v'.ownBlock = some w.heap.size) → wpList P ops Q rest (a.put o.dst v') w') :
    wpList P ops Q (o :: rest) a w := by
  refine wpList_plain hgd fun K hK => ?_
  have hex : ∃ v' w', (Builtin.append_ #[t, t] o.type #[v, .slice ad m c]).run P w = .ok v' w' ∧ w'.ownsRow base e size v' (n + m) (xs ++ ys) ∧ w.grownBy w' v.ownBlock ∧ (v'.ownBlock = v.ownBlock ∨ v'.ownBlock = some w.heap.size) := by
    cases ad with
    | none =>
      obtain rfl := hnil rfl
      have hy : ys = [] := List.eq_nil_of_length_eq_zero (by simpa using hl)
      subst hy
      exact ⟨v, w, run_append_nil3 w base t o.type e i size c ht hi v n xs hown, by simpa using hown, ⟨rfl, rfl, rfl, Nat.le_refl _, fun _ _ _ => rfl⟩, .inl rfl⟩
    | some aa =>
      obtain ⟨v', w', hr, h2, h3, _, h5⟩ := run_append_own_at (P := P) w base t o.type e i z size bytes ht hi hz hsize hby hzs hsz v n xs hown aa m c ys hl (hys aa rfl) h1 h63 hbytes hbase
      exact ⟨v', w', hr, h2, h3, h5⟩
  obtain ⟨v', w', hr, h2, h3, h5⟩ := hex
  unfold Oper.wp execOp
  simp only [ho, resolve, invoke, builtin, Sem.run_bind, Sem.run_pure, Result.andThen_ok, List.map_toArray, List.map_cons, List.map_nil, hs, hx, hr]
  exact hK _ _ (h v' w' h2 h3 h5)
theorem add_at (g o j : Nat) : (⟨g, o, none⟩ : Addr).add j = ⟨g, o + j, none⟩ := by unfold Addr.add; split <;> simp_all
/-- the values behind a row -/
theorem RW.list {α β : Type} {X : Nat → Prop} {w : World} {s : Nat} {cells : β → List Value} {el : β → α → Prop} {v : Value} {L : List α} (h : RW X w s cells el v L) (hs : ∀ x, (cells x).length = s) (h0 : 0 < s) :
    ∃ (ad : Option Addr) (c : Nat) (Bs : List β), v = .slice ad L.length c ∧ Bs.length = L.length ∧ (ad = none → L.length = 0) ∧ (∀ aa, ad = some aa → ∀ j u, (Bs.flatMap cells)[j]? = some u → w.cell? (aa.add j) = some u) ∧ ∀ i (p : i < Bs.length) (q : i < L.length), el Bs[i] L[i] := by
  obtain ⟨a, c, hv, h2⟩ := h
  have h3 : ∀ i : Fin L.length, ∃ x : β, ∃ g o, a = some ⟨g, o, none⟩ ∧ X g ∧ w.rangeAt g (o + i.1 * s) (cells x) ∧ el x L[i.1] := fun i => by
    obtain ⟨g, o, x, q⟩ := h2 i.1 i.2
    exact ⟨x, g, o, q⟩
  obtain ⟨f, hf⟩ := Classical.axiomOfChoice h3
  have hlen : (List.ofFn f).length = L.length := by simp
  refine ⟨a, c, List.ofFn f, hv, hlen, fun ha => ?_, fun aa haa j u hj => ?_, fun i p q => ?_⟩
  · rcases Nat.eq_zero_or_pos L.length with h4 | h4
    · exact h4
    · obtain ⟨g, o, q, -⟩ := hf ⟨0, h4⟩
      rw [ha] at q; cases q
  · have hlt : j < L.length * s := by
      have := (List.getElem?_eq_some_iff.1 hj).1
      rwa [flat_len cells hs, hlen] at this
    have hi : j / s < L.length := Nat.div_lt_of_lt_mul (by rw [Nat.mul_comm]; exact hlt)
    have hm : j % s < s := Nat.mod_lt _ h0
    have hjs : j = j / s * s + j % s := by have := Nat.div_add_mod j s; rw [Nat.mul_comm] at this; omega
    obtain ⟨g, o, ha, hX, hr, -⟩ := hf ⟨j / s, hi⟩
    rw [haa] at ha
    obtain rfl := Option.some.inj ha
    rw [add_at]
    have h5 : (cells (f ⟨j / s, hi⟩))[j % s]? = some u := by
      rw [← hj]
      conv => rhs; rw [hjs]
      rw [flat_at cells hs _ _ _ (by rw [hlen]; exact hi) hm]
      simp
    have := hr _ _ h5
    rwa [show o + j / s * s + j % s = o + j by omega] at this
  · obtain ⟨g, o, -, -, -, he⟩ := hf ⟨i, q⟩
    simpa using he
/-- some elements more -/
theorem Bld.pushN {α β : Type} {t : TypeId} {s : Nat} {cells : β → List Value} {el : (Nat → Prop) → World → β → α → Prop} {lo : Nat} {Z Z' : Nat → Prop} {v v' : Value} {L ls : List α} {w w' : World} (hl : LocE el) {xs B : List β} (h1 : B.length = L.length)
    (h3 : ∀ i (h : i < B.length) (h' : i < L.length), el (fun b => Z b ∧ some b ≠ v.ownBlock) w B[i] L[i]) (hlx : xs.length = ls.length) (hx : ∀ i (h : i < xs.length) (h' : i < ls.length), el (fun b => Z b ∧ some b ≠ v.ownBlock) w xs[i] ls[i])
    (hz : ∀ b, Z b → b < w.heap.size) (hz2 : ∀ b, Z b → Z' b) (ho : w'.ownsRow lo t s v' (L.length + ls.length) (B.flatMap cells ++ xs.flatMap cells)) (hg : w.grownBy w' v.ownBlock) (hv : v'.ownBlock = v.ownBlock ∨ ∀ b, v'.ownBlock = some b → w.heap.size ≤ b) : Bld t s cells el lo Z' v' (L ++ ls) w' := by
  have hto : To (fun b => Z b ∧ some b ≠ v.ownBlock) w (fun b => Z' b ∧ some b ≠ v'.ownBlock) w' := fun b hb => ⟨⟨hz2 b hb.1, fun e => by
    rcases hv with h | h
    · exact hb.2 (by rw [← h]; exact e)
    · have := h b e.symm; have := hz b hb.1; omega⟩, hg.block b (hz b hb.1) hb.2⟩
  refine ⟨B ++ xs, by simp [h1, hlx], by rw [List.length_append, List.flatMap_append]; exact ho, fun i a' b' => ?_⟩
  by_cases e : i < B.length
  · rw [List.getElem_append_left e, List.getElem_append_left (by omega)]
    exact hl _ _ _ _ _ _ hto (h3 i e (by omega))
  · have a2 : i - B.length < xs.length := by simp at a'; omega
    rw [List.getElem_append_right (by omega), List.getElem_append_right (by omega)]
    have h5 := hl _ _ _ _ _ _ hto (hx (i - B.length) a2 (by omega))
    simp only [← h1]
    exact h5
/-- a compound in its box at b, its row owned; all it leads to lies in Z -/
structure Tg (b : Nat) (x : Cv) (c : Cp Su) (Z : Nat → Prop) (w : World) : Prop where
  box : w.rangeAt b 0 x.cells
  thr : w.there b 0 6
  ty : TyV (fun y => Z y ∧ some y ≠ x.vs.ownBlock) w x.tv c.tp
  lc : LcV (fun y => Z y ∧ some y ≠ x.vs.ownBlock) w x.vn c.nest
  sub : Bld 119 3 sbc e1 0 Z x.vs c.subs w
  cb : x.cb = c.cb
  we : x.we = c.we
  lt : c.cb < 256
  Zb : ∀ y, Z y → y < w.heap.size ∧ y ≠ b
  own : ∀ y, x.vs.ownBlock = some y → y ≠ b
section
variable {b : Nat} {x : Cv} {c : Cp Su} {Z Z' : Nat → Prop} {w w' : World}
theorem Tg.bs (h : Tg b x c Z w) : b < w.heap.size := th_lt h.thr (by decide)
theorem Tg.fr {E : Nat → Prop} (h : Tg b x c Z w) (hf : Fr E w w') (hb : ¬ E b) (hZ : ∀ y, Z y → ¬ E y) (ho : ∀ y, x.vs.ownBlock = some y → ¬ E y) (hZ2 : ∀ y, Z y → Z' y) (hZ' : ∀ y, Z' y → y < w'.heap.size ∧ y ≠ b) : Tg b x c Z' w' := by
  have hbb := hf.block b h.bs hb
  have hto : To (fun y => Z y ∧ some y ≠ x.vs.ownBlock) w (fun y => Z' y ∧ some y ≠ x.vs.ownBlock) w' := fun y hy => ⟨⟨hZ2 y hy.1, hy.2⟩, hf.block y (h.Zb y hy.1).1 (hZ y hy.1)⟩
  exact ⟨rg_ag hbb h.box, th_ag hbb h.thr, h.ty.to hto, h.lc.to hto, h.sub.to loc1E (fun y hy => ⟨hZ2 y hy, hf.block y (h.Zb y hy).1 (hZ y hy)⟩) (fun y hy => hf.block y (h.sub.lt hy).2 (ho y hy)), h.cb, h.we, h.lt, hZ', h.own⟩
theorem Tg.keep (h : Tg b x c Z w) (hb : Below w.heap.size w w') (hZ2 : ∀ y, Z y → Z' y) (hZ' : ∀ y, Z' y → y < w'.heap.size ∧ y ≠ b) : Tg b x c Z' w' :=
  h.fr (E := fun _ => False) (Fr.new hb) id (fun _ _ => id) (fun _ _ => id) hZ2 hZ'
/-- the type or the nesting locations are set -/
theorem Tg.set (h : Tg b x c Z w) {k : Nat} {v : Value} {x' : Cv} {c' : Cp Su} (hk : k < 6) (hx : x.cells.set k v = x'.cells) (hvs : x'.vs = x.vs) (hsub : c'.subs = c.subs)
    (ty : TyV (fun y => Z y ∧ some y ≠ x.vs.ownBlock) w x'.tv c'.tp) (lc : LcV (fun y => Z y ∧ some y ≠ x.vs.ownBlock) w x'.vn c'.nest) (hcb : x'.cb = c'.cb) (hwe : x'.we = c'.we) (hlt : c'.cb < 256) : Tg b x' c' Z (w.setCell ⟨b, k, none⟩ v) := by
  have hto : To (fun y => Z y ∧ some y ≠ x.vs.ownBlock) w (fun y => Z y ∧ some y ≠ x'.vs.ownBlock) (w.setCell ⟨b, k, none⟩ v) := fun y hy => ⟨by rw [hvs]; exact hy, heap_set (h.Zb y hy.1).2⟩
  refine ⟨by rw [← hx]; exact rg_set (k := k) (n := 6) h.box hk, th_set h.thr, ty.to hto, lc.to hto, ?_, hcb, hwe, hlt, fun y hy => by rw [size_set]; exact h.Zb y hy, by rw [hvs]; exact h.own⟩
  rw [hvs, hsub]
  exact h.sub.to loc1E (fun y hy => ⟨hy, heap_set (h.Zb y hy).2⟩) (fun y hy => heap_set (h.own y hy))
/-- the row has grown, and the box gets it -/
theorem Tg.pushN (h : Tg b x c Z w) {v' : Value} {B xs : List Value} {ls : List Su} (h1 : B.length = c.subs.length) (h3 : ∀ i (p : i < B.length) (q : i < c.subs.length), e1 (fun y => Z y ∧ some y ≠ x.vs.ownBlock) w B[i] c.subs[i])
    (hlx : xs.length = ls.length) (hx : ∀ i (p : i < xs.length) (q : i < ls.length), e1 (fun y => Z y ∧ some y ≠ x.vs.ownBlock) w xs[i] ls[i]) (ho : w'.ownsRow 0 119 3 v' (c.subs.length + ls.length) (B.flatMap sbc ++ xs.flatMap sbc)) (hg : w.grownBy w' x.vs.ownBlock)
    (hv : v'.ownBlock = x.vs.ownBlock ∨ ∀ y, v'.ownBlock = some y → w.heap.size ≤ y) (hZ2 : ∀ y, Z y → Z' y) (hZ' : ∀ y, Z' y → y < w'.heap.size ∧ y ≠ b) : Tg b { x with vs := v' } { c with subs := c.subs ++ ls } Z' (w'.setCell ⟨b, 1, none⟩ v') := by
  have hbb : w'.heap[b]? = w.heap[b]? := hg.block b h.bs (fun q => h.own b q.symm rfl)
  have hown : ∀ y, v'.ownBlock = some y → y ≠ b := fun y hy => by
    rcases hv with hv | hv
    · exact h.own y (by rw [← hv]; exact hy)
    · have := hv y hy; have := h.bs; omega
  have hto : To (fun y => Z y ∧ some y ≠ x.vs.ownBlock) w (fun y => Z' y ∧ some y ≠ v'.ownBlock) (w'.setCell ⟨b, 1, none⟩ v') := fun y hy => by
    have hyb := h.Zb y hy.1
    refine ⟨⟨hZ2 y hy.1, fun q => ?_⟩, by rw [heap_set hyb.2]; exact hg.block y hyb.1 hy.2⟩
    rcases hv with hv | hv
    · exact hy.2 (by rw [← hv]; exact q)
    · have := hv y q.symm; omega
  have hp : Bld 119 3 sbc e1 0 Z' v' (c.subs ++ ls) w' := Bld.pushN loc1E h1 h3 hlx hx (fun y hy => (h.Zb y hy).1) hZ2 ho hg hv
  refine ⟨rg_set (k := 1) (n := 6) (rg_ag hbb h.box) (by show 1 < 6; decide), th_set (th_ag hbb h.thr), h.ty.to hto, h.lc.to hto, ?_, h.cb, h.we, h.lt, fun y hy => by rw [size_set]; exact hZ' y hy, hown⟩
  exact hp.to loc1E (fun y hy => ⟨hy, heap_set (hZ' y hy).2⟩) (fun y hy => heap_set (hown y hy))
end
/-- a compound merged onto another -/
def mgS (c : Cp Su) (c2 : Cp ByteArray) : List Su := match c.tp, c2.tp with
  | some _, some t => [.wrap 2 [[⟨some t, [], 0, 0, false⟩]]]
  | _, _ => []
def mgT (t t2 : Option ByteArray) : Option ByteArray := match t with
  | some t => some t
  | none => t2
def mg (c : Cp Su) (c2 : Cp ByteArray) : Cp Su := ⟨mgT c.tp c2.tp, (c.subs ++ mgS c c2) ++ c2.subs.map Su.bare, (if 0 < c2.nest ∧ c.nest = 0 then c2.nest else c.nest), c.cb, c.we⟩
/-- what a merge leaves -/
def MgP (b : Nat) (x : Cv) (c : Cp Su) (c2 : Cp ByteArray) (Z : Nat → Prop) (w w' : World) : Prop :=
  ∃ x', Tg b x' (mg c c2) (fun y => Z y ∨ (w.heap.size ≤ y ∧ y < w'.heap.size)) w' ∧ (x'.vs.ownBlock = x.vs.ownBlock ∨ ∀ y, x'.vs.ownBlock = some y → w.heap.size ≤ y) ∧ Fr (fun k => k = b ∨ some k = x.vs.ownBlock) w w'
end Go.Proofs.Ytbpnmiedomchpaa.Fg
