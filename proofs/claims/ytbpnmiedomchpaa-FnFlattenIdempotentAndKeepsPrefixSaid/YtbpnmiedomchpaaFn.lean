/-
  One compound is merged onto another.
-/
import Derived.Test.YtbpnmiedomchpaaFm
namespace Go.Proofs.Ytbpnmiedomchpaa.Fg
open Go.ChangeShapes Go.WideShapes Go.ChangeAt Go.RowKit Rg
set_option linter.unusedVariables false
set_option linter.unusedSimpArgs false
theorem fork_l {P : Program} {Q : Exit → Act → World → Prop} {md : Region.Mode} {l : List Oper} {S : World → Prop} {i j : Nat} {oi oj : Oper} {fuel : Nat} {listed : Array Bool} {a : Act} {w : World} (hr : Region.ready md l.toArray listed = [i, j]) (hi : l[i]? = some oi) (hj : l[j]? = some oj)
    (h : ∀ K' : Act → World → Prop, Shut (∀ a w, S w → (S w → wpAnyH P md l.toArray Q S fuel (listed.setIfInBounds i true) a w) → K' a w) → if Region.wanted oi (yielded l.toArray a.tmps) = true then Oper.wp P oi a w K' Q else K' (a.put oi.dst undef) w)
    (h2 : ∀ K' : Act → World → Prop, Shut (∀ a w, S w → (S w → wpAnyH P md l.toArray Q S fuel (listed.setIfInBounds j true) a w) → K' a w) → if Region.wanted oj (yielded l.toArray a.tmps) = true then Oper.wp P oj a w K' Q else K' (a.put oj.dst undef) w) :
    wpAnyH P md l.toArray Q S (fuel + 1) listed a w :=
  wpAnyH_ready hr (by simp) (AllReadyH.cons (by simpa using hi) h (AllReadyH.cons (by simpa using hj) h2 AllReadyH.nil))
theorem step_appR {P : Program} {w : World} {ops : Array Oper} {o : Oper} {a : Act} {K : Act → World → Prop} {Q : Exit → Act → World → Prop} {E : Prop} (hgd : o.guard = none) (s x : Operand) (t : TypeId)
    (ho : o.op = .call { callee := .builtin .append, args := #[s, x], argTypes := #[t, t] })
    (base : Nat) (e : TypeId) (i : TypeInfo) (z : Value) (size bytes : Nat) (ht : P.underlying t = some (.slice e)) (hi : P.info? e = some i) (hz : i.zero = some z)
    (hsize : i.size = size) (hby : i.bytes = bytes) (hzs : z.cells.size = size) (hsz : 0 < size)
    (v : Value) (n : Nat) (xs : List Value) (hs : a.eval s = v) (hown : w.ownsRow base e size v n xs)
    (ad : Option Addr) (m c : Nat) (ys : List Value) (hx : a.eval x = .slice ad m c) (hl : ys.length = m * size) (hnil : ad = none → m = 0) (hys : ∀ aa, ad = some aa → ∀ j u, ys[j]? = some u → w.cell? (aa.add j) = some u) (h1 : ∀ y ∈ ys, y.oneCell' = true)
    (h63 : n + m ≤ maxLen) (hbytes : (n + m) * bytes ≤ 140737488355328) (hbase : base ≤ w.heap.size)
    (h : ∀ v' w', w'.ownsRow base e size v' (n + m) (xs ++ ys) → w.grownBy w' v.ownBlock → (v'.ownBlock = v.ownBlock ∨ v'.ownBlock = some w.heap.size) → K (a.put o.dst v') w') :
    if Region.wanted o (yielded ops a.tmps) = true then Oper.wp P o a w K Q else E := by
  have hw : Region.wanted o (yielded ops a.tmps) = true := by simp [Region.wanted, hgd]
  rw [if_pos hw]
  have hex : ∃ v' w', (Builtin.append_ #[t, t] o.type #[v, .slice ad m c]).run P w = .ok v' w' ∧ w'.ownsRow base e size v' (n + m) (xs ++ ys) ∧ w.grownBy w' v.ownBlock ∧ (v'.ownBlock = v.ownBlock ∨ v'.ownBlock = some w.heap.size) := by
    cases ad with
    | none =>
      obtain rfl := hnil rfl
      have hy : ys = [] := List.eq_nil_of_length_eq_zero (by simpa using hl)
      subst hy
      exact ⟨v, w, run_append_nil3 w base t o.type e i size c ht hi v n xs hown, by simpa using hown, ⟨rfl, rfl, rfl, Nat.le_refl _, fun _ _ _ => rfl⟩, .inl rfl⟩
    | some aa =>
      obtain ⟨v', w', hr, h2, h3, _, h5⟩ := run_append_own_at (P := P) w base t o.type e i z size bytes ht hi hz hsize hby hzs hsz v n xs hown aa m c ys hl (hys aa rfl) h1 h63 hbytes hbase
      exact ⟨v', w', hr, h2, h3, h5⟩
  obtain ⟨v', w', hr, h2, h3, h5⟩ := hex
  unfold Oper.wp execOp
  simp only [ho, resolve, invoke, builtin, Sem.run_bind, Sem.run_pure, Result.andThen_ok, List.map_toArray, List.map_cons, List.map_nil, hs, hx, hr]
  exact h v' w' h2 h3 h5
def A13 (p2 u g : Nat) (w : World) : Prop := w.rangeAt g 0 (Cv.cells ⟨.pointer (some ⟨p2, 0, none⟩), .slice none 0 0, .slice none 0 0, 0, false⟩) ∧ u ≤ g ∧ g < w.heap.size
def A15 (p2 u g : Nat) (w : World) : Prop := ∃ g', A13 p2 u g' w ∧ w.rangeAt g 0 [.slice (some ⟨g', 0, none⟩) 1 1] ∧ u ≤ g ∧ g < w.heap.size
def A17 (p2 u p : Nat) (w : World) : Prop := ∃ g', A15 p2 u g' w ∧ w.rangeAt p 0 (ilc (.slice (some ⟨g', 0, none⟩) 1 1) 2) ∧ u ≤ p ∧ p < w.heap.size
section
variable {p2 u g g' : Nat} {w w' : World}
theorem A13.mk (h : w.rangeAt g 0 (Cv.cells ⟨.pointer (some ⟨p2, 0, none⟩), .slice none 0 0, .slice none 0 0, 0, false⟩)) (h1 : u ≤ g) (h2 : g < w.heap.size) : A13 p2 u g w := ⟨h, h1, h2⟩
theorem A13.keep (h : A13 p2 u g w) (hb : Below w.heap.size w w') : A13 p2 u g w' := ⟨rg_keep hb h.1, h.2.1, Nat.lt_of_lt_of_le h.2.2 hb.size⟩
theorem A15.mk (h : A13 p2 u g' w) (hr : w.rangeAt g 0 [.slice (some ⟨g', 0, none⟩) 1 1]) (h1 : u ≤ g) (h2 : g < w.heap.size) : A15 p2 u g w := ⟨g', h, hr, h1, h2⟩
theorem A15.keep (h : A15 p2 u g w) (hb : Below w.heap.size w w') : A15 p2 u g w' := by
  obtain ⟨g', h1, h2, h3, h4⟩ := h
  exact ⟨g', h1.keep hb, rg_keep hb h2, h3, Nat.lt_of_lt_of_le h4 hb.size⟩
theorem A17.mk (h : A15 p2 u g' w) (hr : w.rangeAt g 0 (ilc (.slice (some ⟨g', 0, none⟩) 1 1) 2)) (h1 : u ≤ g) (h2 : g < w.heap.size) : A17 p2 u g w := ⟨g', h, hr, h1, h2⟩
theorem A17.keep (h : A17 p2 u g w) (hb : Below w.heap.size w w') : A17 p2 u g w' := by
  obtain ⟨g', h1, h2, h3, h4⟩ := h
  exact ⟨g', h1.keep hb, rg_keep hb h2, h3, Nat.lt_of_lt_of_le h4 hb.size⟩
end
/-- what the drawn region reads -/
def SS (b b3 p2 : Nat) (v : Value) (t : ByteArray) (w' : World) : Prop := w'.cell? ⟨b, 1, none⟩ = some v ∧ w'.cell? ⟨b3, 0, none⟩ = some (.pointer (some ⟨p2, 0, none⟩)) ∧ w'.rangeAt p2 0 (nsc t)
theorem ss_keep {b b3 p2 : Nat} {v : Value} {t : ByteArray} {w w' : World} (hb : Below w.heap.size w w') (h : SS b b3 p2 v t w) : SS b b3 p2 v t w' := ⟨later hb h.1, later hb h.2.1, rg_keep hb h.2.2⟩
/-- the source's box, and how far things have come -/
structure Mh (b b3 : Nat) (own : Option Nat) (cs : List Value) (w0 w : World) : Prop where
  bx : w.rangeAt b3 0 cs
  b3 : w0.heap.size ≤ b3 ∧ b3 < w.heap.size
  fr : Fr (fun k => k = b ∨ some k = own) w0 w
def ZN (Z : Nat → Prop) (w0 w : World) (y : Nat) : Prop := Z y ∨ (w0.heap.size ≤ y ∧ y < w.heap.size)
theorem ZN.ok {b : Nat} {x : Cv} {c : Cp Su} {Z : Nat → Prop} {w0 w : World} (h : Tg b x c Z w) (hb : b < w0.heap.size) : ∀ y, ZN Z w0 w y → y < w.heap.size ∧ y ≠ b := fun y hy => by
  rcases hy with hy | hy
  · exact h.Zb y hy
  · exact ⟨hy.2, by omega⟩
theorem ZN.ok2 {b : Nat} {Z : Nat → Prop} {w0 w : World} (h : ∀ y, Z y → y < w.heap.size ∧ y ≠ b) (hb : b < w0.heap.size) : ∀ y, ZN Z w0 w y → y < w.heap.size ∧ y ≠ b := fun y hy => by
  rcases hy with hy | hy
  · exact h y hy
  · exact ⟨hy.2, by omega⟩
theorem ZN.mono {Z : Nat → Prop} {w0 w w' : World} (h : w.heap.size ≤ w'.heap.size) : ∀ y, ZN Z w0 w y → ZN Z w0 w' y := fun y hy => hy.imp id (fun q => ⟨q.1, Nat.lt_of_lt_of_le q.2 h⟩)
theorem Mh.keep {b b3 : Nat} {own : Option Nat} {cs : List Value} {w0 w w' : World} (h : Mh b b3 own cs w0 w) (hb : Below w.heap.size w w') : Mh b b3 own cs w0 w' := ⟨rg_keep hb h.bx, ⟨h.b3.1, Nat.lt_of_lt_of_le h.b3.2 hb.size⟩, h.fr.trans (Fr.new hb)⟩
/-- what the merge appends for a second type -/
theorem mg_e1 {X : Nat → Prop} {p2 u p : Nat} {t : ByteArray} {w : World} (h : A17 p2 u p w) (hX2 : X p2) (hr2 : w.rangeAt p2 0 (nsc t)) (hX : ∀ y, u ≤ y → y < w.heap.size → X y) : e1 X w (ifL p) (.wrap 2 [[⟨some t, [], 0, 0, false⟩]]) := by
  obtain ⟨g15, ⟨g13, h13, h15, q15⟩, h17, q17⟩ := h
  refine ⟨p, _, rfl, hX _ q17.1 q17.2, h17, by omega, some ⟨g15, 0, none⟩, 1, rfl, fun i hi => ?_⟩
  have hi0 : i = 0 := by simp at hi; omega
  subst hi0
  refine ⟨g15, 0, _, rfl, hX _ q15.1 q15.2, h15, some ⟨g13, 0, none⟩, 1, rfl, fun j hj => ?_⟩
  have hj0 : j = 0 := by simp at hj; omega
  subst hj0
  refine ⟨g13, 0, _, rfl, hX _ h13.2.1 h13.2.2, h13.1, ⟨p2, rfl, hX2, hr2⟩, ?_, ?_, rfl, rfl, by show 0 < 256; omega⟩
  · exact ⟨none, 0, rfl, fun k hk => absurd hk (Nat.not_lt_zero _)⟩
  · exact ⟨none, 0, rfl, fun k hk => absurd hk (Nat.not_lt_zero _)⟩
set_option maxRecDepth 100000 in
set_option maxHeartbeats 16000000 in
theorem mrg_any (b : Nat) (pa pa2 sa sa2 la la2 : Option Addr) (n1 sc ln lc cb n2 sc2 ln2 lc2 cb2 : Nat) (we we2 : Bool) (c : Cp Su) (c2 : Cp ByteArray) (Z Z2 : Nat → Prop) (w : World)
    (hT : Tg b ⟨.pointer pa, .slice sa n1 sc, .slice la ln lc, cb, we⟩ c Z w) (hS : CpV e0 Z2 w ⟨.pointer pa2, .slice sa2 n2 sc2, .slice la2 ln2 lc2, cb2, we2⟩ c2) (hZ : ∀ y, Z2 y → Z y ∧ some y ≠ (Value.slice sa n1 sc).ownBlock)
    (h4 : n1 + 1 + n2 ≤ 4398046511104) (hl2 : ln2 ≤ 4398046511104) (hl1 : ln ≤ 4398046511104) :
    Calls Try.prog 24 #[.pointer (some ⟨b, 0, none⟩), .agg (Cv.cells ⟨.pointer pa2, .slice sa2 n2 sc2, .slice la2 ln2 lc2, cb2, we2⟩).toArray] w
      (fun e w' => e = .returned (.tuple #[]) ∧ MgP b ⟨.pointer pa, .slice sa n1 sc, .slice la ln lc, cb, we⟩ c c2 Z w w') := by
  obtain ⟨tp, subs, nest, ccb, cwe⟩ := c
  obtain ⟨tp2, N2, nest2, ccb2, cwe2⟩ := c2
  obtain rfl : n1 = subs.length := by
    obtain ⟨s0, s1, h⟩ := hT.sub.slice
    simp only [Value.slice.injEq] at h
    exact h.2.1
  obtain rfl : n2 = N2.length := by
    obtain ⟨s0, s1, h⟩ := RW.slice hS.2.1
    simp only [Value.slice.injEq] at h
    exact h.2.1
  obtain rfl : ln = nest := by
    obtain ⟨s0, s1, h, -⟩ := hT.lc
    simp only [Value.slice.injEq] at h
    exact h.2.1
  obtain rfl : ln2 = nest2 := by
    obtain ⟨s0, s1, h, -⟩ := hS.2.2.1
    simp only [Value.slice.injEq] at h
    exact h.2.1
  obtain ⟨i1, hi, hz0, hz1, hz2⟩ := info_parts infoSub
  have HK := Lib.hid (And.intro hi (And.intro hz0 (And.intro hz1 hz2)))
  clear hi hz0 hz1 hz2
  obtain ⟨tN, hN, hN2⟩ := tyNsn
  have HSZ := Lib.hid (And.intro hS hZ)
  have HT0 := Lib.hid hT
  clear hT hS hZ
  go_enter Try.func24, Try.ntmps24
  go_upto_region 1 with fail
  have hb : Below w.heap.size w (w.alloc (.cells (Cv.cells ⟨.pointer pa2, .slice sa2 N2.length sc2, .slice la2 ln2 lc2, cb2, we2⟩).toArray 37)) := (Below.refl _ _).alloc (Nat.le_refl _) _
  have hr := rg_new w (Cv.cells ⟨.pointer pa2, .slice sa2 N2.length sc2, .slice la2 ln2 lc2, cb2, we2⟩).toArray 37
  have hz1 : (w.alloc (.cells (Cv.cells ⟨.pointer pa2, .slice sa2 N2.length sc2, .slice la2 ln2 lc2, cb2, we2⟩).toArray 37)).heap.size = w.heap.size + 1 := World.size_alloc _ _
  generalize w.alloc _ = w1 at *
  obtain ⟨b3, hb3⟩ : ∃ b, b = w.heap.size := ⟨_, rfl⟩
  have HT := Lib.hid (HT0.out.keep hb (fun y hy => hy) (fun y hy => ⟨Nat.lt_of_lt_of_le (HT0.out.Zb y hy).1 hb.size, (HT0.out.Zb y hy).2⟩))
  rw [← hb3] at hr ⊢
  have HM := Lib.hid (Mh.mk (b := b) (own := (Value.slice sa subs.length sc).ownBlock) hr ⟨by omega, by omega⟩ (Fr.new hb))
  have HBB := Lib.hid (show b < b3 ∧ b3 = w.heap.size from ⟨by rw [hb3]; exact HT0.out.bs, hb3⟩)
  clear hr hb hz1 hb3
  have e1 := HM.out.bx 2 _ rfl
  have e2 := HT.out.box 2 _ rfl
  have z2 := (HT.out.thr 2 (by decide)).2
  simp only [Nat.zero_add] at e1 e2 z2
  obtain ⟨nm, hnm⟩ : ∃ x, x = if 0 < ln2 ∧ ln = 0 then ln2 else ln := ⟨_, rfl⟩
  have HNM := Lib.hid hnm
  clear hnm
  obtain ⟨qq, hqq⟩ : ∃ q, q = decide (0 < ln2 ∧ ln = 0) := ⟨_, rfl⟩
  go_cut [15] (fun v wx => v = .bool qq ∧ wx = w1)
  case first =>
    by_cases c1 : 0 < ln2
    · by_cases c2 : ln = 0
      · as_aux_lemma =>
        subst c2
        rw [decide_eq_true ⟨c1, rfl⟩] at hqq
        subst hqq
        have c3 : (0 : Int) < (ln2 : Int) := by omega
        go_wp2_with fail
        go_meet
        exact ⟨rfl, rfl⟩
      · as_aux_lemma =>
        have c3 : (0 : Int) < (ln2 : Int) := by omega
        have c4 : ((ln : Int) == 0) = false := beq_eq_false_iff_ne.2 (by omega)
        rw [decide_eq_false (fun q => c2 q.2)] at hqq
        subst hqq
        go_wp2_with fail
        go_meet
        exact ⟨rfl, rfl⟩
    · as_aux_lemma =>
      have c3 : ¬ (0 : Int) < (ln2 : Int) := by omega
      rw [decide_eq_false (fun q => c1 q.1)] at hqq
      subst hqq
      go_wp2_with fail
      go_meet
      exact ⟨rfl, rfl⟩
  case rest =>
  obtain ⟨rfl, hwc⟩ := hcut
  subst hwc
  obtain ⟨w1, hw1⟩ : ∃ x, x = wc := ⟨_, rfl⟩
  subst hw1
  have HQQ := Lib.hid hqq
  clear hqq
  as_aux_lemma =>
  go_upto_if 15 with fail
  go_cut [] (fun wx => Hid (∃ la' lc', Tg b ⟨.pointer pa, .slice sa subs.length sc, .slice la' nm lc', cb, we⟩ ⟨tp, subs, nm, ccb, cwe⟩ Z wx ∧ Mh b b3 (Value.slice sa subs.length sc).ownBlock (Cv.cells ⟨.pointer pa2, .slice sa2 N2.length sc2, .slice la2 ln2 lc2, cb2, we2⟩) w wx))
  case first =>
    cases qq with
    | true =>
      as_aux_lemma =>
      have c12 := of_decide_eq_true HQQ.out.symm
      have HFIN := Lib.hid (HT.out.set (k := 2) (v := .slice la2 ln2 lc2) (x' := ⟨.pointer pa, .slice sa subs.length sc, .slice la2 ln2 lc2, cb, we⟩) (c' := ⟨tp, subs, ln2, ccb, cwe⟩) (by decide) rfl rfl rfl HT.out.ty
        (HSZ.out.1.2.2.1.to (fun y hy => ⟨HSZ.out.2 y hy, HM.out.fr.block y ((HT0.out.Zb y (HSZ.out.2 y hy).1).1) (fun q => by
          rcases q with q | q
          · exact (HT0.out.Zb y (HSZ.out.2 y hy).1).2 q
          · exact (HSZ.out.2 y hy).2 q)⟩)) HT.out.cb HT.out.we HT.out.lt)
      have HMF := Lib.hid (Mh.mk (rg_ag (heap_set (b := b) (k := 2) (v := .slice la2 ln2 lc2) (by have := HBB.out; omega)) HM.out.bx) ⟨HM.out.b3.1, by rw [size_set]; exact HM.out.b3.2⟩ (HM.out.fr.trans (Fr.set w1 (.inl rfl))))
      obtain rfl : nm = ln2 := by rw [HNM.out, if_pos c12]
      clear c12
      go_wp2_with fail
      go_meet
      exact Lib.hid ⟨_, _, HFIN.out, HMF.out⟩
    | false =>
      as_aux_lemma =>
      have c12 := of_decide_eq_false HQQ.out.symm
      obtain rfl : nm = ln := by rw [HNM.out, if_neg c12]
      clear c12
      go_wp2_with fail
      go_meet
      exact Lib.hid ⟨_, _, HT.out, HM.out⟩
  case rest =>
  obtain ⟨la', lc', hT, hM⟩ := hcut.out
  clear hcut HM HT e1 e2 z2
  have HT := Lib.hid hT
  have HM := Lib.hid hM
  clear hT hM w1
  obtain ⟨w1, hw1⟩ : ∃ x, x = wc := ⟨_, rfl⟩
  subst hw1
  as_aux_lemma =>
  have e1 := HM.out.bx 0 _ rfl
  simp only [Nat.zero_add] at e1
  have HB3 := Lib.hid (show b < w.heap.size by rw [← HBB.out.2]; exact HBB.out.1)
  go_upto_if 23 with fail
  go_cut [] (fun wx => Hid (∃ pa' sa' sc', Tg b ⟨.pointer pa', .slice sa' (subs ++ mgS ⟨tp, subs, nm, ccb, cwe⟩ ⟨tp2, N2, ln2, ccb2, cwe2⟩).length sc', .slice la' nm lc', cb, we⟩ ⟨(mgT tp tp2), subs ++ mgS ⟨tp, subs, nm, ccb, cwe⟩ ⟨tp2, N2, ln2, ccb2, cwe2⟩, nm, ccb, cwe⟩ (ZN Z w wx) wx
    ∧ ((Value.slice sa' (subs ++ mgS ⟨tp, subs, nm, ccb, cwe⟩ ⟨tp2, N2, ln2, ccb2, cwe2⟩).length sc').ownBlock = (Value.slice sa subs.length sc).ownBlock ∨ ∀ y, (Value.slice sa' (subs ++ mgS ⟨tp, subs, nm, ccb, cwe⟩ ⟨tp2, N2, ln2, ccb2, cwe2⟩).length sc').ownBlock = some y → b3 < y) ∧ Mh b b3 (Value.slice sa subs.length sc).ownBlock (Cv.cells ⟨.pointer pa2, .slice sa2 N2.length sc2, .slice la2 ln2 lc2, cb2, we2⟩) w wx))
  case first =>
    have hty2 : TyV Z2 w (.pointer pa2) tp2 := HSZ.out.1.1
    have hty1 : TyV (fun y => Z y ∧ some y ≠ (Value.slice sa subs.length sc).ownBlock) w1 (.pointer pa) tp := HT.out.ty
    have HTK := Lib.hid (HT.out.keep (Below.refl w1.heap.size w1) (Z' := ZN Z w w1) (fun y hy => .inl hy) (ZN.ok HT.out HB3.out))
    cases tp2 with
    | none =>
      obtain rfl : pa2 = none := by injection hty2
      cases tp with
      | none =>
        as_aux_lemma =>
        go_wp2_with fail
        go_meet
        exact Lib.hid ⟨pa, sa, sc, by simpa [mgS, mgT] using HTK.out, .inl (by simp [mgS]), HM.out⟩
      | some t =>
        as_aux_lemma =>
        go_wp2_with fail
        go_meet
        exact Lib.hid ⟨pa, sa, sc, by simpa [mgS, mgT] using HTK.out, .inl (by simp [mgS]), HM.out⟩
    | some t2 =>
      obtain ⟨p2, hp1, hp2, hp3⟩ := hty2
      obtain rfl : pa2 = some ⟨p2, 0, none⟩ := by injection hp1
      have hZp := HSZ.out.2 p2 hp2
      have HP := Lib.hid (show Z p2 ∧ some p2 ≠ (Value.slice sa subs.length sc).ownBlock ∧ w1.rangeAt p2 0 (nsc t2) from ⟨hZp.1, hZp.2, rg_ag (HM.out.fr.block p2 (HT0.out.Zb p2 hZp.1).1 (fun q => by
        rcases q with q | q
        · exact (HT0.out.Zb p2 hZp.1).2 q
        · exact hZp.2 q)) hp3⟩)
      clear hp1 hp2 hp3 hZp
      have b0 := HT.out.box 0 _ rfl
      have z0 := (HT.out.thr 0 (by decide)).2
      simp only [Nat.zero_add, Nat.add_zero] at b0 z0
      cases tp with
      | none =>
        as_aux_lemma =>
        obtain rfl : pa = none := by injection hty1
        have HFIN := Lib.hid (HTK.out.set (k := 0) (v := .pointer (some ⟨p2, 0, none⟩)) (x' := ⟨.pointer (some ⟨p2, 0, none⟩), .slice sa subs.length sc, .slice la' nm lc', cb, we⟩) (c' := ⟨some t2, subs, nm, ccb, cwe⟩) (by decide) rfl rfl rfl ⟨p2, rfl, ⟨.inl HP.out.1, HP.out.2.1⟩, HP.out.2.2⟩ HTK.out.lc HTK.out.cb HTK.out.we HTK.out.lt)
        have HMF := Lib.hid (Mh.mk (rg_ag (heap_set (b := b) (k := 0) (v := .pointer (some ⟨p2, 0, none⟩)) (by have := HBB.out; omega)) HM.out.bx) ⟨HM.out.b3.1, by rw [size_set]; exact HM.out.b3.2⟩ (HM.out.fr.trans (Fr.set w1 (.inl rfl))))
        go_wp2_with fail
        go_meet
        exact Lib.hid ⟨some ⟨p2, 0, none⟩, sa, sc, (by
          have h := HFIN.out.keep (Below.refl _ _) (Z' := ZN Z w (w1.setCell ⟨b, 0, none⟩ (.pointer (some ⟨p2, 0, none⟩)))) (ZN.mono (by rw [size_set]; exact Nat.le_refl _)) (fun y hy => by rw [size_set]; exact ZN.ok HT.out HB3.out y (ZN.mono (by rw [size_set]; exact Nat.le_refl _) y hy))
          simpa [mgS, mgT] using h), .inl (by simp [mgS]), HMF.out⟩
      | some t1 =>
        as_aux_lemma =>
        obtain ⟨p1, hp1, -, -⟩ := hty1
        obtain rfl : pa = some ⟨p1, 0, none⟩ := by injection hp1
        clear hp1 HTK
        have HD : Below w1.heap.size w1 w1.drew := (Below.refl _ _).drew
        have HTD := Lib.hid (HT.out.keep HD (fun y hy => hy) (fun y hy => ⟨Nat.lt_of_lt_of_le (HT.out.Zb y hy).1 HD.size, (HT.out.Zb y hy).2⟩))
        have HMD := Lib.hid (HM.out.keep HD)
        have b1 := HTD.out.box 1 _ rfl
        have b4 := HMD.out.bx 0 _ rfl
        simp only [Nat.zero_add] at b1 b4
        have NS0 := Lib.hid (show SS b b3 p2 (.slice sa subs.length sc) t2 w1.drew from ⟨b1, b4, rg_keep HD HP.out.2.2⟩)
        have NB0 := Lib.hid (Below.refl w1.drew.heap.size w1.drew)
        clear b1 b4 HD z0
        go_upto_region 6 with fail
        clear b0 e1
        refine Pl.wp_region_split (SS b b3 p2 (.slice sa subs.length sc) t2) 22 (by kernel_rfl) (by kernel_rfl) ?_
        simp only [List.take_succ_cons, List.take_zero]
        have hHeld := NS0.out
        refine Pl.take_l (i := 0) (v := ?v1038) rfl (by kernel_rfl) (by kernel_rfl) (by kernel_rfl) (fun _ _ _ h => h) rfl ?hy1038 hHeld ?rest1038
        case hy1038 => (intro w hSw; (try dsimp only at hSw); (obtain ⟨_, _, _⟩ := hSw); go_simp <;> (try with_reducible rfl))
        try simp only [Act.put, List.setIfInBounds_toArray, List.set_cons_zero, List.set_cons_succ]
        refine Pl.take_l (i := 1) (v := ?v1039) rfl (by kernel_rfl) (by kernel_rfl) (by kernel_rfl) (fun _ _ _ h => h) rfl ?hy1039 hHeld ?rest1039
        case hy1039 => (intro w hSw; (try dsimp only at hSw); (obtain ⟨_, _, _⟩ := hSw); go_simp <;> (try with_reducible rfl))
        try simp only [Act.put, List.setIfInBounds_toArray, List.set_cons_zero, List.set_cons_succ]
        refine Pl.take_l (i := 2) (v := ?v1040) rfl (by kernel_rfl) (by kernel_rfl) (by kernel_rfl) (fun _ _ _ h => h) rfl ?hy1040 hHeld ?rest1040
        case hy1040 => (intro w hSw; (try dsimp only at hSw); (obtain ⟨_, _, _⟩ := hSw); go_simp <;> (try with_reducible rfl))
        try simp only [Act.put, List.setIfInBounds_toArray, List.set_cons_zero, List.set_cons_succ]
        refine Pl.take_l (i := 3) (v := ?v1041) rfl (by kernel_rfl) (by kernel_rfl) (by kernel_rfl) (fun _ _ _ h => h) rfl ?hy1041 hHeld ?rest1041
        case hy1041 => (intro w hSw; (try dsimp only at hSw); (obtain ⟨_, _, _⟩ := hSw); go_simp <;> (try with_reducible rfl))
        try simp only [Act.put, List.setIfInBounds_toArray, List.set_cons_zero, List.set_cons_succ]
        refine Pl.take_l (i := 4) (v := ?v1042) rfl (by kernel_rfl) (by kernel_rfl) (by kernel_rfl) (fun _ _ _ h => h) rfl ?hy1042 hHeld ?rest1042
        case hy1042 => (intro w hSw; (try dsimp only at hSw); (obtain ⟨_, _, _⟩ := hSw); go_simp <;> (try with_reducible rfl))
        try simp only [Act.put, List.setIfInBounds_toArray, List.set_cons_zero, List.set_cons_succ]
        refine Pl.take_l (i := 5) (v := ?v1043) rfl (by kernel_rfl) (by kernel_rfl) (by kernel_rfl) (fun _ _ _ h => h) rfl ?hy1043 hHeld ?rest1043
        case hy1043 => (intro w hSw; (try dsimp only at hSw); (obtain ⟨_, _, _⟩ := hSw); go_simp <;> (try with_reducible rfl))
        try simp only [Act.put, List.setIfInBounds_toArray, List.set_cons_zero, List.set_cons_succ]
        refine Pl.take_l (i := 6) (v := ?v1044) rfl (by kernel_rfl) (by kernel_rfl) (by kernel_rfl) (fun _ _ _ h => h) rfl ?hy1044 hHeld ?rest1044
        case hy1044 => (intro w hSw; (try dsimp only at hSw); (obtain ⟨_, _, _⟩ := hSw); go_simp <;> (try with_reducible rfl))
        try simp only [Act.put, List.setIfInBounds_toArray, List.set_cons_zero, List.set_cons_succ]
        refine Pl.take_l (i := 7) (v := ?v1045) rfl (by kernel_rfl) (by kernel_rfl) (by kernel_rfl) (fun _ _ _ h => h) rfl ?hy1045 hHeld ?rest1045
        case hy1045 => (intro w hSw; (try dsimp only at hSw); (obtain ⟨_, _, _⟩ := hSw); go_simp <;> (try with_reducible rfl))
        try simp only [Act.put, List.setIfInBounds_toArray, List.set_cons_zero, List.set_cons_succ]
        refine Pl.take_l (i := 8) (v := .agg #[.pointer none, .string t2, .int .i32 0, .int .i32 0, .int .u8 0]) rfl (by kernel_rfl) (by kernel_rfl) (by kernel_rfl) (fun _ _ _ h => h) rfl (fun w hSw => ex_load 70 (.tmp 41) rfl p2 0 rfl (nsc t2) tN (hSw.2.2) hN hN2 szNsn) hHeld ?_
        try simp only [Act.put, List.setIfInBounds_toArray, List.set_cons_zero, List.set_cons_succ]
        refine Pl.take_l (i := 10) (v := ?v1046) rfl (by kernel_rfl) (by kernel_rfl) (by kernel_rfl) (fun _ _ _ h => h) rfl ?hy1046 hHeld ?rest1046
        case hy1046 => (intro w hSw; (try dsimp only at hSw); (obtain ⟨_, _, _⟩ := hSw); go_simp <;> (try with_reducible rfl))
        try simp only [Act.put, List.setIfInBounds_toArray, List.set_cons_zero, List.set_cons_succ]
        refine Pl.take_l (i := 11) (v := ?v1047) rfl (by kernel_rfl) (by kernel_rfl) (by kernel_rfl) (fun _ _ _ h => h) rfl ?hy1047 hHeld ?rest1047
        case hy1047 => (intro w hSw; (try dsimp only at hSw); (obtain ⟨_, _, _⟩ := hSw); go_simp <;> (try with_reducible rfl))
        try simp only [Act.put, List.setIfInBounds_toArray, List.set_cons_zero, List.set_cons_succ]
        refine Pl.take_l (i := 12) (v := ?v1048) rfl (by kernel_rfl) (by kernel_rfl) (by kernel_rfl) (fun _ _ _ h => h) rfl ?hy1048 hHeld ?rest1048
        case hy1048 => (intro w hSw; (try dsimp only at hSw); (obtain ⟨_, _, _⟩ := hSw); go_simp <;> (try with_reducible rfl))
        try simp only [Act.put, List.setIfInBounds_toArray, List.set_cons_zero, List.set_cons_succ]
        generalize World.drew _ = y0 at *
        refine fork_l (i := 9) (j := 13) (by kernel_rfl) rfl rfl (fun K hK => ?_) (fun K hK => ?_)
        · as_aux_lemma =>
          (go_simp; refine (nsr_any t2 y0).mono ?_; rintro e y1 ⟨rfl, hb⟩; have NN1 := Lib.hid hb; clear hb; (try dsimp only [rg2]))
          have NS1 := Lib.hid (ss_keep NN1.out NS0.out)
          refine hK.out _ _ NS1.out (fun hHeld2 => ?_)
          clear hK K hHeld
          have hHeld := hHeld2
          clear hHeld2
          try simp only [Act.put, List.setIfInBounds_toArray, List.set_cons_zero, List.set_cons_succ]
          have NB1 := Lib.hid (NB0.out.trans (NN1.out.mono NB0.out.size))
          have hbs := bs_cmp ⟨.pointer (some ⟨p2, 0, none⟩), .slice none 0 0, .slice none 0 0, 0, false⟩ y1
          have hal : Below y1.heap.size y1 (y1.alloc (.cells (Cv.cells ⟨.pointer (some ⟨p2, 0, none⟩), .slice none 0 0, .slice none 0 0, 0, false⟩).toArray 37)) := (Below.refl _ _).alloc (Nat.le_refl _) _
          have hrn : (y1.alloc (.cells (Cv.cells ⟨.pointer (some ⟨p2, 0, none⟩), .slice none 0 0, .slice none 0 0, 0, false⟩).toArray 37)).rangeAt y1.heap.size 0 (Cv.cells ⟨.pointer (some ⟨p2, 0, none⟩), .slice none 0 0, .slice none 0 0, 0, false⟩) := rg_new y1 _ _
          have hzn : (y1.alloc (.cells (Cv.cells ⟨.pointer (some ⟨p2, 0, none⟩), .slice none 0 0, .slice none 0 0, 0, false⟩).toArray 37)).heap.size = y1.heap.size + 1 := World.size_alloc _ _
          have hbl := heap_alloc_new y1 (.cells (Cv.cells ⟨.pointer (some ⟨p2, 0, none⟩), .slice none 0 0, .slice none 0 0, 0, false⟩).toArray 37)
          obtain ⟨y2, hv⟩ : ∃ x, x = y1.alloc (.cells (Cv.cells ⟨.pointer (some ⟨p2, 0, none⟩), .slice none 0 0, .slice none 0 0, 0, false⟩).toArray 37) := ⟨_, rfl⟩
          rw [← hv] at hbs hal hrn hzn hbl
          obtain ⟨g13, hg⟩ : ∃ x, x = y1.heap.size := ⟨_, rfl⟩
          rw [← hg] at hbs hrn hbl
          have NN2 := Lib.hid hal
          have NR2 := Lib.hid (And.intro hrn (And.intro hg (And.intro hzn hbl)))
          clear hv hg hal hrn hzn hbl
          refine Pl.alone_l (i := 13) (by kernel_rfl) rfl (fun K hK => ?_)
          (refine step_bs1 rfl 38 (.tmp 46) rfl _ _ _ ?hx hbs ?_; case hx => (show _ = _; rfl))
          have NS2 := Lib.hid (ss_keep NN2.out NS1.out)
          refine hK.out _ _ NS2.out (fun hHeld2 => ?_)
          clear hK K hHeld
          have hHeld := hHeld2
          clear hHeld2
          try simp only [Act.put, List.setIfInBounds_toArray, List.set_cons_zero, List.set_cons_succ]
          have NB2 := Lib.hid (NB1.out.trans (NN2.out.mono NB1.out.size))
          have NA2 := Lib.hid (A13.mk (p2 := p2) (u := y0.heap.size) NR2.out.1 (by rw [NR2.out.2.1]; exact NB1.out.size) (by rw [NR2.out.2.1, NR2.out.2.2.1]; omega))
          refine Pl.take_l (i := 14) (v := ?v1) rfl (by kernel_rfl) (by kernel_rfl) (by kernel_rfl) (fun _ _ _ h => h) rfl ?hy1 hHeld ?rest1
          case hy1 => (intro w hSw; (try dsimp only at hSw); (try obtain ⟨_, _⟩ := hSw); go_simp <;> (try with_reducible rfl))
          try simp only [Act.put, List.setIfInBounds_toArray, List.set_cons_zero, List.set_cons_succ]
          have hbs := bs_cpl (.slice (some ⟨g13, 0, none⟩) 1 1) y2
          have hal : Below y2.heap.size y2 (y2.alloc (.cells #[.slice (some ⟨g13, 0, none⟩) 1 1] 40)) := (Below.refl _ _).alloc (Nat.le_refl _) _
          have hrn : (y2.alloc (.cells #[.slice (some ⟨g13, 0, none⟩) 1 1] 40)).rangeAt y2.heap.size 0 [.slice (some ⟨g13, 0, none⟩) 1 1] := rg_new y2 _ _
          have hzn : (y2.alloc (.cells #[.slice (some ⟨g13, 0, none⟩) 1 1] 40)).heap.size = y2.heap.size + 1 := World.size_alloc _ _
          have hbl := heap_alloc_new y2 (.cells #[.slice (some ⟨g13, 0, none⟩) 1 1] 40)
          obtain ⟨y3, hv⟩ : ∃ x, x = y2.alloc (.cells #[.slice (some ⟨g13, 0, none⟩) 1 1] 40) := ⟨_, rfl⟩
          rw [← hv] at hbs hal hrn hzn hbl
          obtain ⟨g15, hg⟩ : ∃ x, x = y2.heap.size := ⟨_, rfl⟩
          rw [← hg] at hbs hrn hbl
          have NN3 := Lib.hid hal
          have NR3 := Lib.hid (And.intro hrn (And.intro hg (And.intro hzn hbl)))
          clear hv hg hal hrn hzn hbl
          refine Pl.alone_l (i := 15) (by kernel_rfl) rfl (fun K hK => ?_)
          (refine step_bs1 rfl 27 (.tmp 48) rfl _ _ _ ?hx hbs ?_; case hx => (show _ = _; rfl))
          have NS3 := Lib.hid (ss_keep NN3.out NS2.out)
          refine hK.out _ _ NS3.out (fun hHeld2 => ?_)
          clear hK K hHeld
          have hHeld := hHeld2
          clear hHeld2
          try simp only [Act.put, List.setIfInBounds_toArray, List.set_cons_zero, List.set_cons_succ]
          have NB3 := Lib.hid (NB2.out.trans (NN3.out.mono NB2.out.size))
          have NA3 := Lib.hid (A15.mk ((NA2.out).keep NN3.out) NR3.out.1 (by rw [NR3.out.2.1]; exact NB2.out.size) (by rw [NR3.out.2.1, NR3.out.2.2.1]; omega))
          refine Pl.take_l (i := 16) (v := ?v2) rfl (by kernel_rfl) (by kernel_rfl) (by kernel_rfl) (fun _ _ _ h => h) rfl ?hy2 hHeld ?rest2
          case hy2 => (intro w hSw; (try dsimp only at hSw); (try obtain ⟨_, _⟩ := hSw); go_simp <;> (try with_reducible rfl))
          try simp only [Act.put, List.setIfInBounds_toArray, List.set_cons_zero, List.set_cons_succ]
          have hal : Below y3.heap.size y3 (y3.alloc (.cells (ilc (.slice (some ⟨g15, 0, none⟩) 1 1) 2).toArray 131)) := (Below.refl _ _).alloc (Nat.le_refl _) _
          have hrn : (y3.alloc (.cells (ilc (.slice (some ⟨g15, 0, none⟩) 1 1) 2).toArray 131)).rangeAt y3.heap.size 0 (ilc (.slice (some ⟨g15, 0, none⟩) 1 1) 2) := rg_new y3 _ _
          have hzn : (y3.alloc (.cells (ilc (.slice (some ⟨g15, 0, none⟩) 1 1) 2).toArray 131)).heap.size = y3.heap.size + 1 := World.size_alloc _ _
          have NN4 := hal
          have NR4 := And.intro hrn hzn
          clear hal hrn hzn
          refine Pl.alone_l (i := 17) (by kernel_rfl) rfl (fun K hK => ?_)
          (go_simp)
          change K _ (y3.alloc (.cells (ilc (.slice (some ⟨g15, 0, none⟩) 1 1) 2).toArray 131))
          generalize y3.alloc (.cells (ilc (.slice (some ⟨g15, 0, none⟩) 1 1) 2).toArray 131) = y4 at *
          obtain ⟨p17, hp17⟩ : ∃ x, x = y3.heap.size := ⟨_, rfl⟩
          rw [← hp17] at NR4 ⊢
          have hqn := Lib.hid (show Below y3.heap.size y3 y4 from NN4)
          have hqr := Lib.hid (And.intro NR4.1 (And.intro hp17 NR4.2))
          clear NN4 NR4 hp17
          have NN4 := hqn
          have NR4 := hqr
          have NS4 := Lib.hid (ss_keep NN4.out NS3.out)
          refine hK.out _ _ NS4.out (fun hHeld2 => ?_)
          clear hK K hHeld
          have hHeld := hHeld2
          clear hHeld2
          try simp only [Act.put, List.setIfInBounds_toArray, List.set_cons_zero, List.set_cons_succ]
          have NB4 := Lib.hid (NB3.out.trans (NN4.out.mono NB3.out.size))
          have NA4 := Lib.hid (A17.mk ((NA3.out).keep NN4.out) NR4.out.1 (by rw [NR4.out.2.1]; exact NB3.out.size) (by have := NR4.out.2.2; omega))
          refine Pl.take_l (i := 18) (v := ?v3) rfl (by kernel_rfl) (by kernel_rfl) (by kernel_rfl) (fun _ _ _ h => h) rfl ?hy3 hHeld ?rest3
          case hy3 => (intro w hSw; (try dsimp only at hSw); (try obtain ⟨_, _⟩ := hSw); go_simp <;> (try with_reducible rfl))
          try simp only [Act.put, List.setIfInBounds_toArray, List.set_cons_zero, List.set_cons_succ]
          refine Pl.take_l (i := 19) (v := ?v4) rfl (by kernel_rfl) (by kernel_rfl) (by kernel_rfl) (fun _ _ _ h => h) rfl ?hy4 hHeld ?rest4
          case hy4 => (intro w hSw; (try dsimp only at hSw); (try obtain ⟨_, _⟩ := hSw); go_simp <;> (try with_reducible rfl))
          try simp only [Act.put, List.setIfInBounds_toArray, List.set_cons_zero, List.set_cons_succ]
          have hbs := bs_sub (ifL p17) y4
          have hal : Below y4.heap.size y4 (y4.alloc (.cells #[ifL p17, .int .i32 0, .int .i32 0] 119)) := (Below.refl _ _).alloc (Nat.le_refl _) _
          have hrn : (y4.alloc (.cells #[ifL p17, .int .i32 0, .int .i32 0] 119)).rangeAt y4.heap.size 0 [ifL p17, .int .i32 0, .int .i32 0] := rg_new y4 _ _
          have hzn : (y4.alloc (.cells #[ifL p17, .int .i32 0, .int .i32 0] 119)).heap.size = y4.heap.size + 1 := World.size_alloc _ _
          have hbl := heap_alloc_new y4 (.cells #[ifL p17, .int .i32 0, .int .i32 0] 119)
          obtain ⟨y5, hv⟩ : ∃ x, x = y4.alloc (.cells #[ifL p17, .int .i32 0, .int .i32 0] 119) := ⟨_, rfl⟩
          rw [← hv] at hbs hal hrn hzn hbl
          obtain ⟨g20, hg⟩ : ∃ x, x = y4.heap.size := ⟨_, rfl⟩
          rw [← hg] at hbs hrn hbl
          have NN5 := Lib.hid hal
          have NR5 := Lib.hid (And.intro hrn (And.intro hg (And.intro hzn hbl)))
          clear hv hg hal hrn hzn hbl
          refine Pl.alone_l (i := 20) (by kernel_rfl) rfl (fun K hK => ?_)
          (refine step_bs1 rfl 30 (.tmp 53) rfl _ _ _ ?hx hbs ?_; case hx => (show _ = _; rfl))
          have NS5 := Lib.hid (ss_keep NN5.out NS4.out)
          refine hK.out _ _ NS5.out (fun hHeld2 => ?_)
          clear hK K hHeld
          have hHeld := hHeld2
          clear hHeld2
          try simp only [Act.put, List.setIfInBounds_toArray, List.set_cons_zero, List.set_cons_succ]
          have NB5 := Lib.hid (NB4.out.trans (NN5.out.mono NB4.out.size))
          have NA5 := Lib.hid ((NA4.out).keep NN5.out)
          have hwy : w.heap.size ≤ y0.heap.size := HMD.out.fr.size
          have hTn : Tg b ⟨.pointer (some ⟨p1, 0, none⟩), .slice sa subs.length sc, .slice la' nm lc', cb, we⟩ ⟨some t1, subs, nm, ccb, cwe⟩ (ZN Z w y5) y5 := HTD.out.keep NB5.out (fun y hy => .inl hy) (fun y hy => ZN.ok2 (fun y hy => ⟨Nat.lt_of_lt_of_le (HTD.out.Zb y hy).1 NB5.out.size, (HTD.out.Zb y hy).2⟩) HB3.out y hy)
          have hown : ∀ y, (Value.slice sa subs.length sc).ownBlock = some y → y < w.heap.size ∧ y ≠ b := fun y hy => ⟨(HT0.out.sub.lt hy).2, HT0.out.own y hy⟩
          obtain ⟨B, hB1, hB2, hB3⟩ := hTn.sub
          have hel : e1 (fun y => ZN Z w y5 y ∧ some y ≠ (Value.slice sa subs.length sc).ownBlock) y5 (ifL p17) (.wrap 2 [[⟨some t2, [], 0, 0, false⟩]]) := mg_e1 NA5.out ⟨.inl HP.out.1, HP.out.2.1⟩ NS5.out.2.2 (fun y h1 h2 => ⟨.inr ⟨by omega, h2⟩, fun q => by have := hown y q.symm; omega⟩)
          have HLF := Lib.hid (And.intro hTn (And.intro hB1 (And.intro hB3 (And.intro hel (And.intro hown (And.intro hwy (HMD.out.keep NB5.out)))))))
          have HB2 := Lib.hid hB2
          have HG5 := Lib.hid NR5.out.2.2.2
          clear hTn hB1 hB2 hB3 hel hown hwy
          refine Pl.alone_l (i := 21) (by kernel_rfl) rfl (fun K hK => ?_)
          refine step_appR rfl (.tmp 38) (.tmp 54) 30 rfl 0 119 i1 _ 3 24 Try.underlying30 HK.out.1 HK.out.2.1 HK.out.2.2.1 HK.out.2.2.2 rfl (by omega) (.slice sa subs.length sc) subs.length (B.flatMap sbc) (show _ = _ from rfl) HB2.out (some ⟨g20, 0, none⟩) 1 1 (sbc (ifL p17)) (show _ = _ from rfl) rfl (fun h => by cases h) (fun aa haa => by cases haa; exact World.news_of_block HG5.out) (fun u hu => by
            simp only [sbc, List.mem_cons, List.not_mem_nil, or_false] at hu
            rcases hu with rfl | rfl | rfl <;> rfl) (by unfold maxLen; omega) (by omega) (Nat.zero_le _) ?_
          intro v' y6 ho hg hv
          obtain ⟨sa', sc', rfl⟩ := own_slice ho
          have hv' : (Value.slice sa' (subs.length + 1) sc').ownBlock = (Value.slice sa subs.length sc).ownBlock ∨ ∀ y, (Value.slice sa' (subs.length + 1) sc').ownBlock = some y → y5.heap.size ≤ y := hv.imp id (fun q y hy => by rw [q] at hy; cases hy; exact Nat.le_refl _)
          have hTf := HLF.out.1.pushN (v' := .slice sa' (subs.length + 1) sc') (xs := [ifL p17]) (ls := [.wrap 2 [[⟨some t2, [], 0, 0, false⟩]]]) HLF.out.2.1 HLF.out.2.2.1 rfl (fun i p q => by
            have h0 : i = 0 := by simp at p; omega
            subst h0
            exact HLF.out.2.2.2.1) (by simpa using ho) hg hv' (Z' := ZN Z w (y6.setCell ⟨b, 1, none⟩ (.slice sa' (subs.length + 1) sc'))) (ZN.mono (by rw [size_set]; exact hg.size)) (fun y hy => ZN.ok2 (fun y hy => ⟨Nat.lt_of_lt_of_le (HLF.out.1.Zb y (.inl hy)).1 hg.size, (HLF.out.1.Zb y (.inl hy)).2⟩) HB3.out y (ZN.mono (by rw [size_set]; exact Nat.le_refl _) y hy))
          have hfr : Fr (fun k => k = b ∨ some k = (Value.slice sa subs.length sc).ownBlock) y5 y6 := Fr.ofGrown hg (fun k q => .inr q)
          have hM6 : Mh b b3 (Value.slice sa subs.length sc).ownBlock (Cv.cells ⟨.pointer (some ⟨p2, 0, none⟩), .slice sa2 N2.length sc2, .slice la2 ln2 lc2, cb2, we2⟩) w (y6.setCell ⟨b, 1, none⟩ (.slice sa' (subs.length + 1) sc')) := by
            have h5 := HLF.out.2.2.2.2.2.2
            have hb3 := h5.b3
            have h6 : y6.heap[b3]? = y5.heap[b3]? := hfr.block b3 h5.b3.2 (fun q => by
              rcases q with q | q
              · have := HBB.out; omega
              · have := (HLF.out.2.2.2.2.1 b3 q.symm).1; omega)
            exact ⟨rg_ag ((heap_set (by have := HBB.out; omega)).trans h6) h5.bx, ⟨hb3.1, by rw [size_set]; have := hg.size; omega⟩, (h5.fr.trans hfr).trans (Fr.set y6 (.inl rfl))⟩
          have hss : SS b b3 p2 (.slice sa subs.length sc) t2 y6 := by
            have h5 := NS5.out
            have hz := HLF.out.2.2.2.2.2.2.b3
            refine ⟨cell_ag (hg.block b HLF.out.1.bs (fun q => (HLF.out.2.2.2.2.1 b q.symm).2 rfl)) h5.1, cell_ag (hfr.block b3 hz.2 (fun q => ?_)) h5.2.1, rg_ag (hfr.block p2 (HLF.out.1.Zb p2 (.inl HP.out.1)).1 (fun q => ?_)) h5.2.2⟩
            · rcases q with q | q
              · have := HBB.out; omega
              · have := (HLF.out.2.2.2.2.1 b3 q.symm).1; omega
            · rcases q with q | q
              · exact (HLF.out.1.Zb p2 (.inl HP.out.1)).2 q
              · exact HP.out.2.1 q
          have HFIN := Lib.hid (And.intro hTf (And.intro hM6 hv'))
          have HSS := Lib.hid hss
          have z1 := (th_ag (hg.block b HLF.out.1.bs (fun q => (HLF.out.2.2.2.2.1 b q.symm).2 rfl)) HLF.out.1.thr 1 (by decide)).2
          have c1 := cell_ag (hg.block b HLF.out.1.bs (fun q => (HLF.out.2.2.2.2.1 b q.symm).2 rfl)) NS5.out.1
          simp only [Nat.zero_add] at z1
          clear ho hg hv hv' hTf hfr hM6 hss HB2 HG5
          refine hK.out _ _ HSS.out (fun hHeld2 => ?_)
          clear hK K hHeld
          have hHeld := hHeld2
          clear hHeld2
          try simp only [Act.put, List.setIfInBounds_toArray, List.set_cons_zero, List.set_cons_succ]
          refine wpAnyH_done (by kernel_rfl) ?_ _
          refine Pl.behind_normal (by decide) ?_
          simp only [List.drop_succ_cons, List.drop_zero]
          clear hHeld
          go_wp2_with fail
          go_meet
          exact Lib.hid ⟨some ⟨p1, 0, none⟩, sa', sc', by simpa [mgS, mgT] using HFIN.out.1, by simpa [mgS] using (HFIN.out.2.2.imp id (fun q y hy => Nat.lt_of_lt_of_le HLF.out.2.2.2.2.2.2.b3.2 (q y hy))), HFIN.out.2.1⟩
        · as_aux_lemma =>
          have hbs := bs_cmp ⟨.pointer (some ⟨p2, 0, none⟩), .slice none 0 0, .slice none 0 0, 0, false⟩ y0
          have hal : Below y0.heap.size y0 (y0.alloc (.cells (Cv.cells ⟨.pointer (some ⟨p2, 0, none⟩), .slice none 0 0, .slice none 0 0, 0, false⟩).toArray 37)) := (Below.refl _ _).alloc (Nat.le_refl _) _
          have hrn : (y0.alloc (.cells (Cv.cells ⟨.pointer (some ⟨p2, 0, none⟩), .slice none 0 0, .slice none 0 0, 0, false⟩).toArray 37)).rangeAt y0.heap.size 0 (Cv.cells ⟨.pointer (some ⟨p2, 0, none⟩), .slice none 0 0, .slice none 0 0, 0, false⟩) := rg_new y0 _ _
          have hzn : (y0.alloc (.cells (Cv.cells ⟨.pointer (some ⟨p2, 0, none⟩), .slice none 0 0, .slice none 0 0, 0, false⟩).toArray 37)).heap.size = y0.heap.size + 1 := World.size_alloc _ _
          have hbl := heap_alloc_new y0 (.cells (Cv.cells ⟨.pointer (some ⟨p2, 0, none⟩), .slice none 0 0, .slice none 0 0, 0, false⟩).toArray 37)
          obtain ⟨y1, hv⟩ : ∃ x, x = y0.alloc (.cells (Cv.cells ⟨.pointer (some ⟨p2, 0, none⟩), .slice none 0 0, .slice none 0 0, 0, false⟩).toArray 37) := ⟨_, rfl⟩
          rw [← hv] at hbs hal hrn hzn hbl
          obtain ⟨g13, hg⟩ : ∃ x, x = y0.heap.size := ⟨_, rfl⟩
          rw [← hg] at hbs hrn hbl
          have NN1 := Lib.hid hal
          have NR1 := Lib.hid (And.intro hrn (And.intro hg (And.intro hzn hbl)))
          clear hv hg hal hrn hzn hbl
          (refine step_bs1 rfl 38 (.tmp 46) rfl _ _ _ ?hx hbs ?_; case hx => (show _ = _; rfl))
          have NS1 := Lib.hid (ss_keep NN1.out NS0.out)
          refine hK.out _ _ NS1.out (fun hHeld2 => ?_)
          clear hK K hHeld
          have hHeld := hHeld2
          clear hHeld2
          try simp only [Act.put, List.setIfInBounds_toArray, List.set_cons_zero, List.set_cons_succ]
          have NB1 := Lib.hid (NB0.out.trans (NN1.out.mono NB0.out.size))
          have NA1 := Lib.hid (A13.mk (p2 := p2) (u := y0.heap.size) NR1.out.1 (by rw [NR1.out.2.1]; exact NB0.out.size) (by rw [NR1.out.2.1, NR1.out.2.2.1]; omega))
          refine Pl.take_l (i := 14) (v := ?v5) rfl (by kernel_rfl) (by kernel_rfl) (by kernel_rfl) (fun _ _ _ h => h) rfl ?hy5 hHeld ?rest5
          case hy5 => (intro w hSw; (try dsimp only at hSw); (try obtain ⟨_, _⟩ := hSw); go_simp <;> (try with_reducible rfl))
          try simp only [Act.put, List.setIfInBounds_toArray, List.set_cons_zero, List.set_cons_succ]
          refine fork_l (i := 9) (j := 15) (by kernel_rfl) rfl rfl (fun K hK => ?_) (fun K hK => ?_)
          · as_aux_lemma =>
            (go_simp; refine (nsr_any t2 y1).mono ?_; rintro e y2 ⟨rfl, hb⟩; have NN2 := Lib.hid hb; clear hb; (try dsimp only [rg2]))
            have NS2 := Lib.hid (ss_keep NN2.out NS1.out)
            refine hK.out _ _ NS2.out (fun hHeld2 => ?_)
            clear hK K hHeld
            have hHeld := hHeld2
            clear hHeld2
            try simp only [Act.put, List.setIfInBounds_toArray, List.set_cons_zero, List.set_cons_succ]
            have NB2 := Lib.hid (NB1.out.trans (NN2.out.mono NB1.out.size))
            have NA2 := Lib.hid ((NA1.out).keep NN2.out)
            have hbs := bs_cpl (.slice (some ⟨g13, 0, none⟩) 1 1) y2
            have hal : Below y2.heap.size y2 (y2.alloc (.cells #[.slice (some ⟨g13, 0, none⟩) 1 1] 40)) := (Below.refl _ _).alloc (Nat.le_refl _) _
            have hrn : (y2.alloc (.cells #[.slice (some ⟨g13, 0, none⟩) 1 1] 40)).rangeAt y2.heap.size 0 [.slice (some ⟨g13, 0, none⟩) 1 1] := rg_new y2 _ _
            have hzn : (y2.alloc (.cells #[.slice (some ⟨g13, 0, none⟩) 1 1] 40)).heap.size = y2.heap.size + 1 := World.size_alloc _ _
            have hbl := heap_alloc_new y2 (.cells #[.slice (some ⟨g13, 0, none⟩) 1 1] 40)
            obtain ⟨y3, hv⟩ : ∃ x, x = y2.alloc (.cells #[.slice (some ⟨g13, 0, none⟩) 1 1] 40) := ⟨_, rfl⟩
            rw [← hv] at hbs hal hrn hzn hbl
            obtain ⟨g15, hg⟩ : ∃ x, x = y2.heap.size := ⟨_, rfl⟩
            rw [← hg] at hbs hrn hbl
            have NN3 := Lib.hid hal
            have NR3 := Lib.hid (And.intro hrn (And.intro hg (And.intro hzn hbl)))
            clear hv hg hal hrn hzn hbl
            refine Pl.alone_l (i := 15) (by kernel_rfl) rfl (fun K hK => ?_)
            (refine step_bs1 rfl 27 (.tmp 48) rfl _ _ _ ?hx hbs ?_; case hx => (show _ = _; rfl))
            have NS3 := Lib.hid (ss_keep NN3.out NS2.out)
            refine hK.out _ _ NS3.out (fun hHeld2 => ?_)
            clear hK K hHeld
            have hHeld := hHeld2
            clear hHeld2
            try simp only [Act.put, List.setIfInBounds_toArray, List.set_cons_zero, List.set_cons_succ]
            have NB3 := Lib.hid (NB2.out.trans (NN3.out.mono NB2.out.size))
            have NA3 := Lib.hid (A15.mk ((NA2.out).keep NN3.out) NR3.out.1 (by rw [NR3.out.2.1]; exact NB2.out.size) (by rw [NR3.out.2.1, NR3.out.2.2.1]; omega))
            refine Pl.take_l (i := 16) (v := ?v6) rfl (by kernel_rfl) (by kernel_rfl) (by kernel_rfl) (fun _ _ _ h => h) rfl ?hy6 hHeld ?rest6
            case hy6 => (intro w hSw; (try dsimp only at hSw); (try obtain ⟨_, _⟩ := hSw); go_simp <;> (try with_reducible rfl))
            try simp only [Act.put, List.setIfInBounds_toArray, List.set_cons_zero, List.set_cons_succ]
            have hal : Below y3.heap.size y3 (y3.alloc (.cells (ilc (.slice (some ⟨g15, 0, none⟩) 1 1) 2).toArray 131)) := (Below.refl _ _).alloc (Nat.le_refl _) _
            have hrn : (y3.alloc (.cells (ilc (.slice (some ⟨g15, 0, none⟩) 1 1) 2).toArray 131)).rangeAt y3.heap.size 0 (ilc (.slice (some ⟨g15, 0, none⟩) 1 1) 2) := rg_new y3 _ _
            have hzn : (y3.alloc (.cells (ilc (.slice (some ⟨g15, 0, none⟩) 1 1) 2).toArray 131)).heap.size = y3.heap.size + 1 := World.size_alloc _ _
            have NN4 := hal
            have NR4 := And.intro hrn hzn
            clear hal hrn hzn
            refine Pl.alone_l (i := 17) (by kernel_rfl) rfl (fun K hK => ?_)
            (go_simp)
            change K _ (y3.alloc (.cells (ilc (.slice (some ⟨g15, 0, none⟩) 1 1) 2).toArray 131))
            generalize y3.alloc (.cells (ilc (.slice (some ⟨g15, 0, none⟩) 1 1) 2).toArray 131) = y4 at *
            obtain ⟨p17, hp17⟩ : ∃ x, x = y3.heap.size := ⟨_, rfl⟩
            rw [← hp17] at NR4 ⊢
            have hqn := Lib.hid (show Below y3.heap.size y3 y4 from NN4)
            have hqr := Lib.hid (And.intro NR4.1 (And.intro hp17 NR4.2))
            clear NN4 NR4 hp17
            have NN4 := hqn
            have NR4 := hqr
            have NS4 := Lib.hid (ss_keep NN4.out NS3.out)
            refine hK.out _ _ NS4.out (fun hHeld2 => ?_)
            clear hK K hHeld
            have hHeld := hHeld2
            clear hHeld2
            try simp only [Act.put, List.setIfInBounds_toArray, List.set_cons_zero, List.set_cons_succ]
            have NB4 := Lib.hid (NB3.out.trans (NN4.out.mono NB3.out.size))
            have NA4 := Lib.hid (A17.mk ((NA3.out).keep NN4.out) NR4.out.1 (by rw [NR4.out.2.1]; exact NB3.out.size) (by have := NR4.out.2.2; omega))
            refine Pl.take_l (i := 18) (v := ?v7) rfl (by kernel_rfl) (by kernel_rfl) (by kernel_rfl) (fun _ _ _ h => h) rfl ?hy7 hHeld ?rest7
            case hy7 => (intro w hSw; (try dsimp only at hSw); (try obtain ⟨_, _⟩ := hSw); go_simp <;> (try with_reducible rfl))
            try simp only [Act.put, List.setIfInBounds_toArray, List.set_cons_zero, List.set_cons_succ]
            refine Pl.take_l (i := 19) (v := ?v8) rfl (by kernel_rfl) (by kernel_rfl) (by kernel_rfl) (fun _ _ _ h => h) rfl ?hy8 hHeld ?rest8
            case hy8 => (intro w hSw; (try dsimp only at hSw); (try obtain ⟨_, _⟩ := hSw); go_simp <;> (try with_reducible rfl))
            try simp only [Act.put, List.setIfInBounds_toArray, List.set_cons_zero, List.set_cons_succ]
            have hbs := bs_sub (ifL p17) y4
            have hal : Below y4.heap.size y4 (y4.alloc (.cells #[ifL p17, .int .i32 0, .int .i32 0] 119)) := (Below.refl _ _).alloc (Nat.le_refl _) _
            have hrn : (y4.alloc (.cells #[ifL p17, .int .i32 0, .int .i32 0] 119)).rangeAt y4.heap.size 0 [ifL p17, .int .i32 0, .int .i32 0] := rg_new y4 _ _
            have hzn : (y4.alloc (.cells #[ifL p17, .int .i32 0, .int .i32 0] 119)).heap.size = y4.heap.size + 1 := World.size_alloc _ _
            have hbl := heap_alloc_new y4 (.cells #[ifL p17, .int .i32 0, .int .i32 0] 119)
            obtain ⟨y5, hv⟩ : ∃ x, x = y4.alloc (.cells #[ifL p17, .int .i32 0, .int .i32 0] 119) := ⟨_, rfl⟩
            rw [← hv] at hbs hal hrn hzn hbl
            obtain ⟨g20, hg⟩ : ∃ x, x = y4.heap.size := ⟨_, rfl⟩
            rw [← hg] at hbs hrn hbl
            have NN5 := Lib.hid hal
            have NR5 := Lib.hid (And.intro hrn (And.intro hg (And.intro hzn hbl)))
            clear hv hg hal hrn hzn hbl
            refine Pl.alone_l (i := 20) (by kernel_rfl) rfl (fun K hK => ?_)
            (refine step_bs1 rfl 30 (.tmp 53) rfl _ _ _ ?hx hbs ?_; case hx => (show _ = _; rfl))
            have NS5 := Lib.hid (ss_keep NN5.out NS4.out)
            refine hK.out _ _ NS5.out (fun hHeld2 => ?_)
            clear hK K hHeld
            have hHeld := hHeld2
            clear hHeld2
            try simp only [Act.put, List.setIfInBounds_toArray, List.set_cons_zero, List.set_cons_succ]
            have NB5 := Lib.hid (NB4.out.trans (NN5.out.mono NB4.out.size))
            have NA5 := Lib.hid ((NA4.out).keep NN5.out)
            have hwy : w.heap.size ≤ y0.heap.size := HMD.out.fr.size
            have hTn : Tg b ⟨.pointer (some ⟨p1, 0, none⟩), .slice sa subs.length sc, .slice la' nm lc', cb, we⟩ ⟨some t1, subs, nm, ccb, cwe⟩ (ZN Z w y5) y5 := HTD.out.keep NB5.out (fun y hy => .inl hy) (fun y hy => ZN.ok2 (fun y hy => ⟨Nat.lt_of_lt_of_le (HTD.out.Zb y hy).1 NB5.out.size, (HTD.out.Zb y hy).2⟩) HB3.out y hy)
            have hown : ∀ y, (Value.slice sa subs.length sc).ownBlock = some y → y < w.heap.size ∧ y ≠ b := fun y hy => ⟨(HT0.out.sub.lt hy).2, HT0.out.own y hy⟩
            obtain ⟨B, hB1, hB2, hB3⟩ := hTn.sub
            have hel : e1 (fun y => ZN Z w y5 y ∧ some y ≠ (Value.slice sa subs.length sc).ownBlock) y5 (ifL p17) (.wrap 2 [[⟨some t2, [], 0, 0, false⟩]]) := mg_e1 NA5.out ⟨.inl HP.out.1, HP.out.2.1⟩ NS5.out.2.2 (fun y h1 h2 => ⟨.inr ⟨by omega, h2⟩, fun q => by have := hown y q.symm; omega⟩)
            have HLF := Lib.hid (And.intro hTn (And.intro hB1 (And.intro hB3 (And.intro hel (And.intro hown (And.intro hwy (HMD.out.keep NB5.out)))))))
            have HB2 := Lib.hid hB2
            have HG5 := Lib.hid NR5.out.2.2.2
            clear hTn hB1 hB2 hB3 hel hown hwy
            refine Pl.alone_l (i := 21) (by kernel_rfl) rfl (fun K hK => ?_)
            refine step_appR rfl (.tmp 38) (.tmp 54) 30 rfl 0 119 i1 _ 3 24 Try.underlying30 HK.out.1 HK.out.2.1 HK.out.2.2.1 HK.out.2.2.2 rfl (by omega) (.slice sa subs.length sc) subs.length (B.flatMap sbc) (show _ = _ from rfl) HB2.out (some ⟨g20, 0, none⟩) 1 1 (sbc (ifL p17)) (show _ = _ from rfl) rfl (fun h => by cases h) (fun aa haa => by cases haa; exact World.news_of_block HG5.out) (fun u hu => by
              simp only [sbc, List.mem_cons, List.not_mem_nil, or_false] at hu
              rcases hu with rfl | rfl | rfl <;> rfl) (by unfold maxLen; omega) (by omega) (Nat.zero_le _) ?_
            intro v' y6 ho hg hv
            obtain ⟨sa', sc', rfl⟩ := own_slice ho
            have hv' : (Value.slice sa' (subs.length + 1) sc').ownBlock = (Value.slice sa subs.length sc).ownBlock ∨ ∀ y, (Value.slice sa' (subs.length + 1) sc').ownBlock = some y → y5.heap.size ≤ y := hv.imp id (fun q y hy => by rw [q] at hy; cases hy; exact Nat.le_refl _)
            have hTf := HLF.out.1.pushN (v' := .slice sa' (subs.length + 1) sc') (xs := [ifL p17]) (ls := [.wrap 2 [[⟨some t2, [], 0, 0, false⟩]]]) HLF.out.2.1 HLF.out.2.2.1 rfl (fun i p q => by
              have h0 : i = 0 := by simp at p; omega
              subst h0
              exact HLF.out.2.2.2.1) (by simpa using ho) hg hv' (Z' := ZN Z w (y6.setCell ⟨b, 1, none⟩ (.slice sa' (subs.length + 1) sc'))) (ZN.mono (by rw [size_set]; exact hg.size)) (fun y hy => ZN.ok2 (fun y hy => ⟨Nat.lt_of_lt_of_le (HLF.out.1.Zb y (.inl hy)).1 hg.size, (HLF.out.1.Zb y (.inl hy)).2⟩) HB3.out y (ZN.mono (by rw [size_set]; exact Nat.le_refl _) y hy))
            have hfr : Fr (fun k => k = b ∨ some k = (Value.slice sa subs.length sc).ownBlock) y5 y6 := Fr.ofGrown hg (fun k q => .inr q)
            have hM6 : Mh b b3 (Value.slice sa subs.length sc).ownBlock (Cv.cells ⟨.pointer (some ⟨p2, 0, none⟩), .slice sa2 N2.length sc2, .slice la2 ln2 lc2, cb2, we2⟩) w (y6.setCell ⟨b, 1, none⟩ (.slice sa' (subs.length + 1) sc')) := by
              have h5 := HLF.out.2.2.2.2.2.2
              have hb3 := h5.b3
              have h6 : y6.heap[b3]? = y5.heap[b3]? := hfr.block b3 h5.b3.2 (fun q => by
                rcases q with q | q
                · have := HBB.out; omega
                · have := (HLF.out.2.2.2.2.1 b3 q.symm).1; omega)
              exact ⟨rg_ag ((heap_set (by have := HBB.out; omega)).trans h6) h5.bx, ⟨hb3.1, by rw [size_set]; have := hg.size; omega⟩, (h5.fr.trans hfr).trans (Fr.set y6 (.inl rfl))⟩
            have hss : SS b b3 p2 (.slice sa subs.length sc) t2 y6 := by
              have h5 := NS5.out
              have hz := HLF.out.2.2.2.2.2.2.b3
              refine ⟨cell_ag (hg.block b HLF.out.1.bs (fun q => (HLF.out.2.2.2.2.1 b q.symm).2 rfl)) h5.1, cell_ag (hfr.block b3 hz.2 (fun q => ?_)) h5.2.1, rg_ag (hfr.block p2 (HLF.out.1.Zb p2 (.inl HP.out.1)).1 (fun q => ?_)) h5.2.2⟩
              · rcases q with q | q
                · have := HBB.out; omega
                · have := (HLF.out.2.2.2.2.1 b3 q.symm).1; omega
              · rcases q with q | q
                · exact (HLF.out.1.Zb p2 (.inl HP.out.1)).2 q
                · exact HP.out.2.1 q
            have HFIN := Lib.hid (And.intro hTf (And.intro hM6 hv'))
            have HSS := Lib.hid hss
            have z1 := (th_ag (hg.block b HLF.out.1.bs (fun q => (HLF.out.2.2.2.2.1 b q.symm).2 rfl)) HLF.out.1.thr 1 (by decide)).2
            have c1 := cell_ag (hg.block b HLF.out.1.bs (fun q => (HLF.out.2.2.2.2.1 b q.symm).2 rfl)) NS5.out.1
            simp only [Nat.zero_add] at z1
            clear ho hg hv hv' hTf hfr hM6 hss HB2 HG5
            refine hK.out _ _ HSS.out (fun hHeld2 => ?_)
            clear hK K hHeld
            have hHeld := hHeld2
            clear hHeld2
            try simp only [Act.put, List.setIfInBounds_toArray, List.set_cons_zero, List.set_cons_succ]
            refine wpAnyH_done (by kernel_rfl) ?_ _
            refine Pl.behind_normal (by decide) ?_
            simp only [List.drop_succ_cons, List.drop_zero]
            clear hHeld
            go_wp2_with fail
            go_meet
            exact Lib.hid ⟨some ⟨p1, 0, none⟩, sa', sc', by simpa [mgS, mgT] using HFIN.out.1, by simpa [mgS] using (HFIN.out.2.2.imp id (fun q y hy => Nat.lt_of_lt_of_le HLF.out.2.2.2.2.2.2.b3.2 (q y hy))), HFIN.out.2.1⟩
          · as_aux_lemma =>
            have hbs := bs_cpl (.slice (some ⟨g13, 0, none⟩) 1 1) y1
            have hal : Below y1.heap.size y1 (y1.alloc (.cells #[.slice (some ⟨g13, 0, none⟩) 1 1] 40)) := (Below.refl _ _).alloc (Nat.le_refl _) _
            have hrn : (y1.alloc (.cells #[.slice (some ⟨g13, 0, none⟩) 1 1] 40)).rangeAt y1.heap.size 0 [.slice (some ⟨g13, 0, none⟩) 1 1] := rg_new y1 _ _
            have hzn : (y1.alloc (.cells #[.slice (some ⟨g13, 0, none⟩) 1 1] 40)).heap.size = y1.heap.size + 1 := World.size_alloc _ _
            have hbl := heap_alloc_new y1 (.cells #[.slice (some ⟨g13, 0, none⟩) 1 1] 40)
            obtain ⟨y2, hv⟩ : ∃ x, x = y1.alloc (.cells #[.slice (some ⟨g13, 0, none⟩) 1 1] 40) := ⟨_, rfl⟩
            rw [← hv] at hbs hal hrn hzn hbl
            obtain ⟨g15, hg⟩ : ∃ x, x = y1.heap.size := ⟨_, rfl⟩
            rw [← hg] at hbs hrn hbl
            have NN2 := Lib.hid hal
            have NR2 := Lib.hid (And.intro hrn (And.intro hg (And.intro hzn hbl)))
            clear hv hg hal hrn hzn hbl
            (refine step_bs1 rfl 27 (.tmp 48) rfl _ _ _ ?hx hbs ?_; case hx => (show _ = _; rfl))
            have NS2 := Lib.hid (ss_keep NN2.out NS1.out)
            refine hK.out _ _ NS2.out (fun hHeld2 => ?_)
            clear hK K hHeld
            have hHeld := hHeld2
            clear hHeld2
            try simp only [Act.put, List.setIfInBounds_toArray, List.set_cons_zero, List.set_cons_succ]
            have NB2 := Lib.hid (NB1.out.trans (NN2.out.mono NB1.out.size))
            have NA2 := Lib.hid (A15.mk ((NA1.out).keep NN2.out) NR2.out.1 (by rw [NR2.out.2.1]; exact NB1.out.size) (by rw [NR2.out.2.1, NR2.out.2.2.1]; omega))
            refine Pl.take_l (i := 16) (v := ?v9) rfl (by kernel_rfl) (by kernel_rfl) (by kernel_rfl) (fun _ _ _ h => h) rfl ?hy9 hHeld ?rest9
            case hy9 => (intro w hSw; (try dsimp only at hSw); (try obtain ⟨_, _⟩ := hSw); go_simp <;> (try with_reducible rfl))
            try simp only [Act.put, List.setIfInBounds_toArray, List.set_cons_zero, List.set_cons_succ]
            refine fork_l (i := 9) (j := 17) (by kernel_rfl) rfl rfl (fun K hK => ?_) (fun K hK => ?_)
            · as_aux_lemma =>
              (go_simp; refine (nsr_any t2 y2).mono ?_; rintro e y3 ⟨rfl, hb⟩; have NN3 := Lib.hid hb; clear hb; (try dsimp only [rg2]))
              have NS3 := Lib.hid (ss_keep NN3.out NS2.out)
              refine hK.out _ _ NS3.out (fun hHeld2 => ?_)
              clear hK K hHeld
              have hHeld := hHeld2
              clear hHeld2
              try simp only [Act.put, List.setIfInBounds_toArray, List.set_cons_zero, List.set_cons_succ]
              have NB3 := Lib.hid (NB2.out.trans (NN3.out.mono NB2.out.size))
              have NA3 := Lib.hid ((NA2.out).keep NN3.out)
              have hal : Below y3.heap.size y3 (y3.alloc (.cells (ilc (.slice (some ⟨g15, 0, none⟩) 1 1) 2).toArray 131)) := (Below.refl _ _).alloc (Nat.le_refl _) _
              have hrn : (y3.alloc (.cells (ilc (.slice (some ⟨g15, 0, none⟩) 1 1) 2).toArray 131)).rangeAt y3.heap.size 0 (ilc (.slice (some ⟨g15, 0, none⟩) 1 1) 2) := rg_new y3 _ _
              have hzn : (y3.alloc (.cells (ilc (.slice (some ⟨g15, 0, none⟩) 1 1) 2).toArray 131)).heap.size = y3.heap.size + 1 := World.size_alloc _ _
              have NN4 := hal
              have NR4 := And.intro hrn hzn
              clear hal hrn hzn
              refine Pl.alone_l (i := 17) (by kernel_rfl) rfl (fun K hK => ?_)
              (go_simp)
              change K _ (y3.alloc (.cells (ilc (.slice (some ⟨g15, 0, none⟩) 1 1) 2).toArray 131))
              generalize y3.alloc (.cells (ilc (.slice (some ⟨g15, 0, none⟩) 1 1) 2).toArray 131) = y4 at *
              obtain ⟨p17, hp17⟩ : ∃ x, x = y3.heap.size := ⟨_, rfl⟩
              rw [← hp17] at NR4 ⊢
              have hqn := Lib.hid (show Below y3.heap.size y3 y4 from NN4)
              have hqr := Lib.hid (And.intro NR4.1 (And.intro hp17 NR4.2))
              clear NN4 NR4 hp17
              have NN4 := hqn
              have NR4 := hqr
              have NS4 := Lib.hid (ss_keep NN4.out NS3.out)
              refine hK.out _ _ NS4.out (fun hHeld2 => ?_)
              clear hK K hHeld
              have hHeld := hHeld2
              clear hHeld2
              try simp only [Act.put, List.setIfInBounds_toArray, List.set_cons_zero, List.set_cons_succ]
              have NB4 := Lib.hid (NB3.out.trans (NN4.out.mono NB3.out.size))
              have NA4 := Lib.hid (A17.mk ((NA3.out).keep NN4.out) NR4.out.1 (by rw [NR4.out.2.1]; exact NB3.out.size) (by have := NR4.out.2.2; omega))
              refine Pl.take_l (i := 18) (v := ?v10) rfl (by kernel_rfl) (by kernel_rfl) (by kernel_rfl) (fun _ _ _ h => h) rfl ?hy10 hHeld ?rest10
              case hy10 => (intro w hSw; (try dsimp only at hSw); (try obtain ⟨_, _⟩ := hSw); go_simp <;> (try with_reducible rfl))
              try simp only [Act.put, List.setIfInBounds_toArray, List.set_cons_zero, List.set_cons_succ]
              refine Pl.take_l (i := 19) (v := ?v11) rfl (by kernel_rfl) (by kernel_rfl) (by kernel_rfl) (fun _ _ _ h => h) rfl ?hy11 hHeld ?rest11
              case hy11 => (intro w hSw; (try dsimp only at hSw); (try obtain ⟨_, _⟩ := hSw); go_simp <;> (try with_reducible rfl))
              try simp only [Act.put, List.setIfInBounds_toArray, List.set_cons_zero, List.set_cons_succ]
              have hbs := bs_sub (ifL p17) y4
              have hal : Below y4.heap.size y4 (y4.alloc (.cells #[ifL p17, .int .i32 0, .int .i32 0] 119)) := (Below.refl _ _).alloc (Nat.le_refl _) _
              have hrn : (y4.alloc (.cells #[ifL p17, .int .i32 0, .int .i32 0] 119)).rangeAt y4.heap.size 0 [ifL p17, .int .i32 0, .int .i32 0] := rg_new y4 _ _
              have hzn : (y4.alloc (.cells #[ifL p17, .int .i32 0, .int .i32 0] 119)).heap.size = y4.heap.size + 1 := World.size_alloc _ _
              have hbl := heap_alloc_new y4 (.cells #[ifL p17, .int .i32 0, .int .i32 0] 119)
              obtain ⟨y5, hv⟩ : ∃ x, x = y4.alloc (.cells #[ifL p17, .int .i32 0, .int .i32 0] 119) := ⟨_, rfl⟩
              rw [← hv] at hbs hal hrn hzn hbl
              obtain ⟨g20, hg⟩ : ∃ x, x = y4.heap.size := ⟨_, rfl⟩
              rw [← hg] at hbs hrn hbl
              have NN5 := Lib.hid hal
              have NR5 := Lib.hid (And.intro hrn (And.intro hg (And.intro hzn hbl)))
              clear hv hg hal hrn hzn hbl
              refine Pl.alone_l (i := 20) (by kernel_rfl) rfl (fun K hK => ?_)
              (refine step_bs1 rfl 30 (.tmp 53) rfl _ _ _ ?hx hbs ?_; case hx => (show _ = _; rfl))
              have NS5 := Lib.hid (ss_keep NN5.out NS4.out)
              refine hK.out _ _ NS5.out (fun hHeld2 => ?_)
              clear hK K hHeld
              have hHeld := hHeld2
              clear hHeld2
              try simp only [Act.put, List.setIfInBounds_toArray, List.set_cons_zero, List.set_cons_succ]
              have NB5 := Lib.hid (NB4.out.trans (NN5.out.mono NB4.out.size))
              have NA5 := Lib.hid ((NA4.out).keep NN5.out)
              have hwy : w.heap.size ≤ y0.heap.size := HMD.out.fr.size
              have hTn : Tg b ⟨.pointer (some ⟨p1, 0, none⟩), .slice sa subs.length sc, .slice la' nm lc', cb, we⟩ ⟨some t1, subs, nm, ccb, cwe⟩ (ZN Z w y5) y5 := HTD.out.keep NB5.out (fun y hy => .inl hy) (fun y hy => ZN.ok2 (fun y hy => ⟨Nat.lt_of_lt_of_le (HTD.out.Zb y hy).1 NB5.out.size, (HTD.out.Zb y hy).2⟩) HB3.out y hy)
              have hown : ∀ y, (Value.slice sa subs.length sc).ownBlock = some y → y < w.heap.size ∧ y ≠ b := fun y hy => ⟨(HT0.out.sub.lt hy).2, HT0.out.own y hy⟩
              obtain ⟨B, hB1, hB2, hB3⟩ := hTn.sub
              have hel : e1 (fun y => ZN Z w y5 y ∧ some y ≠ (Value.slice sa subs.length sc).ownBlock) y5 (ifL p17) (.wrap 2 [[⟨some t2, [], 0, 0, false⟩]]) := mg_e1 NA5.out ⟨.inl HP.out.1, HP.out.2.1⟩ NS5.out.2.2 (fun y h1 h2 => ⟨.inr ⟨by omega, h2⟩, fun q => by have := hown y q.symm; omega⟩)
              have HLF := Lib.hid (And.intro hTn (And.intro hB1 (And.intro hB3 (And.intro hel (And.intro hown (And.intro hwy (HMD.out.keep NB5.out)))))))
              have HB2 := Lib.hid hB2
              have HG5 := Lib.hid NR5.out.2.2.2
              clear hTn hB1 hB2 hB3 hel hown hwy
              refine Pl.alone_l (i := 21) (by kernel_rfl) rfl (fun K hK => ?_)
              refine step_appR rfl (.tmp 38) (.tmp 54) 30 rfl 0 119 i1 _ 3 24 Try.underlying30 HK.out.1 HK.out.2.1 HK.out.2.2.1 HK.out.2.2.2 rfl (by omega) (.slice sa subs.length sc) subs.length (B.flatMap sbc) (show _ = _ from rfl) HB2.out (some ⟨g20, 0, none⟩) 1 1 (sbc (ifL p17)) (show _ = _ from rfl) rfl (fun h => by cases h) (fun aa haa => by cases haa; exact World.news_of_block HG5.out) (fun u hu => by
                simp only [sbc, List.mem_cons, List.not_mem_nil, or_false] at hu
                rcases hu with rfl | rfl | rfl <;> rfl) (by unfold maxLen; omega) (by omega) (Nat.zero_le _) ?_
              intro v' y6 ho hg hv
              obtain ⟨sa', sc', rfl⟩ := own_slice ho
              have hv' : (Value.slice sa' (subs.length + 1) sc').ownBlock = (Value.slice sa subs.length sc).ownBlock ∨ ∀ y, (Value.slice sa' (subs.length + 1) sc').ownBlock = some y → y5.heap.size ≤ y := hv.imp id (fun q y hy => by rw [q] at hy; cases hy; exact Nat.le_refl _)
              have hTf := HLF.out.1.pushN (v' := .slice sa' (subs.length + 1) sc') (xs := [ifL p17]) (ls := [.wrap 2 [[⟨some t2, [], 0, 0, false⟩]]]) HLF.out.2.1 HLF.out.2.2.1 rfl (fun i p q => by
                have h0 : i = 0 := by simp at p; omega
                subst h0
                exact HLF.out.2.2.2.1) (by simpa using ho) hg hv' (Z' := ZN Z w (y6.setCell ⟨b, 1, none⟩ (.slice sa' (subs.length + 1) sc'))) (ZN.mono (by rw [size_set]; exact hg.size)) (fun y hy => ZN.ok2 (fun y hy => ⟨Nat.lt_of_lt_of_le (HLF.out.1.Zb y (.inl hy)).1 hg.size, (HLF.out.1.Zb y (.inl hy)).2⟩) HB3.out y (ZN.mono (by rw [size_set]; exact Nat.le_refl _) y hy))
              have hfr : Fr (fun k => k = b ∨ some k = (Value.slice sa subs.length sc).ownBlock) y5 y6 := Fr.ofGrown hg (fun k q => .inr q)
              have hM6 : Mh b b3 (Value.slice sa subs.length sc).ownBlock (Cv.cells ⟨.pointer (some ⟨p2, 0, none⟩), .slice sa2 N2.length sc2, .slice la2 ln2 lc2, cb2, we2⟩) w (y6.setCell ⟨b, 1, none⟩ (.slice sa' (subs.length + 1) sc')) := by
                have h5 := HLF.out.2.2.2.2.2.2
                have hb3 := h5.b3
                have h6 : y6.heap[b3]? = y5.heap[b3]? := hfr.block b3 h5.b3.2 (fun q => by
                  rcases q with q | q
                  · have := HBB.out; omega
                  · have := (HLF.out.2.2.2.2.1 b3 q.symm).1; omega)
                exact ⟨rg_ag ((heap_set (by have := HBB.out; omega)).trans h6) h5.bx, ⟨hb3.1, by rw [size_set]; have := hg.size; omega⟩, (h5.fr.trans hfr).trans (Fr.set y6 (.inl rfl))⟩
              have hss : SS b b3 p2 (.slice sa subs.length sc) t2 y6 := by
                have h5 := NS5.out
                have hz := HLF.out.2.2.2.2.2.2.b3
                refine ⟨cell_ag (hg.block b HLF.out.1.bs (fun q => (HLF.out.2.2.2.2.1 b q.symm).2 rfl)) h5.1, cell_ag (hfr.block b3 hz.2 (fun q => ?_)) h5.2.1, rg_ag (hfr.block p2 (HLF.out.1.Zb p2 (.inl HP.out.1)).1 (fun q => ?_)) h5.2.2⟩
                · rcases q with q | q
                  · have := HBB.out; omega
                  · have := (HLF.out.2.2.2.2.1 b3 q.symm).1; omega
                · rcases q with q | q
                  · exact (HLF.out.1.Zb p2 (.inl HP.out.1)).2 q
                  · exact HP.out.2.1 q
              have HFIN := Lib.hid (And.intro hTf (And.intro hM6 hv'))
              have HSS := Lib.hid hss
              have z1 := (th_ag (hg.block b HLF.out.1.bs (fun q => (HLF.out.2.2.2.2.1 b q.symm).2 rfl)) HLF.out.1.thr 1 (by decide)).2
              have c1 := cell_ag (hg.block b HLF.out.1.bs (fun q => (HLF.out.2.2.2.2.1 b q.symm).2 rfl)) NS5.out.1
              simp only [Nat.zero_add] at z1
              clear ho hg hv hv' hTf hfr hM6 hss HB2 HG5
              refine hK.out _ _ HSS.out (fun hHeld2 => ?_)
              clear hK K hHeld
              have hHeld := hHeld2
              clear hHeld2
              try simp only [Act.put, List.setIfInBounds_toArray, List.set_cons_zero, List.set_cons_succ]
              refine wpAnyH_done (by kernel_rfl) ?_ _
              refine Pl.behind_normal (by decide) ?_
              simp only [List.drop_succ_cons, List.drop_zero]
              clear hHeld
              go_wp2_with fail
              go_meet
              exact Lib.hid ⟨some ⟨p1, 0, none⟩, sa', sc', by simpa [mgS, mgT] using HFIN.out.1, by simpa [mgS] using (HFIN.out.2.2.imp id (fun q y hy => Nat.lt_of_lt_of_le HLF.out.2.2.2.2.2.2.b3.2 (q y hy))), HFIN.out.2.1⟩
            · as_aux_lemma =>
              have hal : Below y2.heap.size y2 (y2.alloc (.cells (ilc (.slice (some ⟨g15, 0, none⟩) 1 1) 2).toArray 131)) := (Below.refl _ _).alloc (Nat.le_refl _) _
              have hrn : (y2.alloc (.cells (ilc (.slice (some ⟨g15, 0, none⟩) 1 1) 2).toArray 131)).rangeAt y2.heap.size 0 (ilc (.slice (some ⟨g15, 0, none⟩) 1 1) 2) := rg_new y2 _ _
              have hzn : (y2.alloc (.cells (ilc (.slice (some ⟨g15, 0, none⟩) 1 1) 2).toArray 131)).heap.size = y2.heap.size + 1 := World.size_alloc _ _
              have NN3 := hal
              have NR3 := And.intro hrn hzn
              clear hal hrn hzn
              (go_simp)
              change K _ (y2.alloc (.cells (ilc (.slice (some ⟨g15, 0, none⟩) 1 1) 2).toArray 131))
              generalize y2.alloc (.cells (ilc (.slice (some ⟨g15, 0, none⟩) 1 1) 2).toArray 131) = y3 at *
              obtain ⟨p17, hp17⟩ : ∃ x, x = y2.heap.size := ⟨_, rfl⟩
              rw [← hp17] at NR3 ⊢
              have hqn := Lib.hid (show Below y2.heap.size y2 y3 from NN3)
              have hqr := Lib.hid (And.intro NR3.1 (And.intro hp17 NR3.2))
              clear NN3 NR3 hp17
              have NN3 := hqn
              have NR3 := hqr
              have NS3 := Lib.hid (ss_keep NN3.out NS2.out)
              refine hK.out _ _ NS3.out (fun hHeld2 => ?_)
              clear hK K hHeld
              have hHeld := hHeld2
              clear hHeld2
              try simp only [Act.put, List.setIfInBounds_toArray, List.set_cons_zero, List.set_cons_succ]
              have NB3 := Lib.hid (NB2.out.trans (NN3.out.mono NB2.out.size))
              have NA3 := Lib.hid (A17.mk ((NA2.out).keep NN3.out) NR3.out.1 (by rw [NR3.out.2.1]; exact NB2.out.size) (by have := NR3.out.2.2; omega))
              refine Pl.take_l (i := 18) (v := ?v12) rfl (by kernel_rfl) (by kernel_rfl) (by kernel_rfl) (fun _ _ _ h => h) rfl ?hy12 hHeld ?rest12
              case hy12 => (intro w hSw; (try dsimp only at hSw); (try obtain ⟨_, _⟩ := hSw); go_simp <;> (try with_reducible rfl))
              try simp only [Act.put, List.setIfInBounds_toArray, List.set_cons_zero, List.set_cons_succ]
              refine Pl.alone_l (i := 9) (by kernel_rfl) rfl (fun K hK => ?_)
              (go_simp; refine (nsr_any t2 y3).mono ?_; rintro e y4 ⟨rfl, hb⟩; have NN4 := Lib.hid hb; clear hb; (try dsimp only [rg2]))
              have NS4 := Lib.hid (ss_keep NN4.out NS3.out)
              refine hK.out _ _ NS4.out (fun hHeld2 => ?_)
              clear hK K hHeld
              have hHeld := hHeld2
              clear hHeld2
              try simp only [Act.put, List.setIfInBounds_toArray, List.set_cons_zero, List.set_cons_succ]
              have NB4 := Lib.hid (NB3.out.trans (NN4.out.mono NB3.out.size))
              have NA4 := Lib.hid ((NA3.out).keep NN4.out)
              refine Pl.take_l (i := 19) (v := ?v13) rfl (by kernel_rfl) (by kernel_rfl) (by kernel_rfl) (fun _ _ _ h => h) rfl ?hy13 hHeld ?rest13
              case hy13 => (intro w hSw; (try dsimp only at hSw); (try obtain ⟨_, _⟩ := hSw); go_simp <;> (try with_reducible rfl))
              try simp only [Act.put, List.setIfInBounds_toArray, List.set_cons_zero, List.set_cons_succ]
              have hbs := bs_sub (ifL p17) y4
              have hal : Below y4.heap.size y4 (y4.alloc (.cells #[ifL p17, .int .i32 0, .int .i32 0] 119)) := (Below.refl _ _).alloc (Nat.le_refl _) _
              have hrn : (y4.alloc (.cells #[ifL p17, .int .i32 0, .int .i32 0] 119)).rangeAt y4.heap.size 0 [ifL p17, .int .i32 0, .int .i32 0] := rg_new y4 _ _
              have hzn : (y4.alloc (.cells #[ifL p17, .int .i32 0, .int .i32 0] 119)).heap.size = y4.heap.size + 1 := World.size_alloc _ _
              have hbl := heap_alloc_new y4 (.cells #[ifL p17, .int .i32 0, .int .i32 0] 119)
              obtain ⟨y5, hv⟩ : ∃ x, x = y4.alloc (.cells #[ifL p17, .int .i32 0, .int .i32 0] 119) := ⟨_, rfl⟩
              rw [← hv] at hbs hal hrn hzn hbl
              obtain ⟨g20, hg⟩ : ∃ x, x = y4.heap.size := ⟨_, rfl⟩
              rw [← hg] at hbs hrn hbl
              have NN5 := Lib.hid hal
              have NR5 := Lib.hid (And.intro hrn (And.intro hg (And.intro hzn hbl)))
              clear hv hg hal hrn hzn hbl
              refine Pl.alone_l (i := 20) (by kernel_rfl) rfl (fun K hK => ?_)
              (refine step_bs1 rfl 30 (.tmp 53) rfl _ _ _ ?hx hbs ?_; case hx => (show _ = _; rfl))
              have NS5 := Lib.hid (ss_keep NN5.out NS4.out)
              refine hK.out _ _ NS5.out (fun hHeld2 => ?_)
              clear hK K hHeld
              have hHeld := hHeld2
              clear hHeld2
              try simp only [Act.put, List.setIfInBounds_toArray, List.set_cons_zero, List.set_cons_succ]
              have NB5 := Lib.hid (NB4.out.trans (NN5.out.mono NB4.out.size))
              have NA5 := Lib.hid ((NA4.out).keep NN5.out)
              have hwy : w.heap.size ≤ y0.heap.size := HMD.out.fr.size
              have hTn : Tg b ⟨.pointer (some ⟨p1, 0, none⟩), .slice sa subs.length sc, .slice la' nm lc', cb, we⟩ ⟨some t1, subs, nm, ccb, cwe⟩ (ZN Z w y5) y5 := HTD.out.keep NB5.out (fun y hy => .inl hy) (fun y hy => ZN.ok2 (fun y hy => ⟨Nat.lt_of_lt_of_le (HTD.out.Zb y hy).1 NB5.out.size, (HTD.out.Zb y hy).2⟩) HB3.out y hy)
              have hown : ∀ y, (Value.slice sa subs.length sc).ownBlock = some y → y < w.heap.size ∧ y ≠ b := fun y hy => ⟨(HT0.out.sub.lt hy).2, HT0.out.own y hy⟩
              obtain ⟨B, hB1, hB2, hB3⟩ := hTn.sub
              have hel : e1 (fun y => ZN Z w y5 y ∧ some y ≠ (Value.slice sa subs.length sc).ownBlock) y5 (ifL p17) (.wrap 2 [[⟨some t2, [], 0, 0, false⟩]]) := mg_e1 NA5.out ⟨.inl HP.out.1, HP.out.2.1⟩ NS5.out.2.2 (fun y h1 h2 => ⟨.inr ⟨by omega, h2⟩, fun q => by have := hown y q.symm; omega⟩)
              have HLF := Lib.hid (And.intro hTn (And.intro hB1 (And.intro hB3 (And.intro hel (And.intro hown (And.intro hwy (HMD.out.keep NB5.out)))))))
              have HB2 := Lib.hid hB2
              have HG5 := Lib.hid NR5.out.2.2.2
              clear hTn hB1 hB2 hB3 hel hown hwy
              refine Pl.alone_l (i := 21) (by kernel_rfl) rfl (fun K hK => ?_)
              refine step_appR rfl (.tmp 38) (.tmp 54) 30 rfl 0 119 i1 _ 3 24 Try.underlying30 HK.out.1 HK.out.2.1 HK.out.2.2.1 HK.out.2.2.2 rfl (by omega) (.slice sa subs.length sc) subs.length (B.flatMap sbc) (show _ = _ from rfl) HB2.out (some ⟨g20, 0, none⟩) 1 1 (sbc (ifL p17)) (show _ = _ from rfl) rfl (fun h => by cases h) (fun aa haa => by cases haa; exact World.news_of_block HG5.out) (fun u hu => by
                simp only [sbc, List.mem_cons, List.not_mem_nil, or_false] at hu
                rcases hu with rfl | rfl | rfl <;> rfl) (by unfold maxLen; omega) (by omega) (Nat.zero_le _) ?_
              intro v' y6 ho hg hv
              obtain ⟨sa', sc', rfl⟩ := own_slice ho
              have hv' : (Value.slice sa' (subs.length + 1) sc').ownBlock = (Value.slice sa subs.length sc).ownBlock ∨ ∀ y, (Value.slice sa' (subs.length + 1) sc').ownBlock = some y → y5.heap.size ≤ y := hv.imp id (fun q y hy => by rw [q] at hy; cases hy; exact Nat.le_refl _)
              have hTf := HLF.out.1.pushN (v' := .slice sa' (subs.length + 1) sc') (xs := [ifL p17]) (ls := [.wrap 2 [[⟨some t2, [], 0, 0, false⟩]]]) HLF.out.2.1 HLF.out.2.2.1 rfl (fun i p q => by
                have h0 : i = 0 := by simp at p; omega
                subst h0
                exact HLF.out.2.2.2.1) (by simpa using ho) hg hv' (Z' := ZN Z w (y6.setCell ⟨b, 1, none⟩ (.slice sa' (subs.length + 1) sc'))) (ZN.mono (by rw [size_set]; exact hg.size)) (fun y hy => ZN.ok2 (fun y hy => ⟨Nat.lt_of_lt_of_le (HLF.out.1.Zb y (.inl hy)).1 hg.size, (HLF.out.1.Zb y (.inl hy)).2⟩) HB3.out y (ZN.mono (by rw [size_set]; exact Nat.le_refl _) y hy))
              have hfr : Fr (fun k => k = b ∨ some k = (Value.slice sa subs.length sc).ownBlock) y5 y6 := Fr.ofGrown hg (fun k q => .inr q)
              have hM6 : Mh b b3 (Value.slice sa subs.length sc).ownBlock (Cv.cells ⟨.pointer (some ⟨p2, 0, none⟩), .slice sa2 N2.length sc2, .slice la2 ln2 lc2, cb2, we2⟩) w (y6.setCell ⟨b, 1, none⟩ (.slice sa' (subs.length + 1) sc')) := by
                have h5 := HLF.out.2.2.2.2.2.2
                have hb3 := h5.b3
                have h6 : y6.heap[b3]? = y5.heap[b3]? := hfr.block b3 h5.b3.2 (fun q => by
                  rcases q with q | q
                  · have := HBB.out; omega
                  · have := (HLF.out.2.2.2.2.1 b3 q.symm).1; omega)
                exact ⟨rg_ag ((heap_set (by have := HBB.out; omega)).trans h6) h5.bx, ⟨hb3.1, by rw [size_set]; have := hg.size; omega⟩, (h5.fr.trans hfr).trans (Fr.set y6 (.inl rfl))⟩
              have hss : SS b b3 p2 (.slice sa subs.length sc) t2 y6 := by
                have h5 := NS5.out
                have hz := HLF.out.2.2.2.2.2.2.b3
                refine ⟨cell_ag (hg.block b HLF.out.1.bs (fun q => (HLF.out.2.2.2.2.1 b q.symm).2 rfl)) h5.1, cell_ag (hfr.block b3 hz.2 (fun q => ?_)) h5.2.1, rg_ag (hfr.block p2 (HLF.out.1.Zb p2 (.inl HP.out.1)).1 (fun q => ?_)) h5.2.2⟩
                · rcases q with q | q
                  · have := HBB.out; omega
                  · have := (HLF.out.2.2.2.2.1 b3 q.symm).1; omega
                · rcases q with q | q
                  · exact (HLF.out.1.Zb p2 (.inl HP.out.1)).2 q
                  · exact HP.out.2.1 q
              have HFIN := Lib.hid (And.intro hTf (And.intro hM6 hv'))
              have HSS := Lib.hid hss
              have z1 := (th_ag (hg.block b HLF.out.1.bs (fun q => (HLF.out.2.2.2.2.1 b q.symm).2 rfl)) HLF.out.1.thr 1 (by decide)).2
              have c1 := cell_ag (hg.block b HLF.out.1.bs (fun q => (HLF.out.2.2.2.2.1 b q.symm).2 rfl)) NS5.out.1
              simp only [Nat.zero_add] at z1
              clear ho hg hv hv' hTf hfr hM6 hss HB2 HG5
              refine hK.out _ _ HSS.out (fun hHeld2 => ?_)
              clear hK K hHeld
              have hHeld := hHeld2
              clear hHeld2
              try simp only [Act.put, List.setIfInBounds_toArray, List.set_cons_zero, List.set_cons_succ]
              refine wpAnyH_done (by kernel_rfl) ?_ _
              refine Pl.behind_normal (by decide) ?_
              simp only [List.drop_succ_cons, List.drop_zero]
              clear hHeld
              go_wp2_with fail
              go_meet
              exact Lib.hid ⟨some ⟨p1, 0, none⟩, sa', sc', by simpa [mgS, mgT] using HFIN.out.1, by simpa [mgS] using (HFIN.out.2.2.imp id (fun q y hy => Nat.lt_of_lt_of_le HLF.out.2.2.2.2.2.2.b3.2 (q y hy))), HFIN.out.2.1⟩
  case rest =>
  obtain ⟨S1, hS1⟩ : ∃ x, x = subs ++ mgS ⟨tp, subs, nm, ccb, cwe⟩ ⟨tp2, N2, ln2, ccb2, cwe2⟩ := ⟨_, rfl⟩
  rw [← hS1] at hcut
  obtain ⟨tq, htq⟩ : ∃ x, x = (mgT tp tp2) := ⟨_, rfl⟩
  rw [← htq] at hcut
  have hMG : mg ⟨tp, subs, ln, ccb, cwe⟩ ⟨tp2, N2, ln2, ccb2, cwe2⟩ = ⟨tq, S1 ++ N2.map Su.bare, nm, ccb, cwe⟩ := by
    rw [hS1, htq, HNM.out]
    cases tp <;> cases tp2 <;> rfl
  have hS4 : S1.length ≤ subs.length + 1 := by
    rw [hS1]
    cases tp <;> cases tp2 <;> simp [mgS]
  have HMG := Lib.hid hMG
  clear hMG hS1 htq e1 HM HT
  obtain ⟨pa', sa', sc', hT, hv, hM⟩ := hcut.out
  clear hcut
  have HD : Below wc.heap.size wc wc.drew := (Below.refl _ _).drew
  have hTD := hT.keep HD (Z' := ZN Z w wc.drew) (fun y hy => hy) (ZN.ok2 (fun y hy => ⟨Nat.lt_of_lt_of_le (hT.Zb y (.inl hy)).1 HD.size, (hT.Zb y (.inl hy)).2⟩) HB3.out)
  have hMD := hM.keep HD
  have b1 := hTD.box 1 _ rfl
  have b4 := hMD.bx 1 _ rfl
  simp only [Nat.zero_add] at b1 b4
  have hown0 : ∀ y, (Value.slice sa subs.length sc).ownBlock = some y → y < w.heap.size := fun y hy => (HT0.out.sub.lt hy).2
  have hown1 : ∀ y, (Value.slice sa' S1.length sc').ownBlock = some y → y ≠ b ∧ y ≠ b3 ∧ (some y = (Value.slice sa subs.length sc).ownBlock ∨ w.heap.size ≤ y) := fun y hy => by
    refine ⟨hTD.own y hy, ?_⟩
    have hz := hMD.b3
    rcases hv with hv | hv
    · have := hown0 y (by rw [← hv]; exact hy)
      exact ⟨by omega, .inl (by rw [← hv]; exact hy.symm)⟩
    · have := hv y hy
      exact ⟨by omega, .inr (by omega)⟩
  have hto : To Z2 w (fun y => ZN Z w wc.drew y ∧ some y ≠ (Value.slice sa' S1.length sc').ownBlock) wc.drew := fun y hy => by
    have hZy := HSZ.out.2 y hy
    have hzb := HT0.out.Zb y hZy.1
    refine ⟨⟨.inl hZy.1, fun q => ?_⟩, hMD.fr.block y hzb.1 (fun q => ?_)⟩
    · rcases (hown1 y q.symm).2.2 with h | h
      · exact hZy.2 h
      · omega
    · rcases q with q | q
      · exact hzb.2 q
      · exact hZy.2 q
  have hrw := HSZ.out.1.2.1.to hto (fun x a h => loc0 _ _ _ _ _ _ hto h)
  obtain ⟨ad, cc, Bs, hsl, hBl, hnil, hcells, hels⟩ := hrw.list (fun _ => rfl) (by omega)
  simp only [Value.slice.injEq] at hsl
  obtain ⟨rfl, -, rfl⟩ := hsl
  have hone : ∀ u ∈ Bs.flatMap sbc, u.oneCell' = true := fun u hu => by
    obtain ⟨x, hx, hux⟩ := List.mem_flatMap.1 hu
    obtain ⟨k, hk, rfl⟩ := List.mem_iff_getElem.1 hx
    obtain ⟨p, hp, -⟩ := hels k hk (by omega)
    simp only [sbc, List.mem_cons, List.not_mem_nil, or_false] at hux
    rcases hux with rfl | rfl | rfl
    · rw [hp]; rfl
    all_goals rfl
  obtain ⟨B, hB1, hB2, hB3⟩ := hTD.sub
  have HOWN := Lib.hid hB2
  have HSRC := Lib.hid (And.intro hnil (And.intro hcells (And.intro hone (show (Bs.flatMap sbc).length = N2.length * 3 by rw [flat_len sbc (fun _ => rfl), hBl]))))
  have HLF := Lib.hid (And.intro hTD (And.intro hB1 (And.intro hB3 (And.intro hBl (And.intro hels (And.intro hown1 (And.intro hMD (And.intro hv (And.intro hown0 hown0)))))))))
  have NS0 := Lib.hid (And.intro b1 b4)
  clear hTD hB1 hB2 hB3 hBl hels hown1 hMD hv hnil hcells hone hrw hto hT hM HD b1 b4 hown0
  as_aux_lemma =>
  go_upto_region 7 with fail
  refine Pl.wp_region_split (fun w' => w'.cell? ⟨b, 1, none⟩ = some (.slice sa' S1.length sc') ∧ w'.cell? ⟨b3, 1, none⟩ = some (.slice sa2 N2.length sc2)) 8 (by kernel_rfl) (by kernel_rfl) ?_
  simp only [List.take_succ_cons, List.take_zero]
  have hHeld := NS0.out
  refine Pl.take_l (i := 0) (v := ?v14) rfl (by kernel_rfl) (by kernel_rfl) (by kernel_rfl) (fun _ _ _ h => h) rfl ?hy14 hHeld ?rest14
  case hy14 => (intro w hSw; (try dsimp only at hSw); (try obtain ⟨_, _⟩ := hSw); go_simp <;> (try with_reducible rfl))
  try simp only [Act.put, List.setIfInBounds_toArray, List.set_cons_zero, List.set_cons_succ]
  refine Pl.take_l (i := 1) (v := ?v15) rfl (by kernel_rfl) (by kernel_rfl) (by kernel_rfl) (fun _ _ _ h => h) rfl ?hy15 hHeld ?rest15
  case hy15 => (intro w hSw; (try dsimp only at hSw); (try obtain ⟨_, _⟩ := hSw); go_simp <;> (try with_reducible rfl))
  try simp only [Act.put, List.setIfInBounds_toArray, List.set_cons_zero, List.set_cons_succ]
  refine Pl.take_l (i := 2) (v := ?v16) rfl (by kernel_rfl) (by kernel_rfl) (by kernel_rfl) (fun _ _ _ h => h) rfl ?hy16 hHeld ?rest16
  case hy16 => (intro w hSw; (try dsimp only at hSw); (try obtain ⟨_, _⟩ := hSw); go_simp <;> (try with_reducible rfl))
  try simp only [Act.put, List.setIfInBounds_toArray, List.set_cons_zero, List.set_cons_succ]
  refine Pl.take_l (i := 3) (v := ?v17) rfl (by kernel_rfl) (by kernel_rfl) (by kernel_rfl) (fun _ _ _ h => h) rfl ?hy17 hHeld ?rest17
  case hy17 => (intro w hSw; (try dsimp only at hSw); (try obtain ⟨_, _⟩ := hSw); go_simp <;> (try with_reducible rfl))
  try simp only [Act.put, List.setIfInBounds_toArray, List.set_cons_zero, List.set_cons_succ]
  refine Pl.take_l (i := 4) (v := ?v18) rfl (by kernel_rfl) (by kernel_rfl) (by kernel_rfl) (fun _ _ _ h => h) rfl ?hy18 hHeld ?rest18
  case hy18 => (intro w hSw; (try dsimp only at hSw); (try obtain ⟨_, _⟩ := hSw); go_simp <;> (try with_reducible rfl))
  try simp only [Act.put, List.setIfInBounds_toArray, List.set_cons_zero, List.set_cons_succ]
  refine Pl.take_l (i := 5) (v := ?v19) rfl (by kernel_rfl) (by kernel_rfl) (by kernel_rfl) (fun _ _ _ h => h) rfl ?hy19 hHeld ?rest19
  case hy19 => (intro w hSw; (try dsimp only at hSw); (try obtain ⟨_, _⟩ := hSw); go_simp <;> (try with_reducible rfl))
  try simp only [Act.put, List.setIfInBounds_toArray, List.set_cons_zero, List.set_cons_succ]
  refine Pl.take_l (i := 6) (v := ?v20) rfl (by kernel_rfl) (by kernel_rfl) (by kernel_rfl) (fun _ _ _ h => h) rfl ?hy20 hHeld ?rest20
  case hy20 => (intro w hSw; (try dsimp only at hSw); (try obtain ⟨_, _⟩ := hSw); go_simp <;> (try with_reducible rfl))
  try simp only [Act.put, List.setIfInBounds_toArray, List.set_cons_zero, List.set_cons_succ]
  generalize World.drew _ = y0 at *
  refine Pl.alone_l (i := 7) (by kernel_rfl) rfl (fun K hK => ?_)
  refine step_appR rfl (.tmp 62) (.tmp 64) 30 rfl 0 119 i1 _ 3 24 Try.underlying30 HK.out.1 HK.out.2.1 HK.out.2.2.1 HK.out.2.2.2 rfl (by omega) (.slice sa' S1.length sc') S1.length (B.flatMap sbc) (show _ = _ from rfl) HOWN.out sa2 N2.length sc2 (Bs.flatMap sbc) (show _ = _ from rfl) HSRC.out.2.2.2 HSRC.out.1 HSRC.out.2.1 HSRC.out.2.2.1 (by unfold maxLen; omega) (by omega) (Nat.zero_le _) ?_
  intro v' y6 ho hg hv
  obtain ⟨sa3, sc3, rfl⟩ := own_slice ho
  have hv' : (Value.slice sa3 (S1.length + N2.length) sc3).ownBlock = (Value.slice sa' S1.length sc').ownBlock ∨ ∀ y, (Value.slice sa3 (S1.length + N2.length) sc3).ownBlock = some y → y0.heap.size ≤ y := hv.imp id (fun q y hy => by rw [q] at hy; cases hy; exact Nat.le_refl _)
  have hTf := HLF.out.1.pushN (v' := .slice sa3 (S1.length + N2.length) sc3) (xs := Bs) (ls := N2.map Su.bare) HLF.out.2.1 HLF.out.2.2.1 (by rw [HLF.out.2.2.2.1, List.length_map]) (fun i p q => by
    have := HLF.out.2.2.2.2.1 i p (by simpa using q)
    rw [List.getElem_map]
    exact this) (by simpa using ho) hg hv' (Z' := ZN Z w (y6.setCell ⟨b, 1, none⟩ (.slice sa3 (S1.length + N2.length) sc3))) (ZN.mono (by rw [size_set]; exact hg.size)) (fun y hy => ZN.ok2 (fun y hy => ⟨Nat.lt_of_lt_of_le (HLF.out.1.Zb y (.inl hy)).1 hg.size, (HLF.out.1.Zb y (.inl hy)).2⟩) HB3.out y (ZN.mono (by rw [size_set]; exact Nat.le_refl _) y hy))
  have h5 := HLF.out.2.2.2.2.2.2.1
  have hv2 := HLF.out.2.2.2.2.2.2.2.1
  have hfin : MgP b ⟨.pointer pa, .slice sa subs.length sc, .slice la ln lc, cb, we⟩ ⟨tp, subs, ln, ccb, cwe⟩ ⟨tp2, N2, ln2, ccb2, cwe2⟩ Z w (y6.setCell ⟨b, 1, none⟩ (.slice sa3 (S1.length + N2.length) sc3)) := by
    refine ⟨⟨.pointer pa', .slice sa3 (S1.length + N2.length) sc3, .slice la' nm lc', cb, we⟩, ?_, ?_, ?_⟩
    · rw [HMG.out]
      exact hTf
    · rcases hv' with h | h
      · rcases hv2 with h2 | h2
        · exact .inl (h.trans h2)
        · refine .inr (fun y hy => ?_)
          have := h2 y (by rw [← h]; exact hy)
          have := h5.b3.1
          omega
      · exact .inr (fun y hy => Nat.le_trans h5.fr.size (h y hy))
    · have f1 : Fr (fun k => w.heap.size ≤ k ∨ k = b ∨ some k = (Value.slice sa subs.length sc).ownBlock) w y0 := h5.fr.mono (fun k _ q => .inr q)
      have f2 : Fr (fun k => w.heap.size ≤ k ∨ k = b ∨ some k = (Value.slice sa subs.length sc).ownBlock) y0 y6 := Fr.ofGrown hg (fun k q => by
        rcases (HLF.out.2.2.2.2.2.1 k q.symm).2.2 with h | h
        · exact .inr (.inr h)
        · exact .inl h)
      exact ((f1.trans f2).trans (Fr.set y6 (.inr (.inl rfl)))).mono (fun k hk q => by
        rcases q with q | q
        · omega
        · exact q)
  have hbb := hg.block b HLF.out.1.bs (fun q => (HLF.out.2.2.2.2.2.1 b q.symm).1 rfl)
  have hb3 := hg.block b3 h5.b3.2 (fun q => (HLF.out.2.2.2.2.2.1 b3 q.symm).2.1 rfl)
  have HSS := Lib.hid (And.intro (cell_ag hbb NS0.out.1) (cell_ag hb3 NS0.out.2))
  have HFIN := Lib.hid hfin
  have z1 := (th_ag hbb HLF.out.1.thr 1 (by decide)).2
  simp only [Nat.zero_add] at z1
  have c1 := cell_ag hbb NS0.out.1
  clear ho hg hv hv' hTf h5 hv2 hfin hbb hb3
  refine hK.out _ _ HSS.out (fun hHeld2 => ?_)
  clear hK K hHeld
  have hHeld := hHeld2
  clear hHeld2
  try simp only [Act.put, List.setIfInBounds_toArray, List.set_cons_zero, List.set_cons_succ]
  refine wpAnyH_done (by kernel_rfl) ?_ _
  refine Pl.behind_normal (by decide) ?_
  simp only [List.drop_succ_cons, List.drop_zero]
  clear hHeld
  go_wp2_with fail
  (try simp only [Exit.inBlock, Exit.then])
  exact bodyPost_end (results_none rfl _ _ _) rfl ⟨rfl, HFIN.out⟩
end Go.Proofs.Ytbpnmiedomchpaa.Fg
