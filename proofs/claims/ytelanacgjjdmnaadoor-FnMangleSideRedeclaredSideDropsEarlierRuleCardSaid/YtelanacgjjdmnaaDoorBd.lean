/-
  mangleSide.
-/
import Derived.Test.YtelanacgjjdmnaaDoorBc
namespace Go.Proofs.YtelanacgjjdmnaaDoor.Bx
open Go.ChangeShapes Go.WideShapes Go.ChangeAt Go.RowKit Rg
set_option linter.unusedVariables false
set_option linter.unusedSimpArgs false
section
variable {w0 w w' : World} {r : Nat}
theorem gb_below (hb : Below w.heap.size w w') : w.grownBy w' (some r) := ⟨hb.os, hb.tape, hb.output, hb.size, fun i hi _ => hb.block i hi⟩
theorem gb_refl (w : World) (r : Nat) : w.grownBy w (some r) := gb_below (Below.refl _ _)
theorem gb_then (h : w0.grownBy w (some r)) (hb : Below w.heap.size w w') : w0.grownBy w' (some r) := h.trans (gb_below hb)
theorem gb_set (h : w0.grownBy w (some r)) (o : Nat) (v : Value) : w0.grownBy (w.setCell ⟨r, o, none⟩ v) (some r) :=
  ⟨h.os, h.tape, h.output, by simpa [World.setCell] using h.size, fun i hi hne => (heap_setCell_other w ⟨r, o, none⟩ i v (fun e => hne (by rw [e]))).trans (h.block i hi hne)⟩
theorem gb_new (h : w0.grownBy w (some r)) {b : Nat} (hb : w0.heap.size ≤ b) (o : Nat) (v : Value) : w0.grownBy (w.setCell ⟨b, o, none⟩ v) (some r) :=
  ⟨h.os, h.tape, h.output, by simpa [World.setCell] using h.size, fun i hi hne => (heap_setCell_other w ⟨b, o, none⟩ i v (fun e => by dsimp only at e; omega)).trans (h.block i hi hne)⟩
theorem gb_sets (h : w0.grownBy w (some r)) (o : Nat) (vs : List Value) : w0.grownBy (w.setCells r o vs) (some r) := by
  induction vs generalizing o w with
  | nil => exact h
  | cons v t ih => rw [World.setCells]; exact ih (gb_set h o v) (o + 1)
end
theorem wpl_build0 {P : Program} {ops : Array Oper} {rest : List Oper} {o : Oper} {a : Act} {w : World} {Q : Exit → Act → World → Prop} (hg : o.guard = none) (t : TypeId) (ho : o.op = .build t #[]) (r : Value) (hrun : (Instr.build t #[]).run P w = .ok r w) (h : wpList P ops Q rest (a.put o.dst r) w) : wpList P ops Q (o :: rest) a w := by
  refine wpList_plain hg fun _ hK => ?_
  unfold Oper.wp execOp
  simp only [ho, Sem.run_bind, List.map_toArray, List.map_nil, hrun, Result.andThen_ok]
  exact hK _ _ h
theorem bldZ (W : World) : (Instr.build 57 #[]).run Tryd.prog W = .ok (.agg Z44.toArray) W := run_build W _ _ _ (by kernel_rfl)
theorem szQ4 : (Tryd.prog.info? 57).map (·.size) = some Z44.toArray.size := by kernel_rfl
theorem Z44_one : Z44.toArray.all (·.oneCell') = true := by simp [Z44, sdR, sdG, z0, Value.oneCell']
/-- behind the loads -/
def MX (c l st : Int) (tb ub : Nat) (kt : ByteArray) (aa di : Bool) (key : Int) (σ : Nat → SD) (b : Nat) (w0 w : World) : Prop :=
  w.rangeAt tb 0 (tkR c l) ∧ (w.cell? ⟨ub, 0, none⟩ = some (.string ⟨#[]⟩) ∧ w.cell? ⟨ub, 1, none⟩ = some (.int .u8 st) ∧ w.frozen? ⟨ub, 1, none⟩ = false) ∧ BB kt aa di key σ b w ∧ w0.grownBy w (some b)
section
variable {c l st : Int} {tb ub : Nat} {kt : ByteArray} {aa di : Bool} {key : Int} {σ : Nat → SD} {b : Nat} {w0 w w' : World}
theorem MX.keep (h : MX c l st tb ub kt aa di key σ b w0 w) (hb : Below w.heap.size w w') : MX c l st tb ub kt aa di key σ b w0 w' := by
  obtain ⟨h1, ⟨h2, h3, h4⟩, h5, h6⟩ := h
  exact ⟨rg_keep hb h1, ⟨later hb h2, later hb h3, by rw [hb.frozen (p := ⟨ub, 1, none⟩) (World.block_lt_of_cell? w _ h3)]; exact h4⟩, h5.keep hb, gb_then h6 hb⟩
theorem MX.put (h : MX c l st tb ub kt aa di key σ b w0 w) (h1 : ub ≠ tb) (h2 : ub ≠ b) (h3 : w0.heap.size ≤ ub) (x : Int) : MX c l x tb ub kt aa di key σ b w0 (w.setCell ⟨ub, 1, none⟩ (.int .u8 x)) := by
  obtain ⟨g1, ⟨g2, g3, g4⟩, g5, g6⟩ := h
  exact ⟨rg_other g1 h1, ⟨set_far (by omega) g2, set_same (by rw [g3]; rfl), by simp only [World.frozen?_setCell]; exact g4⟩, g5.other h2 _, gb_new g6 h3 _ _⟩
end
theorem cells7 {w : World} {g : Nat} {c l : Int} (h : w.rangeAt g 0 (tkR c l)) : w.cell? ⟨g, 0, none⟩ = some (.pointer none) ∧ w.cell? ⟨g, 1, none⟩ = some (.string (cT c)) ∧ w.cell? ⟨g, 2, none⟩ = some (.int .i32 l) ∧ w.cell? ⟨g, 3, none⟩ = some (.int .u32 0) ∧ w.cell? ⟨g, 4, none⟩ = some (.int .u16 0) ∧ w.cell? ⟨g, 5, none⟩ = some (.int .u8 (cK c)) ∧ w.cell? ⟨g, 6, none⟩ = some (.int .u8 0) := by
  have c0 := h 0 _ rfl
  have c1 := h 1 _ rfl
  have c2 := h 2 _ rfl
  have c3 := h 3 _ rfl
  have c4 := h 4 _ rfl
  have c5 := h 5 _ rfl
  have c6 := h 6 _ rfl
  simp only [Nat.zero_add] at c0 c1 c2 c3 c4 c5 c6
  exact ⟨c0, c1, c2, c3, c4, c5, c6⟩
theorem UsP.cell {b r side : Nat} {σ : Nat → SD} {x : SD} {w w' : World} (h : UsP b r side σ x w w') {g j : Nat} {v : Value} (hc : w.cell? ⟨g, j, none⟩ = some v) (h1 : g ≠ b) (h2 : g ≠ r) : w'.cell? ⟨g, j, none⟩ = some v := by
  obtain ⟨wA, hb, rfl⟩ := h
  refine cell_sets ?_ (.inl h1)
  show World.cell? (if _ then _ else _) _ = _
  split
  · exact cell_sets (later hb hc) (.inl h2)
  · exact later hb hc
theorem UsP.box {b r side : Nat} {σ : Nat → SD} {x : SD} {w w' : World} {kt : ByteArray} {aa imp : Bool} {key : Int} (h : UsP b r side σ x w w') (hB : BB kt aa imp key σ b w) (hbr : b ≠ r) (hs : side < 4) : BB kt aa imp key (up σ side x) b w' := by
  obtain ⟨wA, hb, rfl⟩ := h
  refine BB.side ?_ hs x
  refine BB.keep (w := if (σ side).k ≠ 0 ∧ (σ side).st = 0 ∧ x.st = 0 then wA.setCells r ((σ side).i * 2) [.nilIface, .int .i32 0] else wA) ?_ ⟨rfl, rfl, rfl, Nat.le_refl _, fun _ _ => rfl⟩
  split
  · exact (hB.keep hb).sets hbr _ _
  · exact hB.keep hb
/-- what mangleSide does to the world -/
def MsP (c l : Int) (n r side : Nat) (kt : ByteArray) (aa di : Bool) (key : Int) (σ : Nat → SD) (b : Nat) (w w' : World) : Prop :=
  if c ≠ 3 ∨ aa = true then
    BB kt aa di key (up σ side ⟨cT c, l, cK c, cS c, n - 1, true⟩) b w' ∧ ∃ wA, w.grownBy wA (some b) ∧ (if (σ side).k ≠ 0 ∧ (σ side).st = 0 ∧ cS c = 0 then wA.setCells r ((σ side).i * 2) [.nilIface, .int .i32 0] else wA).grownBy w' (some b)
  else BB kt aa di key (fun _ => z0) b w' ∧ w.grownBy w' (some b)
set_option maxRecDepth 100000 in
set_option maxHeartbeats 8000000 in
theorem ms_any (c l : Int) (b r n cr d v side : Nat) (kt : ByteArray) (aa imp di mf : Bool) (key a2 a3 : Int) (σ σ1 : Nat → SD) (w : World) (hc : 0 ≤ c ∧ c ≤ 4) (hB : BB kt aa imp key σ b w) (hth : w.there r 0 (n * 2)) (hn : 0 < n) (hn4 : n ≤ 4096)
    (hbr : b ≠ r) (hdr : d ≠ r) (hbd : d ≠ b) (hbv : v ≠ b) (hs : side < 4) (hk : ¬ key = 0) (hd5 : w.cell? ⟨d, 5, none⟩ = some (.bool di)) (hd1 : w.cell? ⟨d, 1, none⟩ = some (.slice (some ⟨v, 0, none⟩) 1 1)) (hd2 : w.cell? ⟨d, 2, none⟩ = some (.int .i32 a2)) (hd3 : w.cell? ⟨d, 3, none⟩ = some (.int .i32 a3))
    (hv : w.rangeAt v 0 (tkR c l)) (h1 : σ1 = if imp = di then σ else fun _ => z0) (ho : (σ1 side).k ≠ 0 → (σ1 side).s = true ∧ (σ1 side).i < n) (hz : ∃ i, i < 4 ∧ i ≠ side ∧ (σ1 i).k = 0) :
    Calls Tryd.prog 11 #[.pointer (some ⟨b, 0, none⟩), .slice (some ⟨r, 0, none⟩) n cr, .pointer (some ⟨d, 0, none⟩), .bool mf, .int .i64 (side : Int)] w fun e w' => e = .returned (.tuple #[]) ∧ MsP c l n r side kt aa di key σ1 b w w' := by
  have hbl := hB.lt
  have hrl : r < w.heap.size := th_lt hth (by omega)
  have ne : ∀ {x : Nat}, x ≠ b → some x ≠ some b := fun h e => h (by injection e)
  have HDC : Hid (∀ w' : World, w.grownBy w' (some b) → w'.cell? ⟨d, 5, none⟩ = some (.bool di) ∧ w'.cell? ⟨d, 1, none⟩ = some (.slice (some ⟨v, 0, none⟩) 1 1) ∧ w'.cell? ⟨d, 2, none⟩ = some (.int .i32 a2) ∧ w'.cell? ⟨d, 3, none⟩ = some (.int .i32 a3)) :=
    Lib.hid fun w' hg => ⟨hg.cell hd5 (ne hbd), hg.cell hd1 (ne hbd), hg.cell hd2 (ne hbd), hg.cell hd3 (ne hbd)⟩
  have HVC : Hid (∀ w' : World, w.grownBy w' (some b) → w'.rangeAt v 0 (tkR c l)) := Lib.hid fun w' hg j u hu => hg.cell (hv j u hu) (ne hbv)
  have HTH : Hid (∀ w' : World, w.grownBy w' (some b) → w'.there r 0 (n * 2)) := Lib.hid fun w' hg j hj => by
    have e := hg.block r hrl (ne (fun e => hbr e.symm))
    have := hth j hj
    rw [World.cell?_of_block (a := ⟨r, 0 + j, none⟩) e, World.frozen?_of_block (a := ⟨r, 0 + j, none⟩) e]
    exact this
  have HB := Lib.hid hB
  have HH := Lib.hid (And.intro h1 (And.intro ho hz))
  have HK := Lib.hid hk
  have HNE := Lib.hid (And.intro hbr (And.intro hbl hrl))
  have e46 := hB.2.2.2.1
  clear hth hv hd1 hd2 hd3 h1 ho hz hB ne hk
  go_enter Tryd.func11, Tryd.ntmps11
  go_upto_region 0 with fail
  go_quiet (fail)
  have HBq : Hid (BB kt aa imp key σ b (w.drewN nq)) := Lib.hid (HB.out.keep ⟨rfl, rfl, rfl, Nat.le_refl _, fun _ _ => rfl⟩)
  have HGq : Hid (w.grownBy (w.drewN nq) (some b)) := Lib.hid (gb_below ⟨rfl, rfl, rfl, Nat.le_refl _, fun _ _ => rfl⟩)
  clear e46 hd5 HB
  generalize hwq : w.drewN nq = wq at *
  clear hwq
  go_upto_if 21 with fail
  go_cut [] (fun wc => Hid (BB kt aa di key σ1 b wc) ∧ Hid (w.grownBy wc (some b)))
  case first =>
    -- <part
    have HT1 := Lib.hid (th_sub (o' := 1) (m := 44) HBq.out.2.2.2.2.2 (by omega) (by omega))
    have q46 := HBq.out.2.2.2.1
    cases hi : imp <;> cases hd : di
    case false.false =>
      go_wp2_with fail
      go_meet
      exact ⟨by rw [HH.out.1, hi, hd, if_pos rfl]; rw [← hi]; rw [hi] at HBq ⊢; exact HBq, HGq⟩
    case true.true =>
      go_wp2_with fail
      go_meet
      exact ⟨by rw [HH.out.1, hi, hd, if_pos rfl]; rw [← hi]; rw [hi] at HBq ⊢; exact HBq, HGq⟩
    all_goals
      go_upto_region 2 with (first | (refine wpl_build0 rfl 57 rfl (.agg Z44.toArray) (bldZ _) ?_) | (refine wpList_store_mid rfl 57 _ _ rfl b 1 Z44.toArray rfl rfl HT1.out szQ4 Z44_one ?_))
      change Code.wp _ _ _ (Act.mk _ _) _
      change Code.wp _ _ _ _ (World.setCells wq b 1 Z44)
      have HBz := HBq.out.zero
      have HGz := gb_sets HGq.out 1 Z44
      clear q46 HT1
      generalize World.setCells wq b 1 Z44 = wz at *
      have e5 := (HDC.out wz HGz).1
      have e46 := HBz.2.2.2.1
      have f46 := (HBz.2.2.2.2.2 46 (by omega)).2
      rw [Nat.zero_add] at f46
      rw [hd] at e5
      have HBZ := Lib.hid (HBz.imp_ di)
      have HGZ := Lib.hid (gb_set HGz 46 (.bool di))
      clear HBz HGz
      rw [hd] at HBZ HGZ
      go_wp2_with fail
      go_meet
      exact ⟨by rw [HH.out.1, hi, hd, if_neg (by decide)]; exact HBZ, HGZ⟩
    -- part>
  case rest =>
    clear HBq HGq
    obtain ⟨HB, HG⟩ := hcut
    rename_i wc
    have d1 := (HDC.out wc HG.out).2.1
    obtain ⟨t0, t1, t2, t3, t4, t5, t6⟩ := cells7 (HVC.out wc HG.out)
    have hT := rg_new wc (tkR c l).toArray 35
    have hal : Below wc.heap.size wc (wc.alloc (.cells (tkR c l).toArray 35)) := (Below.refl _ _).alloc (Nat.le_refl _) _
    unfold tkR at hT hal
    go_upto_region 6 with fail
    clear d1 t0 t1 t2 t3 t4 t5 t6
    have htb : w.heap.size ≤ wc.heap.size := HG.out.size
    have HB5 := Lib.hid (HB.out.keep hal)
    have HG5 := Lib.hid (gb_then HG.out hal)
    generalize World.alloc wc _ = w5 at *
    have HT5 : Hid (w5.rangeAt wc.heap.size 0 (tkR c l)) := Lib.hid hT
    have h56 : wc.heap.size ≤ w5.heap.size := hal.size
    have htb5 : wc.heap.size < w5.heap.size := rg_lt HT5.out (by simp [tkR])
    clear hT hal HB HG h56
    generalize wc.heap.size = tb at *
    obtain ⟨t0, t1, t2, t3, t4, t5, t6⟩ := cells7 HT5.out
    clear t0 t2 t3 t4 t6
    obtain ⟨m, hm⟩ : ∃ m, n = m + 1 := ⟨n - 1, by omega⟩
    have HM := Lib.hid (And.intro hm (show (n : Int) - 1 = (m : Int) from by omega))
    have hm4 : (m : Int) ≤ 4096 := by omega
    clear hm
    by_cases hc3 : c = 3
    · have hK : cK c = 29 := by rw [hc3]; rfl
      have hTx : cT c = ⟨#[97, 117, 116, 111]⟩ := by rw [hc3]; rfl
      have HC3 := Lib.hid (And.intro hc3 (And.intro hK hTx))
      have hnm := fun W => nm_any c hc W
      rw [show decide (c ≠ 3) = false by rw [hc3]; rfl, hK] at hnm
      have HNM := Lib.hid hnm
      rw [hTx] at t1
      rw [hK] at t5
      have baa := HB5.out.2.2.1
      clear hnm hK hTx hc3
      rcases Bool.eq_false_or_eq_true aa with haa | haa
      · have HACC : Hid (c ≠ 3 ∨ aa = true) := Lib.hid (.inr haa)
        have HAA := Lib.hid haa
        rw [haa] at baa
        clear haa
        have hab : Below w5.heap.size w5 (w5.alloc (.cells #[.string ⟨#[]⟩, .int .u8 0] 54)) := (Below.refl _ _).alloc (Nat.le_refl _) _
        have hub := heap_alloc_new w5 (.cells #[.string ⟨#[]⟩, .int .u8 0] 54)
        go_upto_region 8 with (first | (go_at_call 12; refine (HNM.out _).mono ?_; rintro e wk ⟨rfl, hwk⟩; rw [hwk]; clear hwk) | (go_at_call 13; refine (ef_auto _).mono ?_; rintro e wk ⟨rfl, hwk⟩; rw [hwk]; clear hwk))
        have hX : MX c l 0 tb w5.heap.size kt aa di key σ1 b w (w5.alloc (.cells #[.string ⟨#[]⟩, .int .u8 0] 54)) :=
          ⟨rg_keep hab HT5.out, ⟨Bk.cell hub 0 rfl, Bk.cell hub 1 rfl, Bk.frozen hub 1⟩, HB5.out.keep hab, gb_then HG5.out hab⟩
        clear hub hab t1 t5
        generalize World.alloc w5 _ = w6 at *
        have hub1 : w5.heap.size ≠ tb := by omega
        have hub2 : w5.heap.size ≠ b := by have := HNE.out; omega
        have hub3 : w.heap.size ≤ w5.heap.size := by omega
        generalize w5.heap.size = ub at *
        have HX := Lib.hid hX
        have t5 := (cells7 HX.out.1).2.2.2.2.2.1
        have baa2 := HX.out.2.2.1.2.2.1
        clear hX baa
        rw [HAA.out] at baa2
        have baa := baa2
        clear baa2
        rw [HC3.out.2.1] at t5
        go_upto_region 10 with (first | (go_at_call 12; refine (HNM.out _).mono ?_; rintro e wk ⟨rfl, hwk⟩; rw [hwk]; clear hwk))
        have HY : Hid (MX c l (cS c) tb ub kt aa di key σ1 b w w6) := Lib.hid (by rw [show cS c = 0 by rw [HC3.out.1]; rfl]; exact HX.out)
        obtain ⟨w7, hw7⟩ : ∃ x, w6 = x := ⟨_, rfl⟩
        rw [hw7] at HY ⊢
        clear baa HX hw7 t5
        have t5 := (cells7 HY.out.1).2.2.2.2.2.1
        have u1 := HY.out.2.1.2.1
        go_cut [80] (fun v wx => v = .bool false ∧ Hid (MX c l (cS c) tb ub kt aa di key σ1 b w wx))
        case first =>
          have hcs : cS c = 0 ∨ cS c = 2 := by unfold cS; split <;> simp
          rcases hcs with hx | hx
          · have x0 : (cS c == 0) = true := by rw [hx]; rfl
            go_wp2_with (first | (go_at_call 15; refine (tl_any tb c w7 hc t5).mono ?_; rintro e wk ⟨rfl, hwk⟩; rw [hwk]; clear hwk))
            go_meet
            exact ⟨rfl, HY⟩
          · have x0 : (cS c == 0) = false := by rw [hx]; rfl
            go_wp2_with fail
            go_meet
            exact ⟨rfl, HY⟩
        case rest =>
        clear HY t5 u1
        obtain ⟨rfl, HY⟩ := hcut
        obtain ⟨t0, t1, t2, t3, t4, t5, t6⟩ := cells7 HY.out.1
        have u0 := HY.out.2.1.1
        have u1 := HY.out.2.1.2.1
        have hus := us_any b r n cr side kt aa di key σ1 (cT c) l (cK c) (cS c) m wc HY.out.2.2.1 (HTH.out wc HY.out.2.2.2) hbr hs hn HH.out.2.1
        unfold sdG at hus
        have HUS := Lib.hid hus
        have hm1 : (n : Int) - 1 = (m : Int) := HM.out.2
        have hwr : IntKind.u32.wrap (m : Int) = (m : Int) := by
          have : IntKind.u32.wrap (m : Int) = (m : Int) % 4294967296 := by simp [IntKind.wrap, IntKind.bits, IntKind.signed]
          rw [this]; omega
        clear hus
        go_upto_region 13 with (first | (go_at_call 16; refine HUS.out.mono ?_; rintro e w9 ⟨rfl, hu9⟩))
        clear t0 t1 t2 t3 t4 t5 t6 u0 u1 HUS
        obtain ⟨-, -, e2, e3⟩ := HDC.out wc HY.out.2.2.2
        have y2 := hu9.cell e2 hbd hdr
        have y3 := hu9.cell e3 hbd hdr
        have HB9 := Lib.hid (hu9.box HY.out.2.2.1 hbr hs)
        have HU9 := Lib.hid hu9
        clear e2 e3 hu9
        have hz9 : ∃ i, i < 4 ∧ (up σ1 side ⟨cT c, l, cK c, cS c, m, true⟩ i).k = 0 := by
          obtain ⟨i, h1, h2, h3⟩ := HH.out.2.2
          exact ⟨i, h1, by unfold up; rw [if_neg h2]; exact h3⟩
        go_wp2_with (first | (go_at_call 17; refine (ce_any b (.slice (some ⟨r, 0, none⟩) n cr) a2 a3 mf kt aa di key (up σ1 side ⟨cT c, l, cK c, cS c, m, true⟩) w9 HB9.out HK.out hz9).mono ?_; rintro e wz ⟨rfl, hbz⟩))
        (try simp only [Exit.inBlock, Exit.then])
        refine bodyPost_ret (results_none rfl _ _ _) rfl ?_
        refine ⟨rfl, ?_⟩
        unfold MsP
        rw [if_pos HACC.out, show n - 1 = m by have := HM.out.1; omega]
        refine ⟨HB9.out.keep hbz, ?_⟩
        obtain ⟨wA, hbA, rfl⟩ := HU9.out
        refine ⟨wA, gb_then HY.out.2.2.2 hbA, gb_then (gb_sets (gb_then (gb_refl _ _) ?_) _ _) hbz⟩
        exact ⟨rfl, rfl, rfl, Nat.le_refl _, fun _ _ => rfl⟩
      · have HACC : Hid (¬ (c ≠ 3 ∨ aa = true)) := Lib.hid (by rw [haa]; exact fun h => h.elim (fun h => h HC3.out.1) (fun h => by cases h))
        rw [haa] at baa
        clear haa
        have HT1 := Lib.hid (th_sub (o' := 1) (m := 44) HB5.out.2.2.2.2.2 (by omega) (by omega))
        go_wp2_with (first | (go_at_call 12; refine (HNM.out _).mono ?_; rintro e wk ⟨rfl, hwk⟩; rw [hwk]; clear hwk) | (refine wpl_build0 rfl 57 rfl (.agg Z44.toArray) (bldZ _) ?_) | (refine wpList_store_mid rfl 57 _ _ rfl b 1 Z44.toArray rfl rfl HT1.out szQ4 Z44_one ?_))
        (try simp only [Exit.inBlock, Exit.then])
        refine bodyPost_end (results_none rfl _ _ _) rfl ?_
        refine ⟨rfl, ?_⟩
        unfold MsP
        rw [if_neg HACC.out]
        exact ⟨HB5.out.zero, gb_sets HG5.out 1 Z44⟩
    · have HC4 : Hid (c = 0 ∨ c = 1 ∨ c = 2 ∨ c = 4) := Lib.hid (by omega)
      have HACC : Hid (c ≠ 3 ∨ aa = true) := Lib.hid (.inl hc3)
      have hnm := fun W => nm_any c hc W
      rw [show decide (c ≠ 3) = true by simp [hc3]] at hnm
      have HNM := Lib.hid hnm
      clear hnm hc3
      have hab : Below w5.heap.size w5 (w5.alloc (.cells #[.string ⟨#[]⟩, .int .u8 0] 54)) := (Below.refl _ _).alloc (Nat.le_refl _) _
      have hub := heap_alloc_new w5 (.cells #[.string ⟨#[]⟩, .int .u8 0] 54)
      go_upto_region 8 with (first | (go_at_call 12; refine (HNM.out _).mono ?_; rintro e wk ⟨rfl, hwk⟩; rw [hwk]; clear hwk))
      have hX : MX c l 0 tb w5.heap.size kt aa di key σ1 b w (w5.alloc (.cells #[.string ⟨#[]⟩, .int .u8 0] 54)) :=
        ⟨rg_keep hab HT5.out, ⟨Bk.cell hub 0 rfl, Bk.cell hub 1 rfl, Bk.frozen hub 1⟩, HB5.out.keep hab, gb_then HG5.out hab⟩
      clear hub hab t1 t5
      generalize World.alloc w5 _ = w6 at *
      have hub1 : w5.heap.size ≠ tb := by omega
      have hub2 : w5.heap.size ≠ b := by have := HNE.out; omega
      have hub3 : w.heap.size ≤ w5.heap.size := by omega
      generalize w5.heap.size = ub at *
      have HX := Lib.hid hX
      have t5 := (cells7 HX.out.1).2.2.2.2.2.1
      have baa := HX.out.2.2.1.2.2.1
      clear hX
      rcases Bool.eq_false_or_eq_true aa with haa | haa
      · rw [haa] at baa
        clear haa
        obtain ⟨t0, t1, t2, t3, t4, t5', t6⟩ := cells7 HX.out.1
        go_upto_region 10 with (first | (go_at_call 12; refine (HNM.out _).mono ?_; rintro e wk ⟨rfl, hwk⟩; rw [hwk]; clear hwk) | (go_at_call 14; refine (iu_any ub c l _ w6 HC4.out HX.out.2.1.2.1 HX.out.2.1.2.2).mono ?_; rintro e w7 ⟨rfl, hiu⟩))
        have HY : Hid (MX c l (cS c) tb ub kt aa di key σ1 b w w7) := by
          obtain ⟨wA, hbA, e⟩ := hiu
          refine Lib.hid ?_
          by_cases h4 : c = 4
          · rw [if_pos h4] at e
            rw [e, show cS c = 2 by rw [h4]; rfl]
            exact (HX.out.keep hbA).put hub1 hub2 hub3 2
          · rw [if_neg h4] at e
            rw [e, show cS c = 0 by unfold cS; rw [if_neg h4]]
            exact HX.out.keep hbA
        clear hiu t0 t1 t2 t3 t4 t5 t5' t6 baa HX
        have t5 := (cells7 HY.out.1).2.2.2.2.2.1
        have u1 := HY.out.2.1.2.1
        go_cut [80] (fun v wx => v = .bool false ∧ Hid (MX c l (cS c) tb ub kt aa di key σ1 b w wx))
        case first =>
          have hcs : cS c = 0 ∨ cS c = 2 := by unfold cS; split <;> simp
          rcases hcs with hx | hx
          · have x0 : (cS c == 0) = true := by rw [hx]; rfl
            go_wp2_with (first | (go_at_call 15; refine (tl_any tb c w7 hc t5).mono ?_; rintro e wk ⟨rfl, hwk⟩; rw [hwk]; clear hwk))
            go_meet
            exact ⟨rfl, HY⟩
          · have x0 : (cS c == 0) = false := by rw [hx]; rfl
            go_wp2_with fail
            go_meet
            exact ⟨rfl, HY⟩
        case rest =>
        clear HY t5 u1
        obtain ⟨rfl, HY⟩ := hcut
        obtain ⟨t0, t1, t2, t3, t4, t5, t6⟩ := cells7 HY.out.1
        have u0 := HY.out.2.1.1
        have u1 := HY.out.2.1.2.1
        have hus := us_any b r n cr side kt aa di key σ1 (cT c) l (cK c) (cS c) m wc HY.out.2.2.1 (HTH.out wc HY.out.2.2.2) hbr hs hn HH.out.2.1
        unfold sdG at hus
        have HUS := Lib.hid hus
        have hm1 : (n : Int) - 1 = (m : Int) := HM.out.2
        have hwr : IntKind.u32.wrap (m : Int) = (m : Int) := by
          have : IntKind.u32.wrap (m : Int) = (m : Int) % 4294967296 := by simp [IntKind.wrap, IntKind.bits, IntKind.signed]
          rw [this]; omega
        clear hus
        go_upto_region 13 with (first | (go_at_call 16; refine HUS.out.mono ?_; rintro e w9 ⟨rfl, hu9⟩))
        clear t0 t1 t2 t3 t4 t5 t6 u0 u1 HUS
        obtain ⟨-, -, e2, e3⟩ := HDC.out wc HY.out.2.2.2
        have y2 := hu9.cell e2 hbd hdr
        have y3 := hu9.cell e3 hbd hdr
        have HB9 := Lib.hid (hu9.box HY.out.2.2.1 hbr hs)
        have HU9 := Lib.hid hu9
        clear e2 e3 hu9
        have hz9 : ∃ i, i < 4 ∧ (up σ1 side ⟨cT c, l, cK c, cS c, m, true⟩ i).k = 0 := by
          obtain ⟨i, h1, h2, h3⟩ := HH.out.2.2
          exact ⟨i, h1, by unfold up; rw [if_neg h2]; exact h3⟩
        go_wp2_with (first | (go_at_call 17; refine (ce_any b (.slice (some ⟨r, 0, none⟩) n cr) a2 a3 mf kt aa di key (up σ1 side ⟨cT c, l, cK c, cS c, m, true⟩) w9 HB9.out HK.out hz9).mono ?_; rintro e wz ⟨rfl, hbz⟩))
        (try simp only [Exit.inBlock, Exit.then])
        refine bodyPost_ret (results_none rfl _ _ _) rfl ?_
        refine ⟨rfl, ?_⟩
        unfold MsP
        rw [if_pos HACC.out, show n - 1 = m by have := HM.out.1; omega]
        refine ⟨HB9.out.keep hbz, ?_⟩
        obtain ⟨wA, hbA, rfl⟩ := HU9.out
        refine ⟨wA, gb_then HY.out.2.2.2 hbA, gb_then (gb_sets (gb_then (gb_refl _ _) ?_) _ _) hbz⟩
        exact ⟨rfl, rfl, rfl, Nat.le_refl _, fun _ _ => rfl⟩
      · rw [haa] at baa
        clear haa
        obtain ⟨t0, t1, t2, t3, t4, t5', t6⟩ := cells7 HX.out.1
        go_upto_region 10 with (first | (go_at_call 12; refine (HNM.out _).mono ?_; rintro e wk ⟨rfl, hwk⟩; rw [hwk]; clear hwk) | (go_at_call 14; refine (iu_any ub c l _ w6 HC4.out HX.out.2.1.2.1 HX.out.2.1.2.2).mono ?_; rintro e w7 ⟨rfl, hiu⟩))
        have HY : Hid (MX c l (cS c) tb ub kt aa di key σ1 b w w7) := by
          obtain ⟨wA, hbA, e⟩ := hiu
          refine Lib.hid ?_
          by_cases h4 : c = 4
          · rw [if_pos h4] at e
            rw [e, show cS c = 2 by rw [h4]; rfl]
            exact (HX.out.keep hbA).put hub1 hub2 hub3 2
          · rw [if_neg h4] at e
            rw [e, show cS c = 0 by unfold cS; rw [if_neg h4]]
            exact HX.out.keep hbA
        clear hiu t0 t1 t2 t3 t4 t5 t5' t6 baa HX
        have t5 := (cells7 HY.out.1).2.2.2.2.2.1
        have u1 := HY.out.2.1.2.1
        go_cut [80] (fun v wx => v = .bool false ∧ Hid (MX c l (cS c) tb ub kt aa di key σ1 b w wx))
        case first =>
          have hcs : cS c = 0 ∨ cS c = 2 := by unfold cS; split <;> simp
          rcases hcs with hx | hx
          · have x0 : (cS c == 0) = true := by rw [hx]; rfl
            go_wp2_with (first | (go_at_call 15; refine (tl_any tb c w7 hc t5).mono ?_; rintro e wk ⟨rfl, hwk⟩; rw [hwk]; clear hwk))
            go_meet
            exact ⟨rfl, HY⟩
          · have x0 : (cS c == 0) = false := by rw [hx]; rfl
            go_wp2_with fail
            go_meet
            exact ⟨rfl, HY⟩
        case rest =>
        clear HY t5 u1
        obtain ⟨rfl, HY⟩ := hcut
        obtain ⟨t0, t1, t2, t3, t4, t5, t6⟩ := cells7 HY.out.1
        have u0 := HY.out.2.1.1
        have u1 := HY.out.2.1.2.1
        have hus := us_any b r n cr side kt aa di key σ1 (cT c) l (cK c) (cS c) m wc HY.out.2.2.1 (HTH.out wc HY.out.2.2.2) hbr hs hn HH.out.2.1
        unfold sdG at hus
        have HUS := Lib.hid hus
        have hm1 : (n : Int) - 1 = (m : Int) := HM.out.2
        have hwr : IntKind.u32.wrap (m : Int) = (m : Int) := by
          have : IntKind.u32.wrap (m : Int) = (m : Int) % 4294967296 := by simp [IntKind.wrap, IntKind.bits, IntKind.signed]
          rw [this]; omega
        clear hus
        go_upto_region 13 with (first | (go_at_call 16; refine HUS.out.mono ?_; rintro e w9 ⟨rfl, hu9⟩))
        clear t0 t1 t2 t3 t4 t5 t6 u0 u1 HUS
        obtain ⟨-, -, e2, e3⟩ := HDC.out wc HY.out.2.2.2
        have y2 := hu9.cell e2 hbd hdr
        have y3 := hu9.cell e3 hbd hdr
        have HB9 := Lib.hid (hu9.box HY.out.2.2.1 hbr hs)
        have HU9 := Lib.hid hu9
        clear e2 e3 hu9
        have hz9 : ∃ i, i < 4 ∧ (up σ1 side ⟨cT c, l, cK c, cS c, m, true⟩ i).k = 0 := by
          obtain ⟨i, h1, h2, h3⟩ := HH.out.2.2
          exact ⟨i, h1, by unfold up; rw [if_neg h2]; exact h3⟩
        go_wp2_with (first | (go_at_call 17; refine (ce_any b (.slice (some ⟨r, 0, none⟩) n cr) a2 a3 mf kt aa di key (up σ1 side ⟨cT c, l, cK c, cS c, m, true⟩) w9 HB9.out HK.out hz9).mono ?_; rintro e wz ⟨rfl, hbz⟩))
        (try simp only [Exit.inBlock, Exit.then])
        refine bodyPost_ret (results_none rfl _ _ _) rfl ?_
        refine ⟨rfl, ?_⟩
        unfold MsP
        rw [if_pos HACC.out, show n - 1 = m by have := HM.out.1; omega]
        refine ⟨HB9.out.keep hbz, ?_⟩
        obtain ⟨wA, hbA, rfl⟩ := HU9.out
        refine ⟨wA, gb_then HY.out.2.2.2 hbA, gb_then (gb_sets (gb_then (gb_refl _ _) ?_) _ _) hbz⟩
        exact ⟨rfl, rfl, rfl, Nat.le_refl _, fun _ _ => rfl⟩
end Go.Proofs.YtelanacgjjdmnaaDoor.Bx
