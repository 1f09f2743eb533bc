/-
  mangleSides at '1%' and at a refused value.
-/
import Derived.Test.YtnihlfldlkkobaaDoorLc
import Derived.Test.YtnihlfldlkkobaaDoorLe
namespace Go.Proofs.YtnihlfldlkkobaaDoor.Bx
open Go.ChangeShapes Go.WideShapes Go.ChangeAt Go.RowKit Rg Quad
set_option linter.unusedVariables false
set_option linter.unusedSimpArgs false
/-- the blocks outside S are as they were -/
def KX (S : Nat → Prop) (w w' : World) : Prop := w'.os = w.os ∧ w'.tape = w.tape ∧ w'.output = w.output ∧ w.heap.size ≤ w'.heap.size ∧ ∀ i, i < w.heap.size → ¬ S i → w'.heap[i]? = w.heap[i]?
section
variable {S : Nat → Prop} {w w' w2 : World} {t : Nat}
theorem KX.of_grown (h : w.grownBy w' (some t)) (hS : S t) : KX S w w' := ⟨h.os, h.tape, h.output, h.size, fun i hi hn => h.block i hi (fun e => by injection e with e; exact hn (e ▸ hS))⟩
theorem KX.of_below (h : Below w.heap.size w w') : KX S w w' := ⟨h.os, h.tape, h.output, h.size, fun i hi _ => h.block i hi⟩
theorem KX.trans (h : KX S w w') (h2 : KX S w' w2) : KX S w w2 := ⟨h2.1.trans h.1, h2.2.1.trans h.2.1, h2.2.2.1.trans h.2.2.1, Nat.le_trans h.2.2.2.1 h2.2.2.2.1, fun i hi hn => (h2.2.2.2.2 i (Nat.lt_of_lt_of_le hi h.2.2.2.1) hn).trans (h.2.2.2.2 i hi hn)⟩
theorem KX.set_ (h : KX S w w') {p : Addr} (hp : S p.block) (u : Value) : KX S w (w'.setCell p u) :=
  ⟨h.1, h.2.1, h.2.2.1, by simpa [World.setCell] using h.2.2.2.1, fun i hi hn => (heap_setCell_other w' p i u (fun e => hn (e ▸ hp))).trans (h.2.2.2.2 i hi hn)⟩
theorem KX.mono {S' : Nat → Prop} (h : KX S w w') (hs : ∀ i, S i → S' i) : KX S' w w' := ⟨h.1, h.2.1, h.2.2.1, h.2.2.2.1, fun i hi hn => h.2.2.2.2 i hi (fun e => hn (hs i e))⟩
theorem KX.bk (h : KX S w w') {g : Nat} {t : TypeId} {cs : Array Value} (hb : Bk w g t cs) (hn : ¬ S g) : Bk w' g t cs := (h.2.2.2.2 g hb.lt hn).trans hb
theorem KX.cell (h : KX S w w') {p : Addr} {v : Value} (hc : w.cell? p = some v) (hn : ¬ S p.block) : w'.cell? p = some v := by
  rw [World.cell?_of_block (a := p) (h.2.2.2.2 p.block (World.block_lt_of_cell? w p hc) hn)]; exact hc
theorem KX.rg (h : KX S w w') {b o : Nat} {cs : List Value} (hc : w.rangeAt b o cs) (hn : ¬ S b) : w'.rangeAt b o cs := fun j v hv => h.cell (hc j v hv) hn
theorem KX.th (h : KX S w w') {b o n : Nat} (hc : w.there b o n) (hn : ¬ S b) (hl : b < w.heap.size) : w'.there b o n := fun j hj => by
  have e := h.2.2.2.2 b hl hn
  have := hc j hj
  rw [World.cell?_of_block (a := ⟨b, o + j, none⟩) e, World.frozen?_of_block (a := ⟨b, o + j, none⟩) e]
  exact this
end
theorem ixt0 (t : ByteArray) (k : Int) (W : World) : (Instr.index 74 (.agg #[.pointer none, .string t, .int .i32 0, .int .u32 0, .int .u16 0, .int .u8 k, .int .u8 0, .pointer none, .string t, .int .i32 0, .int .u32 0, .int .u16 0, .int .u8 k, .int .u8 0, .pointer none, .string t, .int .i32 0, .int .u32 0, .int .u16 0, .int .u8 k, .int .u8 0, .pointer none, .string t, .int .i32 0, .int .u32 0, .int .u16 0, .int .u8 k, .int .u8 0]) (.int .i64 0)).run Tryd.prog W = .ok (.agg #[.pointer none, .string t, .int .i32 0, .int .u32 0, .int .u16 0, .int .u8 k, .int .u8 0]) W := by kernel_rfl
theorem ixt1 (t : ByteArray) (k : Int) (W : World) : (Instr.index 74 (.agg #[.pointer none, .string t, .int .i32 0, .int .u32 0, .int .u16 0, .int .u8 k, .int .u8 0, .pointer none, .string t, .int .i32 0, .int .u32 0, .int .u16 0, .int .u8 k, .int .u8 0, .pointer none, .string t, .int .i32 0, .int .u32 0, .int .u16 0, .int .u8 k, .int .u8 0, .pointer none, .string t, .int .i32 0, .int .u32 0, .int .u16 0, .int .u8 k, .int .u8 0]) (.int .i64 1)).run Tryd.prog W = .ok (.agg #[.pointer none, .string t, .int .i32 0, .int .u32 0, .int .u16 0, .int .u8 k, .int .u8 0]) W := by kernel_rfl
theorem ixt2 (t : ByteArray) (k : Int) (W : World) : (Instr.index 74 (.agg #[.pointer none, .string t, .int .i32 0, .int .u32 0, .int .u16 0, .int .u8 k, .int .u8 0, .pointer none, .string t, .int .i32 0, .int .u32 0, .int .u16 0, .int .u8 k, .int .u8 0, .pointer none, .string t, .int .i32 0, .int .u32 0, .int .u16 0, .int .u8 k, .int .u8 0, .pointer none, .string t, .int .i32 0, .int .u32 0, .int .u16 0, .int .u8 k, .int .u8 0]) (.int .i64 2)).run Tryd.prog W = .ok (.agg #[.pointer none, .string t, .int .i32 0, .int .u32 0, .int .u16 0, .int .u8 k, .int .u8 0]) W := by kernel_rfl
theorem ixt3 (t : ByteArray) (k : Int) (W : World) : (Instr.index 74 (.agg #[.pointer none, .string t, .int .i32 0, .int .u32 0, .int .u16 0, .int .u8 k, .int .u8 0, .pointer none, .string t, .int .i32 0, .int .u32 0, .int .u16 0, .int .u8 k, .int .u8 0, .pointer none, .string t, .int .i32 0, .int .u32 0, .int .u16 0, .int .u8 k, .int .u8 0, .pointer none, .string t, .int .i32 0, .int .u32 0, .int .u16 0, .int .u8 k, .int .u8 0]) (.int .i64 3)).run Tryd.prog W = .ok (.agg #[.pointer none, .string t, .int .i32 0, .int .u32 0, .int .u16 0, .int .u8 k, .int .u8 0]) W := by kernel_rfl
theorem ixt (j : Nat) (hj : j < 4) (W : World) : (Instr.index 74 (.agg q28.toArray) (.int .i64 (j : Int))).run Tryd.prog W = .ok (.agg #[.pointer none, .string (tT 0), .int .i32 0, .int .u32 0, .int .u16 0, .int .u8 (tK 0), .int .u8 0]) W := by
  have c : j = 0 ∨ j = 1 ∨ j = 2 ∨ j = 3 := by omega
  rcases c with rfl | rfl | rfl | rfl
  · exact ixt0 (tT 0) (tK 0) W
  · exact ixt1 (tT 0) (tK 0) W
  · exact ixt2 (tT 0) (tK 0) W
  · exact ixt3 (tT 0) (tK 0) W
theorem q28_one : q28.toArray.all (·.oneCell') = true := by simp [q28, tyR, Value.oneCell']
theorem z28_one : z28.toArray.all (·.oneCell') = true := by simp [z28, Value.oneCell']
theorem szQ28 : (Tryd.prog.info? 74).map (·.size) = some q28.toArray.size := by kernel_rfl
theorem szZ28 : (Tryd.prog.info? 74).map (·.size) = some z28.toArray.size := by kernel_rfl
theorem bld3 (t a : ByteArray) (k s x : Int) (W : World) : (Instr.build 67 #[(0, .agg #[.pointer none, .string t, .int .i32 0, .int .u32 0, .int .u16 0, .int .u8 k, .int .u8 0]), (2, .int .u32 x), (1, .agg #[.string a, .int .u8 s])]).run Tryd.prog W = .ok (.agg #[.pointer none, .string t, .int .i32 0, .int .u32 0, .int .u16 0, .int .u8 k, .int .u8 0, .string a, .int .u8 s, .int .u32 x, .bool false]) W := run_build W _ _ _ (by kernel_rfl)
theorem wpl_build3 {P : Program} {ops : Array Oper} {rest : List Oper} {o : Oper} {a : Act} {w : World} {Q : Exit → Act → World → Prop} (hg : o.guard = none) (t : TypeId) (x0 x1 x2 : Operand) (ho : o.op = .build t #[(0, x0), (2, x1), (1, x2)]) (v0 v1 v2 r : Value) (h0 : a.eval x0 = v0) (h1 : a.eval x1 = v1) (h2 : a.eval x2 = v2) (hrun : (Instr.build t #[(0, v0), (2, v1), (1, v2)]).run P w = .ok r w) (h : wpList P ops Q rest (a.put o.dst r) w) : wpList P ops Q (o :: rest) a w := by
  refine wpList_plain hg fun _ hK => ?_
  unfold Oper.wp execOp
  simp only [ho, Sem.run_bind, List.map_toArray, List.map_cons, List.map_nil, h0, h1, h2, hrun, Result.andThen_ok]
  exact hK _ _ h
/-- behind the quad -/
def MX (q u : Nat) (kt : ByteArray) (aa di : Bool) (key : Int) (σ : Nat → SD) (b : Nat) (w0 w : World) : Prop :=
  w.rangeAt q 0 q28 ∧ (w.cell? ⟨u, 0, none⟩ = some (.string ⟨#[]⟩) ∧ w.cell? ⟨u, 1, none⟩ = some (.int .u8 0)) ∧ BB kt aa di key σ b w ∧ w0.grownBy w (some b)
section
variable {q u b : Nat} {kt : ByteArray} {aa di : Bool} {key : Int} {σ : Nat → SD} {w0 w w' : World}
theorem MX.keep (h : MX q u kt aa di key σ b w0 w) (hb : Below w.heap.size w w') : MX q u kt aa di key σ b w0 w' :=
  ⟨rg_keep hb h.1, ⟨later hb h.2.1.1, later hb h.2.1.2⟩, h.2.2.1.keep hb, gb_then h.2.2.2 hb⟩
theorem MX.ul (h : MX q u kt aa di key σ b w0 w) (hq : q ≠ b) (hu : u ≠ b) {side : Nat} (hs : side < 4) {x : SD} (hl : UlP b side x w w') : MX q u kt aa di key (up σ side x) b w0 w' := by
  obtain ⟨wA, hb, rfl⟩ := hl
  have h1 := (h.keep hb).keep (w' := wA.drewN 1) ⟨rfl, rfl, rfl, Nat.le_refl _, fun _ _ => rfl⟩
  exact ⟨World.rangeAt_setCells_apart h1.1 _ _ _ (.inl hq), ⟨cell_sets h1.2.1.1 (.inl hu), cell_sets h1.2.1.2 (.inl hu)⟩, h1.2.2.1.side hs x, gb_sets h1.2.2.2 _ _⟩
theorem BB.congr {σ' : Nat → SD} (h : BB kt aa di key σ b w) (he : ∀ i, i < 4 → σ i = σ' i) : BB kt aa di key σ' b w :=
  ⟨h.1, fun i hi => by rw [← he i hi]; exact h.2.1 i hi, h.2.2⟩
end
/-- k sides laid -/
def sK (x k i : Nat) : SD := if i < k then s1 x else z0
theorem sK_next (x k : Nat) : up (sK x k) k (s1 x) = sK x (k + 1) := by
  funext i
  unfold up sK
  by_cases e : i = k
  · subst e; rw [if_pos rfl, if_pos (by omega)]
  · rw [if_neg e]
    by_cases h : i < k
    · rw [if_pos h, if_pos (by omega)]
    · rw [if_neg h, if_neg (by omega)]
/-- what mangleSides leaves at '1%' -/
def MoP (kt : ByteArray) (aa di : Bool) (key : Int) (x b r n : Nat) (R : Nat → RU) (w w' : World) : Prop :=
  ∃ d m, RR w' r n (upR R x (some d, m)) ∧ BB kt aa di key (fun _ => s1 x) b w' ∧ KX (fun i => i = b ∨ i = r) w w'
set_option maxRecDepth 100000 in
set_option maxHeartbeats 8000000 in
theorem ms_one (b r n cr d v x : Nat) (kt kt' : ByteArray) (aa imp di mf : Bool) (key key' a2 a3 : Int) (R : Nat → RU) (w : World)
    (hB : BB kt aa imp key (fun _ => z0) b w) (hk : ¬ key = 0) (hR : RR w r n R) (hth : w.there r 0 (n * 2)) (hn : n = x + 1) (hn4 : n ≤ 4096)
    (hd : w.rangeAt d 0 (dcR kt' (.slice (some ⟨v, 0, none⟩) 1 1) a2 a3 key' di)) (hv : w.rangeAt v 0 (tyR (0, 0))) (hbr : b ≠ r) (hbd : b ≠ d) (hbv : b ≠ v) :
    Calls Tryd.prog 19 #[.pointer (some ⟨b, 0, none⟩), .slice (some ⟨r, 0, none⟩) n cr, .pointer (some ⟨d, 0, none⟩), .bool mf] w fun e w' => e = .returned (.tuple #[]) ∧ MoP kt aa di key x b r n R w w' := by
  have hbl : b < w.heap.size := World.block_lt_of_cell? w _ hB.1
  have hrl : r < w.heap.size := th_lt hth (by omega)
  have ne : ∀ {x : Nat}, b ≠ x → some x ≠ some b := fun h e => h (by injection e with e; exact e.symm)
  have HDC : Hid (∀ w' : World, w.grownBy w' (some b) → w'.rangeAt d 0 (dcR kt' (.slice (some ⟨v, 0, none⟩) 1 1) a2 a3 key' di) ∧ w'.rangeAt v 0 (tyR (0, 0)) ∧ RR w' r n R ∧ w'.there r 0 (n * 2)) :=
    Lib.hid fun w' hg => ⟨fun j u hu => hg.cell (hd j u hu) (ne hbd), fun j u hu => hg.cell (hv j u hu) (ne hbv), hR.grown hg (fun e => hbr e.symm), (KX.of_grown (S := fun i => i = b) hg rfl).th hth (fun e => hbr e.symm) hrl⟩
  have HB := Lib.hid hB
  have HK := Lib.hid (And.intro hk (And.intro hn (And.intro hbr hbl)))
  clear hth hv hR ne hk hn hbr hbd hbv hrl hbl
  have e46 := hB.2.2.2.1
  have ed5 : w.cell? ⟨d, 5, none⟩ = some (.bool di) := by have := hd 5 _ rfl; rwa [Nat.zero_add] at this
  clear hB hd
  go_enter Tryd.func19, Tryd.ntmps19
  go_upto_region 0 with fail
  go_quiet (fail)
  have HBq : Hid (BB kt aa imp key (fun _ => z0) b (w.drewN nq)) := Lib.hid (HB.out.keep ⟨rfl, rfl, rfl, Nat.le_refl _, fun _ _ => rfl⟩)
  have HGq : Hid (w.grownBy (w.drewN nq) (some b)) := Lib.hid (gb_below ⟨rfl, rfl, rfl, Nat.le_refl _, fun _ _ => rfl⟩)
  clear e46 ed5 HB
  generalize hwq : w.drewN nq = wq at *
  clear hwq
  go_upto_if 24 with fail
  go_cut [] (fun wc => Hid (BB kt aa di key (fun _ => z0) b wc) ∧ Hid (w.grownBy wc (some b)))
  case first =>
    -- <part
    have HT1 := Lib.hid (th_sub (o' := 1) (m := 44) HBq.out.2.2.2.2.2 (by omega) (by omega))
    have q46 := HBq.out.2.2.2.1
    cases hi : imp <;> cases hd : di
    case false.false =>
      go_wp2_with fail
      go_meet
      exact ⟨by rw [hi] at HBq; rw [hd]; exact HBq, HGq⟩
    case true.true =>
      go_wp2_with fail
      go_meet
      exact ⟨by rw [hi] at HBq; rw [hd]; exact HBq, HGq⟩
    all_goals
      go_upto_region 2 with (first | (refine wpl_build0 rfl 68 rfl (.agg Z44.toArray) (bldZ _) ?_) | (refine wpList_store_mid rfl 68 _ _ rfl b 1 Z44.toArray rfl rfl HT1.out szQ4 Z44_one ?_))
      change Code.wp _ _ _ (Act.mk _ _) _
      change Code.wp _ _ _ _ (World.setCells wq b 1 Z44)
      have HBz := HBq.out.zero
      have HGz := gb_sets HGq.out 1 Z44
      clear q46 HT1
      generalize World.setCells wq b 1 Z44 = wz at *
      have e5 : wz.cell? ⟨d, 5, none⟩ = some (.bool di) := by have := (HDC.out wz HGz).1 5 _ rfl; rwa [Nat.zero_add] at this
      have e46 := HBz.2.2.2.1
      have f46 := (HBz.2.2.2.2.2 46 (by omega)).2
      rw [Nat.zero_add] at f46
      rw [hd] at e5
      have HBZ := Lib.hid (HBz.imp_ di)
      have HGZ := Lib.hid (gb_set HGz 46 (.bool di))
      clear HBz HGz
      rw [hd] at HBZ HGZ
      go_wp2_with fail
      go_meet
      exact ⟨by rw [hd]; exact HBZ, HGZ⟩
    -- part>
  case rest =>
  clear HBq HGq
  obtain ⟨HB, HG⟩ := hcut
  have e45 := HB.out.2.2.1
  go_upto_if 39 with fail
  go_cut [8] (fun x wc => x = .string (aI aa) ∧ Hid (BB kt aa di key (fun _ => z0) b wc) ∧ Hid (w.grownBy wc (some b)))
  case first =>
    cases aa with
    | false =>
      go_wp2_with fail
      go_meet
      exact ⟨rfl, HB, HG⟩
    | true =>
      go_wp2_with fail
      go_meet
      exact ⟨rfl, HB, HG⟩
  case rest =>
  clear HB HG e45
  obtain ⟨rfl, HB, HG⟩ := hcut
  have d1 := (HDC.out wc HG.out).1 1 _ rfl
  rw [Nat.zero_add] at d1
  have hv := (HDC.out wc HG.out).2.1
  have heq := eq_one v (aI aa) wc hv
  have HEQ := Lib.hid heq
  obtain ⟨dq, hq1, hq2⟩ := tyQt
  have HQD := Lib.hid hq1
  clear hv heq hq1
  generalize aI aa = ai at *
  have HA28 := Lib.hid run_al28
  obtain ⟨c28, hc⟩ : ∃ c, q28 = c := ⟨_, rfl⟩
  have HST : Hid (∀ W : World, (W.alloc (.cells z28.toArray 74)).there W.heap.size 0 c28.toArray.size) := Lib.hid fun W => by rw [← hc]; exact th_new W _ _ rfl
  have HSZ : Hid ((Tryd.prog.info? 74).map (·.size) = some c28.toArray.size) := Lib.hid (by rw [← hc]; exact szQ28)
  have HON : Hid (c28.toArray.all (·.oneCell') = true) := Lib.hid (by rw [← hc]; exact q28_one)
  rw [hc] at HEQ
  have HC28 := Lib.hid hc
  clear hc
  go_upto_region 7 with (first | (go_at_call 20; refine HEQ.out.mono ?_; rintro e w5 ⟨rfl, hb5⟩; have HB5 := Lib.hid (HB.out.keep hb5); have HG5 := Lib.hid (gb_then HG.out hb5); clear hb5) | (refine wpl_alloc rfl 74 rfl _ _ (HA28.out _) ?_) | (refine wpList_store_mid rfl 74 _ _ rfl w5.heap.size 0 c28.toArray rfl rfl (HST.out w5) HSZ.out HON.out ?_))
  change Code.wp _ _ _ (Act.mk _ _) _
  generalize hw6 : World.setCells (World.alloc w5 _) _ 0 c28 = w6
  have hr6 : w6.rangeAt w5.heap.size 0 q28 := by rw [← hw6, ← HC28.out]; exact World.rangeAt_setCells_same _ _ _ _ (th_new w5 _ _ rfl)
  have hb6 : Below w5.heap.size w5 w6 := by rw [← hw6]; exact below_setCells (Nat.le_refl _) _ _ ((Below.refl _ _).alloc (Nat.le_refl _) _)
  clear hw6 HST HA28 HEQ HB HG d1 HSZ HON HC28
  have hub := heap_alloc_new w6 (.cells #[.string ⟨#[]⟩, .int .u8 0] 65)
  have hab : Below w6.heap.size w6 (w6.alloc (.cells #[.string ⟨#[]⟩, .int .u8 0] 65)) := (Below.refl _ _).alloc (Nat.le_refl _) _
  have hX : MX w5.heap.size w6.heap.size kt aa di key (fun _ => z0) b w (w6.alloc (.cells #[.string ⟨#[]⟩, .int .u8 0] 65)) :=
    ⟨rg_keep hab hr6, ⟨Bk.cell hub 0 rfl, Bk.cell hub 1 rfl⟩, (HB5.out.keep hb6).keep hab, gb_then (gb_then HG5.out hb6) hab⟩
  have hbn : Hid (w5.heap.size ≠ b ∧ w6.heap.size ≠ b) := Lib.hid (by have h1 := HK.out.2.2.2; have h2 := HG5.out.size; have h3 := hb6.size; omega)
  go_upto_region 9 with fail
  generalize World.alloc w6 _ = w7 at *
  generalize w5.heap.size = q at *
  generalize w6.heap.size = u at *
  have HX := Lib.hid hX
  clear hX hub hab hr6 hb6 HB5 HG5
  have HRQ := Lib.hid HX.out.1
  go_upto_block 0 with (first | (refine wpList_load_mid rfl 74 _ rfl q 0 rfl q28 dq HRQ.out HQD.out hq2 szQt ?_))
  clear HRQ
  go_cut [] (fun wx => Hid (MX q u kt aa di key (fun _ => z0) b w wx))
  case first =>
    -- <part
    go_wp2_with fail
    go_loopw [52] (fun iv wr => ∃ k : Nat, k ≤ 4 ∧ iv = .int .i64 k ∧ Hid (MX q u kt aa di key (fun _ => z0) b w wr)) (fun iv _ => 4 - (intOf iv).toNat)
    case atStart => exact ⟨0, by omega, rfl, HX⟩
    case round =>
      clear HX
      obtain ⟨k, hk, rfl, HX⟩ := hrel
      by_cases hlt : k < 4
      case neg =>
        obtain rfl : k = 4 := by omega
        go_wp2_with fail
        go_meet
        exact HX
      have p0 : (0 : Int) ≤ k := by omega
      have p1 : (k : Int) < 4 := by omega
      have HI := Lib.hid (fun W => ixt k hlt W)
      have hal : Below wr.heap.size wr (wr.alloc (.cells (tyR (0, 0)).toArray 43)) := (Below.refl _ _).alloc (Nat.le_refl _) _
      have hr13 : (wr.alloc (.cells (tyR (0, 0)).toArray 43)).rangeAt wr.heap.size 0 (tyR (0, 0)) := rg_new wr (tyR (0, 0)).toArray 43
      have HX8 := Lib.hid (HX.out.keep hal)
      have HR8 := Lib.hid hr13
      unfold tyR at HX8 HR8
      clear hal hr13
      go_upto_region 12 with (first | (refine wpl_index rfl 74 _ _ rfl (.agg q28.toArray) (.int .i64 (k : Int)) _ rfl rfl (HI.out _) ?_))
      generalize World.alloc wr _ = w8 at *
      generalize wr.heap.size = tb at *
      have hr8 : w8.rangeAt tb 0 (tyR (0, 0)) := HR8.out
      obtain ⟨t0, t1, t2, t3, t4, t5, t6⟩ := cells7 hr8
      simp only [Nat.zero_add] at t0 t1 t2 t3 t4 t5 t6
      (try dsimp only at t1 t5)
      have e45 := HX8.out.2.2.1.2.2.1
      have HIU := Lib.hid (fun W => iu1 u W)
      have HNU := Lib.hid nu1
      clear HX HR8 hr8 HI
      cases aa with
      | false =>
        go_wp2_with (first | (go_at_call 22; refine (HIU.out _).mono ?_; rintro e w9 ⟨rfl, hb9⟩; have HX9 := Lib.hid (HX8.out.keep hb9); clear hb9))
        exact ⟨⟨k + 1, by omega, by go_num, HX9⟩, by simp [intOf]; omega⟩
      | true =>
        go_wp2_with (first | (go_at_call 21; refine (HNU.out _).mono ?_; rintro e wk ⟨rfl, hwk⟩; rw [hwk]; clear hwk) | (go_at_call 22; refine (HIU.out _).mono ?_; rintro e w9 ⟨rfl, hb9⟩; have HX9 := Lib.hid (HX8.out.keep hb9); clear hb9))
        exact ⟨⟨k + 1, by omega, by go_num, HX9⟩, by simp [intOf]; omega⟩
    -- part>
  case rest =>
  clear HX
  have HX := hcut
  clear hcut
  have HRQ := Lib.hid HX.out.1
  go_upto_block 2 with (first | (refine wpList_load_mid rfl 74 _ rfl q 0 rfl q28 dq HRQ.out HQD.out hq2 szQt ?_))
  clear HRQ HQD
  go_cut [] (fun wx => Hid (MX q u kt aa di key (sK x 4) b w wx))
  case first =>
    -- <part
    go_wp2_with fail
    go_loopw [69] (fun iv wr => ∃ k : Nat, k ≤ 4 ∧ iv = .int .i64 k ∧ Hid (MX q u kt aa di key (sK x k) b w wr)) (fun iv _ => 4 - (intOf iv).toNat)
    case atStart => exact ⟨0, by omega, rfl, HX⟩
    case round =>
      clear HX
      obtain ⟨k, hk, rfl, HX⟩ := hrel
      by_cases hlt : k < 4
      case neg =>
        obtain rfl : k = 4 := by omega
        go_wp2_with fail
        go_meet
        exact HX
      have p0 : (0 : Int) ≤ k := by omega
      have p1 : (k : Int) < 4 := by omega
      have HI := Lib.hid (fun W => ixt k hlt W)
      have hal : Below wr.heap.size wr (wr.alloc (.cells (tyR (0, 0)).toArray 43)) := (Below.refl _ _).alloc (Nat.le_refl _) _
      have hr13 : (wr.alloc (.cells (tyR (0, 0)).toArray 43)).rangeAt wr.heap.size 0 (tyR (0, 0)) := rg_new wr (tyR (0, 0)).toArray 43
      have HX8 := Lib.hid (HX.out.keep hal)
      have HR8 := Lib.hid hr13
      unfold tyR at HX8 HR8
      clear hal hr13
      go_upto_region 18 with (first | (refine wpl_index rfl 74 _ _ rfl (.agg q28.toArray) (.int .i64 (k : Int)) _ rfl rfl (HI.out _) ?_))
      generalize World.alloc wr _ = w8 at *
      generalize wr.heap.size = tb at *
      have hr8 : w8.rangeAt tb 0 (tyR (0, 0)) := HR8.out
      obtain ⟨t0, t1, t2, t3, t4, t5, t6⟩ := cells7 hr8
      simp only [Nat.zero_add] at t0 t1 t2 t3 t4 t5 t6
      (try dsimp only at t1 t5)
      have u0 := HX8.out.2.1.1
      have u1 := HX8.out.2.1.2
      have HTL := Lib.hid (tl1 tb w8 t5)
      have hm1 : (n : Int) - 1 = (x : Int) := by rw [HK.out.2.1]; omega
      have hx4 : (x : Int) < 4294967296 := by omega
      have hwr : IntKind.u32.wrap (x : Int) = (x : Int) := by
        have : IntKind.u32.wrap (x : Int) = (x : Int) % 4294967296 := by simp [IntKind.wrap, IntKind.bits, IntKind.signed]
        rw [this]; omega
      have hul := ul_any b k (.slice (some ⟨r, 0, none⟩) n cr) kt aa di key (sK x k) (tT 0) 0 (tK 0) 0 x w8 HX8.out.2.2.1 hlt (by unfold sK; rw [if_neg (by omega)]; rfl)
      unfold sdG at hul
      have HUL := Lib.hid hul
      clear HX HR8 hr8 HI hul hx4
      go_wp2_with (first
        | (go_at_call 23; refine HTL.out.mono ?_; rintro e wk ⟨rfl, hwk⟩; rw [hwk]; clear hwk)
        | (refine wpl_build3 rfl 67 _ _ _ rfl (.agg #[.pointer none, .string (tT 0), .int .i32 0, .int .u32 0, .int .u16 0, .int .u8 (tK 0), .int .u8 0]) (.int .u32 (x : Int)) (.agg #[.string ⟨#[]⟩, .int .u8 0]) _ rfl rfl rfl (bld3 (tT 0) ⟨#[]⟩ (tK 0) 0 (x : Int) _) ?_)
        | (go_at_call 24; refine HUL.out.mono ?_; rintro e w9 ⟨rfl, hu9⟩))
      have hX9 := HX8.out.ul hbn.out.1 hbn.out.2 hlt hu9
      rw [show (⟨tT 0, 0, tK 0, 0, x, false⟩ : SD) = s1 x from rfl, sK_next] at hX9
      exact ⟨⟨k + 1, by omega, by go_num, Lib.hid hX9⟩, by simp [intOf]; omega⟩
    -- part>
  case rest =>
  clear HX
  have HX := hcut
  clear hcut
  obtain ⟨hd, -, hR, hth⟩ := HDC.out wc HX.out.2.2.2
  have y2 := hd 2 _ rfl
  have y3 := hd 3 _ rfl
  rw [Nat.zero_add] at y2 y3
  have hcb := cb_any b r n cr x kt aa di mf key a2 a3 R wc (HX.out.2.2.1.congr (σ' := fun _ => s1 x) (fun i hi => by unfold sK; rw [if_pos hi])) HK.out.1 HK.out.2.2.1 hR hth (by have := HK.out.2.1; omega)
  have HCB := Lib.hid hcb
  clear hd hR hth hcb
  go_wp2_with (first | (go_at_call 25; refine HCB.out.mono ?_; rintro e w9 ⟨rfl, h9⟩))
  (try simp only [Exit.inBlock, Exit.then])
  refine bodyPost_end (results_none rfl _ _ _) rfl ?_
  obtain ⟨d', m, h1, h2, h3, h4⟩ := h9
  exact ⟨rfl, d', m, h1, h2, (KX.of_grown HX.out.2.2.2 (.inl rfl)).trans (KX.of_grown h4 (.inr rfl))⟩
set_option maxRecDepth 100000 in
set_option maxHeartbeats 8000000 in
theorem ms_bad (b d m c cr' : Nat) (rs : Value) (al : Option Addr) (kt kt' : ByteArray) (aa imp di mf : Bool) (key key' a2 a3 : Int) (σ : Nat → SD) (T : Nat → ByteArray) (K : Nat → Int) (w : World)
    (hB : BB kt aa imp key σ b w) (hd : w.rangeAt d 0 (dcR kt' (.slice al m c) a2 a3 key' di)) (hbd : b ≠ d) (hal : ∀ i, i < m → ∃ g, al = some ⟨g, 0, none⟩) (hT : ∀ g, al = some ⟨g, 0, none⟩ → TL w g m T K) (hgb : ∀ g, al = some ⟨g, 0, none⟩ → g ≠ b)
    (hm : (m : Int) ≤ 65536) (hr : refused aa m T K) :
    Calls Tryd.prog 19 #[.pointer (some ⟨b, 0, none⟩), rs, .pointer (some ⟨d, 0, none⟩), .bool mf] w fun e w' => e = .returned (.tuple #[]) ∧ BB kt aa di key (fun _ => z0) b w' ∧ w.grownBy w' (some b) := by
  have hbl : b < w.heap.size := World.block_lt_of_cell? w _ hB.1
  have ne : ∀ {x : Nat}, b ≠ x → some x ≠ some b := fun h e => h (by injection e with e; exact e.symm)
  have HDC : Hid (∀ w' : World, w.grownBy w' (some b) → w'.rangeAt d 0 (dcR kt' (.slice al m c) a2 a3 key' di) ∧ ∀ g, al = some ⟨g, 0, none⟩ → TL w' g m T K) :=
    Lib.hid fun w' hg => ⟨fun j u hu => hg.cell (hd j u hu) (ne hbd), fun g e j hj i u hu => hg.cell (hT g e j hj i u hu) (ne (fun h => hgb g e h.symm))⟩
  have HB := Lib.hid hB
  have HK := Lib.hid (And.intro hr (And.intro hal hbl))
  clear ne hr hal hT hgb hbd hbl
  have e46 := hB.2.2.2.1
  have ed5 : w.cell? ⟨d, 5, none⟩ = some (.bool di) := by have := hd 5 _ rfl; rwa [Nat.zero_add] at this
  clear hB hd
  go_enter Tryd.func19, Tryd.ntmps19
  go_upto_region 0 with fail
  go_quiet (fail)
  have HBq : Hid (BB kt aa imp key σ b (w.drewN nq)) := Lib.hid (HB.out.keep ⟨rfl, rfl, rfl, Nat.le_refl _, fun _ _ => rfl⟩)
  have HGq : Hid (w.grownBy (w.drewN nq) (some b)) := Lib.hid (gb_below ⟨rfl, rfl, rfl, Nat.le_refl _, fun _ _ => rfl⟩)
  clear e46 ed5 HB
  generalize hwq : w.drewN nq = wq at *
  clear hwq
  go_upto_if 24 with fail
  go_cut [] (fun wc => ∃ σ', Hid (BB kt aa di key σ' b wc) ∧ Hid (w.grownBy wc (some b)))
  case first =>
    -- <part
    have HT1 := Lib.hid (th_sub (o' := 1) (m := 44) HBq.out.2.2.2.2.2 (by omega) (by omega))
    have q46 := HBq.out.2.2.2.1
    cases hi : imp <;> cases hd : di
    case false.false =>
      go_wp2_with fail
      go_meet
      exact ⟨σ, by rw [hi] at HBq; rw [hd]; exact HBq, HGq⟩
    case true.true =>
      go_wp2_with fail
      go_meet
      exact ⟨σ, by rw [hi] at HBq; rw [hd]; exact HBq, HGq⟩
    all_goals
      go_upto_region 2 with (first | (refine wpl_build0 rfl 68 rfl (.agg Z44.toArray) (bldZ _) ?_) | (refine wpList_store_mid rfl 68 _ _ rfl b 1 Z44.toArray rfl rfl HT1.out szQ4 Z44_one ?_))
      change Code.wp _ _ _ (Act.mk _ _) _
      change Code.wp _ _ _ _ (World.setCells wq b 1 Z44)
      have HBz := HBq.out.zero
      have HGz := gb_sets HGq.out 1 Z44
      clear q46 HT1
      generalize World.setCells wq b 1 Z44 = wz at *
      have e5 : wz.cell? ⟨d, 5, none⟩ = some (.bool di) := by have := (HDC.out wz HGz).1 5 _ rfl; rwa [Nat.zero_add] at this
      have e46 := HBz.2.2.2.1
      have f46 := (HBz.2.2.2.2.2 46 (by omega)).2
      rw [Nat.zero_add] at f46
      rw [hd] at e5
      have HBZ := Lib.hid (HBz.imp_ di)
      have HGZ := Lib.hid (gb_set HGz 46 (.bool di))
      clear HBz HGz
      rw [hd] at HBZ HGZ
      go_wp2_with fail
      go_meet
      exact ⟨fun _ => z0, by rw [hd]; exact HBZ, HGZ⟩
    -- part>
  case rest =>
  clear HBq HGq
  obtain ⟨σ', HB, HG⟩ := hcut
  have e45 := HB.out.2.2.1
  go_upto_if 39 with fail
  go_cut [8] (fun x wc => x = .string (aI aa) ∧ Hid (BB kt aa di key σ' b wc) ∧ Hid (w.grownBy wc (some b)))
  case first =>
    cases aa with
    | false =>
      go_wp2_with fail
      go_meet
      exact ⟨rfl, HB, HG⟩
    | true =>
      go_wp2_with fail
      go_meet
      exact ⟨rfl, HB, HG⟩
  case rest =>
  clear HB HG e45
  obtain ⟨rfl, HB, HG⟩ := hcut
  have d1 := (HDC.out wc HG.out).1 1 _ rfl
  rw [Nat.zero_add] at d1
  have heq := eq_bad al m c aa T K wc HK.out.2.1 (HDC.out wc HG.out).2 hm HK.out.1
  have HEQ := Lib.hid heq
  clear heq
  generalize aI aa = ai at *
  have HA28 := Lib.hid run_al28
  obtain ⟨c28, hc⟩ : ∃ c, z28 = c := ⟨_, rfl⟩
  have HST : Hid (∀ W : World, (W.alloc (.cells z28.toArray 74)).there W.heap.size 0 c28.toArray.size) := Lib.hid fun W => by rw [← hc]; exact th_new W _ _ rfl
  have HSZ : Hid ((Tryd.prog.info? 74).map (·.size) = some c28.toArray.size) := Lib.hid (by rw [← hc]; exact szZ28)
  have HON : Hid (c28.toArray.all (·.oneCell') = true) := Lib.hid (by rw [← hc]; exact z28_one)
  rw [hc] at HEQ
  have HC28 := Lib.hid hc
  clear hc
  go_upto_region 7 with (first | (go_at_call 20; refine HEQ.out.mono ?_; rintro e w5 ⟨rfl, hb5⟩; have HB5 := Lib.hid (HB.out.keep hb5); have HG5 := Lib.hid (gb_then HG.out hb5); clear hb5) | (refine wpl_alloc rfl 74 rfl _ _ (HA28.out _) ?_) | (refine wpList_store_mid rfl 74 _ _ rfl w5.heap.size 0 c28.toArray rfl rfl (HST.out w5) HSZ.out HON.out ?_))
  change Code.wp _ _ _ (Act.mk _ _) _
  generalize hw6 : World.setCells (World.alloc w5 _) _ 0 c28 = w6
  have hb6 : Below w5.heap.size w5 w6 := by rw [← hw6]; exact below_setCells (Nat.le_refl _) _ _ ((Below.refl _ _).alloc (Nat.le_refl _) _)
  clear hw6 HST HA28 HEQ HB HG d1 HSZ HON HC28
  have HB6 := Lib.hid (HB5.out.keep hb6)
  have HG6 := Lib.hid (gb_then HG5.out hb6)
  clear hb6 HB5 HG5
  have HT1 := Lib.hid (th_sub (o' := 1) (m := 44) HB6.out.2.2.2.2.2 (by omega) (by omega))
  go_wp2_with (first | (refine wpl_build0 rfl 68 rfl (.agg Z44.toArray) (bldZ _) ?_) | (refine wpList_store_mid rfl 68 _ _ rfl b 1 Z44.toArray rfl rfl HT1.out szQ4 Z44_one ?_))
  (try simp only [Exit.inBlock, Exit.then])
  refine bodyPost_end (results_none rfl _ _ _) rfl ?_
  exact ⟨rfl, HB6.out.zero, gb_sets HG6.out 1 Z44⟩
end Go.Proofs.YtnihlfldlkkobaaDoor.Bx
