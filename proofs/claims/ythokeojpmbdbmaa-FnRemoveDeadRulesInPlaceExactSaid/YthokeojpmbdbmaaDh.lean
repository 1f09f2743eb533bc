/-
  The builder of one complex selector.
-/
import Derived.Test.YthokeojpmbdbmaaDg
namespace Go.Proofs.Ythokeojpmbdbmaa.Dr
open Go.ChangeShapes Go.WideShapes Go.ChangeAt Go.RowKit Rg
set_option linter.unusedVariables false
set_option linter.unusedSimpArgs false
theorem results_cell_mid6 {P : Program} {fn : Func} {p t u x y z : Tmp} {ty : TypeId} (h : fn.results = #[.cell p ty, .tmp t, .tmp u, .tmp x, .tmp y, .tmp z]) (tmps : Array Value) (w : World) (g o : Nat) (cs : List Value) (d : TypeDesc)
    (hp : tmps.getD p undef = .pointer (some ⟨g, o, none⟩)) (hc : w.rangeAt g o cs)
    (hu : P.underlying ty = some d) (hd : d.isRow = true) (hi : (P.info? ty).map (·.size) = some cs.length) :
    (results fn tmps).run P w = .ok (.tuple #[.agg cs.toArray, tmps.getD t undef, tmps.getD u undef, tmps.getD x undef, tmps.getD y undef, tmps.getD z undef]) w := by
  have hp' : tmps[p]?.getD undef = .pointer (some ⟨g, o, none⟩) := by simpa using hp
  simp [results, h, hp', asAddr, run_loadVar_mid w g o ty cs d hc hu hd hi]
theorem Gro.set {kv0 kv : Value} {w0 w : World} {b : Nat} (h : Gro kv0 w0 kv w) (hb : w0.heap.size ≤ b) (o : Nat) (vs : List Value) : Gro kv0 w0 kv (w.setCells b o vs) := by
  have h2 := below_setCells (Nat.le_refl b) vs o (Below.refl b w)
  refine ⟨⟨h2.os.trans h.1.os, h2.tape.trans h.1.tape, h2.output.trans h.1.output, Nat.le_trans h.1.size h2.size, fun c hc hne => ?_⟩, h.2⟩
  rw [h2.block c (by omega)]
  exact h.1.block c hc hne
theorem kC_len (g : Gv) (p j : Nat) : (kC (cc g p j)).length ≤ 4 := by
  have : g.S p % 4 < 4 := Nat.mod_lt _ (by omega)
  simp [kC, cc, ccn_len]
  omega
theorem kCs_len (g : Gv) (p j : Nat) : ∀ q, ((cxn g p j q).flatMap kC).length ≤ 4 * q
  | 0 => by simp [cxn]
  | q + 1 => by
    rw [cxn_succ, List.flatMap_append, List.length_append]
    have h1 := kCs_len g p j q
    have h2 := kC_len g (p + q) (jq g p j q)
    simp only [List.flatMap_cons, List.flatMap_nil, List.append_nil]
    omega
theorem dX_succ (g : Gv) (p j q : Nat) : dX (cxn g p j (q + 1)) = (dX (cxn g p j q) || dC (cc g (p + q) (jq g p j q))) := by rw [cxn_succ]; simp [dX]
theorem cxn_len (g : Gv) (p j q : Nat) : (cxn g p j q).length = q := by simp [cxn]
/-- what is given: four lists -/
def SH (g : Gv) (X : Nat → Prop) (w : World) (sa : Option Addr) (sn : Nat) (ta : Option Addr) (tn : Nat) (ka : Option Addr) (kn : Nat) : Prop := Bt X w sa sn g.S ∧ TK g X w ta tn ka kn
theorem SH.to {g : Gv} {X Y : Nat → Prop} {w w' : World} {sa : Option Addr} {sn : Nat} {ta : Option Addr} {tn : Nat} {ka : Option Addr} {kn : Nat} (h : SH g X w sa sn ta tn ka kn) (ht : To X w Y w') : SH g Y w' sa sn ta tn ka kn := ⟨h.1.to ht, h.2.to ht⟩
/-- behind q compounds -/
def CxR (g : Gv) (D p j n : Nat) (kv0 : Value) (ks : List Nat) (x1 : World) (q : Nat) (kv sv : Value) (wr : World) : Prop :=
  KRow D wr kv (ks ++ n :: (cxn g p j q).flatMap kC) ∧ Gro kv0 x1 kv wr ∧ Bld 83 6 cmc (fun X w v a => CpV Sb1 X w v a) x1.heap.size (fun c => some c = kv.ownBlock) sv (cxn g p j q) wr
def CxP (g : Gv) (D : Nat) (s : St) (kv0 : Value) (ks : List Nat) (w0 : World) (e : Ending) (w : World) : Prop :=
  ∃ a n c ka kn kc, e = .returned (.tuple #[.agg #[.slice a n c], .int .i64 ((nx g s).c : Nat), .int .i64 ((nx g s).p : Nat), .int .i64 ((nx g s).j : Nat), .bool (dX (cx g s)), .slice ka kn kc]) ∧
    CxV Sb1 (Own w0 w (.slice ka kn kc)) w (.slice a n c) (cx g s) ∧ KRow D w (.slice ka kn kc) (ks ++ kX (cx g s)) ∧ Gro kv0 w0 (.slice ka kn kc) w
set_option maxRecDepth 100000 in
set_option maxHeartbeats 8000000 in
theorem bcx_any (g : Gv) (X : Nat → Prop) (ca : Option Addr) (cn cc' : Nat) (sa : Option Addr) (sn sc : Nat) (ta : Option Addr) (tn tc : Nat) (ka : Option Addr) (kn kc : Nat) (s : St) (D : Nat) (kv : Value) (ks : List Nat) (w : World) (hc : s.c ≤ 1048000) (hp : s.p ≤ 1048000) (hj : s.j ≤ 1048000) (hks : ks.length ≤ 1000000)
    (hX : ∀ b, X b → b < D) (hD : D ≤ w.heap.size) (hcs : Bt X w ca cn g.C) (hs : SH g X w sa sn ta tn ka kn) (hk : KRow D w kv ks) :
    Calls Try.prog 11 #[.slice ca cn cc', .slice sa sn sc, .slice ta tn tc, .slice ka kn kc, .int .i64 (s.c : Nat), .int .i64 (s.p : Nat), .int .i64 (s.j : Nat), kv] w (CxP g D s kv ks w) := by
  obtain ⟨c, p, j⟩ := s
  dsimp only at hc hp hj ⊢
  obtain ⟨ra, rc, rfl⟩ := own_slice hk
  obtain ⟨i0, hi, hz0, hz1, hz2⟩ := info_parts infoInt
  have HI := Lib.hid (And.intro hi (And.intro hz0 (And.intro hz1 hz2)))
  obtain ⟨i1, ji, jz0, jz1, jz2⟩ := info_parts infoCmp
  have hmk : ∀ (n : Nat), n < 4 → ∀ W : World, (Instr.makeSlice 46 (.int .i64 0) (.int .i64 (n : Int))).run Try.prog W = .ok (.slice (some ⟨W.heap.size, 0, none⟩) 0 n) (W.alloc (.cells (madeCells #[.pointer none, .slice none 0 0, .slice none 0 0, .int .i32 0, .int .u8 0, .bool false] (n * 6)) 83)) := fun n hn W => by
    have h := run_make_rowN (P := Try.prog) 46 83 i1 _ (by kernel_rfl) ji jz0 .i64 .i64 0 n (by omega) (by rw [jz2]; omega) (by omega) W
    rw [jz1] at h
    exact h
  have HJ := Lib.hid (And.intro ji (And.intro jz0 (And.intro jz1 jz2)))
  clear hi hz0 hz1 hz2 ji jz0 jz1 jz2
  obtain ⟨x1, hx1⟩ : ∃ x, x = w.alloc (.cells #[.slice none 0 0] 48) := ⟨_, rfl⟩
  obtain ⟨b, hb⟩ : ∃ b, b = w.heap.size := ⟨_, rfl⟩
  have h1 : Below w.heap.size w x1 := by rw [hx1]; exact (Below.refl _ _).alloc (Nat.le_refl _) _
  have t1 : x1.there b 0 1 := by rw [hx1, hb]; exact th_new w _ _ rfl
  have s1 : x1.heap.size = b + 1 := by rw [hx1, World.size_alloc, hb]
  have hX1 : ∀ b, X b → b < w.heap.size := fun b h => Nat.lt_of_lt_of_le (hX b h) hD
  have HT := Lib.hid (And.intro (hcs.to (To.below hX1 h1)) (And.intro (hs.to (To.below hX1 h1)) (And.intro hX hD)))
  have HK1 := Lib.hid (hk.keep h1)
  have HK0 := Lib.hid (show w.ownsRow D 3 1 (.slice ra ks.length rc) ks.length (ks.map ki) from hk)
  have H1 := Lib.hid (And.intro h1 (And.intro t1 (And.intro s1 hb)))
  clear hs hcs hk t1 s1 hX1 hX hD
  obtain ⟨n, hn⟩ : ∃ n, n = g.C c % 4 := ⟨_, rfl⟩
  have hn4 : n < 4 := by rw [hn]; exact Nat.mod_lt _ (by omega)
  have hr : ((g.C c : Nat) : Int) % 4 = (n : Nat) := by rw [hn]; simp
  have HN := Lib.hid hn
  have hmkn := hmk n hn4
  obtain ⟨l, hl⟩ : ∃ l, l = ks.length := ⟨_, rfl⟩
  have HL := Lib.hid hl
  rw [← hl] at hks HK0
  rw [← hl]
  clear hmk hn hl
  go_enter Try.func11, Try.ntmps11
  go_upto_region 1 with fail
  rw [← hx1, ← hb]
  clear hx1 hb h1
  go_wp2_with fail
  refine (at_any X ca cn cc' g.C c x1 HT.out.1).mono ?_
  rintro e w1 ⟨rfl, hw⟩
  rw [← hw]
  clear hw
  go_upto_region 3 with (first
    | (at_builtin
       refine wpList_append_lies _ rfl (.tmp 32) (.tmp 34) _ rfl D 3 i0 _ 1 8 Try.underlying29 HI.out.1 HI.out.2.1 HI.out.2.2.1 HI.out.2.2.2 rfl (by omega) (.slice ra l rc) l (ks.map ki) ?hs (by rw [HL.out]; exact HK1.out.keep ((Below.refl _ _).alloc (Nat.le_refl _) _)) ⟨x1.heap.size, 0, none⟩ 1 1 [ki n] ?hx (by rfl) (World.news_of_block (heap_alloc_new x1 _)) (ki_one [n]) (by omega) (by unfold maxLen; omega) (by omega) (by have := HT.out.2.2.2; have := H1.out.1.size; simp; omega) (x1.heap.size + 1) (by simp) ?_; (case hs => exact rfl); (case hx => exact rfl)
       intro g3 cap3 w9 hown9 hgrow9 hat9 hlt9))
  have hKG := key_push (w := x1) HL.out rfl ((Below.refl _ _).alloc (Nat.le_refl _) _) hown9 hgrow9 (by
    rcases hat9 with h | h
    · exact .inl h
    · exact .inr (by omega))
  have HKG := Lib.hid hKG
  -- what is given stays
  have HTO := Lib.hid (show ∀ (kv' : Value) (w' : World), Gro (.slice ra l rc) x1 kv' w' → SH g X w' sa sn ta tn ka kn ∧ w'.there b 0 1 ∧ D ≤ w'.heap.size from fun kv' w' hg => by
    have hz := H1.out.2.2
    have hlt : ∀ c, c < w.heap.size → (∀ e, (Value.slice ra l rc).ownBlock = some e → e ≠ c) → w'.heap[c]? = x1.heap[c]? := fun c hc hne => hg.1.block c (by omega) (fun e => hne c e.symm rfl)
    refine ⟨HT.out.2.1.to (fun c hc => ⟨hc, ?_⟩), ?_, ?_⟩
    · have h1 := HT.out.2.2.1 c hc
      exact hlt c (by have := HT.out.2.2.2; omega) (fun e he h2 => by have := (HK0.out.lt e he).1; omega)
    · refine th_ag (hg.1.block b (by omega) (fun e => ?_)) H1.out.2.1
      have := (HK0.out.lt b e.symm).2
      omega
    · have := HT.out.2.2.2
      have := H1.out.1.size
      have := hg.1.size
      omega)
  clear hKG hown9 hgrow9 hat9 hlt9
  go_upto_block 0 with fail
  have HV0 := Lib.hid (show CxR g D p j n (.slice ra l rc) ks x1 0 (.slice (some ⟨g3, 0, none⟩) (l + 1) cap3) (.slice (some ⟨w9.heap.size, 0, none⟩) 0 n) (w9.alloc (.cells (madeCells #[.pointer none, .slice none 0 0, .slice none 0 0, .int .i32 0, .int .u8 0, .bool false] (n * 6)) 83)) from by
    have hb : Below w9.heap.size w9 (w9.alloc (.cells (madeCells #[.pointer none, .slice none 0 0, .slice none 0 0, .int .i32 0, .int .u8 0, .bool false] (n * 6)) 83)) := (Below.refl _ _).alloc (Nat.le_refl _) _
    refine ⟨HKG.out.1.keep hb, HKG.out.2.trans (Gro.below hb), Bld.made w9 _ n HKG.out.2.1.size (by unfold maxLen; omega) (by simp [madeCells]) (fun e => ?_)⟩
    have := (HKG.out.1.lt _ e.symm).2
    omega)
  generalize w9.alloc _ = x3 at *
  generalize w9.heap.size = g9 at *
  clear hmkn HKG
  refine wp_block ?_
  go_loopw [5, 6, 7, 23, 24, 25] (fun pv jv kv sv dv qv wr => ∃ (q : Nat) (ka' : Option Addr) (kl kc' : Nat) (sa' : Option Addr) (sc' : Nat), q ≤ n ∧ pv = .int .i64 ((p + q : Nat) : Int) ∧ jv = .int .i64 (jq g p j q : Nat) ∧ kv = .slice ka' kl kc' ∧ sv = .slice sa' q sc' ∧ dv = .bool (dX (cxn g p j q)) ∧ qv = .int .i64 (q : Nat) ∧ Hid (CxR g D p j n (.slice ra l rc) ks x1 q (.slice ka' kl kc') (.slice sa' q sc') wr)) (fun _ _ _ _ _ qv _ => n - (intOf qv).toNat)
  case atStart => exact ⟨0, some ⟨g3, 0, none⟩, _, cap3, _, _, Nat.zero_le _, rfl, rfl, rfl, rfl, rfl, rfl, HV0⟩
  case round =>
    clear HV0
    obtain ⟨q, ka', kl, kc', sa', sc', hq, rfl, rfl, rfl, rfl, rfl, rfl, HV⟩ := hrel
    by_cases hlt : q < n
    · as_aux_lemma =>
      have q0 : (0 : Int) ≤ q := by omega
      have q1 : (q : Int) < (n : Nat) := by omega
      obtain ⟨pq, hpq⟩ : ∃ x, x = p + q := ⟨_, rfl⟩
      obtain ⟨jq', hjq⟩ : ∃ x, x = jq g p j q := ⟨_, rfl⟩
      rw [← hpq, ← hjq]
      have hjb : jq' ≤ 1048576 := by have := jq_le g p j q; omega
      have hpb : pq ≤ 1048576 := by omega
      have HJQ := Lib.hid (And.intro hpq hjq)
      clear hpq hjq
      obtain ⟨d, hd⟩ : ∃ d, d = dX (cxn g p j q) := ⟨_, rfl⟩
      rw [← hd]
      have HDD := Lib.hid hd
      clear hd
      -- the box
      obtain ⟨wa, hwa⟩ : ∃ x, x = wr.alloc (.cells #[.pointer none, .slice none 0 0, .slice none 0 0, .int .i32 0, .int .u8 0, .bool false] 83) := ⟨_, rfl⟩
      obtain ⟨bb, hbb⟩ : ∃ x, x = wr.heap.size := ⟨_, rfl⟩
      have hba : Below wr.heap.size wr wa := by rw [hwa]; exact (Below.refl _ _).alloc (Nat.le_refl _) _
      have hta : wa.there bb 0 6 := by rw [hwa, hbb]; exact th_new wr _ _ rfl
      have hsa : wa.heap.size = bb + 1 := by rw [hwa, World.size_alloc, hbb]
      go_upto_region 9 with fail
      rw [← hwa, ← hbb]
      have HGA := Lib.hid (HV.out.2.1.trans (Gro.below hba))
      have HSA := Lib.hid (HTO.out _ _ HGA.out)
      have HKA := Lib.hid (HV.out.1.keep hba)
      have HBX := Lib.hid (And.intro hba (And.intro hta (And.intro hsa hbb)))
      have hlen : (ks ++ n :: (cxn g p j q).flatMap kC).length ≤ 1048576 := by
        rw [List.length_append, List.length_cons, ← HL.out]
        have := kCs_len g p j q
        omega
      have HLN := Lib.hid hlen
      clear hwa hbb hba hta hsa hlen
      go_wp2_with fail
      refine (bcp_any g X sa sn sc ta tn tc ka kn kc pq jq' D (.slice ka' kl kc') (ks ++ n :: (cxn g p j q).flatMap kC) wa hpb hjb HLN.out HT.out.2.2.1 HSA.out.2.2 HSA.out.1.1 HSA.out.1.2 HKA.out).mono ?_
      rintro e w6 ⟨ea, en, ec, fa, fn, fc, rfl, hcp, hkr, hgro⟩
      have hkb : ∀ c, (Value.slice ka' kl kc').ownBlock = some c → c < bb := fun c hc => by
        have := (HV.out.1.lt c hc).2
        have := HBX.out.2.2.2
        omega
      have hth : w6.there bb 0 6 := th_ag (hgro.1.block bb (by have := HBX.out.2.2.1; omega) (fun e => by have := hkb bb e.symm; omega)) HBX.out.2.1
      have hset : ∀ c, c < w6.heap.size → c ≠ bb → (w6.setCells bb 0 (cmc (.slice ea en ec))).heap[c]? = w6.heap[c]? := fun c hc hne => World.heap_setCells_other w6 bb 0 _ hc hne
      have hsz : (w6.setCells bb 0 (cmc (.slice ea en ec))).heap.size = w6.heap.size := size_setCells _ _ _ _
      have hGr : Gro (.slice ka' kl kc') wr (.slice fa fn fc) (w6.setCells bb 0 (cmc (.slice ea en ec))) := ((Gro.below HBX.out.1).trans hgro).set (by have := HBX.out.2.2.2; omega) _ _
      have hkn : ∀ c, (Value.slice fa fn fc).ownBlock = some c → c ≠ bb := fun c hc => by
        rcases hgro.2 with h | h
        · have := hkb c (by rw [← h]; exact hc); omega
        · have := h c hc; have := HBX.out.2.2.1; omega
      have H7 := Lib.hid (show (w6.setCells bb 0 (cmc (.slice ea en ec))).rangeAt bb 0 (cmc (.slice ea en ec)) ∧
          CpV Sb1 (fun c => (wa.heap.size ≤ c ∧ c < (w6.setCells bb 0 (cmc (.slice ea en ec))).heap.size) ∧ ¬ some c = (Value.slice fa fn fc).ownBlock) (w6.setCells bb 0 (cmc (.slice ea en ec))) (.slice ea en ec) (cc g pq jq') ∧
          KRow D (w6.setCells bb 0 (cmc (.slice ea en ec))) (.slice fa fn fc) (ks ++ n :: (cxn g p j (q + 1)).flatMap kC) ∧ Gro (.slice ka' kl kc') wr (.slice fa fn fc) (w6.setCells bb 0 (cmc (.slice ea en ec))) from by
        refine ⟨World.rangeAt_setCells_same _ _ _ _ hth, CpV.to loc1 hcp (fun c hc => ⟨⟨⟨hc.1.1, by rw [hsz]; exact hc.1.2⟩, hc.2⟩, hset c hc.1.2 (by have := hc.1.1; have := HBX.out.2.2.1; omega)⟩), ?_, hGr⟩
        have e1 : ks ++ n :: (cxn g p j (q + 1)).flatMap kC = (ks ++ n :: (cxn g p j q).flatMap kC) ++ kC (cc g pq jq') := by
          rw [cxn_succ, List.flatMap_append, ← HJQ.out.1, ← HJQ.out.2]
          simp
        rw [e1]
        exact own_fars (fun e => hkn bb e rfl) _ 0 hkr)
      have HTH := Lib.hid hth
      have hone : (cmc (.slice ea en ec)).toArray.all (·.oneCell') = true := by simp [cmc, Value.oneCell']
      obtain ⟨d2, hd2⟩ : ∃ d2, d2 = dC (cc g pq jq') := ⟨_, rfl⟩
      rw [← hd2]
      have HD2 := Lib.hid hd2
      have hjn : jq' + g.S pq % 4 = jq g p j (q + 1) := by rw [HJQ.out.2, HJQ.out.1]; rfl
      rw [hjn]
      have HWA := Lib.hid HBX.out.1.size
      clear hcp hkr hgro hkb hth hset hsz hGr hkn hd2 hjn HBX
      go_upto_region 11 with (first
        | (refine wpList_store_mid rfl 83 _ _ rfl bb 0 (cmc (.slice ea en ec)).toArray ?ha ?hv HTH.out szCmp hone ?_; (case ha => exact rfl); (case hv => exact rfl); (change wpList _ _ _ _ _ (World.setCells _ bb 0 (cmc (.slice ea en ec)))); generalize World.setCells _ _ _ _ = w7 at *))
      as_aux_lemma =>
      have hjn : jq g p j (q + 1) = jq g p j (q + 1) := rfl
      have HGX := Lib.hid (HV.out.2.1.trans H7.out.2.2.2)
      have HB7 := Lib.hid (HV.out.2.2.other locC (fun c _ h2 h3 => H7.out.2.2.2.1.block c h2 h3) H7.out.2.2.2.1.size H7.out.2.2.2.av)
      go_upto_if 57 with fail
      go_cut [24] (fun v wx => v = .bool (d || d2) ∧ Hid (wx = w7))
      case first =>
        cases d2 with
        | false =>
          go_wp2_with fail
          go_meet
          exact ⟨by simp, Lib.hid rfl⟩
        | true =>
          go_wp2_with fail
          go_meet
          exact ⟨by simp, Lib.hid rfl⟩
      case rest =>
      obtain ⟨rfl, HW⟩ := hcut
      have hwc := HW.out
      rw [hwc]
      clear hwc HW HTH hone hjn
      obtain ⟨dC', hC, hC2⟩ := tyCmp
      have hbs := bs_cmp ea en ec w7
      have hal : Below w7.heap.size w7 (w7.alloc (.cells #[.pointer none, .slice ea en ec, .slice none 0 0, .int .i32 0, .int .u8 0, .bool false] 83)) := (Below.refl _ _).alloc (Nat.le_refl _) _
      obtain ⟨w8, hw8⟩ : ∃ x, x = w7.alloc (.cells #[.pointer none, .slice ea en ec, .slice none 0 0, .int .i32 0, .int .u8 0, .bool false] 83) := ⟨_, rfl⟩
      have hblk := heap_alloc_new w7 (.cells #[.pointer none, .slice ea en ec, .slice none 0 0, .int .i32 0, .int .u8 0, .bool false] 83)
      have hz8 : w8.heap.size = w7.heap.size + 1 := by rw [hw8, World.size_alloc]
      rw [← hw8] at hal hbs hblk
      obtain ⟨B, hB1, hB2, hB3, hB4⟩ := HB7.out.keep locC hal (Av' := fun c => some c = (Value.slice fa fn fc).ownBlock) (fun _ _ h => h)
      have HB := Lib.hid (And.intro hB1 (And.intro hB3 hB4))
      rw [cxn_len] at hB2
      have HBO := Lib.hid hB2
      have HBL := Lib.hid (And.intro hblk hz8)
      have HAL := Lib.hid hal
      clear hw8 hal hblk hB1 hB2 hB3 hB4 hz8
      obtain ⟨g6, hg6⟩ : ∃ x, x = w7.heap.size := ⟨_, rfl⟩
      rw [← hg6] at hbs HBL
      clear hg6
      have H63 := Lib.hid (show x1.heap.size ≤ w8.heap.size from Nat.le_trans HGX.out.1.size HAL.out.size)
      go_wp2_with (first
        | (refine wpList_load_mid rfl 83 _ rfl bb 0 rfl (cmc (.slice ea en ec)) dC' H7.out.1 hC hC2 szCmp ?_)
        | (refine wpl_bs1 rfl 46 (.tmp 59) rfl _ _ _ ?hx hbs ?_; case hx => (show _ = _; rfl))
        | (at_builtin
           refine wpList_append_lies _ rfl (.tmp 58) (.tmp 60) _ rfl x1.heap.size 83 i1 _ 6 72 Try.underlying46 HJ.out.1 HJ.out.2.1 HJ.out.2.2.1 HJ.out.2.2.2 rfl (by omega) (.slice sa' q sc') q (B.flatMap cmc) ?hs HBO.out ⟨g6, 0, none⟩ 1 1 (cmc (.slice ea en ec)) ?hx (by rfl) (World.news_of_block HBL.out.1) (by intro u hu; simp [cmc] at hu; rcases hu with rfl | rfl | rfl | rfl | rfl | rfl <;> rfl) (by omega) (by unfold maxLen; omega) (by omega) H63.out (g6 + 1) (by rw [HBL.out.2]) ?_; (case hs => exact rfl); (case hx => exact rfl)
           intro g7 cap7 w9' hown7 hgrow7 hat7 hlt7))
      have hat7' : (Value.slice sa' q sc').ownBlock = some g7 ∨ w8.heap.size ≤ g7 := by
        rcases hat7 with h | h
        · exact .inl h
        · exact .inr (by have := HBL.out.2; omega)
      have hkb : ∀ c, (Value.slice fa fn fc).ownBlock = some c → c < w7.heap.size := fun c hc => (H7.out.2.2.1.lt c hc).2
      have hx5 : x1.heap.size ≤ wa.heap.size := Nat.le_trans HV.out.2.1.1.size HWA.out
      have hnsv : ∀ c, wa.heap.size ≤ c → some c ≠ (Value.slice sa' q sc').ownBlock := fun c hc e => by
        have := (HV.out.2.2.lt e.symm).2
        have := HWA.out
        omega
      have hsub : CpV Sb1 (fun c => (x1.heap.size ≤ c ∧ c < w8.heap.size) ∧ ¬ some c = (Value.slice fa fn fc).ownBlock ∧ some c ≠ (Value.slice sa' q sc').ownBlock) w8 (.slice ea en ec) (cc g pq jq') :=
        CpV.to loc1 H7.out.2.1 (fun c hc => ⟨⟨⟨Nat.le_trans hx5 hc.1.1, Nat.lt_of_lt_of_le hc.1.2 HAL.out.size⟩, hc.2, hnsv c hc.1.1⟩, HAL.out.block c hc.1.2⟩)
      have hloc : (Value.slice (some ⟨g7, 0, none⟩) (q + 1) cap7).ownBlock = (Value.slice sa' q sc').ownBlock ∨ ∀ c, (Value.slice (some ⟨g7, 0, none⟩) (q + 1) cap7).ownBlock = some c → w8.heap.size ≤ c ∧ ¬ some c = (Value.slice fa fn fc).ownBlock := by
        rcases hat7' with h | h
        · exact .inl h.symm
        · refine .inr (fun c hc => ?_)
          have : g7 = c := by simpa [Value.ownBlock] using hc
          subst this
          refine ⟨h, fun e => ?_⟩
          have := hkb _ e.symm
          have := HAL.out.size
          omega
      have hpush := Bld.push locC (lo := x1.heap.size) (a := cc g pq jq') (v' := .slice (some ⟨g7, 0, none⟩) (q + 1) cap7) HB.out.1 HB.out.2.1 HB.out.2.2 hsub (by rw [cxn_len]; exact hown7) hgrow7 hloc
      have hN : CxR g D p j n (.slice ra l rc) ks x1 (q + 1) (.slice fa fn fc) (.slice (some ⟨g7, 0, none⟩) (q + 1) cap7) w9' := by
        have e1 : cxn g p j (q + 1) = cxn g p j q ++ [cc g pq jq'] := by rw [cxn_succ, HJQ.out.1, HJQ.out.2]
        refine ⟨?_, ?_, by rw [e1]; exact hpush⟩
        · exact (H7.out.2.2.1.keep HAL.out).ag (fun c hc => hgrow7.block c (Nat.lt_of_lt_of_le (hkb c hc) HAL.out.size) (fun e => HB.out.2.2 c e.symm hc.symm))
        · exact (HGX.out.trans (Gro.below HAL.out)).row hgrow7 (fun c hc => (HB7.out.lt hc).1)
      have HN2 := Lib.hid hN
      clear hpush hN hsub hloc hnsv hx5 hown7 hgrow7 hat7 hat7' hlt7
      have e2 : ((p + (q + 1) : Nat) : Int) = (pq : Int) + 1 := by have := HJQ.out.1; omega
      have e4 : dX (cxn g p j (q + 1)) = (d || d2) := by rw [dX_succ, ← HJQ.out.1, ← HJQ.out.2, ← HDD.out, ← HD2.out]
      refine ⟨⟨q + 1, fa, fn, fc, some ⟨g7, 0, none⟩, cap7, by omega, by rw [e2], rfl, rfl, rfl, by rw [e4], by go_num, HN2⟩, by simp [intOf]; omega⟩
    · as_aux_lemma =>
      obtain rfl : n = q := by omega
      clear hlt hq
      obtain ⟨dX', hC, hC2⟩ := tyCpl
      obtain ⟨pn, hpn⟩ : ∃ x, x = p + n := ⟨_, rfl⟩
      obtain ⟨jn, hjn⟩ : ∃ x, x = jq g p j n := ⟨_, rfl⟩
      rw [← hpn, ← hjn]
      have HJN := Lib.hid (And.intro hpn hjn)
      clear hjn hpn
      have HTH := Lib.hid (HTO.out _ _ HV.out.2.1).2.1
      have hz := HV.out.2.1.1.size
      have hbx : b < x1.heap.size := by have := H1.out.2.2.1; omega
      have hset : ∀ c, x1.heap.size ≤ c → c < wr.heap.size → (wr.setCells b 0 [.slice sa' n sc']).heap[c]? = wr.heap[c]? := fun c hc hc2 => World.heap_setCells_other wr b 0 _ hc2 (by omega)
      have hsz : (wr.setCells b 0 [.slice sa' n sc']).heap.size = wr.heap.size := size_setCells _ _ _ _
      have hkv : ∀ c, (Value.slice ka' kl kc').ownBlock = some c → c ≠ b := fun c hc e => by
        subst e
        rcases HV.out.2.1.2 with h | h
        · have h2 := (HK0.out.lt c (by rw [← h]; exact hc)).2
          have := H1.out.2.2.2
          omega
        · have := h c hc; omega
      have hlt := HV.out.2.2.done locC
      have hres := World.rangeAt_setCells_same wr b 0 [.slice sa' n sc'] HTH.out
      have hto : To (fun c => (x1.heap.size ≤ c ∧ c < wr.heap.size) ∧ ¬ some c = (Value.slice ka' kl kc').ownBlock) wr (Own w (wr.setCells b 0 [.slice sa' n sc']) (.slice ka' kl kc')) (wr.setCells b 0 [.slice sa' n sc']) := fun c hc => ⟨⟨⟨by have := H1.out.1.size; omega, by rw [hsz]; exact hc.1.2⟩, hc.2⟩, hset c hc.1.1 hc.1.2⟩
      have hfin : CxP g D ⟨c, p, j⟩ (.slice ra l rc) ks w (.returned (.tuple #[.agg #[.slice sa' n sc'], .int .i64 ((c : Int) + 1), .int .i64 (pn : Nat), .int .i64 (jn : Nat), .bool (dX (cxn g p j n)), .slice ka' kl kc'])) (wr.setCells b 0 [.slice sa' n sc']) := by
        have ec : cx g ⟨c, p, j⟩ = cxn g p j n := by unfold cx; rw [← HN.out]
        have en : nx g ⟨c, p, j⟩ = ⟨c + 1, pn, jn⟩ := by unfold nx; dsimp only; rw [← HN.out, ← HJN.out.1, ← HJN.out.2]
        refine ⟨sa', n, sc', ka', kl, kc', by rw [ec, en]; rfl, ?_, ?_, ?_⟩
        · rw [ec]
          exact RowV.to hlt hto (fun x a h => CpV.to loc1 h hto)
        · rw [ec]
          have h := HV.out.1
          unfold kX
          rw [cxn_len]
          exact own_fars (fun e => hkv b e rfl) _ 0 h
        · exact ((Gro.below H1.out.1).trans HV.out.2.1).set (by have := H1.out.2.2.2; omega) _ _
      have HFIN := Lib.hid hfin
      have hone : (#[.slice sa' n sc'] : Array Value).all (·.oneCell') = true := by simp [Value.oneCell']
      clear hfin hlt hset hsz hkv hz hto
      go_wp2_with (first
        | (refine wpList_store_mid rfl 48 _ _ rfl b 0 #[.slice sa' n sc'] ?ha ?hv HTH.out szCpl hone ?_; (case ha => exact rfl); (case hv => exact rfl); (change wpList _ _ _ _ _ (World.setCells _ b 0 [.slice sa' n sc'])); generalize World.setCells _ _ _ _ = w7 at *))
      exact bodyPost_ret (results_cell_mid6 (p := 16) (t := 17) (u := 18) (x := 19) (y := 20) (z := 21) rfl _ _ b 0 [.slice sa' n sc'] dX' rfl hres hC hC2 szCpl) rfl HFIN.out
end Go.Proofs.Ythokeojpmbdbmaa.Dr
