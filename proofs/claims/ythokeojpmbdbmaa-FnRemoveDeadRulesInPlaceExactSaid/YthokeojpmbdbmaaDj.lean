/-
  The builder of all rules.
-/
import Derived.Test.YthokeojpmbdbmaaDi
namespace Go.Proofs.Ythokeojpmbdbmaa.Dr
open Go.ChangeShapes Go.WideShapes Go.ChangeAt Go.RowKit Rg
set_option linter.unusedVariables false
set_option linter.unusedSimpArgs false
def RlP (g : Gv) (n : Nat) (w0 : World) (e : Ending) (w : World) : Prop :=
  ∃ a1 c1 a2 c2 a3 c3, e = .returned (.tuple #[.slice a1 n c1, .slice a2 n c2, .slice a3 n c3]) ∧ RuR g w0 n (.slice a1 n c1) (.slice a2 n c2) (.slice a3 n c3) w ∧ a1.isSome = true
theorem flat_ki : ∀ ks : List Nat, ks.flatMap (fun n => [ki n]) = ks.map ki
  | [] => rfl
  | a :: t => by rw [List.flatMap_cons, flat_ki t]; rfl
theorem fill_sli (a : Option Addr) (n cp : Nat) (s : Nat) (hs : s = 1) : Instr.fill (fun i => some (i * s, s)) ((Array.range (1 * s)).map ((Value.slice none 0 0).cells[· % (Value.slice none 0 0).cells.size]!)) [(0, Value.slice a n cp)] = some #[.slice a n cp] := by
  subst hs; kernel_rfl
theorem bs_sli (a : Option Addr) (n cp : Nat) (w : World) : (Instr.buildSlice 25 1 #[(0, .slice a n cp)]).run Try.prog w = .ok (.slice (some ⟨w.heap.size, 0, none⟩) 1 1) (w.alloc (.cells #[.slice a n cp] 29)) := by
  obtain ⟨i0, hi, hz0, hz1, hz2⟩ := info_parts infoSlI
  exact run_buildSlice w 25 29 1 _ _ i0 _ Try.underlying25 hi hz0 (by rw [hz1]; decide) (by rw [hz1]; decide) (fill_sli a n cp i0.size hz1)
theorem fill_boo (d : Bool) (s : Nat) (hs : s = 1) : Instr.fill (fun i => some (i * s, s)) ((Array.range (1 * s)).map ((Value.bool false).cells[· % (Value.bool false).cells.size]!)) [(0, Value.bool d)] = some #[.bool d] := by
  subst hs; kernel_rfl
theorem bs_boo (d : Bool) (w : World) : (Instr.buildSlice 26 1 #[(0, .bool d)]).run Try.prog w = .ok (.slice (some ⟨w.heap.size, 0, none⟩) 1 1) (w.alloc (.cells #[.bool d] 4)) := by
  obtain ⟨i0, hi, hz0, hz1, hz2⟩ := info_parts infoBoo
  exact run_buildSlice w 26 4 1 _ _ i0 _ Try.underlying26 hi hz0 (by rw [hz1]; decide) (by rw [hz1]; decide) (fill_boo d i0.size hz1)
theorem results_tmps3 {P : Program} {fn : Func} {t u x : Tmp} (h : fn.results = #[.tmp t, .tmp u, .tmp x]) (tmps : Array Value) (w : World) :
    (results fn tmps).run P w = .ok (.tuple #[tmps.getD t undef, tmps.getD u undef, tmps.getD x undef]) w := by
  simp [results, h]
theorem rur_start (g : Gv) (n : Nat) (hn : n ≤ 4096) (w y1 y2 y3 : World) (z1 z2 z3 : Array Value) (hz1 : z1.size = n * 2) (hz2 : z2.size = n * 1) (hz3 : z3.size = n * 1)
    (h1 : y1 = w.alloc (.cells z1 56)) (h2 : y2 = y1.alloc (.cells z2 29)) (h3 : y3 = y2.alloc (.cells z3 4)) :
    RuR g w 0 (.slice (some ⟨w.heap.size, 0, none⟩) 0 n) (.slice (some ⟨y1.heap.size, 0, none⟩) 0 n) (.slice (some ⟨y2.heap.size, 0, none⟩) 0 n) y3 := by
  have b1 : Below w.heap.size w y1 := by rw [h1]; exact (Below.refl _ _).alloc (Nat.le_refl _) _
  have b2 : Below y1.heap.size y1 y2 := by rw [h2]; exact (Below.refl _ _).alloc (Nat.le_refl _) _
  have b3 : Below y2.heap.size y2 y3 := by rw [h3]; exact (Below.refl _ _).alloc (Nat.le_refl _) _
  have s1 : y1.heap.size = w.heap.size + 1 := by rw [h1, World.size_alloc]
  have s2 : y2.heap.size = w.heap.size + 2 := by rw [h2, World.size_alloc, s1]
  have hm : n ≤ maxLen := by unfold maxLen; omega
  refine ⟨?_, ?_, ?_, (b1.trans (b2.mono b1.size)).trans (b3.mono (Nat.le_trans b1.size b2.size))⟩
  · have h : Bld 56 2 ruv (RuE g) w.heap.size (Tri (.slice (some ⟨y1.heap.size, 0, none⟩) 0 n) (.slice (some ⟨y2.heap.size, 0, none⟩) 0 n)) (.slice (some ⟨w.heap.size, 0, none⟩) 0 n) ([] : List Nat) y1 := by
      rw [h1]
      refine Bld.made w z1 n (Nat.le_refl _) hm hz1 (fun h => ?_)
      rcases h with h | h <;> simp [Value.ownBlock] at h <;> omega
    exact (h.keep (locRu g) b2 (fun _ _ h => h)).keep (locRu g) b3 (fun _ _ h => h)
  · have h : Bld 29 1 one (KeE g) w.heap.size (Tri (.slice (some ⟨w.heap.size, 0, none⟩) 0 n) (.slice (some ⟨y2.heap.size, 0, none⟩) 0 n)) (.slice (some ⟨y1.heap.size, 0, none⟩) 0 n) ([] : List Nat) y2 := by
      rw [h2]
      refine Bld.made y1 z2 n b1.size hm hz2 (fun h => ?_)
      rcases h with h | h <;> simp [Value.ownBlock] at h <;> omega
    exact h.keep (locKe g) b3 (fun _ _ h => h)
  · rw [h3]
    refine Bld.made y2 z3 n (Nat.le_trans b1.size b2.size) hm hz3 (fun h => ?_)
    rcases h with h | h <;> simp [Value.ownBlock] at h <;> omega
set_option maxRecDepth 100000 in
set_option maxHeartbeats 16000000 in
theorem brl_any (g : Gv) (X : Nat → Prop) (ra : Option Addr) (n rc : Nat) (ca : Option Addr) (cn cc' : Nat) (sa : Option Addr) (sn sc : Nat) (ta : Option Addr) (tn tc : Nat) (ka : Option Addr) (kn kc : Nat) (w : World) (hn : n ≤ 4096)
    (hX : ∀ b, X b → b < w.heap.size) (hR : Bt X w ra n g.R) (hcs : Bt X w ca cn g.C) (hs : SH g X w sa sn ta tn ka kn) :
    Calls Try.prog 6 #[.slice ra n rc, .slice ca cn cc', .slice sa sn sc, .slice ta tn tc, .slice ka kn kc] w (RlP g n w) := by
  obtain ⟨i0, hi, hz0, hz1, hz2⟩ := info_parts infoInt
  have HI := Lib.hid (And.intro hi (And.intro hz0 (And.intro hz1 hz2)))
  clear hi hz0 hz1 hz2
  obtain ⟨i1, hi, hz0, hz1, hz2⟩ := info_parts infoCpl
  have hmkC : ∀ (m : Nat), m < 4 → ∀ W : World, (Instr.makeSlice 45 (.int .i64 0) (.int .i64 (m : Int))).run Try.prog W = .ok (.slice (some ⟨W.heap.size, 0, none⟩) 0 m) (W.alloc (.cells (madeCells #[.slice none 0 0] (m * 1)) 48)) := fun m hm W => by
    have h := run_make_rowN (P := Try.prog) 45 48 i1 _ (by kernel_rfl) hi hz0 .i64 .i64 0 m (by omega) (by rw [hz2]; omega) (by omega) W
    rw [hz1] at h
    exact h
  have HMC := Lib.hid hmkC
  have HJ := Lib.hid (And.intro hi (And.intro hz0 (And.intro hz1 hz2)))
  clear hi hz0 hz1 hz2 hmkC
  obtain ⟨i2, hi, hz0, hz1, hz2⟩ := info_parts infoRul
  have hmk1 : ∀ W : World, (Instr.makeSlice 24 (.int .i64 0) (.int .i64 (n : Int))).run Try.prog W = .ok (.slice (some ⟨W.heap.size, 0, none⟩) 0 n) (W.alloc (.cells (madeCells #[.nilIface, .int .i32 0] (n * 2)) 56)) := fun W => by
    have h := run_make_rowN (P := Try.prog) 24 56 i2 _ (by kernel_rfl) hi hz0 .i64 .i64 0 n (by omega) (by rw [hz2]; omega) (by omega) W
    rw [hz1] at h
    exact h
  have HU := Lib.hid (And.intro hi (And.intro hz0 (And.intro hz1 hz2)))
  clear hi hz0 hz1 hz2
  obtain ⟨i3, hi, hz0, hz1, hz2⟩ := info_parts infoSlI
  have hmk2 : ∀ W : World, (Instr.makeSlice 25 (.int .i64 0) (.int .i64 (n : Int))).run Try.prog W = .ok (.slice (some ⟨W.heap.size, 0, none⟩) 0 n) (W.alloc (.cells (madeCells #[.slice none 0 0] (n * 1)) 29)) := fun W => by
    have h := run_make_rowN (P := Try.prog) 25 29 i3 _ (by kernel_rfl) hi hz0 .i64 .i64 0 n (by omega) (by rw [hz2]; omega) (by omega) W
    rw [hz1] at h
    exact h
  have HE := Lib.hid (And.intro hi (And.intro hz0 (And.intro hz1 hz2)))
  clear hi hz0 hz1 hz2
  obtain ⟨i4, hi, hz0, hz1, hz2⟩ := info_parts infoBoo
  have hmk3 : ∀ W : World, (Instr.makeSlice 26 (.int .i64 0) (.int .i64 (n : Int))).run Try.prog W = .ok (.slice (some ⟨W.heap.size, 0, none⟩) 0 n) (W.alloc (.cells (madeCells #[.bool false] (n * 1)) 4)) := fun W => by
    have h := run_make_rowN (P := Try.prog) 26 4 i4 _ (by kernel_rfl) hi hz0 .i64 .i64 0 n (by omega) (by rw [hz2]; omega) (by omega) W
    rw [hz1] at h
    exact h
  have HO := Lib.hid (And.intro hi (And.intro hz0 (And.intro hz1 hz2)))
  clear hi hz0 hz1 hz2
  have HG := Lib.hid (show ∀ x, Below w.heap.size w x → Bt X x ra n g.R ∧ Bt X x ca cn g.C ∧ SH g X x sa sn ta tn ka kn from fun x hx => ⟨hR.to (To.below hX hx), hcs.to (To.below hX hx), hs.to (To.below hX hx)⟩)
  have HX := Lib.hid hX
  clear hR hcs hs hX
  go_enter Try.func6, Try.ntmps6
  go_upto_block 0 with fail
  have HV0 := Lib.hid (rur_start g n hn w _ _ _ (madeCells #[.nilIface, .int .i32 0] (n * 2)) (madeCells #[.slice none 0 0] n) (madeCells #[.bool false] n) (by simp [madeCells]) (by simp [madeCells]) (by simp [madeCells]) rfl rfl rfl)
  obtain ⟨gA, hgA⟩ : ∃ x, x = w.heap.size := ⟨_, rfl⟩
  simp only [World.size_alloc] at HV0
  rw [← hgA] at HV0 ⊢
  generalize World.alloc (World.alloc (World.alloc w _) _) _ = y3 at *
  obtain ⟨gB, hgB⟩ : ∃ x, x = gA + 1 := ⟨_, rfl⟩
  obtain ⟨gC, hgC⟩ : ∃ x, x = gB + 1 := ⟨_, rfl⟩
  rw [← hgB, ← hgC] at HV0 ⊢
  clear hmk1 hmk2 hmk3 hgA hgB hgC
  refine wp_block ?_
  go_loopw [13, 14, 15, 16, 17, 18, 19] (fun v1 v2 v3 cv pv jv rv wr => ∃ (r : Nat) (a1 a2 a3 : Option Addr) (c1 c2 c3 : Nat), r ≤ n ∧ v1 = .slice a1 r c1 ∧ v2 = .slice a2 r c2 ∧ v3 = .slice a3 r c3 ∧ cv = .int .i64 ((sr g r).c : Nat) ∧ pv = .int .i64 ((sr g r).p : Nat) ∧ jv = .int .i64 ((sr g r).j : Nat) ∧ rv = .int .i64 (r : Nat) ∧ Hid (RuR g w r (.slice a1 r c1) (.slice a2 r c2) (.slice a3 r c3) wr) ∧ a1.isSome = true) (fun _ _ _ _ _ _ rv _ => n - (intOf rv).toNat)
  case atStart => exact ⟨0, some ⟨gA, 0, none⟩, some ⟨gB, 0, none⟩, some ⟨gC, 0, none⟩, n, n, n, Nat.zero_le _, rfl, rfl, rfl, rfl, rfl, rfl, rfl, HV0, rfl⟩
  case round =>
    clear HV0
    obtain ⟨r, a1, a2, a3, c1, c2, c3, hr, rfl, rfl, rfl, rfl, rfl, rfl, rfl, HV, hsm1⟩ := hrel
    by_cases hlt : r < n
    · as_aux_lemma =>
      have q0 : (0 : Int) ≤ r := by omega
      have q1 : (r : Int) < (n : Nat) := by omega
      obtain ⟨gR, oR, rfl, hXr, hcell⟩ := (HG.out wr HV.out.2.2.2).1.1 r hlt
      have hcv := u8_i64 _ ((HG.out wr HV.out.2.2.2).1.2.1 r)
      obtain ⟨m, hm⟩ : ∃ m, m = g.R r % 4 := ⟨_, rfl⟩
      have hm4 : m < 4 := by rw [hm]; exact Nat.mod_lt _ (by omega)
      have hrm : ((g.R r : Nat) : Int) % 4 = (m : Nat) := by rw [hm]; simp
      have HM := Lib.hid hm
      have hmkm := HMC.out m hm4
      obtain ⟨s, hs⟩ : ∃ s, s = sr g r := ⟨_, rfl⟩
      rw [← hs]
      have HS := Lib.hid hs
      have hsl := sr_le g r
      rw [← hs] at hsl
      have HSL := Lib.hid hsl
      clear hm hs hsl hXr
      go_upto_block 2 with fail
      have HM0 := Lib.hid (show MdR g wr.heap.size m s (.slice (some ⟨wr.heap.size, 0, none⟩) 1 1) (wr.alloc (.cells #[.int .i64 (m : Nat)] 3)) 0 (.slice (some ⟨wr.heap.size, 0, none⟩) 1 1) (.slice (some ⟨wr.heap.size + 1, 0, none⟩) 0 m) ((wr.alloc (.cells #[.int .i64 (m : Nat)] 3)).alloc (.cells (madeCells #[.slice none 0 0] m) 48)) from by
        have hb : Below (wr.alloc (.cells #[.int .i64 (m : Nat)] 3)).heap.size (wr.alloc (.cells #[.int .i64 (m : Nat)] 3)) ((wr.alloc (.cells #[.int .i64 (m : Nat)] 3)).alloc (.cells (madeCells #[.slice none 0 0] m) 48)) := (Below.refl _ _).alloc (Nat.le_refl _) _
        have hk : KRow wr.heap.size (wr.alloc (.cells #[.int .i64 (m : Nat)] 3)) (.slice (some ⟨wr.heap.size, 0, none⟩) 1 1) [m] := World.ownsRow_lit wr #[.int .i64 (m : Nat)] 1 (Nat.le_refl _) (by unfold maxLen; omega) rfl
        have hz : (wr.alloc (.cells #[.int .i64 (m : Nat)] 3)).heap.size = wr.heap.size + 1 := World.size_alloc _ _
        refine ⟨hk.keep hb, Gro.below hb, ?_⟩
        rw [← hz]
        exact Bld.made (wr.alloc (.cells #[.int .i64 (m : Nat)] 3)) _ m (Nat.le_refl _) (by unfold maxLen; omega) (by simp [madeCells]) (fun e => by simp [Value.ownBlock] at e))
      have HBW := Lib.hid (show ∀ (kv' : Value) (w' : World), Gro (.slice (some ⟨wr.heap.size, 0, none⟩) 1 1) (wr.alloc (.cells #[.int .i64 (m : Nat)] 3)) kv' w' → Below wr.heap.size wr w' from fun kv' w' hg => by
        have hb : Below wr.heap.size wr (wr.alloc (.cells #[.int .i64 (m : Nat)] 3)) := (Below.refl _ _).alloc (Nat.le_refl _) _
        exact hb.grown hg.1 hb.size (fun k hk => by
          have : wr.heap.size = k := by simpa [Value.ownBlock] using hk
          omega))
      have hzk : (wr.alloc (.cells #[.int .i64 (m : Nat)] 3)).heap.size = wr.heap.size + 1 := World.size_alloc _ _
      generalize World.alloc (World.alloc wr _) _ = x3 at *
      generalize World.alloc wr _ = wk at *
      obtain ⟨D, hD⟩ : ∃ D, D = wr.heap.size := ⟨_, rfl⟩
      obtain ⟨D1, hD1⟩ : ∃ D1, D1 = D + 1 := ⟨_, rfl⟩
      rw [← hD] at HM0 HBW hzk ⊢
      rw [← hD1] at HM0 hzk ⊢
      have HDD := Lib.hid (And.intro hD (And.intro hD1 hzk))
      clear hD hD1 hzk hcell hcv hmkm
      as_aux_lemma =>
      obtain ⟨wo, hwo⟩ : ∃ x, x = wr := ⟨_, rfl⟩
      subst hwo
      refine wp_block ?_
      go_loopw [16, 17, 18, 21, 22, 23, 24] (fun cv pv jv kv sv dv qv wq => ∃ (q : Nat) (ka' : Option Addr) (kl kc' : Nat) (sa' : Option Addr) (sc' : Nat), q ≤ m ∧ cv = .int .i64 ((it g s q).c : Nat) ∧ pv = .int .i64 ((it g s q).p : Nat) ∧ jv = .int .i64 ((it g s q).j : Nat) ∧ kv = .slice ka' kl kc' ∧ sv = .slice sa' q sc' ∧ dv = .bool (dR (mdn g s q)) ∧ qv = .int .i64 (q : Nat) ∧ Hid (MdR g D m s (.slice (some ⟨D, 0, none⟩) 1 1) wk q (.slice ka' kl kc') (.slice sa' q sc') wq)) (fun _ _ _ _ _ _ qv _ => m - (intOf qv).toNat)
      case atStart => exact ⟨0, some ⟨D, 0, none⟩, 1, 1, some ⟨D1, 0, none⟩, m, Nat.zero_le _, rfl, rfl, rfl, rfl, rfl, rfl, rfl, HM0⟩
      case round =>
        clear HM0
        obtain ⟨q, ka', kl, kc', sa', sc', hq, rfl, rfl, rfl, rfl, rfl, rfl, rfl, HQ⟩ := hrel
        obtain ⟨wq, hwq⟩ : ∃ x, x = wr := ⟨_, rfl⟩
        subst hwq
        by_cases hlq : q < m
        · as_aux_lemma =>
          have q2 : (0 : Int) ≤ q := by omega
          have q3 : (q : Int) < (m : Nat) := by omega
          obtain ⟨t, ht⟩ : ∃ t, t = it g s q := ⟨_, rfl⟩
          rw [← ht]
          have htl := it_le g s q
          rw [← ht] at htl
          have HTT := Lib.hid ht
          have HTL := Lib.hid (show t.c ≤ 1048000 ∧ t.p ≤ 1048000 ∧ t.j ≤ 1048000 by have := HSL.out; omega)
          clear ht htl
          obtain ⟨d, hd⟩ : ∃ d, d = dR (mdn g s q) := ⟨_, rfl⟩
          rw [← hd]
          have HDE := Lib.hid hd
          clear hd
          obtain ⟨wa, hwa⟩ : ∃ x, x = wq.alloc (.cells #[.slice none 0 0] 48) := ⟨_, rfl⟩
          obtain ⟨bb, hbb⟩ : ∃ x, x = wq.heap.size := ⟨_, rfl⟩
          have hba : Below wq.heap.size wq wa := by rw [hwa]; exact (Below.refl _ _).alloc (Nat.le_refl _) _
          have hta : wa.there bb 0 1 := by rw [hwa, hbb]; exact th_new wq _ _ rfl
          have hsa : wa.heap.size = bb + 1 := by rw [hwa, World.size_alloc, hbb]
          go_upto_region 18 with fail
          rw [← hwa, ← hbb]
          have HGA := Lib.hid (HBW.out _ _ (HQ.out.2.1.trans (Gro.below hba)))
          have HSA := Lib.hid (HG.out wa (HV.out.2.2.2.trans (HGA.out.mono (by have := HV.out.2.2.2.size; have := HDD.out.1; omega))))
          have HKA := Lib.hid (HQ.out.1.keep hba)
          have HBX := Lib.hid (And.intro hba (And.intro hta (And.intro hsa hbb)))
          have hlen : (m :: (mdn g s q).flatMap kX).length ≤ 1000000 := by
            rw [List.length_cons]
            have := kXs_len g s q
            omega
          have HLN := Lib.hid hlen
          have hXD : ∀ c, X c → c < D := fun c hc => by have := HX.out c hc; have := HV.out.2.2.2.size; have := HDD.out.1; omega
          have HXD := Lib.hid hXD
          have HDA := Lib.hid (show D ≤ wa.heap.size by have := HDD.out.1; have := HGA.out.size; omega)
          clear hwa hbb hba hta hsa hlen hXD
          go_wp2_with fail
          refine (bcx_any g X ca cn cc' sa sn sc ta tn tc ka kn kc t D (.slice ka' kl kc') (m :: (mdn g s q).flatMap kX) wa HTL.out.1 HTL.out.2.1 HTL.out.2.2 HLN.out HXD.out HDA.out HSA.out.2.1 HSA.out.2.2 HKA.out).mono ?_
          rintro e w6 ⟨ea, en, ec, fa, fn, fc, rfl, hcp, hkr, hgro⟩
          have hkb : ∀ c, (Value.slice ka' kl kc').ownBlock = some c → c < bb := fun c hc => by
            have := (HQ.out.1.lt c hc).2
            have := HBX.out.2.2.2
            omega
          have hth : w6.there bb 0 1 := th_ag (hgro.1.block bb (by have := HBX.out.2.2.1; omega) (fun e => by have := hkb bb e.symm; omega)) HBX.out.2.1
          have hset : ∀ c, c < w6.heap.size → c ≠ bb → (w6.setCells bb 0 [.slice ea en ec]).heap[c]? = w6.heap[c]? := fun c hc hne => World.heap_setCells_other w6 bb 0 _ hc hne
          have hsz : (w6.setCells bb 0 [.slice ea en ec]).heap.size = w6.heap.size := size_setCells _ _ _ _
          have hGr : Gro (.slice ka' kl kc') wq (.slice fa fn fc) (w6.setCells bb 0 [.slice ea en ec]) := ((Gro.below HBX.out.1).trans hgro).set (by have := HBX.out.2.2.2; omega) _ _
          have hkn : ∀ c, (Value.slice fa fn fc).ownBlock = some c → c ≠ bb := fun c hc => by
            rcases hgro.2 with h | h
            · have := hkb c (by rw [← h]; exact hc); omega
            · have := h c hc; have := HBX.out.2.2.1; omega
          have H7 := Lib.hid (show (w6.setCells bb 0 [.slice ea en ec]).rangeAt bb 0 [.slice ea en ec] ∧
              CxV Sb1 (fun c => (wa.heap.size ≤ c ∧ c < (w6.setCells bb 0 [.slice ea en ec]).heap.size) ∧ ¬ some c = (Value.slice fa fn fc).ownBlock) (w6.setCells bb 0 [.slice ea en ec]) (.slice ea en ec) (cx g t) ∧
              KRow D (w6.setCells bb 0 [.slice ea en ec]) (.slice fa fn fc) (m :: (mdn g s (q + 1)).flatMap kX) ∧ Gro (.slice ka' kl kc') wq (.slice fa fn fc) (w6.setCells bb 0 [.slice ea en ec]) from by
            refine ⟨World.rangeAt_setCells_same _ _ _ _ hth, CxV.to loc1 hcp (fun c hc => ⟨⟨⟨hc.1.1, by rw [hsz]; exact hc.1.2⟩, hc.2⟩, hset c hc.1.2 (by have := hc.1.1; have := HBX.out.2.2.1; omega)⟩), ?_, hGr⟩
            have e1 : m :: (mdn g s (q + 1)).flatMap kX = (m :: (mdn g s q).flatMap kX) ++ kX (cx g t) := by
              rw [mdn_succ, List.flatMap_append, ← HTT.out]
              simp
            rw [e1]
            exact own_fars (fun e => hkn bb e rfl) _ 0 hkr)
          have HTH := Lib.hid hth
          have hone : (#[.slice ea en ec] : Array Value).all (·.oneCell') = true := by simp [Value.oneCell']
          obtain ⟨d2, hd2⟩ : ∃ d2, d2 = dX (cx g t) := ⟨_, rfl⟩
          rw [← hd2]
          have HD2 := Lib.hid hd2
          have hjn : nx g t = it g s (q + 1) := by rw [HTT.out]; rfl
          rw [hjn]
          have HWA := Lib.hid HBX.out.1.size
          clear hcp hkr hgro hkb hth hset hsz hGr hkn hd2 hjn HBX
          go_upto_region 20 with (first
            | (refine wpList_store_mid rfl 48 _ _ rfl bb 0 #[.slice ea en ec] ?ha ?hv HTH.out szCpl hone ?_; (case ha => exact rfl); (case hv => exact rfl); (change wpList _ _ _ _ _ (World.setCells _ bb 0 [.slice ea en ec])); generalize World.setCells _ _ _ _ = w7 at *))
          as_aux_lemma =>
          have HGX := Lib.hid (HQ.out.2.1.trans H7.out.2.2.2)
          have HB7 := Lib.hid (HQ.out.2.2.other locX (fun c _ h2 h3 => H7.out.2.2.2.1.block c h2 h3) H7.out.2.2.2.1.size H7.out.2.2.2.av)
          go_upto_if 74 with fail
          go_cut [23] (fun v wx => v = .bool (d && d2) ∧ Hid (wx = w7))
          case first =>
            cases d2 with
            | false =>
              go_wp2_with fail
              go_meet
              exact ⟨by simp, Lib.hid rfl⟩
            | true =>
              go_wp2_with fail
              go_meet
              exact ⟨by simp, Lib.hid rfl⟩
          case rest =>
          obtain ⟨rfl, HW⟩ := hcut
          have hwc := HW.out
          rw [hwc]
          clear hwc HW HTH hone
          obtain ⟨dC', hC, hC2⟩ := tyCpl
          have hbs := bs_cpl ea en ec w7
          have hal : Below w7.heap.size w7 (w7.alloc (.cells #[.slice ea en ec] 48)) := (Below.refl _ _).alloc (Nat.le_refl _) _
          obtain ⟨w8, hw8⟩ : ∃ x, x = w7.alloc (.cells #[.slice ea en ec] 48) := ⟨_, rfl⟩
          have hblk := heap_alloc_new w7 (.cells #[.slice ea en ec] 48)
          have hz8 : w8.heap.size = w7.heap.size + 1 := by rw [hw8, World.size_alloc]
          rw [← hw8] at hal hbs hblk
          obtain ⟨B, hB1, hB2, hB3, hB4⟩ := HB7.out.keep locX hal (Av' := fun c => some c = (Value.slice fa fn fc).ownBlock) (fun _ _ h => h)
          have HB := Lib.hid (And.intro hB1 (And.intro hB3 hB4))
          rw [mdn_len] at hB2
          have HBO := Lib.hid hB2
          have HBL := Lib.hid (And.intro hblk hz8)
          have HAL := Lib.hid hal
          clear hw8 hal hblk hB1 hB2 hB3 hB4 hz8
          obtain ⟨g6, hg6⟩ : ∃ x, x = w7.heap.size := ⟨_, rfl⟩
          rw [← hg6] at hbs HBL
          clear hg6
          have H63 := Lib.hid (show wk.heap.size ≤ w8.heap.size from Nat.le_trans HGX.out.1.size HAL.out.size)
          go_wp2_with (first
            | (refine wpList_load_mid rfl 48 _ rfl bb 0 rfl [.slice ea en ec] dC' H7.out.1 hC hC2 szCpl ?_)
            | (refine wpl_bs1 rfl 45 (.tmp 76) rfl _ _ _ ?hx hbs ?_; case hx => (show _ = _; rfl))
            | (at_builtin
               refine wpList_append_lies _ rfl (.tmp 75) (.tmp 77) _ rfl wk.heap.size 48 i1 _ 1 24 Try.underlying45 HJ.out.1 HJ.out.2.1 HJ.out.2.2.1 HJ.out.2.2.2 rfl (by omega) (.slice sa' q sc') q (B.flatMap one) ?hs HBO.out ⟨g6, 0, none⟩ 1 1 (one (.slice ea en ec)) ?hx (by rfl) (World.news_of_block HBL.out.1) (by intro u hu; simp [one] at hu; subst hu; rfl) (by omega) (by unfold maxLen; omega) (by omega) H63.out (g6 + 1) (by rw [HBL.out.2]) ?_; (case hs => exact rfl); (case hx => exact rfl)
               intro g7 cap7 w9' hown7 hgrow7 hat7 hlt7))
          have hat7' : (Value.slice sa' q sc').ownBlock = some g7 ∨ w8.heap.size ≤ g7 := by
            rcases hat7 with h | h
            · exact .inl h
            · exact .inr (by have := HBL.out.2; omega)
          have hkb : ∀ c, (Value.slice fa fn fc).ownBlock = some c → c < w7.heap.size := fun c hc => (H7.out.2.2.1.lt c hc).2
          have hx5 : wk.heap.size ≤ wa.heap.size := Nat.le_trans HQ.out.2.1.1.size HWA.out
          have hnsv : ∀ c, wa.heap.size ≤ c → some c ≠ (Value.slice sa' q sc').ownBlock := fun c hc e => by
            have := (HQ.out.2.2.lt e.symm).2
            have := HWA.out
            omega
          have hsub : CxV Sb1 (fun c => (wk.heap.size ≤ c ∧ c < w8.heap.size) ∧ ¬ some c = (Value.slice fa fn fc).ownBlock ∧ some c ≠ (Value.slice sa' q sc').ownBlock) w8 (.slice ea en ec) (cx g t) :=
            CxV.to loc1 H7.out.2.1 (fun c hc => ⟨⟨⟨Nat.le_trans hx5 hc.1.1, Nat.lt_of_lt_of_le hc.1.2 HAL.out.size⟩, hc.2, hnsv c hc.1.1⟩, HAL.out.block c hc.1.2⟩)
          have hloc : (Value.slice (some ⟨g7, 0, none⟩) (q + 1) cap7).ownBlock = (Value.slice sa' q sc').ownBlock ∨ ∀ c, (Value.slice (some ⟨g7, 0, none⟩) (q + 1) cap7).ownBlock = some c → w8.heap.size ≤ c ∧ ¬ some c = (Value.slice fa fn fc).ownBlock := by
            rcases hat7' with h | h
            · exact .inl h.symm
            · refine .inr (fun c hc => ?_)
              have : g7 = c := by simpa [Value.ownBlock] using hc
              subst this
              refine ⟨h, fun e => ?_⟩
              have := hkb _ e.symm
              have := HAL.out.size
              omega
          have hpush := Bld.push locX (lo := wk.heap.size) (a := cx g t) (v' := .slice (some ⟨g7, 0, none⟩) (q + 1) cap7) HB.out.1 HB.out.2.1 HB.out.2.2 hsub (by rw [mdn_len]; exact hown7) hgrow7 hloc
          have hN : MdR g D m s (.slice (some ⟨D, 0, none⟩) 1 1) wk (q + 1) (.slice fa fn fc) (.slice (some ⟨g7, 0, none⟩) (q + 1) cap7) w9' := by
            have e1 : mdn g s (q + 1) = mdn g s q ++ [cx g t] := by rw [mdn_succ, HTT.out]
            refine ⟨?_, ?_, by rw [e1]; exact hpush⟩
            · exact (H7.out.2.2.1.keep HAL.out).ag (fun c hc => hgrow7.block c (Nat.lt_of_lt_of_le (hkb c hc) HAL.out.size) (fun e => HB.out.2.2 c e.symm hc.symm))
            · exact (HGX.out.trans (Gro.below HAL.out)).row hgrow7 (fun c hc => (HB7.out.lt hc).1)
          have HN2 := Lib.hid hN
          clear hpush hN hsub hloc hnsv hx5 hown7 hgrow7 hat7 hat7' hlt7
          have e4 : dR (mdn g s (q + 1)) = (d && d2) := by rw [dR_succ, ← HTT.out, ← HDE.out, ← HD2.out]
          refine ⟨⟨_, _, _, _, _, .bool (dR (mdn g s (q + 1))), .int .i64 ((q + 1 : Nat) : Int), ⟨q + 1, by omega, rfl, rfl, rfl, fa, fn, fc, rfl, some ⟨g7, 0, none⟩, cap7, rfl, rfl, rfl, HN2⟩, rfl, rfl, rfl, rfl, rfl, by rw [e4], by go_num⟩, by simp [intOf]; omega⟩
        · as_aux_lemma =>
          obtain rfl : m = q := by omega
          clear hlq hq
          have hi32 : IntKind.i32.wrap (r : Int) = (r : Int) := by
            simp [IntKind.wrap, IntKind.bits, IntKind.signed]
            omega
          -- the whole round touched new blocks alone
          have HBQ := Lib.hid (HBW.out _ _ HQ.out.2.1)
          have HRU := Lib.hid (HV.out.keep (by rw [← HDD.out.1]; exact HBQ.out))
          have hmd : mdn g s m = md g r := by rw [HM.out, HS.out]; rfl
          have hit : it g s m = sr g (r + 1) := by rw [HM.out, HS.out]; rfl
          rw [hmd, hit]
          have HQ2 := Lib.hid (show KRow D wq (.slice ka' kl kc') (kR (md g r)) ∧ Bld 48 1 one (fun X w v a => CxV Sb1 X w v a) wk.heap.size (fun c => some c = (Value.slice ka' kl kc').ownBlock) (.slice sa' m sc') (md g r) wq from by
            obtain ⟨h1, -, h3⟩ := HQ.out
            rw [hmd] at h1 h3
            refine ⟨?_, h3⟩
            have : kR (md g r) = m :: (md g r).flatMap kX := by unfold kR; rw [← hmd, mdn_len]
            rw [this]
            exact h1)
          clear hmd hit
          go_upto_region 23 with fail
          have HT0 := Lib.hid (show RuT g w r r r (.slice a1 r c1) (.slice a2 r c2) (.slice a3 r c3) wq from HRU.out)
          have hold : ∀ v : Value, (v = .slice a1 r c1 ∨ v = .slice a2 r c2 ∨ v = .slice a3 r c3) → ∀ c, D ≤ c → some c ≠ v.ownBlock := fun v hv c hc e => by
            have hd := HDD.out.1
            rcases hv with h | h | h
            · subst h; have := (HV.out.1.lt e.symm).2; omega
            · subst h; have := (HV.out.2.1.lt e.symm).2; omega
            · subst h; have := (HV.out.2.2.1.lt e.symm).2; omega
          have HOLD := Lib.hid hold
          have hwD : w.heap.size ≤ D := by have := HV.out.2.2.2.size; have := HDD.out.1; omega
          have HWD := Lib.hid hwD
          have HM2 := Lib.hid (RowV.to (HQ2.out.2.done locX) (To.same (Y := fun c => D ≤ c ∧ c < wq.heap.size) (fun c hc => ⟨by have := HDD.out.2; omega, hc.1.2⟩)) (fun x a h => CxV.to loc1 h (To.same (Y := fun c => D ≤ c ∧ c < wq.heap.size) (fun c hc => ⟨by have := HDD.out.2; omega, hc.1.2⟩))))
          clear hold hwD
          go_wp2_with fail
          refine (rule_any sa' m sc' r wq).mono ?_
          rintro e w5 ⟨p, rfl, hp, hp1, hp2, hb5⟩
          have hbs := bs_rul p r w5
          have hal : Below w5.heap.size w5 (w5.alloc (.cells #[ifR p, .int .i32 r] 56)) := (Below.refl _ _).alloc (Nat.le_refl _) _
          obtain ⟨w6, hw6⟩ : ∃ x, x = w5.alloc (.cells #[ifR p, .int .i32 r] 56) := ⟨_, rfl⟩
          have hblk := heap_alloc_new w5 (.cells #[ifR p, .int .i32 r] 56)
          have hz6 : w6.heap.size = w5.heap.size + 1 := by rw [hw6, World.size_alloc]
          rw [← hw6] at hal hbs hblk
          have hb56 := hb5.trans (hal.mono hb5.size)
          have hT6 := HT0.out.keep hb56
          obtain ⟨B, hB1, hB2, hB3, hB4⟩ := id hT6.1
          have HB := Lib.hid (And.intro hT6 (And.intro hB1 (And.intro hB3 hB4)))
          rw [List.length_range] at hB2
          have HBO := Lib.hid hB2
          have HBL := Lib.hid (And.intro hblk hz6)
          have HXE := Lib.hid (show RuE g (fun b => (w.heap.size ≤ b ∧ b < w6.heap.size) ∧ ¬ Tri (.slice a2 r c2) (.slice a3 r c3) b ∧ some b ≠ (Value.slice a1 r c1).ownBlock) w6 (p, r) r from by
            have hq := HBQ.out.size
            have hk : ∀ c, D ≤ c → ¬ Tri (.slice a2 r c2) (.slice a3 r c3) c ∧ some c ≠ (Value.slice a1 r c1).ownBlock := fun c hc => ⟨fun t => t.elim (HOLD.out _ (.inr (.inl rfl)) c hc) (HOLD.out _ (.inr (.inr rfl)) c hc), HOLD.out _ (.inl rfl) c hc⟩
            have hd := HDD.out.1
            refine ⟨rfl, .slice sa' m sc', ⟨⟨by have := HWD.out; omega, Nat.lt_of_lt_of_le hp2 hal.size⟩, hk p (by omega)⟩, rg_keep hal hp, ?_⟩
            exact MdV.to loc1 (show MdV Sb1 (fun c => D ≤ c ∧ c < wq.heap.size) wq (.slice sa' m sc') (md g r) from HM2.out) (fun c hc => ⟨⟨⟨Nat.le_trans HWD.out hc.1, Nat.lt_of_lt_of_le hc.2 hb56.size⟩, hk c hc.1⟩, hb56.block c hc.2⟩))
          have HKR := Lib.hid (HQ2.out.1.keep hb56)
          have H56 := Lib.hid hb56.size
          clear hw6 hal hblk hB1 hB2 hB3 hB4 hz6 hp hp1 hp2 hb5 hb56 hT6 HQ2
          obtain ⟨g6, hg6⟩ : ∃ x, x = w5.heap.size := ⟨_, rfl⟩
          rw [← hg6] at hbs HBL
          clear hg6
          have H63 := Lib.hid (show w.heap.size ≤ w6.heap.size from HB.out.1.2.2.2.size)
          go_upto_region 24 with (first
            | (refine wpl_bs1 rfl 24 (.tmp 83) rfl _ _ _ ?hx hbs ?_; case hx => (show _ = _; rfl))
            | (at_builtin
               refine wpList_append_lies _ rfl (.tmp 79) (.tmp 84) _ rfl w.heap.size 56 i2 _ 2 24 Try.underlying24 HU.out.1 HU.out.2.1 HU.out.2.2.1 HU.out.2.2.2 rfl (by omega) (.slice a1 r c1) r (B.flatMap ruv) ?hs HBO.out ⟨g6, 0, none⟩ 1 1 (ruv (p, r)) ?hx (by rfl) (World.news_of_block HBL.out.1) (by intro u hu; simp [ruv, ruc] at hu; rcases hu with rfl | rfl <;> rfl) (by omega) (by unfold maxLen; omega) (by omega) H63.out (g6 + 1) (by rw [HBL.out.2]) ?_; (case hs => exact rfl); (case hx => exact rfl)
               intro g7 cap7 w7 hown7 hgrow7 hat7 hlt7))
          have HT7 := Lib.hid (HB.out.1.push1 (v' := .slice (some ⟨g7, 0, none⟩) (r + 1) cap7) HB.out.2.1 HB.out.2.2.1 HB.out.2.2.2 HXE.out (by rw [List.length_range]; exact hown7) hgrow7 (by
            rcases hat7 with h | h
            · exact .inl h.symm
            · refine .inr (fun c hc => ?_)
              have : g7 = c := by simpa [Value.ownBlock] using hc
              have := HBL.out.2
              omega))
          have hkb : ∀ c, (Value.slice ka' kl kc').ownBlock = some c → D ≤ c ∧ c < w6.heap.size := fun c hc => HKR.out.lt c hc
          have hkg : ∀ c, (Value.slice ka' kl kc').ownBlock = some c → c ≠ g7 := fun c hc e => by
            subst e
            rcases hat7 with h | h
            · exact HOLD.out _ (.inl rfl) c (hkb c hc).1 h.symm
            · have := HBL.out.2
              have := (hkb c hc).2
              omega
          have hkr7 : KRow D w7 (.slice ka' kl kc') (kR (md g r)) := HKR.out.ag (fun c hc => hgrow7.block c (hkb c hc).2 (fun e => HOLD.out _ (.inl rfl) c (hkb c hc).1 e))
          have HK7 := Lib.hid (And.intro hkr7 (And.intro hkb hkg))
          clear hkb hkg hkr7 hown7 hgrow7 hat7 hlt7 HXE HB HBO HBL H63 hbs HKR
          as_aux_lemma =>
          have hbs := bs_sli ka' kl kc' w7
          have hal : Below w7.heap.size w7 (w7.alloc (.cells #[.slice ka' kl kc'] 29)) := (Below.refl _ _).alloc (Nat.le_refl _) _
          obtain ⟨w8, hw8⟩ : ∃ x, x = w7.alloc (.cells #[.slice ka' kl kc'] 29) := ⟨_, rfl⟩
          have hblk := heap_alloc_new w7 (.cells #[.slice ka' kl kc'] 29)
          have hz8 : w8.heap.size = w7.heap.size + 1 := by rw [hw8, World.size_alloc]
          rw [← hw8] at hal hbs hblk
          have hT8 := HT7.out.keep hal
          obtain ⟨B, hB1, hB2, hB3, hB4⟩ := id hT8.2.1
          have HB := Lib.hid (And.intro hT8 (And.intro hB1 (And.intro hB3 hB4)))
          rw [List.length_range] at hB2
          have HBO := Lib.hid hB2
          have HBL := Lib.hid (And.intro hblk hz8)
          have HXE := Lib.hid (show KeE g (fun b => (w.heap.size ≤ b ∧ b < w8.heap.size) ∧ ¬ Tri (.slice (some ⟨g7, 0, none⟩) (r + 1) cap7) (.slice a3 r c3) b ∧ some b ≠ (Value.slice a2 r c2).ownBlock) w8 (.slice ka' kl kc') r from by
            have hk8 := HK7.out.1.keep hal
            refine ⟨kR (md g r), rfl, ?_, fun c hc => ?_, fun i h h' => rfl⟩
            · have e : (kR (md g r)).flatMap (fun n => [ki n]) = (kR (md g r)).map ki := flat_ki _
              rw [e]
              exact own_zero hk8
            · have h1 := HK7.out.2.1 c hc
              refine ⟨⟨Nat.le_trans HWD.out h1.1, (hk8.lt c hc).2⟩, fun t => ?_, HOLD.out _ (.inr (.inl rfl)) c h1.1⟩
              rcases t with t | t
              · have : c = g7 := by simpa [Value.ownBlock] using t
                exact HK7.out.2.2 c hc this
              · exact HOLD.out _ (.inr (.inr rfl)) c h1.1 t)
          clear hw8 hal hblk hB1 hB2 hB3 hB4 hz8 hT8
          obtain ⟨g8, hg8⟩ : ∃ x, x = w7.heap.size := ⟨_, rfl⟩
          rw [← hg8] at hbs HBL
          clear hg8
          have H63 := Lib.hid (show w.heap.size ≤ w8.heap.size from HB.out.1.2.2.2.size)
          go_upto_region 25 with (first
            | (refine wpl_bs1 rfl 25 (.tmp 87) rfl _ _ _ ?hx hbs ?_; case hx => (show _ = _; rfl))
            | (at_builtin
               refine wpList_append_lies _ rfl (.tmp 86) (.tmp 88) _ rfl w.heap.size 29 i3 _ 1 24 Try.underlying25 HE.out.1 HE.out.2.1 HE.out.2.2.1 HE.out.2.2.2 rfl (by omega) (.slice a2 r c2) r (B.flatMap one) ?hs HBO.out ⟨g8, 0, none⟩ 1 1 (one (.slice ka' kl kc')) ?hx (by rfl) (World.news_of_block HBL.out.1) (by intro u hu; simp [one] at hu; subst hu; rfl) (by omega) (by unfold maxLen; omega) (by omega) H63.out (g8 + 1) (by rw [HBL.out.2]) ?_; (case hs => exact rfl); (case hx => exact rfl)
               intro g9 cap9 w9 hown9 hgrow9 hat9 hlt9))
          have HT9 := Lib.hid (HB.out.1.push2 (v' := .slice (some ⟨g9, 0, none⟩) (r + 1) cap9) HB.out.2.1 HB.out.2.2.1 HB.out.2.2.2 HXE.out (by rw [List.length_range]; exact hown9) hgrow9 (by
            rcases hat9 with h | h
            · exact .inl h.symm
            · refine .inr (fun c hc => ?_)
              have : g9 = c := by simpa [Value.ownBlock] using hc
              have := HBL.out.2
              omega))
          clear hown9 hgrow9 hat9 hlt9 HXE HB HBO HBL H63 hbs HK7 HT7
          as_aux_lemma =>
          obtain ⟨d, hd⟩ : ∃ d, d = dR (md g r) := ⟨_, rfl⟩
          rw [← hd]
          have HD := Lib.hid hd
          clear hd
          have hbs := bs_boo d w9
          have hal : Below w9.heap.size w9 (w9.alloc (.cells #[.bool d] 4)) := (Below.refl _ _).alloc (Nat.le_refl _) _
          obtain ⟨w10, hw10⟩ : ∃ x, x = w9.alloc (.cells #[.bool d] 4) := ⟨_, rfl⟩
          have hblk := heap_alloc_new w9 (.cells #[.bool d] 4)
          have hz10 : w10.heap.size = w9.heap.size + 1 := by rw [hw10, World.size_alloc]
          rw [← hw10] at hal hbs hblk
          have hT10 := HT9.out.keep hal
          obtain ⟨B, hB1, hB2, hB3, hB4⟩ := id hT10.2.2.1
          have HB := Lib.hid (And.intro hT10 (And.intro hB1 (And.intro hB3 hB4)))
          rw [List.length_range] at hB2
          have HBO := Lib.hid hB2
          have HBL := Lib.hid (And.intro hblk hz10)
          clear hw10 hal hblk hB1 hB2 hB3 hB4 hz10 hT10
          obtain ⟨g10, hg10⟩ : ∃ x, x = w9.heap.size := ⟨_, rfl⟩
          rw [← hg10] at hbs HBL
          clear hg10
          have H63 := Lib.hid (show w.heap.size ≤ w10.heap.size from HB.out.1.2.2.2.size)
          go_wp2_with (first
            | (refine wpl_bs1 rfl 26 (.tmp 91) rfl _ _ _ ?hx hbs ?_; case hx => (show _ = _; rfl))
            | (at_builtin
               refine wpList_append_lies _ rfl (.tmp 90) (.tmp 92) _ rfl w.heap.size 4 i4 _ 1 1 Try.underlying26 HO.out.1 HO.out.2.1 HO.out.2.2.1 HO.out.2.2.2 rfl (by omega) (.slice a3 r c3) r (B.flatMap bov) ?hs HBO.out ⟨g10, 0, none⟩ 1 1 (bov d) ?hx (by rfl) (World.news_of_block HBL.out.1) (by intro u hu; simp [bov] at hu; subst hu; rfl) (by omega) (by unfold maxLen; omega) (by omega) H63.out (g10 + 1) (by rw [HBL.out.2]) ?_; (case hs => exact rfl); (case hx => exact rfl)
               intro g11 cap11 w11 hown11 hgrow11 hat11 hlt11))
          have HT11 := Lib.hid (HB.out.1.push3 (v' := .slice (some ⟨g11, 0, none⟩) (r + 1) cap11) HB.out.2.1 HB.out.2.2.1 HB.out.2.2.2 HD.out (by rw [List.length_range]; exact hown11) hgrow11 (by
            rcases hat11 with h | h
            · exact .inl h.symm
            · refine .inr (fun c hc => ?_)
              have : g11 = c := by simpa [Value.ownBlock] using hc
              have := HBL.out.2
              omega))
          clear hown11 hgrow11 hat11 hlt11 HB HBO HBL H63 hbs
          refine ⟨⟨r + 1, some ⟨g7, 0, none⟩, some ⟨g9, 0, none⟩, some ⟨g11, 0, none⟩, cap7, cap9, cap11, by omega, rfl, rfl, rfl, rfl, rfl, rfl, by go_num, Lib.hid (show RuR g w (r + 1) _ _ _ w11 from HT11.out), rfl⟩, by simp [intOf]; omega⟩
    · as_aux_lemma =>
      obtain rfl : n = r := by omega
      go_wp2_with fail
      exact bodyPost_ret (results_tmps3 (t := 10) (u := 11) (x := 12) rfl _ _) rfl ⟨a1, c1, a2, c2, a3, c3, rfl, HV.out, hsm1⟩
end Go.Proofs.Ythokeojpmbdbmaa.Dr
