/-
  The builder of the selector.
-/
import Derived.Test.YtbpnmiedomchpaaFi
namespace Go.Proofs.Ytbpnmiedomchpaa.Fg
open Go.ChangeShapes Go.WideShapes Go.ChangeAt Go.RowKit Rg
set_option linter.unusedVariables false
set_option linter.unusedSimpArgs false
theorem ex_load {P : Program} {o : Oper} {a : Act} {w : World} (ty : TypeId) (x : Operand) (ho : o.op = .load ty x) (b off : Nat) (hx : a.eval x = .pointer (some ⟨b, off, none⟩)) (cs : List Value) (d : TypeDesc) (hc : w.rangeAt b off cs)
    (hu : P.underlying ty = some d) (hd : d.isRow = true) (hi : (P.info? ty).map (·.size) = some cs.length) : (execOp a.eval o).run P w = .ok (.value (.agg cs.toArray)) w := by
  unfold execOp
  simp only [ho, hx, Instr.loadAt, Instr.sureAddr, Sem.run_bind, Sem.run_pure, Result.andThen_ok, run_loadVar_mid w b off ty cs d hc hu hd hi]
def BcP (C : List Co) (w : World) (e : Ending) (w' : World) : Prop :=
  ∃ v zs, e = .returned (.agg #[v]) ∧ SelT (w.heap.size + 1) v (C.map bCo) zs w' ∧ Below w.heap.size w w'
theorem sel_made (w : World) (cur : Array Value) (n : Nat) (hn : n ≤ 1048576) (hs : cur.size = n * 6) : SelT w.heap.size (.slice (some ⟨w.heap.size, 0, none⟩) 0 n) [] [] (w.alloc (.cells cur 37)) :=
  ⟨rfl, by simpa using World.ownsRow_made w cur n (Nat.le_refl _) (by unfold maxLen; omega) hs, by simp, (fun y hy => (by cases hy)), fun i h => absurd h (Nat.not_lt_zero _)⟩
set_option maxRecDepth 100000 in
set_option maxHeartbeats 16000000 in
theorem bco_any (X : Nat → Prop) (v : Value) (C : List Co) (w : World) (hv : CoV X w v C) (hX : ∀ b, X b → b < w.heap.size) (hl : wC C ≤ 1048576) :
    Calls Try.prog 11 #[v] w (BcP C w) := by
  obtain ⟨va, vc, hve⟩ := RW.slice hv
  obtain ⟨n, hn⟩ : ∃ n, n = C.length := ⟨_, rfl⟩
  rw [← hn] at hve
  subst hve
  have hn4 : n ≤ 1048576 := by unfold wC at hl; omega
  have HI := Lib.hid (And.intro hv (And.intro hn (And.intro hl hX)))
  obtain ⟨i0, hi, hz0, hz1, hz2⟩ := info_parts infoCmp
  have hmk : ∀ W : World, (Instr.makeSlice 38 (.int .i64 0) (.int .i64 (n : Int))).run Try.prog W = .ok (.slice (some ⟨W.heap.size, 0, none⟩) 0 n) (W.alloc (.cells (madeCells #[.pointer none, .slice none 0 0, .slice none 0 0, .int .i32 0, .int .u8 0, .bool false] (n * 6)) 37)) := fun W => by
    have h := run_make_rowN (P := Try.prog) 38 37 i0 _ (by kernel_rfl) hi hz0 .i64 .i64 0 n (by omega) (by rw [hz2]; omega) (by omega) W
    rw [hz1] at h
    exact h
  have HJ := Lib.hid (And.intro hi (And.intro hz0 (And.intro hz1 hz2)))
  clear hi hz0 hz1 hz2
  obtain ⟨i1, hi, hz0, hz1, hz2⟩ := info_parts infoSub
  have HK := Lib.hid (And.intro hi (And.intro hz0 (And.intro hz1 hz2)))
  obtain ⟨tC, hC, hC2⟩ := tyCmp
  obtain ⟨tX, hXx, hX2⟩ := tyCpl
  obtain ⟨tO, hO, hO2⟩ := tyCo
  obtain ⟨tS, hS, hS2⟩ := tySj
  clear hv hn hl hX hi hz0 hz1 hz2
  go_enter Try.func11, Try.ntmps11
  go_upto_region 1 with fail
  have ha1 : Below w.heap.size w (w.alloc (.cells #[.slice none 0 0] 40)) := (Below.refl _ _).alloc (Nat.le_refl _) _
  have ht1 := th_new w #[.slice none 0 0] 40 (n := 1) rfl
  have hz1 : (w.alloc (.cells #[.slice none 0 0] 40)).heap.size = w.heap.size + 1 := World.size_alloc _ _
  generalize w.alloc _ = w1 at *
  obtain ⟨b2, hb2⟩ : ∃ b, b = w.heap.size := ⟨_, rfl⟩
  rw [← hb2] at ht1 hz1 ⊢
  have HB2 := Lib.hid hb2
  clear hb2
  go_upto_block 0 with fail
  have hst := sel_made w1 (madeCells #[.pointer none, .slice none 0 0, .slice none 0 0, .int .i32 0, .int .u8 0, .bool false] (n * 6)) n hn4 (by simp [madeCells])
  have hbs1 : Below w1.heap.size w1 (w1.alloc (.cells (madeCells #[.pointer none, .slice none 0 0, .slice none 0 0, .int .i32 0, .int .u8 0, .bool false] (n * 6)) 37)) := (Below.refl _ _).alloc (Nat.le_refl _) _
  generalize World.alloc w1 _ = w2 at *
  rw [hz1] at hst hbs1
  obtain ⟨g0, hg0⟩ : ∃ x, x = b2 + 1 := ⟨_, rfl⟩
  rw [← hg0] at hst hbs1 hz1 ⊢
  have HST := Lib.hid (And.intro hst hbs1)
  have HG0 := Lib.hid (show g0 = w1.heap.size ∧ b2 = w.heap.size ∧ g0 = b2 + 1 ∧ w1.there b2 0 1 ∧ Below w.heap.size w w1 from ⟨hz1.symm, HB2.out, hg0, ht1, ha1⟩)
  clear hmk hg0 HB2 hst hbs1 ht1 hz1 ha1
  as_aux_lemma =>
  refine wp_block ?_
  go_loopw [3, 4] (fun cv iv wr => ∃ (k : Nat) (ka : Option Addr) (kc : Nat), k ≤ n ∧ cv = .slice ka k kc ∧ iv = .int .i64 k ∧ Hid (∃ zs, SelT g0 (.slice ka k kc) ((C.take k).map bCo) zs wr) ∧ Hid (Below g0 w1 wr)) (fun _ iv _ => n - (intOf iv).toNat)
  case atStart => exact ⟨0, some ⟨g0, 0, none⟩, n, Nat.zero_le _, rfl, rfl, Lib.hid ⟨[], HST.out.1⟩, Lib.hid HST.out.2⟩
  case round =>
    clear HST
    obtain ⟨k, ka, kc, hk, rfl, rfl, HY, HW⟩ := hrel
    by_cases hlt : k < n
    · as_aux_lemma =>
      have q0 : (0 : Int) ≤ k := by omega
      have q1 : (k : Int) < (n : Nat) := by omega
      have kL : k < C.length := by have := HI.out.2.1; omega
      obtain ⟨g, o, cc, a2, c2, hve, hXg, hr, ⟨hcb, hty, ham⟩, hSv⟩ := CoV.at HI.out.1 kL
      simp only [Value.slice.injEq] at hve
      obtain ⟨rfl, hz, rfl⟩ := hve
      clear hz
      have hwS : wS C[k].S ≤ 1048576 := Nat.le_trans (wC_mem (List.getElem_mem kL)) HI.out.2.2.1
      obtain ⟨m, hm⟩ : ∃ m, m = C[k].S.length := ⟨_, rfl⟩
      have hm4 : m ≤ 1048576 := by rw [hm]; exact Nat.le_trans (wS_len _) hwS
      obtain ⟨cb, hcbe⟩ : ∃ x, x = C[k].cb := ⟨_, rfl⟩
      obtain ⟨ty, htye⟩ : ∃ x, x = C[k].ty := ⟨_, rfl⟩
      obtain ⟨am, hame⟩ : ∃ x, x = C[k].am := ⟨_, rfl⟩
      rw [← hm, ← hcbe, ← htye, ← hame] at hr
      rw [← hm] at hSv
      rw [← hcbe] at hcb
      rw [← htye] at hty
      rw [← hame] at ham
      have hgw : g < w.heap.size := HI.out.2.2.2 g hXg
      have HD := Lib.hid (And.intro hSv (And.intro hm (And.intro hcbe (And.intro htye (And.intro hame hwS)))))
      have hbw : ∀ W, Below g0 w1 W → Below w.heap.size w W := fun W hb => HG0.out.2.2.2.2.trans (hb.mono (by have := HG0.out; omega))
      have HBW := Lib.hid hbw
      have HR := Lib.hid (rg_below (hbw _ HW.out) hgw hr)
      clear hr hSv hm hcbe htye hame hwS hgw hXg hbw
      go_upto_region 6 with (first
        | (refine wpList_load_mid rfl 55 _ rfl g (o + k * 4) rfl (in4 cb ty am a2 m c2) tO HR.out hO hO2 szCo ?_)
        | (refine wpList_store_mid rfl 55 _ _ rfl wr.heap.size 0 (in4 cb ty am a2 m c2).toArray rfl rfl (th_new wr _ _ rfl) szCo (in4_all _ _ _ _ _ _) ?_))
      have hbS : Below wr.heap.size wr ((wr.alloc (.cells #[.int .u8 0, .int .u8 0, .int .u8 0, .slice none 0 0] 55)).setCells wr.heap.size 0 (in4 cb ty am a2 m c2)) := below_setCells (Nat.le_refl _) _ _ ((Below.refl _ _).alloc (Nat.le_refl _) _)
      have hrS : ((wr.alloc (.cells #[.int .u8 0, .int .u8 0, .int .u8 0, .slice none 0 0] 55)).setCells wr.heap.size 0 (in4 cb ty am a2 m c2)).rangeAt wr.heap.size 0 (in4 cb ty am a2 m c2) := World.rangeAt_setCells_same _ _ _ _ (th_new wr _ _ rfl)
      have hzS : ((wr.alloc (.cells #[.int .u8 0, .int .u8 0, .int .u8 0, .slice none 0 0] 55)).setCells wr.heap.size 0 (in4 cb ty am a2 m c2)).heap.size = wr.heap.size + 1 := by rw [size_setCells, World.size_alloc]
      generalize World.setCells _ _ _ _ = w3 at *
      obtain ⟨b5, hb5⟩ : ∃ b, b = wr.heap.size := ⟨_, rfl⟩
      rw [← hb5] at hbS hrS hzS ⊢
      obtain ⟨zs0, hzs0⟩ := HY.out
      have HY3 := Lib.hid (show ∃ zs, SelT g0 (.slice ka k kc) ((C.take k).map bCo) zs w3 from ⟨zs0, hzs0.keep (hb5 ▸ hbS)⟩)
      have hW3 : Below g0 w1 w3 := HW.out.trans (hbS.mono (by rw [hb5]; exact Nat.le_trans (Nat.le_of_eq HG0.out.1) HW.out.size))
      have HW3 := Lib.hid (And.intro hW3 hrS)
      have HB5 := Lib.hid (show b5 + 1 = w3.heap.size ∧ g0 ≤ b5 from ⟨hzS.symm, by rw [hb5]; exact Nat.le_trans (Nat.le_of_eq HG0.out.1) HW.out.size⟩)
      clear hbS hrS hzS hb5 HR hzs0 zs0 hW3 HY HW
      clear wr
      as_aux_lemma =>
      go_upto_region 7 with fail
      have hir := Ir.start loc1 w3 37
      have hb3 : Below w3.heap.size w3 (w3.alloc (.cells (Cv.cells ⟨.pointer none, .slice none 0 0, .slice none 0 0, 0, false⟩).toArray 37)) := (Below.refl _ _).alloc (Nat.le_refl _) _
      change Code.wp _ _ _ _ (w3.alloc (.cells (Cv.cells ⟨.pointer none, .slice none 0 0, .slice none 0 0, 0, false⟩).toArray 37))
      generalize w3.alloc _ = w4 at *
      obtain ⟨b, hb⟩ : ∃ b, b = w3.heap.size := ⟨_, rfl⟩
      rw [← hb] at hir hb3 ⊢
      have HBB := Lib.hid hb
      have hc5 : ∀ W, Below b w3 W → W.rangeAt b5 0 (in4 cb ty am a2 m c2) := fun W h => rg_below h (by have := HB5.out; omega) HW3.out.2
      have HC5 := Lib.hid hc5
      have d0 := hc5 w4 hb3 0 _ rfl
      have b4 := hir.box 4 _ rfl
      have z4 := (hir.thr 4 (by decide)).2
      simp only [Nat.zero_add, Nat.add_zero] at d0 b4 z4
      have HI2 := Lib.hid hir
      clear hb hc5 hir hb3
      go_upto_region 8 with (go_at_call 19; refine (comb_any cb hcb w4).mono ?_; rintro e w5 ⟨rfl, hw⟩; rw [← hw]; clear hw)
      have hir := HI2.out.set loc1 (k := 4) (v := .int .u8 (combN cb : Nat)) (x' := ⟨.pointer none, .slice none 0 0, .slice none 0 0, combN cb, false⟩) (c' := ⟨none, [], 0, combN cb, false⟩) (by decide) rfl rfl rfl HI2.out.ty HI2.out.lc rfl rfl (combN_lt _)
      generalize World.setCell w4 _ _ = w6 at *
      have d1 := HC5.out w6 hir.bel 1 _ rfl
      have b0 := hir.box 0 _ rfl
      have z0 := (hir.thr 0 (by decide)).2
      simp only [Nat.zero_add, Nat.add_zero] at d1 b0 z0
      have HI3 := Lib.hid hir
      clear hir d0 b4 z4 HI2
      clear w4
      as_aux_lemma =>
      obtain ⟨tb, htb⟩ : ∃ tb, tb = ((ty : Int) == 0) := ⟨_, rfl⟩
      have htb2 := htb.symm
      have HTB := Lib.hid htb
      clear htb
      go_upto_if 28 with fail
      go_cut [] (fun wx => Hid (∃ tv, Ir e1 b w3 b ⟨tv, .slice none 0 0, .slice none 0 0, combN cb, false⟩ ⟨tyO ty, [], 0, combN cb, false⟩ wx))
      case first =>
        cases tb with
        | true =>
          as_aux_lemma =>
          have HT := Lib.hid (show ty = 0 by have := HTB.out; have h := beq_iff_eq.1 this.symm; omega)
          go_wp2_with fail
          go_meet
          exact Lib.hid ⟨.pointer none, by rw [HT.out]; exact HI3.out⟩
        | false =>
          as_aux_lemma =>
          have HT := Lib.hid (show ty ≠ 0 by have := HTB.out; have h := beq_eq_false_iff_ne.1 this.symm; omega)
          have t1 : ¬ (ty : Int) = 0 := by have := HT.out; omega
          clear htb2
          go_wp2_with fail
          refine (type_any ty hty w6).mono ?_
          rintro e w7 ⟨p, rfl, hp, hp1, hp2, hb4⟩
          have hir := HI3.out.keep loc1 hb4
          have hbs := HI3.out.bs
          have b0 := hir.box 0 _ rfl
          have z0 := (hir.thr 0 (by decide)).2
          simp only [Nat.zero_add, Nat.add_zero] at b0 z0
          have HIN := Lib.hid (hir.set loc1 (k := 0) (v := .pointer (some ⟨p, 0, none⟩)) (x' := ⟨.pointer (some ⟨p, 0, none⟩), .slice none 0 0, .slice none 0 0, combN cb, false⟩) (c' := ⟨tyO ty, [], 0, combN cb, false⟩) (by decide) rfl rfl rfl
            (by unfold tyO; rw [if_neg HT.out]; exact ⟨p, rfl, ⟨⟨by omega, hp2⟩, by intro q; cases q⟩, hp⟩) hir.lc rfl rfl (combN_lt _))
          clear hir hp hp1 hp2 hb4 hbs
          go_wp2_with fail
          go_meet
          exact Lib.hid ⟨_, HIN.out⟩
      case rest =>
      obtain ⟨tv, hir⟩ := hcut.out
      clear hcut d1 b0 z0 htb2 HTB HI3
      as_aux_lemma =>
      have d2 := HC5.out wc hir.bel 2 _ rfl
      simp only [Nat.zero_add] at d2
      have ham2 := u8_i64 am ham
      have HI4 := Lib.hid hir
      clear hir
      go_wp2_with fail
      refine (nest_any am ham wc).mono ?_
      rintro e w4 ⟨la, lc, rfl, hlc, hb4⟩
      have hir := HI4.out.keep loc1 hb4
      have hbs := HI4.out.bs
      have b2' := hir.box 2 _ rfl
      have z2 := (hir.thr 2 (by decide)).2
      simp only [Nat.zero_add] at b2' z2
      have HIN := Lib.hid (hir.set loc1 (k := 2) (v := .slice la am lc) (x' := ⟨tv, .slice none 0 0, .slice la am lc, combN cb, false⟩) (c' := ⟨tyO ty, [], am, combN cb, false⟩) (by decide) rfl rfl rfl hir.ty
        (hlc.to (To.same fun y hy => ⟨⟨by omega, hy.2⟩, by intro q; cases q⟩)) rfl rfl (combN_lt _))
      clear hir hlc hb4 hbs d2 ham2 HI4
      go_upto_block 2 with fail
      clear b2' z2
      generalize World.setCell w4 _ _ = w5 at *
      have HIT := Lib.hid (HIN.out.it rfl rfl)
      clear HIN
      as_aux_lemma =>
      refine wp_block ?_
      go_loopw [7] (fun jv wq => ∃ (j : Nat), j ≤ m ∧ jv = .int .i64 j ∧ Hid (∃ sa sc ys, It b w3 b ⟨tv, .slice sa j sc, .slice la am lc, combN cb, false⟩ ⟨tyO ty, (C[k].S.take j).map bSj, am, combN cb, false⟩ ys wq)) (fun jv _ => m - (intOf jv).toNat)
      case atStart => exact ⟨0, Nat.zero_le _, rfl, Lib.hid ⟨none, 0, [], HIT.out⟩⟩
      case round =>
        clear HIT
        obtain ⟨j, hj, rfl, HJR⟩ := hrel
        obtain ⟨sa, sc, ys, hit⟩ := HJR.out
        clear HJR
        obtain ⟨wq, hwq⟩ : ∃ x, x = wr := ⟨_, rfl⟩
        subst hwq
        have d3 := HC5.out wq hit.bel 3 _ rfl
        simp only [Nat.zero_add] at d3
        by_cases hlj : j < m
        · as_aux_lemma =>
          have r0 : (0 : Int) ≤ j := by omega
          have r1 : (j : Int) < (m : Nat) := by omega
          have jL : j < C[k].S.length := by have := HD.out.2.1; omega
          obtain ⟨g2, o2, cc2, a3, c3, hve, hXg2, hr, hkd6, hIv⟩ := SjV.at HD.out.1 jL
          simp only [Value.slice.injEq] at hve
          obtain ⟨rfl, hz, rfl⟩ := hve
          clear hz
          have hwI : wI (C[k].S[j]).I ≤ 1048576 := by
            have h1 := wS_mem (List.getElem_mem jL)
            have h2 := HD.out.2.2.2.2.2
            omega
          obtain ⟨sj, hsj⟩ : ∃ s, s = C[k].S[j] := ⟨_, rfl⟩
          rw [← hsj] at hr hkd6 hIv hwI
          obtain ⟨m3, hm3⟩ : ∃ m, m = sj.I.length := ⟨_, rfl⟩
          rw [← hm3] at hr hIv
          have HTK := Lib.hid (show (C[k].S.take (j + 1)).map bSj = (C[k].S.take j).map bSj ++ [bSj sj] by rw [hsj, List.take_succ_eq_append_getElem jL, List.map_append]; rfl)
          have hbw3 : Below g0 w1 wq := HW3.out.1.trans (hit.bel.mono (by have := HBB.out; have := HB5.out; omega))
          have hq := HBW.out wq hbw3
          have hgw : g2 < w.heap.size := HI.out.2.2.2 g2 hXg2
          have hD : Below wq.heap.size wq wq.drew := (Below.refl _ _).drew
          have HIR := Lib.hid (hit.keep hD)
          have b1 := HIR.out.box 1 _ rfl
          have c5 := HC5.out wq.drew HIR.out.bel 3 _ rfl
          simp only [Nat.zero_add] at b1 c5
          have HS0 := Lib.hid (And.intro b1 (And.intro c5 (rg_below hq.drew hgw hr)))
          have HSJ := Lib.hid (And.intro hkd6 (And.intro hm3 (And.intro hwI (And.intro hIv hq.drew))))
          clear hsj hr hkd6 hIv hwI hm3 b1 c5 hit hq hgw hXg2 hbw3
          go_upto_region 14 with fail
          clear d3 hD
          refine Pl.wp_region_split (fun w' => w'.cell? ⟨b, 1, none⟩ = some (.slice sa j sc) ∧ w'.cell? ⟨b5, 3, none⟩ = some (.slice (some ⟨g2, o2, none⟩) m c2) ∧ w'.rangeAt g2 (o2 + j * 4) (sj4 sj.wr sj.kd sj.nm a3 m3 c3)) 9 (by kernel_rfl) (by kernel_rfl) ?_
          simp only [List.take_succ_cons, List.take_zero]
          have hHeld := HS0.out
          refine Pl.take_l (i := 0) (v := ?v1032) rfl (by kernel_rfl) (by kernel_rfl) (by kernel_rfl) (fun _ _ _ h => h) rfl ?hy1032 hHeld ?rest1032
          case hy1032 => (intro w hSw; (try dsimp only at hSw); (obtain ⟨_, _, _⟩ := hSw); go_simp <;> (try with_reducible rfl))
          try simp only [Act.put, List.setIfInBounds_toArray, List.set_cons_zero, List.set_cons_succ]
          refine Pl.take_l (i := 1) (v := ?v1033) rfl (by kernel_rfl) (by kernel_rfl) (by kernel_rfl) (fun _ _ _ h => h) rfl ?hy1033 hHeld ?rest1033
          case hy1033 => (intro w hSw; (try dsimp only at hSw); (obtain ⟨_, _, _⟩ := hSw); go_simp <;> (try with_reducible rfl))
          try simp only [Act.put, List.setIfInBounds_toArray, List.set_cons_zero, List.set_cons_succ]
          refine Pl.take_l (i := 2) (v := ?v1034) rfl (by kernel_rfl) (by kernel_rfl) (by kernel_rfl) (fun _ _ _ h => h) rfl ?hy1034 hHeld ?rest1034
          case hy1034 => (intro w hSw; (try dsimp only at hSw); (obtain ⟨_, _, _⟩ := hSw); go_simp <;> (try with_reducible rfl))
          try simp only [Act.put, List.setIfInBounds_toArray, List.set_cons_zero, List.set_cons_succ]
          refine Pl.take_l (i := 3) (v := ?v1035) rfl (by kernel_rfl) (by kernel_rfl) (by kernel_rfl) (fun _ _ _ h => h) rfl ?hy1035 hHeld ?rest1035
          case hy1035 => (intro w hSw; (try dsimp only at hSw); (obtain ⟨_, _, _⟩ := hSw); go_simp <;> (try with_reducible rfl))
          try simp only [Act.put, List.setIfInBounds_toArray, List.set_cons_zero, List.set_cons_succ]
          refine Pl.take_l (i := 4) (v := ?v1036) rfl (by kernel_rfl) (by kernel_rfl) (by kernel_rfl) (fun _ _ _ h => h) rfl ?hy1036 hHeld ?rest1036
          case hy1036 => (intro w hSw; (try dsimp only at hSw); (obtain ⟨_, _, _⟩ := hSw); go_simp <;> (try with_reducible rfl))
          try simp only [Act.put, List.setIfInBounds_toArray, List.set_cons_zero, List.set_cons_succ]
          refine Pl.take_l (i := 5) (v := ?v1037) rfl (by kernel_rfl) (by kernel_rfl) (by kernel_rfl) (fun _ _ _ h => h) rfl ?hy1037 hHeld ?rest1037
          case hy1037 => (intro w hSw; (try dsimp only at hSw); (obtain ⟨_, _, _⟩ := hSw); go_simp <;> (try with_reducible rfl))
          try simp only [Act.put, List.setIfInBounds_toArray, List.set_cons_zero, List.set_cons_succ]
          refine Pl.take_l (i := 6) (v := .agg #[.bool sj.wr, .int .u8 (sj.kd : Nat), .string sj.nm, .slice a3 m3 c3]) rfl (by kernel_rfl) (by kernel_rfl) (by kernel_rfl) (fun _ _ _ h => h) rfl (fun w hSw => ex_load 58 (.tmp 50) rfl g2 (o2 + j * 4) rfl (sj4 sj.wr sj.kd sj.nm a3 m3 c3) tS (hSw.2.2) hS hS2 szSj) hHeld ?_
          try simp only [Act.put, List.setIfInBounds_toArray, List.set_cons_zero, List.set_cons_succ]
          generalize World.drew _ = wd at *
          have hXd : ∀ b, X b → b < wd.heap.size := fun b h => Nat.lt_of_lt_of_le (HI.out.2.2.2 b h) HSJ.out.2.2.2.2.size
          have HBSU := Lib.hid (bsu_any X sj a3 m3 c3 wd HSJ.out.1 HSJ.out.2.1 (HSJ.out.2.2.2.1.to (To.below HI.out.2.2.2 HSJ.out.2.2.2.2)) hXd HSJ.out.2.2.1)
          clear hXd
          refine Pl.alone_l (i := 7) (by kernel_rfl) rfl (fun K hK => ?_)
          go_simp; refine HBSU.out.mono ?_; rintro e w6 ⟨xv, rfl, hq1, hq2, hq3, hq4⟩; have HQ := Lib.hid (And.intro hq1 (And.intro hq2 hq3)); clear hq1 hq2 hq3 hq4; dsimp only
          refine hK.out _ _ (⟨later HQ.out.2.1 HS0.out.1, later HQ.out.2.1 HS0.out.2.1, rg_keep HQ.out.2.1 HS0.out.2.2⟩) (fun hHeld2 => ?_)
          clear hK K hHeld
          have hHeld := hHeld2
          clear hHeld2
          try simp only [Act.put, List.setIfInBounds_toArray, List.set_cons_zero, List.set_cons_succ]
          have hbs := bs_sub xv w6
          have hal : Below w6.heap.size w6 (w6.alloc (.cells #[xv, .int .i32 0, .int .i32 0] 119)) := (Below.refl _ _).alloc (Nat.le_refl _) _
          obtain ⟨w7, hw7⟩ : ∃ x, x = w6.alloc (.cells #[xv, .int .i32 0, .int .i32 0] 119) := ⟨_, rfl⟩
          have hblk := heap_alloc_new w6 (.cells #[xv, .int .i32 0, .int .i32 0] 119)
          have hz7 : w7.heap.size = w6.heap.size + 1 := by rw [hw7, World.size_alloc]
          rw [← hw7] at hal hbs hblk
          have hb7 := HQ.out.2.1.trans (hal.mono HQ.out.2.1.size)
          have HIR7 := Lib.hid (HIR.out.keep hb7)
          have htl : ((C[k].S.take j).map bSj).length = j := by rw [List.length_map, List.length_take]; omega
          have HBO := Lib.hid (show w7.ownsRow (b + 1) 119 3 (.slice sa j sc) j (ys.flatMap Sx.cells) by have := HIR7.out.cp.row; dsimp only at this; rw [htl] at this; exact this)
          have HZ7 := Lib.hid (And.intro hblk (And.intro hz7 (And.intro (show b + 1 ≤ w7.heap.size by have := HIR7.out.bs; omega) (And.intro hal htl))))
          have HS7 := Lib.hid (And.intro (later hb7 HS0.out.1) (And.intro (later hb7 HS0.out.2.1) (rg_keep hb7 HS0.out.2.2)))
          have hxone := HQ.out.2.2
          have HAL := Lib.hid hal
          clear hw7 hal hblk hz7 hb7 htl
          refine Pl.alone_l (i := 8) (by kernel_rfl) rfl (fun K hK => ?_)
          refine step_bs1 rfl 30 (.tmp 52) rfl _ _ _ ?hx hbs ?_; case hx => (show _ = _; rfl)
          refine hK.out _ _ HS7.out (fun hHeld2 => ?_)
          clear hK K hHeld
          have hHeld := hHeld2
          clear hHeld2
          try simp only [Act.put, List.setIfInBounds_toArray, List.set_cons_zero, List.set_cons_succ]
          refine wpAnyH_done (by kernel_rfl) ?_ _
          refine Pl.behind_normal (by decide) ?_
          simp only [List.drop_succ_cons, List.drop_zero]
          clear hHeld
          obtain ⟨g7, hg7⟩ : ∃ x, x = w6.heap.size := ⟨_, rfl⟩
          rw [← hg7] at HZ7 ⊢
          clear hg7 hbs
          refine wpList_append_lies _ rfl (.tmp 46) (.tmp 53) _ rfl (b + 1) 119 i1 _ 3 24 Try.underlying30 HK.out.1 HK.out.2.1 HK.out.2.2.1 HK.out.2.2.2 rfl (by omega) (.slice sa j sc) j (ys.flatMap Sx.cells) ?hs HBO.out ⟨g7, 0, none⟩ 1 1 (sbc xv) ?hx (by rfl) (World.news_of_block HZ7.out.1) (by
            intro u hu
            simp only [sbc, List.mem_cons, List.not_mem_nil, or_false] at hu
            rcases hu with rfl | rfl | rfl
            · exact hxone
            all_goals rfl) (by omega) (by unfold maxLen; omega) (by omega) HZ7.out.2.2.1 (g7 + 1) (by rw [HZ7.out.2.1]) ?_
          case hs => exact rfl
          case hx => exact rfl
          intro g8 cap8 w8 hown8 hgrow8 hat8 hlt8
          have hown : ∀ y, (Value.slice sa j sc).ownBlock = some y → b < y := fun y hy => by have := (HBO.out.lt y hy).1; omega
          have hbb : w8.heap[b]? = w7.heap[b]? := hgrow8.block b HIR7.out.bs (fun e => by have := hown b e.symm; omega)
          have t8 := th_ag hbb HIR7.out.thr
          have z8 := (t8 1 (by omega)).2
          have u8 := cell_ag hbb HS7.out.1
          simp only [Nat.zero_add] at z8
          have HNX := Lib.hid (HIR.out.push (v' := .slice (some ⟨g8, 0, none⟩) (j + 1) cap8) HQ.out.1 HQ.out.2.1 HAL.out (by dsimp only; rw [HZ7.out.2.2.2.2]; exact hown8) hgrow8 (by
            rcases hat8 with h | h
            · exact .inl h.symm
            · refine .inr (fun y hy => ?_)
              have : g8 = y := by simpa [Value.ownBlock] using hy
              have := HZ7.out.2.1
              omega))
          dsimp only at HNX
          rw [← HTK.out] at HNX
          clear hown8 hgrow8 hat8 hlt8 hown hbb t8 HBO HIR HIR7 HQ HS0 HS7 hxone
          go_wp2_with fail
          exact ⟨⟨j + 1, by omega, by go_num, Lib.hid ⟨_, _, _, HNX.out⟩⟩, by simp [intOf]; omega⟩
        · as_aux_lemma =>
          obtain rfl : j = m := by omega
          have htk : C[k].S.take j = C[k].S := List.take_of_length_le (by have := HD.out.2.1; omega)
          have hcp : (⟨tyO ty, (C[k].S.take j).map bSj, am, combN cb, false⟩ : Cp Su) = bCo C[k] := by
            rw [htk, HD.out.2.2.1, HD.out.2.2.2.1, HD.out.2.2.2.2.1]
            rfl
          rw [hcp] at hit
          obtain ⟨x, hx⟩ : ∃ x : Cv, x = ⟨tv, .slice sa j sc, .slice la am lc, combN cb, false⟩ := ⟨_, rfl⟩
          rw [← hx] at hit
          have hone : ∀ u ∈ x.cells, u.oneCell' = true := by
            intro u hu
            have ht := hit.cp.ty.own
            subst hx
            simp only [Cv.cells, List.mem_cons, List.not_mem_nil, or_false] at hu
            rcases hu with rfl | rfl | rfl | rfl | rfl | rfl
            · exact ht
            all_goals rfl
          have hbs := bs_cmp x wq
          have hal : Below wq.heap.size wq (wq.alloc (.cells x.cells.toArray 37)) := (Below.refl _ _).alloc (Nat.le_refl _) _
          obtain ⟨w7, hw7⟩ : ∃ x', x' = wq.alloc (.cells x.cells.toArray 37) := ⟨_, rfl⟩
          have hblk := heap_alloc_new wq (.cells x.cells.toArray 37)
          have hz7 : w7.heap.size = wq.heap.size + 1 := by rw [hw7, World.size_alloc]
          rw [← hw7] at hal hbs hblk
          obtain ⟨zs, hzs⟩ := HY3.out
          have hzs7 : SelT g0 (.slice ka k kc) ((C.take k).map bCo) zs w7 := (hzs.keep (by rw [← HBB.out]; exact hit.bel)).keep hal
          have hzo := hzs
          obtain ⟨hy1, hy2, hy3, hy4, hy5⟩ := hzo
          have hkl : ((C.take k).map bCo).length = k := by rw [List.length_map, List.length_take]; omega
          have hcpI : CpT w7 ⟨x, b + 1, wq.heap.size, ys⟩ (bCo C[k]) := hit.cp.to (fun y hy => hal.block y hy.2) hal.size
          have HYS := Lib.hid (And.intro hzs7 (And.intro hcpI (show (∀ z ∈ zs, z.hi ≤ b + 1) ∧ (∀ y, (Value.slice ka k kc).ownBlock = some y → ¬ InC ⟨x, b + 1, wq.heap.size, ys⟩ y) ∧ g0 ≤ b + 1 from
            ⟨fun z hz => by
              obtain ⟨i, hi, rfl⟩ := List.mem_iff_getElem.1 hz
              have := (hy5 i hi (by omega)).hi
              have := HBB.out
              omega, fun y hy hin => by
              have h1 := (hy2.lt y hy).2
              have h2 := hin.1
              have h3 := HBB.out
              dsimp only at h2
              omega, by have := HBB.out; have := HB5.out; omega⟩)))
          have HOC := Lib.hid (show w7.ownsRow g0 37 6 (.slice ka k kc) k (zs.flatMap Tc.cells) by have := hzs7.2.1; rw [hkl] at this; exact this)
          have HONE := Lib.hid hone
          have HZ7 := Lib.hid (And.intro hblk (And.intro hz7 (show g0 ≤ w7.heap.size by have := hit.bs; have := HBB.out; have := HB5.out; omega)))
          have hbw3 : Below g0 w1 wq := HW3.out.1.trans (hit.bel.mono (by have := HBB.out; have := HB5.out; omega))
          have HBX := Lib.hid (And.intro hit.box (And.intro (show Below g0 w1 w7 from hbw3.trans (hal.mono (by have := hit.bs; have := HBB.out; have := HB5.out; omega))) (And.intro hkl hit.bs)))
          clear htk hcp hone hw7 hal hblk hz7 hzs hzs7 hy1 hy2 hy3 hy4 hy5 hkl hcpI hit hbw3
          obtain ⟨g7, hg7⟩ : ∃ x', x' = wq.heap.size := ⟨_, rfl⟩
          rw [← hg7] at HZ7 hbs HYS
          have HG7 := Lib.hid hg7
          clear hg7
          go_wp2_with (first
            | (refine wpList_load_mid rfl 37 _ rfl b 0 rfl x.cells tC HBX.out.1 hC hC2 szCmp ?_)
            | (refine wpl_bs1 rfl 38 (.tmp 57) rfl _ _ _ ?hx hbs ?_; case hx => (show _ = _; rfl))
            | (at_builtin
               refine wpList_append_lies _ rfl (.tmp 56) (.tmp 58) _ rfl g0 37 i0 _ 6 72 Try.underlying38 HJ.out.1 HJ.out.2.1 HJ.out.2.2.1 HJ.out.2.2.2 rfl (by omega) (.slice ka k kc) k (zs.flatMap Tc.cells) ?hs HOC.out ⟨g7, 0, none⟩ 1 1 x.cells ?hx (by rfl) (World.news_of_block HZ7.out.1) HONE.out (by omega) (by unfold maxLen; omega) (by omega) HZ7.out.2.2 (g7 + 1) (by rw [HZ7.out.2.1]) ?_; (case hs => exact rfl); (case hx => exact rfl)
               intro g8 cap8 w8 hown8 hgrow8 hat8 hlt8))
          have hnx : SelT g0 (.slice (some ⟨g8, 0, none⟩) (k + 1) cap8) ((C.take (k + 1)).map bCo) (zs ++ [⟨x, b + 1, g7, ys⟩]) w8 := by
            have e : (C.take (k + 1)).map bCo = (C.take k).map bCo ++ [bCo C[k]] := by rw [List.take_succ_eq_append_getElem kL, List.map_append]; rfl
            rw [e]
            refine SelT.push HYS.out.1 HYS.out.2.1 HYS.out.2.2.2.2 (by show b + 1 ≤ g7; rw [HG7.out]; exact HBX.out.2.2.2) HYS.out.2.2.1 HYS.out.2.2.2.1 (by rw [HBX.out.2.2.1]; exact hown8) hgrow8 ?_
            rcases hat8 with h | h
            · exact .inl h.symm
            · refine .inr (fun y hy => ?_)
              have : g8 = y := by simpa [Value.ownBlock] using hy
              have := HZ7.out.2.1
              omega
          have hbw : Below g0 w1 w8 := HBX.out.2.1.grown hgrow8 HZ7.out.2.2 (fun y hy => (HOC.out.lt y hy).1)
          exact ⟨⟨k + 1, _, cap8, by omega, rfl, by go_num, Lib.hid ⟨_, hnx⟩, Lib.hid hbw⟩, by simp [intOf]; omega⟩
    · as_aux_lemma =>
      obtain rfl : k = n := by omega
      obtain ⟨zs, hzs⟩ := HY.out
      rw [show C.take k = C from List.take_of_length_le (by have := HI.out.2.1; omega)] at hzs
      have hth : wr.there b2 0 1 := th_below HW.out (by have := HG0.out; omega) HG0.out.2.2.2.1
      have HTH := Lib.hid hth
      have hone : (#[.slice ka k kc] : Array Value).all (·.oneCell') = true := by simp [Value.oneCell']
      have hres := World.rangeAt_setCells_same wr b2 0 [.slice ka k kc] hth
      have hfin : BcP C w (.returned (.agg #[.slice ka k kc])) (wr.setCells b2 0 [.slice ka k kc]) := by
        have hG := HG0.out
        have hz := HW.out.size
        refine ⟨.slice ka k kc, zs, rfl, ?_, below_setCells (by omega) _ _ (hG.2.2.2.2.trans (HW.out.mono (by omega)))⟩
        rw [show w.heap.size + 1 = g0 by omega]
        obtain ⟨p1, p2, p3, p4, p5⟩ := hzs
        refine ⟨p1, own_ag p2 (fun y hy => hso b2 _ 0 wr (by have := (p2.lt y hy).1; omega)), p3, p4, fun i q r => (p5 i q r).to (fun y hy => hso b2 _ 0 wr (by have := (p4 _ (List.getElem_mem q)).1; have := hy.1; omega)) (by rw [size_setCells]; exact Nat.le_refl _)⟩
      have HFIN := Lib.hid hfin
      clear hth hfin hzs
      go_wp2_with (refine wpList_store_mid rfl 40 _ _ rfl b2 0 #[.slice ka k kc] ?ha ?hv HTH.out szCpl hone ?_; (case ha => exact rfl); (case hv => exact rfl); (change wpList _ _ _ _ _ (World.setCells _ b2 0 [.slice ka k kc])); generalize World.setCells _ _ _ _ = w9 at *)
      exact bodyPost_ret (results_cell_mid rfl _ _ b2 0 [.slice ka k kc] tX rfl hres hXx hX2 szCpl) rfl HFIN.out
end Go.Proofs.Ytbpnmiedomchpaa.Fg
