/-
  The builder of inner compounds.
-/
import Derived.Test.YtbpnmiedomchpaaFf
namespace Go.Proofs.Ytbpnmiedomchpaa.Fg
open Go.ChangeShapes Go.WideShapes Go.ChangeAt Go.RowKit Rg
set_option linter.unusedVariables false
set_option linter.unusedSimpArgs false
theorem u8_i64 (x : Nat) (h : x < 256) : IntKind.i64.wrap (x : Int) = (x : Int) := by
  simp [IntKind.wrap, IntKind.bits, IntKind.signed]
  omega
def BiP (I : List In) (w : World) (e : Ending) (w' : World) : Prop :=
  ∃ v, e = .returned v ∧ Wr w.heap.size w'.heap.size w' v (I.map bIn) ∧ Below w.heap.size w w'
theorem TyV.own {X : Nat → Prop} {w : World} {v : Value} {t : Option ByteArray} (h : TyV X w v t) : v.oneCell' = true := by
  cases t with
  | none => rw [show v = .pointer none from h]; rfl
  | some t => obtain ⟨p, rfl, -⟩ := h; rfl
set_option maxRecDepth 100000 in
set_option maxHeartbeats 16000000 in
theorem bin_any (X : Nat → Prop) (v : Value) (I : List In) (w : World) (hv : InV X w v I) (hX : ∀ b, X b → b < w.heap.size) (hl : wI I ≤ 1048576) :
    Calls Try.prog 29 #[v] w (BiP I w) := by
  obtain ⟨va, vc, hve⟩ := RW.slice hv
  obtain ⟨n, hn⟩ : ∃ n, n = I.length := ⟨_, rfl⟩
  rw [← hn] at hve
  subst hve
  have hn4 : n ≤ 1048576 := by rw [hn]; exact Nat.le_trans (wI_len _) hl
  have HI := Lib.hid (And.intro hv (And.intro hn (And.intro hl hX)))
  obtain ⟨i0, hi, hz0, hz1, hz2⟩ := info_parts infoCmp
  have hmk : ∀ W : World, (Instr.makeSlice 38 (.int .i64 0) (.int .i64 (n : Int))).run Try.prog W = .ok (.slice (some ⟨W.heap.size, 0, none⟩) 0 n) (W.alloc (.cells (madeCells #[.pointer none, .slice none 0 0, .slice none 0 0, .int .i32 0, .int .u8 0, .bool false] (n * 6)) 37)) := fun W => by
    have h := run_make_rowN (P := Try.prog) 38 37 i0 _ (by kernel_rfl) hi hz0 .i64 .i64 0 n (by omega) (by rw [hz2]; omega) (by omega) W
    rw [hz1] at h
    exact h
  have HJ := Lib.hid (And.intro hi (And.intro hz0 (And.intro hz1 hz2)))
  clear hi hz0 hz1 hz2
  obtain ⟨i1, hi, hz0, hz1, hz2⟩ := info_parts infoSub
  have HK := Lib.hid (And.intro hi (And.intro hz0 (And.intro hz1 hz2)))
  obtain ⟨tC, hC, hC2⟩ := tyCmp
  clear hv hn hl hX hi hz0 hz1 hz2
  go_enter Try.func29, Try.ntmps29
  go_upto_block 0 with fail
  have HST := Lib.hid (show Ins w.heap.size (.slice (some ⟨w.heap.size, 0, none⟩) 0 n) [] [] (w.alloc (.cells (madeCells #[.pointer none, .slice none 0 0, .slice none 0 0, .int .i32 0, .int .u8 0, .bool false] (n * 6)) 37)) ∧ Below w.heap.size w (w.alloc (.cells (madeCells #[.pointer none, .slice none 0 0, .slice none 0 0, .int .i32 0, .int .u8 0, .bool false] (n * 6)) 37)) from
    ⟨⟨rfl, by simpa using World.ownsRow_made w (madeCells #[.pointer none, .slice none 0 0, .slice none 0 0, .int .i32 0, .int .u8 0, .bool false] (n * 6)) n (Nat.le_refl _) (by unfold maxLen; omega) (by simp [madeCells]), by simp, (fun y hy => (by cases hy)), (fun i h => absurd h (Nat.not_lt_zero _))⟩, (Below.refl _ _).alloc (Nat.le_refl _) _⟩)
  generalize World.alloc w _ = w1 at *
  obtain ⟨g0, hg0⟩ : ∃ x, x = w.heap.size := ⟨_, rfl⟩
  rw [← hg0] at HST ⊢
  have HG0 := Lib.hid hg0
  clear hmk hg0
  refine wp_block ?_
  go_loopw [3, 4] (fun cv iv wr => ∃ (k : Nat) (ka : Option Addr) (kc : Nat), k ≤ n ∧ cv = .slice ka k kc ∧ iv = .int .i64 k ∧ Hid (∃ ys, Ins g0 (.slice ka k kc) ((I.take k).map bIn) ys wr) ∧ Hid (Below g0 w wr)) (fun _ iv _ => n - (intOf iv).toNat)
  case atStart => exact ⟨0, some ⟨g0, 0, none⟩, n, Nat.zero_le _, rfl, rfl, Lib.hid ⟨[], HST.out.1⟩, Lib.hid HST.out.2⟩
  case round =>
    clear HST
    obtain ⟨k, ka, kc, hk, rfl, rfl, HY, HW⟩ := hrel
    by_cases hlt : k < n
    · as_aux_lemma =>
      have q0 : (0 : Int) ≤ k := by omega
      have q1 : (k : Int) < (n : Nat) := by omega
      have kL : k < I.length := by have := HI.out.2.1; omega
      obtain ⟨g, o, cc, a2, c2, hve, hXg, hr, ⟨hcb, hty, ham⟩, hN⟩ := InV.at HI.out.1 kL
      simp only [Value.slice.injEq] at hve
      obtain ⟨rfl, hz, rfl⟩ := hve
      clear hz
      have hwN : wN I[k].N ≤ 1048576 := Nat.le_trans (wI_mem (List.getElem_mem kL)) HI.out.2.2.1
      obtain ⟨m, hm⟩ : ∃ m, m = I[k].N.length := ⟨_, rfl⟩
      have hm4 : m ≤ 1048576 := by rw [hm]; exact Nat.le_trans (wN_len _) hwN
      obtain ⟨cb, hcbe⟩ : ∃ x, x = I[k].cb := ⟨_, rfl⟩
      obtain ⟨ty, htye⟩ : ∃ x, x = I[k].ty := ⟨_, rfl⟩
      obtain ⟨am, hame⟩ : ∃ x, x = I[k].am := ⟨_, rfl⟩
      rw [← hm, ← hcbe, ← htye, ← hame] at hr
      rw [← hm] at hN
      rw [← hcbe] at hcb
      rw [← htye] at hty
      rw [← hame] at ham
      have hgw : g < w.heap.size := HI.out.2.2.2 g hXg
      have HD := Lib.hid (And.intro (show w.rangeAt g (o + k * 4) (in4 cb ty am a2 m c2) from hr) (And.intro hN (And.intro hm (And.intro hcbe (And.intro htye (And.intro hame (And.intro hwN hgw)))))))
      have hwr : ∀ W, Below w.heap.size w W → W.rangeAt g (o + k * 4) (in4 cb ty am a2 m c2) := fun W hb => rg_below hb hgw hr
      have HWR := Lib.hid hwr
      clear hr hN hm hcbe htye hame hwN hgw hXg hwr
      go_upto_region 6 with fail
      have hir := Ir.start loc0 wr 37
      change Code.wp _ _ _ _ (wr.alloc (.cells (Cv.cells ⟨.pointer none, .slice none 0 0, .slice none 0 0, 0, false⟩).toArray 37))
      generalize wr.alloc _ = w2 at *
      obtain ⟨b, hb⟩ : ∃ b, b = wr.heap.size := ⟨_, rfl⟩
      rw [← hb] at hir ⊢
      have hgb : w.heap.size ≤ b := by rw [hb]; exact HW.out.size
      have HBB := Lib.hid (And.intro hb hgb)
      have hww : ∀ W, Below b wr W → Below w.heap.size w W := fun W h => (by have := HW.out; rw [HG0.out] at this; exact this.trans (h.mono hgb))
      have HWW := Lib.hid hww
      have d0 := HWR.out w2 (hww _ hir.bel) 0 _ rfl
      have b4 := hir.box 4 _ rfl
      have z4 := (hir.thr 4 (by decide)).2
      simp only [Nat.zero_add, Nat.add_zero] at d0 b4 z4
      have HI2 := Lib.hid hir
      clear hb hgb hww hir
      go_upto_region 7 with (go_at_call 19; refine (comb_any cb hcb w2).mono ?_; rintro e w5 ⟨rfl, hw⟩; rw [← hw]; clear hw)
      have hir := HI2.out.set loc0 (k := 4) (v := .int .u8 (combN cb : Nat)) (x' := ⟨.pointer none, .slice none 0 0, .slice none 0 0, combN cb, false⟩) (c' := ⟨none, [], 0, combN cb, false⟩) (by decide) rfl rfl rfl HI2.out.ty HI2.out.lc rfl rfl (combN_lt _)
      generalize World.setCell w2 _ _ = w3 at *
      have d1 := HWR.out w3 (HWW.out _ hir.bel) 1 _ rfl
      have b0 := hir.box 0 _ rfl
      have z0 := (hir.thr 0 (by decide)).2
      simp only [Nat.zero_add, Nat.add_zero] at b0 z0
      have HI3 := Lib.hid hir
      clear hir d0 b4 z4 HI2
      clear w2
      obtain ⟨tb, htb⟩ : ∃ tb, tb = ((ty : Int) == 0) := ⟨_, rfl⟩
      have htb2 := htb.symm
      have HTB := Lib.hid htb
      clear htb
      as_aux_lemma =>
      go_upto_if 29 with fail
      go_cut [] (fun wx => Hid (∃ tv, Ir e0 b wr b ⟨tv, .slice none 0 0, .slice none 0 0, combN cb, false⟩ ⟨tyO ty, [], 0, combN cb, false⟩ wx))
      case first =>
        cases tb with
        | true =>
          as_aux_lemma =>
          have HT := Lib.hid (show ty = 0 by have := HTB.out; have h := beq_iff_eq.1 this.symm; omega)
          go_wp2_with fail
          go_meet
          exact Lib.hid ⟨.pointer none, by rw [HT.out]; exact HI3.out⟩
        | false =>
          as_aux_lemma =>
          have HT := Lib.hid (show ty ≠ 0 by have := HTB.out; have h := beq_eq_false_iff_ne.1 this.symm; omega)
          have t1 : ¬ (ty : Int) = 0 := by have := HT.out; omega
          clear htb2
          go_wp2_with fail
          refine (type_any ty hty w3).mono ?_
          rintro e w4 ⟨p, rfl, hp, hp1, hp2, hb4⟩
          have hir := HI3.out.keep loc0 hb4
          have hbs := HI3.out.bs
          have b0 := hir.box 0 _ rfl
          have z0 := (hir.thr 0 (by decide)).2
          simp only [Nat.zero_add, Nat.add_zero] at b0 z0
          have HIN := Lib.hid (hir.set loc0 (k := 0) (v := .pointer (some ⟨p, 0, none⟩)) (x' := ⟨.pointer (some ⟨p, 0, none⟩), .slice none 0 0, .slice none 0 0, combN cb, false⟩) (c' := ⟨tyO ty, [], 0, combN cb, false⟩) (by decide) rfl rfl rfl
            (by unfold tyO; rw [if_neg HT.out]; exact ⟨p, rfl, ⟨⟨by omega, hp2⟩, by intro q; cases q⟩, hp⟩) hir.lc rfl rfl (combN_lt _))
          clear hir hp hp1 hp2 hb4 hbs
          go_wp2_with fail
          go_meet
          exact Lib.hid ⟨_, HIN.out⟩
      case rest =>
      obtain ⟨tv, hir⟩ := hcut.out
      clear hcut d1 b0 z0 htb2 HTB HI3
      as_aux_lemma =>
      have d2 := HWR.out wc (HWW.out _ hir.bel) 2 _ rfl
      have ham2 := u8_i64 am ham
      have HI4 := Lib.hid hir
      clear hir
      go_wp2_with fail
      refine (nest_any am ham wc).mono ?_
      rintro e w4 ⟨la, lc, rfl, hlc, hb4⟩
      have hir := HI4.out.keep loc0 hb4
      have hbs := HI4.out.bs
      have b2 := hir.box 2 _ rfl
      have z2 := (hir.thr 2 (by decide)).2
      simp only [Nat.zero_add] at b2 z2
      have HIN := Lib.hid (hir.set loc0 (k := 2) (v := .slice la am lc) (x' := ⟨tv, .slice none 0 0, .slice la am lc, combN cb, false⟩) (c' := ⟨tyO ty, [], am, combN cb, false⟩) (by decide) rfl rfl rfl hir.ty
        (hlc.to (To.same fun y hy => ⟨⟨by omega, hy.2⟩, by intro q; cases q⟩)) rfl rfl (combN_lt _))
      clear hir hlc hb4 hbs d2 ham2 HI4
      go_upto_block 2 with fail
      clear b2 z2
      generalize World.setCell w4 _ _ = w5 at *
      as_aux_lemma =>
      obtain ⟨wo, hwo⟩ : ∃ x, x = wr := ⟨_, rfl⟩
      subst hwo
      refine wp_block ?_
      go_loopw [6] (fun jv wq => ∃ (j : Nat), j ≤ m ∧ jv = .int .i64 j ∧ Hid (∃ sa sc, Ir e0 b wo b ⟨tv, .slice sa j sc, .slice la am lc, combN cb, false⟩ ⟨tyO ty, I[k].N.take j, am, combN cb, false⟩ wq)) (fun jv _ => m - (intOf jv).toNat)
      case atStart => exact ⟨0, Nat.zero_le _, rfl, Lib.hid ⟨none, 0, HIN.out⟩⟩
      case round =>
        clear HIN
        obtain ⟨j, hj, rfl, HJR⟩ := hrel
        obtain ⟨sa, sc, hir⟩ := HJR.out
        clear HJR
        obtain ⟨wq, hwq⟩ : ∃ x, x = wr := ⟨_, rfl⟩
        subst hwq
        have hq := HWW.out _ hir.bel
        have d3 := later hq (HD.out.1 3 _ rfl)
        by_cases hlj : j < m
        · as_aux_lemma =>
          have r0 : (0 : Int) ≤ j := by omega
          have r1 : (j : Int) < (m : Nat) := by omega
          have jL : j < I[k].N.length := by have := HD.out.2.2.1; omega
          obtain ⟨g2, o2, cc2, hve, -, hc⟩ := NmV.at HD.out.2.1 jL
          simp only [Value.slice.injEq] at hve
          obtain ⟨rfl, hz, rfl⟩ := hve
          clear hz
          obtain ⟨nm, hnm⟩ : ∃ x, x = I[k].N[j] := ⟨_, rfl⟩
          rw [← hnm] at hc
          have HTK := Lib.hid (show I[k].N.take (j + 1) = I[k].N.take j ++ [nm] by rw [hnm]; exact List.take_succ_eq_append_getElem jL)
          have hD : Below wq.heap.size wq wq.drew := (Below.refl _ _).drew
          have HIR := Lib.hid (hir.keep loc0 hD)
          have b1 := HIR.out.box 1 _ rfl
          simp only [Nat.zero_add] at b1
          have HS0 := Lib.hid (And.intro b1 (And.intro (later hq.drew (HD.out.1 3 _ rfl)) (later hq.drew hc)))
          clear hnm hc b1 hir hq
          go_upto_region 13 with fail
          clear d3 hD
          refine Pl.wp_region_split (fun w' => w'.cell? ⟨b, 1, none⟩ = some (.slice sa j sc) ∧ w'.cell? ⟨g, o + k * 4 + 3, none⟩ = some (.slice (some ⟨g2, o2, none⟩) m c2) ∧ w'.cell? ⟨g2, o2 + j, none⟩ = some (.string nm)) 12 (by kernel_rfl) (by kernel_rfl) ?_
          simp only [List.take_succ_cons, List.take_zero]
          have hHeld := HS0.out
          refine Pl.take_l (i := 0) (v := ?v1022) rfl (by kernel_rfl) (by kernel_rfl) (by kernel_rfl) (fun _ _ _ h => h) rfl ?hy1022 hHeld ?rest1022
          case hy1022 => (intro w hSw; (try dsimp only at hSw); (obtain ⟨_, _, _⟩ := hSw); go_simp <;> (try with_reducible rfl))
          try simp only [Act.put, List.setIfInBounds_toArray, List.set_cons_zero, List.set_cons_succ]
          refine Pl.take_l (i := 1) (v := ?v1023) rfl (by kernel_rfl) (by kernel_rfl) (by kernel_rfl) (fun _ _ _ h => h) rfl ?hy1023 hHeld ?rest1023
          case hy1023 => (intro w hSw; (try dsimp only at hSw); (obtain ⟨_, _, _⟩ := hSw); go_simp <;> (try with_reducible rfl))
          try simp only [Act.put, List.setIfInBounds_toArray, List.set_cons_zero, List.set_cons_succ]
          refine Pl.take_l (i := 2) (v := ?v1024) rfl (by kernel_rfl) (by kernel_rfl) (by kernel_rfl) (fun _ _ _ h => h) rfl ?hy1024 hHeld ?rest1024
          case hy1024 => (intro w hSw; (try dsimp only at hSw); (obtain ⟨_, _, _⟩ := hSw); go_simp <;> (try with_reducible rfl))
          try simp only [Act.put, List.setIfInBounds_toArray, List.set_cons_zero, List.set_cons_succ]
          refine Pl.take_l (i := 3) (v := ?v1025) rfl (by kernel_rfl) (by kernel_rfl) (by kernel_rfl) (fun _ _ _ h => h) rfl ?hy1025 hHeld ?rest1025
          case hy1025 => (intro w hSw; (try dsimp only at hSw); (obtain ⟨_, _, _⟩ := hSw); go_simp <;> (try with_reducible rfl))
          try simp only [Act.put, List.setIfInBounds_toArray, List.set_cons_zero, List.set_cons_succ]
          refine Pl.take_l (i := 4) (v := ?v1026) rfl (by kernel_rfl) (by kernel_rfl) (by kernel_rfl) (fun _ _ _ h => h) rfl ?hy1026 hHeld ?rest1026
          case hy1026 => (intro w hSw; (try dsimp only at hSw); (obtain ⟨_, _, _⟩ := hSw); go_simp <;> (try with_reducible rfl))
          try simp only [Act.put, List.setIfInBounds_toArray, List.set_cons_zero, List.set_cons_succ]
          refine Pl.take_l (i := 5) (v := ?v1027) rfl (by kernel_rfl) (by kernel_rfl) (by kernel_rfl) (fun _ _ _ h => h) rfl ?hy1027 hHeld ?rest1027
          case hy1027 => (intro w hSw; (try dsimp only at hSw); (obtain ⟨_, _, _⟩ := hSw); go_simp <;> (try with_reducible rfl))
          try simp only [Act.put, List.setIfInBounds_toArray, List.set_cons_zero, List.set_cons_succ]
          refine Pl.take_l (i := 6) (v := ?v1028) rfl (by kernel_rfl) (by kernel_rfl) (by kernel_rfl) (fun _ _ _ h => h) rfl ?hy1028 hHeld ?rest1028
          case hy1028 => (intro w hSw; (try dsimp only at hSw); (obtain ⟨_, _, _⟩ := hSw); go_simp <;> (try with_reducible rfl))
          try simp only [Act.put, List.setIfInBounds_toArray, List.set_cons_zero, List.set_cons_succ]
          refine Pl.take_l (i := 7) (v := ?v1029) rfl (by kernel_rfl) (by kernel_rfl) (by kernel_rfl) (fun _ _ _ h => h) rfl ?hy1029 hHeld ?rest1029
          case hy1029 => (intro w hSw; (try dsimp only at hSw); (obtain ⟨_, _, _⟩ := hSw); go_simp <;> (try with_reducible rfl))
          try simp only [Act.put, List.setIfInBounds_toArray, List.set_cons_zero, List.set_cons_succ]
          refine Pl.take_l (i := 8) (v := ?v1030) rfl (by kernel_rfl) (by kernel_rfl) (by kernel_rfl) (fun _ _ _ h => h) rfl ?hy1030 hHeld ?rest1030
          case hy1030 => (intro w hSw; (try dsimp only at hSw); (obtain ⟨_, _, _⟩ := hSw); go_simp <;> (try with_reducible rfl))
          try simp only [Act.put, List.setIfInBounds_toArray, List.set_cons_zero, List.set_cons_succ]
          refine Pl.take_l (i := 9) (v := ?v1031) rfl (by kernel_rfl) (by kernel_rfl) (by kernel_rfl) (fun _ _ _ h => h) rfl ?hy1031 hHeld ?rest1031
          case hy1031 => (intro w hSw; (try dsimp only at hSw); (obtain ⟨_, _, _⟩ := hSw); go_simp <;> (try with_reducible rfl))
          try simp only [Act.put, List.setIfInBounds_toArray, List.set_cons_zero, List.set_cons_succ]
          generalize World.drew _ = wd at *
          refine Pl.alone_l (i := 10) (by kernel_rfl) rfl (fun K hK => ?_)
          go_simp; refine (bare_any nm wd).mono ?_; rintro e w6 ⟨q, rfl, hq1, hq2, hq3, hq4⟩; have HQ := Lib.hid (And.intro hq1 (And.intro hq2 (And.intro hq3 hq4))); clear hq1 hq2 hq3 hq4; dsimp only
          refine hK.out _ _ (⟨later HQ.out.2.2.2 HS0.out.1, later HQ.out.2.2.2 HS0.out.2.1, later HQ.out.2.2.2 HS0.out.2.2⟩) (fun hHeld2 => ?_)
          clear hK K hHeld
          have hHeld := hHeld2
          clear hHeld2
          try simp only [Act.put, List.setIfInBounds_toArray, List.set_cons_zero, List.set_cons_succ]
          have hbs := bs_sub (ifP q) w6
          have hal : Below w6.heap.size w6 (w6.alloc (.cells #[ifP q, .int .i32 0, .int .i32 0] 119)) := (Below.refl _ _).alloc (Nat.le_refl _) _
          obtain ⟨w7, hw7⟩ : ∃ x, x = w6.alloc (.cells #[ifP q, .int .i32 0, .int .i32 0] 119) := ⟨_, rfl⟩
          have hblk := heap_alloc_new w6 (.cells #[ifP q, .int .i32 0, .int .i32 0] 119)
          have hz7 : w7.heap.size = w6.heap.size + 1 := by rw [hw7, World.size_alloc]
          rw [← hw7] at hal hbs hblk
          have hb7 := HQ.out.2.2.2.trans (hal.mono HQ.out.2.2.2.size)
          have HIR7 := Lib.hid (HIR.out.keep loc0 hb7)
          obtain ⟨B, hB1, hB2, hB3⟩ := HIR7.out.sub
          have hBL : B.length = (I[k].N.take j).length := hB1
          have htl : (I[k].N.take j).length = j := by rw [List.length_take]; omega
          have HBO := Lib.hid (show w7.ownsRow (b + 1) 119 3 (.slice sa j sc) j (B.flatMap sbc) by rw [← htl]; simpa [htl] using hB2)
          have HBB2 := Lib.hid (And.intro hBL (And.intro hB3 htl))
          have HE := Lib.hid (show e0 (fun y => (b < y ∧ y < w7.heap.size) ∧ some y ≠ (Value.slice sa j sc).ownBlock) w7 (ifP q) nm from
            ⟨q, rfl, ⟨⟨by have := HIR.out.bs; have := HQ.out.2.1; omega, Nat.lt_of_lt_of_le HQ.out.2.2.1 hal.size⟩, fun e => by have := (HIR.out.sub.lt e.symm).2; have := HQ.out.2.1; omega⟩, rg_keep hal HQ.out.1⟩)
          have HZ7 := Lib.hid (And.intro hblk (And.intro hz7 (show b + 1 ≤ w7.heap.size by have := HIR7.out.bs; omega)))
          have HS7 := Lib.hid (And.intro (later hb7 HS0.out.1) (And.intro (later hb7 HS0.out.2.1) (later hb7 HS0.out.2.2)))
          clear hw7 hal hblk hz7 hb7 hB1 hB2 hB3 hBL htl
          refine Pl.alone_l (i := 11) (by kernel_rfl) rfl (fun K hK => ?_)
          refine step_bs1 rfl 30 (.tmp 65) rfl _ _ _ ?hx hbs ?_; case hx => (show _ = _; rfl)
          refine hK.out _ _ HS7.out (fun hHeld2 => ?_)
          clear hK K hHeld
          have hHeld := hHeld2
          clear hHeld2
          try simp only [Act.put, List.setIfInBounds_toArray, List.set_cons_zero, List.set_cons_succ]
          refine wpAnyH_done (by kernel_rfl) ?_ _
          refine Pl.behind_normal (by decide) ?_
          simp only [List.drop_succ_cons, List.drop_zero]
          clear hHeld
          obtain ⟨g7, hg7⟩ : ∃ x, x = w6.heap.size := ⟨_, rfl⟩
          rw [← hg7] at HZ7 ⊢
          clear hg7 hbs
          refine wpList_append_lies _ rfl (.tmp 56) (.tmp 66) _ rfl (b + 1) 119 i1 _ 3 24 Try.underlying30 HK.out.1 HK.out.2.1 HK.out.2.2.1 HK.out.2.2.2 rfl (by omega) (.slice sa j sc) j (B.flatMap sbc) ?hs HBO.out ⟨g7, 0, none⟩ 1 1 (sbc (ifP q)) ?hx (by rfl) (World.news_of_block HZ7.out.1) (by intro u hu; simp [sbc] at hu; rcases hu with rfl | rfl <;> rfl) (by omega) (by unfold maxLen; omega) (by omega) HZ7.out.2.2 (g7 + 1) (by rw [HZ7.out.2.1]) ?_
          case hs => exact rfl
          case hx => exact rfl
          intro g8 cap8 w8 hown8 hgrow8 hat8 hlt8
          have hown : ∀ y, (Value.slice sa j sc).ownBlock = some y → b < y := fun y hy => by have := (HIR7.out.sub.lt hy).1; omega
          have hbb : w8.heap[b]? = w7.heap[b]? := hgrow8.block b HIR7.out.bs (fun e => by have := hown b e.symm; omega)
          have t8 := th_ag hbb HIR7.out.thr
          have z8 := (t8 1 (by omega)).2
          have u8 := cell_ag hbb HS7.out.1
          simp only [Nat.zero_add] at z8
          have HNX := Lib.hid (HIR7.out.push loc0 (v' := .slice (some ⟨g8, 0, none⟩) (j + 1) cap8) HBB2.out.1 HBB2.out.2.1 HE.out (by rw [HBB2.out.2.2]; exact hown8) hgrow8 (by
            rcases hat8 with h | h
            · exact .inl h.symm
            · refine .inr (fun y hy => ?_)
              have : g8 = y := by simpa [Value.ownBlock] using hy
              have := HZ7.out.2.1
              omega))
          rw [← HTK.out] at HNX
          clear hown8 hgrow8 hat8 hlt8 hown hbb t8 HBO HBB2 HE HIR HIR7 HQ HS0 HS7
          go_wp2_with fail
          exact ⟨⟨j + 1, by omega, by go_num, Lib.hid ⟨_, _, HNX.out⟩⟩, by simp [intOf]; omega⟩
        · as_aux_lemma =>
          obtain rfl : j = m := by omega
          have htk : I[k].N.take j = I[k].N := List.take_of_length_le (by have := HD.out.2.2.1; omega)
          have hcp : (⟨tyO ty, I[k].N.take j, am, combN cb, false⟩ : Cp ByteArray) = bIn I[k] := by
            rw [htk, HD.out.2.2.2.1, HD.out.2.2.2.2.1, HD.out.2.2.2.2.2.1]
            rfl
          rw [hcp] at hir
          obtain ⟨x, hx⟩ : ∃ x : Cv, x = ⟨tv, .slice sa j sc, .slice la am lc, combN cb, false⟩ := ⟨_, rfl⟩
          rw [← hx] at hir
          have hone : ∀ u ∈ x.cells, u.oneCell' = true := by
            intro u hu
            have ht := hir.ty.own
            subst hx
            simp only [Cv.cells, List.mem_cons, List.not_mem_nil, or_false] at hu
            rcases hu with rfl | rfl | rfl | rfl | rfl | rfl
            · exact ht
            all_goals rfl
          have hbs := bs_cmp x wq
          have hal : Below wq.heap.size wq (wq.alloc (.cells x.cells.toArray 37)) := (Below.refl _ _).alloc (Nat.le_refl _) _
          obtain ⟨w7, hw7⟩ : ∃ x', x' = wq.alloc (.cells x.cells.toArray 37) := ⟨_, rfl⟩
          have hblk := heap_alloc_new wq (.cells x.cells.toArray 37)
          have hz7 : w7.heap.size = wq.heap.size + 1 := by rw [hw7, World.size_alloc]
          rw [← hw7] at hal hbs hblk
          obtain ⟨ys, hys⟩ := HY.out
          have hys7 : Ins g0 (.slice ka k kc) ((I.take k).map bIn) ys w7 := (hys.keep (by rw [← HBB.out.1]; exact hir.bel)).keep hal
          have hyo := hys
          obtain ⟨hy1, hy2, hy3, hy4, hy5⟩ := hyo
          have hkl : ((I.take k).map bIn).length = k := by rw [List.length_map, List.length_take]; omega
          have hcpI : CpI w7 ⟨x, b, wq.heap.size⟩ (bIn I[k]) := hir.ib.to (fun y hy => hal.block y hy.2) hal.size
          have HYS := Lib.hid (And.intro hys7 (And.intro hcpI (show (∀ z ∈ ys, z.hi ≤ b) ∧ (∀ y, (Value.slice ka k kc).ownBlock = some y → ¬ InB ⟨x, b, wq.heap.size⟩ y) ∧ g0 ≤ b from
            ⟨fun z hz => by
              obtain ⟨i, hi, rfl⟩ := List.mem_iff_getElem.1 hz
              have := (hy5 i hi (by omega)).2.2.2.2.2.2.2
              have := HBB.out.1
              omega, fun y hy hin => by
              have h1 := (hy2.lt y hy).2
              have h2 := hin.1
              have h3 := HBB.out.1
              dsimp only at h2
              omega, by have := HBB.out.2; have := HG0.out; omega⟩)))
          have HOC := Lib.hid (show w7.ownsRow g0 37 6 (.slice ka k kc) k (ys.flatMap Ib.cells) by have := hys7.2.1; rw [hkl] at this; exact this)
          have HONE := Lib.hid hone
          have HZ7 := Lib.hid (And.intro hblk (And.intro hz7 (show g0 ≤ w7.heap.size by have := hir.bs; have := HBB.out.2; have := HG0.out; omega)))
          have HBX := Lib.hid (And.intro hir.box (And.intro (show Below w.heap.size w w7 from hq.trans (hal.mono hq.size)) (And.intro hkl (Nat.le_of_lt hir.bs))))
          clear htk hcp hone hw7 hal hblk hz7 hys hys7 hy1 hy2 hy3 hy4 hy5 hkl hcpI hir hq
          obtain ⟨g7, hg7⟩ : ∃ x', x' = wq.heap.size := ⟨_, rfl⟩
          rw [← hg7] at HZ7 hbs HYS
          have HG7 := Lib.hid hg7
          clear hg7
          go_wp2_with (first
            | (refine wpList_load_mid rfl 37 _ rfl b 0 rfl x.cells tC HBX.out.1 hC hC2 szCmp ?_)
            | (refine wpl_bs1 rfl 38 (.tmp 70) rfl _ _ _ ?hx hbs ?_; case hx => (show _ = _; rfl))
            | (at_builtin
               refine wpList_append_lies _ rfl (.tmp 69) (.tmp 71) _ rfl g0 37 i0 _ 6 72 Try.underlying38 HJ.out.1 HJ.out.2.1 HJ.out.2.2.1 HJ.out.2.2.2 rfl (by omega) (.slice ka k kc) k (ys.flatMap Ib.cells) ?hs HOC.out ⟨g7, 0, none⟩ 1 1 x.cells ?hx (by rfl) (World.news_of_block HZ7.out.1) HONE.out (by omega) (by unfold maxLen; omega) (by omega) HZ7.out.2.2 (g7 + 1) (by rw [HZ7.out.2.1]) ?_; (case hs => exact rfl); (case hx => exact rfl)
               intro g8 cap8 w8 hown8 hgrow8 hat8 hlt8))
          have hnx : Ins g0 (.slice (some ⟨g8, 0, none⟩) (k + 1) cap8) ((I.take (k + 1)).map bIn) (ys ++ [⟨x, b, g7⟩]) w8 := by
            have e : (I.take (k + 1)).map bIn = (I.take k).map bIn ++ [bIn I[k]] := by rw [List.take_succ_eq_append_getElem kL, List.map_append]; rfl
            rw [e]
            refine Ins.push HYS.out.1 HYS.out.2.1 HYS.out.2.2.2.2 (by show b ≤ g7; rw [HG7.out]; exact HBX.out.2.2.2) HYS.out.2.2.1 HYS.out.2.2.2.1 (by rw [HBX.out.2.2.1]; exact hown8) hgrow8 ?_
            rcases hat8 with h | h
            · exact .inl h.symm
            · refine .inr (fun y hy => ?_)
              have : g8 = y := by simpa [Value.ownBlock] using hy
              have := HZ7.out.2.1
              omega
          have hbw : Below g0 w w8 := by
            have h := HBX.out.2.1
            rw [← HG0.out] at h
            exact h.grown hgrow8 HZ7.out.2.2 (fun y hy => (HOC.out.lt y hy).1)
          exact ⟨⟨k + 1, _, cap8, by omega, rfl, by go_num, Lib.hid ⟨_, hnx⟩, Lib.hid hbw⟩, by simp [intOf]; omega⟩
    · as_aux_lemma =>
      obtain rfl : k = n := by omega
      have hbs := bs_cpl (.slice ka k kc) wr
      have HBS := Lib.hid (show Below wr.heap.size wr (wr.alloc (.cells #[.slice ka k kc] 40)) from (Below.refl _ _).alloc (Nat.le_refl _) _)
      have HRG := Lib.hid (rg_new wr #[.slice ka k kc] 40)
      have HSZ := Lib.hid (show (wr.alloc (.cells #[.slice ka k kc] 40)).heap.size = wr.heap.size + 1 from World.size_alloc _ _)
      go_wp2_with (first
        | (refine wpl_bs1 rfl 27 (.tmp 74) rfl _ _ _ ?hx hbs ?_; case hx => (show _ = _; rfl)))
      go_ret
      obtain ⟨ys, hys⟩ := HY.out
      rw [show I.take k = I from List.take_of_length_le (by have := HI.out.2.1; omega)] at hys
      refine ⟨_, rfl, ⟨wr.heap.size, .slice ka k kc, ys, rfl, ?_, ?_, HRG.out, ?_, fun y hy => ?_, fun b hb => ?_, Nat.le_refl _⟩, ?_⟩
      · have := HW.out.size; have := HG0.out; omega
      · have := HSZ.out; omega
      · rw [← HG0.out]; exact hys.keep HBS.out
      · obtain ⟨i, hi, rfl⟩ := List.mem_iff_getElem.1 hy
        exact (hys.2.2.2.2 i hi (by have := hys.1; omega)).2.2.2.2.2.2.2
      · exact (hys.2.1.lt b hb).2
      · have h := HW.out
        rw [HG0.out] at h
        exact h.trans (HBS.out.mono h.size)
end Go.Proofs.Ytbpnmiedomchpaa.Fg
