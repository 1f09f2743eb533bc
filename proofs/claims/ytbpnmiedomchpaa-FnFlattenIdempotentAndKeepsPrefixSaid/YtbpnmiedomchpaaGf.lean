/-
  The law.
-/
import Derived.Test.YtbpnmiedomchpaaGh
namespace Go.Proofs.Ytbpnmiedomchpaa.Fg
open Go.ChangeShapes Go.WideShapes Go.ChangeAt Go.RowKit Rg
set_option linter.unusedVariables false
set_option linter.unusedSimpArgs false
/-- the prior list so far -/
structure Ps (w : World) (P : List Nat) (k : Nat) (v : Value) (W : World) : Prop where
  bel : Below w.heap.size w W
  row : Bld 40 1 one PrV w.heap.size (fun y => w.heap.size ≤ y ∧ y < W.heap.size) v (P.take k) W
theorem Ps.push {w W W2 : World} {P : List Nat} {k p q : Nat} {v : Value} (h : Ps w P k v W) (hk : k < P.length) (hb : Below W.heap.size W W2) (hp : W2.rangeAt p 0 (nsc (letr (tP P[k])))) (hp2 : W.heap.size ≤ p ∧ p < W2.heap.size) (hq : W2.rangeAt q 0 (Cv.cells ⟨.pointer (some ⟨p, 0, none⟩), .slice none 0 0, .slice none 0 0, 0, false⟩)) (hq2 : W.heap.size ≤ q ∧ q < W2.heap.size) :
    ∃ B : List Value, W2.ownsRow w.heap.size 40 1 v k (B.flatMap one) ∧ ∀ W' v', W'.ownsRow w.heap.size 40 1 v' (k + 1) (B.flatMap one ++ [.slice (some ⟨q, 0, none⟩) 1 1]) → W2.grownBy W' v.ownBlock → (v'.ownBlock = v.ownBlock ∨ ∀ y, v'.ownBlock = some y → W2.heap.size ≤ y) → Ps w P (k + 1) v' W' := by
  have hlen : (P.take k).length = k := by rw [List.length_take]; omega
  have hbw := h.bel.trans (hb.mono h.bel.size)
  obtain ⟨B, hB1, hB2, hB3⟩ := h.row.keep (Z' := fun y => w.heap.size ≤ y ∧ y < W2.heap.size) locP hb (fun y hy => hy.2) (fun y hy => ⟨hy.1, Nat.lt_of_lt_of_le hy.2 hb.size⟩)
  have hB2' := hB2
  rw [hlen] at hB2'
  refine ⟨B, hB2', fun W' v' ho hg hv => ?_⟩
  have hown : ∀ y, v.ownBlock = some y → w.heap.size ≤ y ∧ y < W.heap.size := fun y hy => h.row.lt hy
  have hws := h.bel.size
  have hG : PrV (fun y => (w.heap.size ≤ y ∧ y < W2.heap.size) ∧ some y ≠ v.ownBlock) W2 (.slice (some ⟨q, 0, none⟩) 1 1) P[k] := by
    refine ⟨some ⟨q, 0, none⟩, 1, rfl, fun i hi => ?_⟩
    obtain rfl : i = 0 := by
      have : i < 1 := hi
      omega
    refine ⟨q, 0, ⟨.pointer (some ⟨p, 0, none⟩), .slice none 0 0, .slice none 0 0, 0, false⟩, rfl, ⟨⟨by omega, hq2.2⟩, fun e => by have := hown q e.symm; omega⟩, hq, ⟨p, rfl, ⟨⟨by omega, hp2.2⟩, fun e => by have := hown p e.symm; omega⟩, hp⟩, RW.nil _ _ _ _ _ _ _, ⟨none, 0, rfl, fun j hj => absurd hj (Nat.not_lt_zero _)⟩, rfl, rfl, by show 0 < 256; omega⟩
  have hpp : Bld 40 1 one PrV w.heap.size (fun y => w.heap.size ≤ y ∧ y < W'.heap.size) v' (P.take k ++ [P[k]]) W' := Bld.push (Z := fun y => w.heap.size ≤ y ∧ y < W2.heap.size) locP hB1 hB3 (fun y hy => hy.2) (fun y hy => ⟨hy.1, Nat.lt_of_lt_of_le hy.2 hg.size⟩) hG (by rw [hlen]; exact ho) hg hv
  rw [← List.take_succ_eq_append_getElem hk] at hpp
  exact ⟨hbw.grown hg hbw.size (fun y hy => (hown y hy).1), hpp⟩
theorem Ps.keep {w W W' : World} {P : List Nat} {k : Nat} {v : Value} (h : Ps w P k v W) (hb : Below W.heap.size W W') : Ps w P k v W' :=
  ⟨h.bel.trans (hb.mono h.bel.size), h.row.keep locP hb (fun y hy => hy.2) (fun y hy => ⟨hy.1, Nat.lt_of_lt_of_le hy.2 hb.size⟩)⟩
set_option maxRecDepth 100000 in
set_option maxHeartbeats 16000000 in
theorem f57 (v1 v : Value) (P : List Nat) (C : List Co) (md : Nat) (w : World) (hmd : md < 256) (hp : PrU w v1 P) (hv : CoV (Old w) w v C) : Calls Try.prog 3 #[v1, v, .int .u8 (md : Nat)] w (fun e w' => e = .returned (.bool true) ∧ Below w.heap.size w w') := by
  obtain ⟨pa, pc, hpe⟩ := RW.slice hp
  obtain ⟨pn, hpn⟩ : ∃ n, n = P.length := ⟨_, rfl⟩
  rw [← hpn] at hpe
  subst hpe
  have HP := Lib.hid (And.intro hp (And.intro hpn (And.intro hv hmd)))
  clear hp hpn hv hmd
  obtain ⟨tX, hXx, hX2⟩ := tyCpl
  go_enter Try.func3, Try.ntmps3
  go_wp2_with fail
  refine (zb57 pa pn pc md (Old w) v C w HP.out.2.2.1).mono ?_
  rintro e w0 ⟨⟨r, rfl, hQ⟩, rfl⟩
  cases r with
  | false =>
    as_aux_lemma =>
    clear hQ
    go_wp2_with fail
    go_ret
    exact ⟨rfl, Below.refl _ _⟩
  | true =>
    as_aux_lemma =>
    have hwt := hQ rfl
    clear hQ
    by_cases h40 : 4096 < pn
    · as_aux_lemma =>
      have q4 : (4096 : Int) < pn := by omega
      go_wp2_with fail
      go_ret
      exact ⟨rfl, Below.refl _ _⟩
    · as_aux_lemma =>
      have q4 : ¬ (4096 : Int) < pn := by omega
      have hwC : wC C ≤ 1048576 := by omega
      go_wp2_with fail
      refine (cby57 (Old w) v C w HP.out.2.2.1 (fun _ h => h) hwC).mono ?_
      rintro e w2 ⟨⟨z, rfl⟩, hb2⟩
      by_cases hz : (1048576 : Int) < z
      · as_aux_lemma =>
        have HB := Lib.hid hb2
        clear hb2
        go_wp2_with fail
        go_ret
        exact ⟨rfl, HB.out⟩
      · as_aux_lemma =>
        have hv2 : CoV (Old w) w2 v C := CoV.to HP.out.2.2.1 (To.below (fun _ h => h) hb2)
        have HB := Lib.hid hb2
        clear hb2
        go_wp2_with fail
        refine (ico57 (Old w) v C w2 hv2 hwC).mono ?_
        rintro e w3 ⟨⟨r, rfl, -⟩, rfl⟩
        cases r with
        | false =>
          as_aux_lemma =>
          go_wp2_with fail
          go_ret
          exact ⟨rfl, HB.out⟩
        | true =>
          as_aux_lemma =>
          go_wp2_with fail
          refine (prm57 (Old w) v C w2 hv2 hwC).mono ?_
          rintro e w3 ⟨⟨r, rfl, hQ⟩, hb3⟩
          cases r with
          | false =>
            as_aux_lemma =>
            have HB3 := Lib.hid (HB.out.trans (hb3.mono HB.out.size))
            clear hQ hb3
            go_wp2_with fail
            go_ret
            exact ⟨rfl, HB3.out⟩
          | true =>
            as_aux_lemma =>
            have HPM := Lib.hid (And.intro (hQ rfl) (And.intro hwC hwt))
            have HB3 := Lib.hid (HB.out.trans (hb3.mono HB.out.size))
            clear hQ hb3 hv2 HB hz hwt hwC h40
            obtain ⟨i1, hi, hz0, hz1, hz2⟩ := info_parts infoCpl
            have hpl : (pn : Int) + 1 = ((pn + 1 : Nat) : Int) := by omega
            have hmk : (Instr.makeSlice 27 (.int .i64 0) (.int .i64 ((pn : Int) + 1))).run Try.prog w3 = .ok (.slice (some ⟨w3.heap.size, 0, none⟩) 0 (pn + 1)) (w3.alloc (.cells (madeCells #[.slice none 0 0] ((pn + 1) * 1)) 40)) := by
              have h := run_make_rowN (P := Try.prog) 27 40 i1 _ (by kernel_rfl) hi hz0 .i64 .i64 0 (pn + 1) (by omega) (by rw [hz2]; omega) (by omega) w3
              rw [hz1] at h
              rw [hpl]
              exact h
            have hb4 : Below w3.heap.size w3 (w3.alloc (.cells (madeCells #[.slice none 0 0] ((pn + 1) * 1)) 40)) := (Below.refl _ _).alloc (Nat.le_refl _) _
            have ho4 : (w3.alloc (.cells (madeCells #[.slice none 0 0] ((pn + 1) * 1)) 40)).ownsRow w3.heap.size 40 1 (.slice (some ⟨w3.heap.size, 0, none⟩) 0 (pn + 1)) 0 [] := by
              simpa using World.ownsRow_made w3 (madeCells #[.slice none 0 0] ((pn + 1) * 1)) (pn + 1) (Nat.le_refl _) (by unfold maxLen; omega) (by simp [madeCells])
            obtain ⟨w4, hw4⟩ : ∃ x, x = w3.alloc (.cells (madeCells #[.slice none 0 0] ((pn + 1) * 1)) 40) := ⟨_, rfl⟩
            rw [← hw4] at hmk hb4 ho4
            have HST := Lib.hid (show Ps w P 0 (.slice (some ⟨w3.heap.size, 0, none⟩) 0 (pn + 1)) w4 from
              ⟨HB3.out.trans (hb4.mono HB3.out.size), ⟨[], rfl, own_mono ho4 HB3.out.size, fun i p => absurd p (Nat.not_lt_zero _)⟩⟩)
            generalize w3.heap.size = g4 at *
            have HK := Lib.hid (And.intro hi (And.intro hz0 (And.intro hz1 hz2)))
            clear hi hz0 hz1 hz2 hpl hb4 ho4 hw4
            go_upto_block 0 with (refine wpl_mk rfl 27 _ _ rfl (.int .i64 0) (.int .i64 ((pn : Int) + 1)) _ _ (show _ = _ from rfl) (show _ = _ from rfl) hmk ?_)
            clear hmk
            refine wp_block ?_
            go_loopw [7, 8] (fun lv iv wr => ∃ (k : Nat), k ≤ pn ∧ lv = .slice (some ⟨g4, 0, none⟩) k (pn + 1) ∧ iv = .int .i64 k ∧ Hid (Ps w P k (.slice (some ⟨g4, 0, none⟩) k (pn + 1)) wr)) (fun _ iv _ => pn - (intOf iv).toNat)
            case atStart => exact ⟨0, Nat.zero_le _, rfl, rfl, HST⟩
            case round =>
              clear HST
              obtain ⟨k, hk, rfl, rfl, HR⟩ := hrel
              by_cases hlt : k < pn
              · skip
                -- <LP
                as_aux_lemma =>
                have z0 : (0 : Int) ≤ k := by omega
                have z1 : (k : Int) < pn := by omega
                have kL : k < P.length := by have := HP.out.2.1; omega
                obtain ⟨g, o, c, t, hve, hXg, hr, ht, ht8⟩ := RW.at HP.out.1 kL
                simp only [Value.slice.injEq] at hve
                obtain ⟨rfl, hz, rfl⟩ := hve
                clear hz
                have lt := rg_ag (HR.out.bel.block g hXg) hr 0 _ rfl
                simp only [Nat.mul_one, Nat.add_zero] at lt
                have HT := Lib.hid (And.intro ht ht8)
                have ht9 : tP t < 256 := by unfold tP; split <;> omega
                clear hr hXg ht ht8
                go_upto_if 51 with fail
                go_cut [9] (fun v wx => v = .int .u8 (tP t : Nat) ∧ wx = wr)
                case first =>
                  by_cases h0 : t = 0
                  · as_aux_lemma =>
                    subst h0
                    go_wp2_with fail
                    go_meet
                    exact ⟨rfl, rfl⟩
                  · as_aux_lemma =>
                    have e0 : ((t : Int) == 0) = false := beq_eq_false_iff_ne.2 (by omega)
                    have e1 : tP t = t := by unfold tP; rw [if_neg h0]
                    have E1 := Lib.hid e1
                    clear h0 e1
                    go_wp2_with fail
                    go_meet
                    exact ⟨by rw [E1.out], rfl⟩
                case rest =>
                obtain ⟨rfl, hcut⟩ := hcut
                subst hcut
                clear lt
                as_aux_lemma =>
                go_wp2_with fail
                refine (type_any (tP t) ht9 _).mono ?_
                rintro e w6 ⟨p, rfl, hp, hp1, hp2, hb6⟩
                have hbs1 := bs_cmp ⟨.pointer (some ⟨p, 0, none⟩), .slice none 0 0, .slice none 0 0, 0, false⟩ w6
                have hal1 : Below w6.heap.size w6 (w6.alloc (.cells (Cv.cells ⟨.pointer (some ⟨p, 0, none⟩), .slice none 0 0, .slice none 0 0, 0, false⟩).toArray 37)) := (Below.refl _ _).alloc (Nat.le_refl _) _
                have hrg1 := rg_new w6 (Cv.cells ⟨.pointer (some ⟨p, 0, none⟩), .slice none 0 0, .slice none 0 0, 0, false⟩).toArray 37
                have hsz1 : (w6.alloc (.cells (Cv.cells ⟨.pointer (some ⟨p, 0, none⟩), .slice none 0 0, .slice none 0 0, 0, false⟩).toArray 37)).heap.size = w6.heap.size + 1 := World.size_alloc _ _
                obtain ⟨w7, hw7⟩ : ∃ x, x = w6.alloc (.cells (Cv.cells ⟨.pointer (some ⟨p, 0, none⟩), .slice none 0 0, .slice none 0 0, 0, false⟩).toArray 37) := ⟨_, rfl⟩
                rw [← hw7] at hbs1 hal1 hrg1 hsz1
                obtain ⟨g7, hg7⟩ : ∃ x, x = w6.heap.size := ⟨_, rfl⟩
                rw [← hg7] at hbs1 hrg1 hsz1
                have hbs2 := bs_cpl (.slice (some ⟨g7, 0, none⟩) 1 1) w7
                have hal2 : Below w7.heap.size w7 (w7.alloc (.cells #[.slice (some ⟨g7, 0, none⟩) 1 1] 40)) := (Below.refl _ _).alloc (Nat.le_refl _) _
                have hblk := heap_alloc_new w7 (.cells #[.slice (some ⟨g7, 0, none⟩) 1 1] 40)
                obtain ⟨w8, hw8⟩ : ∃ x, x = w7.alloc (.cells #[.slice (some ⟨g7, 0, none⟩) 1 1] 40) := ⟨_, rfl⟩
                rw [← hw8] at hbs2 hal2 hblk
                obtain ⟨g8, hg8⟩ : ∃ x, x = w7.heap.size := ⟨_, rfl⟩
                rw [← hg8] at hbs2 hblk
                have hs2 := hal2.size
                have hs6 := hb6.size
                obtain ⟨B, hown, hpu⟩ := HR.out.push (p := p) (q := g7) kL ((hb6.trans (hal1.mono hb6.size)).trans (hal2.mono (Nat.le_trans hb6.size hal1.size))) (by rw [← HT.out.1]; exact rg_keep hal2 (rg_keep hal1 hp)) ⟨hp1, by omega⟩ (rg_keep hal2 hrg1) ⟨by omega, by omega⟩
                have hbase := Nat.le_trans HR.out.bel.size (Nat.le_trans hs6 (by omega : w6.heap.size ≤ w8.heap.size))
                have HOWN := Lib.hid hown
                have HPU := Lib.hid hpu
                have HBK := Lib.hid hblk
                have HBS := Lib.hid hbase
                clear hw7 hw8 hg7 hg8 hal1 hal2 hrg1 hsz1 hblk hown hpu hs2 hs6 hbase hp hp1 hp2 hb6 HR
                go_wp2_with (first
                  | (at_builtin
                     refine wpl_appF rfl (.tmp 52) (.tmp 58) _ rfl w.heap.size 40 i1 1 Try.underlying27 HK.out.1 HK.out.2.2.1 g4 k (pn + 1) (B.flatMap one) (show _ = _ from rfl) HOWN.out ⟨g8, 0, none⟩ 1 1 [.slice (some ⟨g7, 0, none⟩) 1 1] (show _ = _ from rfl) rfl (World.news_of_block HBK.out) (fun u hu => by rw [List.mem_singleton.1 hu]; rfl) (by omega) ?_
                     intro w9 hown9 hgrow9
                     have HNX := Lib.hid (HPU.out _ _ hown9 hgrow9 (.inl rfl))
                     clear hown9 hgrow9)
                  | (refine wpl_bs1 ?hgd 38 (.tmp 55) ?hoq (.agg (Cv.cells ⟨.pointer (some ⟨p, 0, none⟩), .slice none 0 0, .slice none 0 0, 0, false⟩).toArray) (.slice (some ⟨g7, 0, none⟩) 1 1) w7 ?hxq ?hrq ?_
                     case hoq => rfl
                     case hgd => rfl
                     case hrq => exact hbs1
                     case hxq => (show _ = _; rfl))
                  | (refine wpl_bs1 ?hgd 27 (.tmp 57) ?hoq (.agg #[.slice (some ⟨g7, 0, none⟩) 1 1]) (.slice (some ⟨g8, 0, none⟩) 1 1) w8 ?hxq ?hrq ?_
                     case hoq => rfl
                     case hgd => rfl
                     case hrq => exact hbs2
                     case hxq => (show _ = _; rfl)))
                exact ⟨⟨k + 1, by omega, rfl, by go_num, HNX⟩, by simp [intOf]; omega⟩
                -- LP>
              · as_aux_lemma =>
                obtain rfl : k = pn := by omega
                have hrow := HR.out.row
                rw [List.take_of_length_le (by have := HP.out.2.1; omega)] at hrow
                have HR2 := Lib.hid (And.intro HR.out.bel hrow)
                clear hrow HR
                have h3 : md % 3 < 256 := by omega
                have hm3 : ((md : Int) % 3) = ((md % 3 : Nat) : Int) := by omega
                obtain ⟨m3, hmd3⟩ : ∃ x, x = md % 3 := ⟨_, rfl⟩
                rw [← hmd3] at h3 hm3
                clear hmd3
                go_upto_region 19 with fail
                -- <T1
                as_aux_lemma =>
                go_wp2_with fail
                refine (npr_any m3 wr h3).mono ?_
                rintro e w6 ⟨pp, rfl, q1, q2, q3, q4, q5, hb6⟩
                have hv6 : CoV (Old w) w6 v C := CoV.to HP.out.2.2.1 (To.below (fun _ h => h) (HR2.out.1.trans (hb6.mono HR2.out.1.size)))
                have HX := Lib.hid (show ∀ b, Old w b → b < w6.heap.size from fun b hb => Nat.lt_of_lt_of_le hb (Nat.le_trans HR2.out.1.size hb6.size))
                have HQ := Lib.hid (And.intro q1 (And.intro q2 (And.intro q3 (And.intro q4 (And.intro q5 hb6)))))
                clear q1 q2 q3 q4 q5 hb6
                go_wp2_with fail
                refine (bco_any (Old w) v C w6 hv6 HX.out HPM.out.2.1).mono ?_
                rintro e w7 ⟨sv, zs, rfl, hS, hb7⟩
                have HFL := Lib.hid (fl57 w wr w6 w7 P C g4 pp m3 sv zs (by have := HP.out.2.1; omega) HR2.out.1 (by rw [← HP.out.2.1]; exact HR2.out.2) HQ.out.2.2.2.2.2 HQ.out.1 HQ.out.2.1 HQ.out.2.2.1 HQ.out.2.2.2.1 HQ.out.2.2.2.2.1 hb7 hS HPM.out.2.1 HP.out.2.2.1.am HPM.out.1)
                rw [← HP.out.2.1] at HFL
                clear hS hb7 hv6 HX HQ
                go_wp2_with fail
                refine HFL.out.mono ?_
                rintro e w8 ⟨oc, M, rfl, hA, hlg, hM⟩
                have HA := Lib.hid hA
                have HM := Lib.hid (And.intro hlg hM)
                clear hA hlg hM HFL HR2 HPM
                go_upto_if 80 with fail
                go_upto_block 2 with fail
                refine wp_block ?_
                go_loopw [12] (fun iv wr => ∃ (j : Nat), j ≤ k ∧ iv = .int .i64 j ∧ Hid (AfS w P g4 M wr)) (fun iv _ => k - (intOf iv).toNat)
                case atStart => exact ⟨0, Nat.zero_le _, rfl, HA⟩
                case round =>
                  clear HA
                  obtain ⟨j, hj, rfl, HR⟩ := hrel
                  by_cases hlt : j < k
                  · skip
                    -- <LQ
                    as_aux_lemma =>
                    have z0 : (0 : Int) ≤ j := by omega
                    have z1 : (j : Int) < k := by omega
                    have z2 : (j : Int) < (k : Int) + 1 := by omega
                    have kL : j < P.length := by have := HP.out.2.1; omega
                    obtain ⟨g, o, c, t, hve, hXg, hr, ht, ht8⟩ := RW.at HP.out.1 kL
                    simp only [Value.slice.injEq] at hve
                    obtain ⟨rfl, hz, rfl⟩ := hve
                    clear hz
                    have lt := rg_ag (HR.out.bel.block g hXg) hr 0 _ rfl
                    simp only [Nat.mul_one, Nat.add_zero] at lt
                    have HT := Lib.hid (And.intro ht ht8)
                    have ht9 : tP t < 256 := by unfold tP; split <;> omega
                    clear hr hXg ht ht8
                    go_upto_if 92 with fail
                    go_cut [13] (fun v wx => v = .int .u8 (tP t : Nat) ∧ wx = wr)
                    case first =>
                      by_cases h0 : t = 0
                      · as_aux_lemma =>
                        subst h0
                        go_wp2_with fail
                        go_meet
                        exact ⟨rfl, rfl⟩
                      · as_aux_lemma =>
                        have e0 : ((t : Int) == 0) = false := beq_eq_false_iff_ne.2 (by omega)
                        have e1 : tP t = t := by unfold tP; rw [if_neg h0]
                        have E1 := Lib.hid e1
                        clear h0 e1
                        go_wp2_with fail
                        go_meet
                        exact ⟨by rw [E1.out], rfl⟩
                    case rest =>
                    obtain ⟨rfl, hcut⟩ := hcut
                    subst hcut
                    clear lt
                    as_aux_lemma =>
                    go_wp2_with fail
                    refine (letr_any (tP t) ht9 _).mono ?_
                    rintro e w6 ⟨rfl, hb6⟩
                    have hbs := bs_grp ⟨0, letr (tP t), 0, .slice none 0 0, false⟩ w6
                    have hal : Below w6.heap.size w6 (w6.alloc (.cells (Gp.cells ⟨0, letr (tP t), 0, .slice none 0 0, false⟩).toArray 48)) := (Below.refl _ _).alloc (Nat.le_refl _) _
                    have hrg := rg_new w6 (Gp.cells ⟨0, letr (tP t), 0, .slice none 0 0, false⟩).toArray 48
                    have hsz : (w6.alloc (.cells (Gp.cells ⟨0, letr (tP t), 0, .slice none 0 0, false⟩).toArray 48)).heap.size = w6.heap.size + 1 := World.size_alloc _ _
                    obtain ⟨w7, hw7⟩ : ∃ x, x = w6.alloc (.cells (Gp.cells ⟨0, letr (tP t), 0, .slice none 0 0, false⟩).toArray 48) := ⟨_, rfl⟩
                    rw [← hw7] at hbs hal hrg hsz
                    obtain ⟨g7, hg7⟩ : ∃ x, x = w6.heap.size := ⟨_, rfl⟩
                    have hA7 := (HR.out.keep hb6).keep hal
                    rw [← hg7] at hbs hrg hsz
                    have hW : GsV (Yw w7) w7 (.slice (some ⟨g7, 0, none⟩) 1 1) [pmP P[j]] := one_grp (by show _ < _; omega) (by rw [← HT.out.1]; exact hrg)
                    obtain ⟨v1, r1, c1⟩ := hA7.row j kL
                    have HO := Lib.hid (obx_any (Yw w7) v1 [pmP P[j]] w7 (fun _ h => h) c1 (obM_one _))
                    have H7 := Lib.hid (And.intro hA7 (And.intro hW r1))
                    clear hw7 hg7 hal hrg hsz hA7 hW r1 c1 hb6 HR
                    go_wp2_with (first
                      | (refine wpList_load_mid ?hgd 40 (.tmp 99) ?hoq g4 j ?hpa [v1] tX ?hrq hXx hX2 szCpl ?_
                         case hoq => rfl
                         case hgd => rfl
                         case hpa => first | rfl | simp
                         case hrq => exact H7.out.2.2)
                      | (refine wpl_bs1 ?hgd 49 (.tmp 95) ?hoq (.agg (Gp.cells ⟨0, letr (tP t), 0, .slice none 0 0, false⟩).toArray) (.slice (some ⟨g7, 0, none⟩) 1 1) w7 ?hxq ?hrq ?_
                         case hoq => rfl
                         case hgd => rfl
                         case hrq => exact hbs
                         case hxq => (show _ = _; rfl)))
                    refine HO.out.mono ?_
                    rintro e w8 ⟨o1, rfl, hG, hb8⟩
                    have HS := Lib.hid (smg_any (Yw w8) o1 _ [pmP P[j]] w8 (fun _ h => h) (GsV.to hG (fun b q => ⟨q.2, rfl⟩)) (GsV.to H7.out.2.1 (Yw.to hb8)) (obM_one _))
                    have H8 := Lib.hid (And.intro (H7.out.1.keep hb8) (GsV.to H7.out.2.1 (Yw.to hb8)))
                    clear hG hb8 H7 HO hbs
                    go_wp2_with fail
                    refine HS.out.mono ?_
                    rintro e w9 ⟨rfl, hb9⟩
                    have hA9 := H8.out.1.keep hb9
                    obtain ⟨v2, r2, c2⟩ := hA9.row j kL
                    have HO := Lib.hid (obx_any (Yw w9) v2 [pmP P[j]] w9 (fun _ h => h) c2 (obM_one _))
                    have H9 := Lib.hid (And.intro hA9 (And.intro (GsV.to H8.out.2 (Yw.to hb9)) r2))
                    clear hA9 r2 c2 hb9 H8 HS
                    as_aux_lemma =>
                    go_wp2_with (refine wpList_load_mid ?hgd 40 (.tmp 107) ?hoq g4 j ?hpa [v2] tX ?hrq hXx hX2 szCpl ?_
                                 case hoq => rfl
                                 case hgd => rfl
                                 case hpa => first | rfl | simp
                                 case hrq => exact H9.out.2.2)
                    refine HO.out.mono ?_
                    rintro e w10 ⟨o2, rfl, hG, hb10⟩
                    have HS := Lib.hid (smg_any (Yw w10) o2 _ [pmP P[j]] w10 (fun _ h => h) (GsV.to hG (fun b q => ⟨q.2, rfl⟩)) (GsV.to H9.out.2.1 (Yw.to hb10)) (obM_one _))
                    have HA10 := Lib.hid (H9.out.1.keep hb10)
                    clear hG hb10 H9 HO
                    go_wp2_with fail
                    refine HS.out.mono ?_
                    rintro e w11 ⟨rfl, hb11⟩
                    have HA11 := Lib.hid (HA10.out.keep hb11)
                    clear hb11 HA10 HS
                    go_wp2_with fail
                    exact ⟨⟨j + 1, by omega, by go_num, HA11⟩, by simp [intOf]; omega⟩
                    -- LQ>
                  · as_aux_lemma =>
                    obtain rfl : k = j := by omega
                    obtain ⟨v9, r9, c9⟩ := HR.out.last
                    obtain ⟨va, vc, hva⟩ := RW.slice c9
                    obtain ⟨mn, hmn⟩ : ∃ n, n = M.length := ⟨_, rfl⟩
                    rw [← hmn] at hva
                    subst hva
                    clear hmn
                    rw [← HP.out.2.1] at r9
                    have H9 := Lib.hid (And.intro HR.out.bel (And.intro r9 c9))
                    have z1 : (0 : Int) ≤ k := by omega
                    have z2 : (k : Int) < (k : Int) + 1 := by omega
                    clear r9 c9 HR
                    -- <T3
                    go_upto_region 35 with (refine wpList_load_mid ?hgd 40 (.tmp 116) ?hoq g4 k ?hpa [.slice va mn vc] tX ?hrq hXx hX2 szCpl ?_
                                            case hoq => rfl
                                            case hgd => rfl
                                            case hpa => first | rfl | simp
                                            case hrq => exact H9.out.2.1)
                    have hal : Below wr.heap.size wr (wr.alloc (.cells #[.slice va mn vc] 40)) := (Below.refl _ _).alloc (Nat.le_refl _) _
                    have hrg := rg_new wr #[.slice va mn vc] 40
                    have hsz : (wr.alloc (.cells #[.slice va mn vc] 40)).heap.size = wr.heap.size + 1 := World.size_alloc _ _
                    generalize wr.alloc _ = w5 at *
                    obtain ⟨g5, hg5⟩ : ∃ b, b = wr.heap.size := ⟨_, rfl⟩
                    have c5 : CxV e1 (Yw w5) w5 (.slice va mn vc) M := CxV.to loc1 H9.out.2.2 (Yw.to hal)
                    have hbw := H9.out.1.trans (hal.mono H9.out.1.size)
                    rw [← hg5] at hrg hsz ⊢
                    have HO := Lib.hid (obx_any (Yw w5) _ M w5 (fun _ h => h) c5 HM.out.2)
                    have H5 := Lib.hid (And.intro hbw (And.intro hrg c5))
                    have HRG := Lib.hid hrg
                    clear hal hrg hsz hg5 c5 hbw H9
                    as_aux_lemma =>
                    go_wp2_with (refine wpList_load_mid ?hgd 40 (.tmp 15) ?hoq g5 0 ?hpa [.slice va mn vc] tX ?hrq hXx hX2 szCpl ?_
                                 case hoq => rfl
                                 case hgd => rfl
                                 case hpa => first | rfl | simp
                                 case hrq => exact HRG.out)
                    refine HO.out.mono ?_
                    rintro e w6 ⟨fo, rfl, hG, hb6⟩
                    have hG6 : GsV (Yw w6) w6 fo M := GsV.to hG (fun b q => ⟨q.2, rfl⟩)
                    have H6 := Lib.hid (And.intro (H5.out.1.trans (hb6.mono H5.out.1.size)) (And.intro (rg_keep hb6 H5.out.2.1) (And.intro (CxV.to loc1 H5.out.2.2 (Yw.to hb6)) hG6)))
                    clear hG hG6 hb6 H5 HO HRG
                    go_upto_region 36 with fail
                    go_cut [126] (fun v wx => v = .bool false ∧ Hid (Below w6.heap.size w6 wx))
                    case first =>
                      by_cases h0 : m3 = 0
                      · as_aux_lemma =>
                        subst h0
                        have HB := Lib.hid (Below.refl w6.heap.size w6)
                        go_wp2_with fail
                        go_meet
                        exact ⟨rfl, HB⟩
                      · as_aux_lemma =>
                        have e0 : ((m3 : Int) == 0) = false := beq_eq_false_iff_ne.2 (by omega)
                        have hl : lgM M = false := HM.out.1.resolve_left h0
                        have hc := zcn_any _ M w6 H6.out.2.2.1 HM.out.2
                        rw [hl] at hc
                        have HC := Lib.hid hc
                        have cc := H6.out.2.1 0 _ rfl
                        simp only [Nat.add_zero] at cc
                        clear hl hc
                        go_wp2_with fail
                        refine HC.out.mono ?_
                        rintro e w7 ⟨rfl, hb7⟩
                        have HB := Lib.hid hb7
                        clear hb7
                        go_wp2_with fail
                        go_meet
                        exact ⟨rfl, HB⟩
                    case rest =>
                    obtain ⟨rfl, hcut⟩ := hcut
                    have hb7 := hcut.out
                    have H7 := Lib.hid (And.intro (H6.out.1.trans (hb7.mono H6.out.1.size)) (And.intro (rg_keep hb7 H6.out.2.1) (And.intro (CxV.to loc1 H6.out.2.2.1 (Yw.to hb7)) (GsV.to H6.out.2.2.2 (Yw.to hb7)))))
                    clear hb7 hcut H6
                    as_aux_lemma =>
                    go_wp2_with fail
                    refine (npr_any m3 _ h3).mono ?_
                    rintro e w8 ⟨p2, rfl, q1, q2, q3, q4, q5, hb8⟩
                    have hc8 := CxV.to loc1 H7.out.2.2.1 (Yw.to hb8)
                    have HF := Lib.hid (fl57b p2 m3 _ M w8 q3 hc8 HM.out.2 HM.out.1)
                    have H8 := Lib.hid (And.intro (H7.out.1.trans (hb8.mono H7.out.1.size)) (And.intro hc8 (GsV.to H7.out.2.2.2 (Yw.to hb8))))
                    have HRG := Lib.hid (rg_keep hb8 H7.out.2.1)
                    clear q1 q2 q3 q4 q5 hc8 hb8 H7
                    go_wp2_with (refine wpList_load_mid ?hgd 40 (.tmp 15) ?hoq g5 0 ?hpa [.slice va mn vc] tX ?hrq hXx hX2 szCpl ?_
                                 case hoq => rfl
                                 case hgd => rfl
                                 case hpa => first | rfl | simp
                                 case hrq => exact HRG.out)
                    refine HF.out.mono ?_
                    rintro e w9 ⟨g9, c9, rfl, hr9, hb9⟩
                    have hc9 := CxV.to loc1 H8.out.2.1 (Yw.to hb9)
                    have HO := Lib.hid (obx_any (Yw w9) _ M w9 (fun _ h => h) hc9 HM.out.2)
                    have H9 := Lib.hid (And.intro (H8.out.1.trans (hb9.mono H8.out.1.size)) (GsV.to H8.out.2.2 (Yw.to hb9)))
                    clear HRG
                    have HRG := Lib.hid hr9
                    clear hr9 hb9 hc9 H8 HF
                    as_aux_lemma =>
                    go_wp2_with (refine wpList_load_mid ?hgd 40 (.tmp 137) ?hoq g9 0 ?hpa [.slice va mn vc] tX ?hrq hXx hX2 szCpl ?_
                                 case hoq => rfl
                                 case hgd => rfl
                                 case hpa => first | rfl | simp
                                 case hrq => exact HRG.out)
                    refine HO.out.mono ?_
                    rintro e w10 ⟨o2, rfl, hG, hb10⟩
                    have HS := Lib.hid (smg_any (Yw w10) o2 _ M w10 (fun _ h => h) (GsV.to hG (fun b q => ⟨q.2, rfl⟩)) (GsV.to H9.out.2 (Yw.to hb10)) HM.out.2)
                    have H10 := Lib.hid (H9.out.1.trans (hb10.mono H9.out.1.size))
                    clear hG hb10 H9 HO HRG
                    go_wp2_with fail
                    refine HS.out.mono ?_
                    rintro e w11 ⟨rfl, hb11⟩
                    have H11 := Lib.hid (H10.out.trans (hb11.mono H10.out.size))
                    clear hb11 H10 HS
                    go_wp2_with fail
                    go_ret
                    exact ⟨rfl, H11.out⟩
                    -- T3>
                -- T1>
end Go.Proofs.Ytbpnmiedomchpaa.Fg
