/-
  zzLonghandValue; a new tracker; the wrapper of mangleCorner.
-/
import Derived.Test.YtmaljklijpoojaaDoorCx
namespace Go.Proofs.YtmaljklijpoojaaDoor.Co
open Go.ChangeShapes Go.WideShapes Go.ChangeAt Go.RowKit Rg Quad
set_option linter.unusedVariables false
set_option linter.unusedSimpArgs false
theorem sm_self {m : Int} (h : 0 ≤ m ∧ m < 8) : sm (m, 0) m = true := by rw [sm_code h h]; exact decide_eq_true rfl
set_option maxRecDepth 100000 in
set_option maxHeartbeats 4000000 in
theorem lv_any (a b m1 mb : Int) (p : Bool) (d v L cN : Nat) (a2 a3 : Int) (imp : Bool) (w : World) (ha : 0 ≤ a ∧ a < 256) (hb : 0 ≤ b ∧ b < 256) (h1 : a % 8 = m1) (h2 : b % 8 = mb)
    (hd : w.rangeAt d 0 (deC v L cN a2 a3 imp)) (hv : w.rangeAt v 0 (vlC p m1 mb)) (hL : L = if p = false ∨ (m1 ≤ 5 ∧ mb ≤ 5 ∧ m1 = mb) then 1 else 2) :
    Calls Tryd.prog 8 #[.pointer (some ⟨d, 0, none⟩), .int .u8 a, .int .u8 b, .bool p] w (TrueB w) := by
  have g1 : 0 ≤ m1 ∧ m1 < 8 := by omega
  have g2 : 0 ≤ mb ∧ mb < 8 := by omega
  have e1 : a.tmod 8 = m1 := by rw [Int.tmod_eq_emod_of_nonneg ha.1]; exact h1
  have e2 : b.tmod 8 = mb := by rw [Int.tmod_eq_emod_of_nonneg hb.1]; exact h2
  have d1 : w.cell? ⟨d, 1, none⟩ = some (.slice (some ⟨v, 0, none⟩) L cN) := by have := hd 1 _ rfl; rwa [Nat.zero_add] at this
  have hv1 : w.rangeAt v 0 (tyR (m1, 0)) := by
    unfold vlC at hv
    cases p with
    | true => exact rg_left hv
    | false => exact hv
  have hv2 : p = true → w.rangeAt v 7 (tyR (mb, 0)) := fun hp => by
    unfold vlC at hv
    rw [if_pos hp] at hv
    exact rg_right hv
  have hs1 := fun W => st_any (m1, 0) m1 W (by omega) (by omega)
  have hs2 := fun W => st_any (mb, 0) mb W (by omega) (by omega)
  rw [sm_self g1] at hs1
  rw [sm_self g2] at hs2
  unfold tyV at hs1 hs2
  have HS1 := Lib.hid hs1
  have HS2 := Lib.hid hs2
  obtain ⟨c, hc⟩ : ∃ c, decide (p = false ∨ (m1 ≤ 5 ∧ mb ≤ 5 ∧ m1 = mb)) = c := ⟨_, rfl⟩
  have HL : Hid (L = if c = true then 1 else 2) := Lib.hid (by rw [hL, ← hc]; simp only [decide_eq_true_eq])
  have HC := Lib.hid hc
  have HP := Lib.hid hv2
  obtain ⟨t0, t1, t2, t3, t4, t5, t6⟩ := cells7 hv1
  simp only [Nat.zero_add] at t0 t1 t2 t3 t4 t5 t6
  (try dsimp only at t1 t5)
  have HT := Lib.hid (And.intro t0 (And.intro t1 (And.intro t2 (And.intro t3 (And.intro t4 (And.intro t5 t6))))))
  clear hs1 hs2 hL hc hv2 hv1 hd hv h1 h2 t0 t1 t2 t3 t4 t5 t6
  go_enter Tryd.func8, Tryd.ntmps8
  go_upto_region 4 with fail
  go_cut [34] (fun x wc => x = .bool c ∧ wc = w)
  case first =>
    -- <part
    clear d1
    cases p with
    | false =>
      have e : c = true := by rw [← HC.out]; exact decide_eq_true (.inl rfl)
      go_wp2_with fail
      go_meet
      exact ⟨by rw [e], rfl⟩
    | true =>
      by_cases x1 : m1 ≤ 5
      · by_cases x2 : mb ≤ 5
        · by_cases x3 : m1 = mb
          · have HE : Hid (c = true) := Lib.hid (by rw [← HC.out, decide_eq_true_eq]; exact .inr ⟨x1, x2, x3⟩)
            have x4 : (m1 == mb) = true := by rw [beq_iff_eq]; exact x3
            clear x3
            go_wp2_with fail
            go_meet
            exact ⟨by rw [HE.out], rfl⟩
          · have HE : Hid (c = false) := Lib.hid (by rw [← HC.out, decide_eq_false_iff_not]; rintro (h | h); cases h; exact x3 h.2.2)
            have x4 : (m1 == mb) = false := beq_eq_false_iff_ne.mpr x3
            clear x3
            go_wp2_with fail
            go_meet
            exact ⟨by rw [HE.out], rfl⟩
        · have HE : Hid (c = false) := Lib.hid (by rw [← HC.out, decide_eq_false_iff_not]; rintro (h | h); cases h; exact x2 h.2.1)
          go_wp2_with fail
          go_meet
          exact ⟨by rw [HE.out], rfl⟩
      · have HE : Hid (c = false) := Lib.hid (by rw [← HC.out, decide_eq_false_iff_not]; rintro (h | h); cases h; exact x1 h.1)
        go_wp2_with fail
        go_meet
        exact ⟨by rw [HE.out], rfl⟩
    -- part>
  case rest =>
  obtain ⟨rfl, rfl⟩ := hcut
  clear e1 e2 d1
  obtain ⟨t0, t1, t2, t3, t4, t5, t6⟩ := HT.out
  cases c with
  | true =>
    obtain rfl : L = 1 := HL.out
    -- <part
    go_wp2_with (first | (go_at_call 15; refine (HS1.out _).mono ?_; rintro e w1 ⟨rfl, hb1⟩; have s6 := later hb1 t6; have HB1 := Lib.hid hb1; clear hb1))
    go_ret
    exact ⟨rfl, HB1.out⟩
    -- part>
  | false =>
    obtain rfl : L = 2 := HL.out
    have hp : p = true := by
      have := HC.out
      rw [decide_eq_false_iff_not] at this
      cases p with
      | true => rfl
      | false => exact absurd (.inl rfl) this
    obtain ⟨s0, s1, s2, s3, s4, s5, s6⟩ := cells7 (HP.out hp)
    simp only [Nat.reduceAdd] at s0 s1 s2 s3 s4 s5 s6
    (try dsimp only at s1 s5)
    clear hp
    -- <part
    go_wp2_with (first | (go_at_call_of 15 m1; refine (HS1.out _).mono ?_; rintro e w1 ⟨rfl, hb1⟩; have x6 := later hb1 t6; have y0 := later hb1 s0; have y1 := later hb1 s1; have y2 := later hb1 s2; have y3 := later hb1 s3; have y4 := later hb1 s4; have y5 := later hb1 s5; have y6 := later hb1 s6; have HB1 := Lib.hid hb1; clear hb1) | (go_at_call_of 15 mb; refine (HS2.out _).mono ?_; rintro e w2 ⟨rfl, hb2⟩; have z6 := later hb2 x6; have z13 := later hb2 y6; have HB2 := Lib.hid (HB1.out.trans (hb2.mono HB1.out.size)); clear hb2))
    go_ret
    exact ⟨rfl, HB2.out⟩
    -- part>
def Z73 : List Value := Z72 ++ [.bool false]
theorem bldTr (W : World) : (Instr.build 69 #[]).run Tryd.prog W = .ok (.agg Z73.toArray) W := run_build W _ _ _ (by kernel_rfl)
theorem TG.new (t : TypeId) (w : World) : TG (cnQ (fun _ => none)) false w.heap.size (w.alloc (.cells Z73.toArray t)) := by
  have hr : (w.alloc (.cells Z73.toArray t)).rangeAt w.heap.size 0 Z73 := rg_new w Z73.toArray t
  have ht : (w.alloc (.cells Z73.toArray t)).there w.heap.size 0 73 := th_new w _ _ rfl
  have h1 := rg_left hr
  have h2 := rg_right hr
  rw [Z72_len, Nat.zero_add] at h2
  generalize w.alloc (.cells Z73.toArray t) = W at *
  refine ⟨fun i hi => ?_, h2 0 _ rfl, ht⟩
  have c : i = 0 ∨ i = 1 ∨ i = 2 ∨ i = 3 := by omega
  have hq0 := h1
  unfold Z72 at hq0
  have a0 := rg_left hq0
  have a1 := rg_left (rg_right hq0)
  have a2 := rg_left (rg_right (rg_right hq0))
  have a3 := rg_right (rg_right (rg_right hq0))
  simp only [cgR_len, Nat.reduceAdd, Nat.zero_add] at a1 a2 a3
  show W.rangeAt _ (i * 18) (cgR n0)
  clear hq0 hr h1 h2 ht
  generalize cgR n0 = z at *
  rcases c with rfl | rfl | rfl | rfl
  · exact a0
  · exact a1
  · exact a2
  · exact a3
set_option maxRecDepth 100000 in
set_option maxHeartbeats 2000000 in
theorem ntr_any (w : World) : Calls Tryd.prog 4 #[] w fun e w' => ∃ t, e = .returned (.pointer (some ⟨t, 0, none⟩)) ∧ TG (cnQ (fun _ => none)) false t w' ∧ w.heap.size ≤ t ∧ Below w.heap.size w w' := by
  have HB := Lib.hid (TG.new 69 w)
  go_enter Tryd.func4, Tryd.ntmps4
  go_wp2_with (first | (refine wpl_build0 rfl 69 rfl (.agg Z73.toArray) (bldTr _) ?_))
  go_ret
  exact ⟨_, rfl, HB.out, Nat.le_refl _, (Below.refl _ _).alloc (Nat.le_refl _) _⟩
set_option maxRecDepth 100000 in
set_option maxHeartbeats 2000000 in
theorem zm_any (m1 m2 : Int) (p : Bool) (N t r n cr d v side : Nat) (imp di mf : Bool) (a2 a3 : Int) (Q : QQ) (R : Nat → RU) (lc : Nat → Int) (w : World)
    (hm1 : 0 ≤ m1 ∧ m1 < 8) (hm2 : 0 ≤ m2 ∧ m2 < 8) (hN : N = if p then 2 else 1) (hpm : p = false → m2 = m1)
    (hT : TG (cnQ Q) imp t w) (hI : imp = di ∨ Q = fun _ => none) (hQ : okQ Q) (hside : Q side = none) (hs : side < 4) (hn : n = side + 1)
    (hR : RR w r n R) (hth : w.there r 0 (n * 2)) (hlc : ∀ i, i < n → (R i).2 = lc i) (ha3 : side = 3 → a3 = 3) (hmg : mrg (nQ Q side m1 m2) → side = 3)
    (hd : Bk w d 45 (deC v N N a2 a3 di).toArray) (hv : Bk w v 39 (vlC p m1 m2).toArray)
    (htr : t ≠ r) (htd : t ≠ d) (htv : t ≠ v) (hrd : r ≠ d) (hrv : r ≠ v) (hdv : d ≠ v) :
    Calls Tryd.prog 6 #[.pointer (some ⟨t, 0, none⟩), .slice (some ⟨r, 0, none⟩) n cr, .pointer (some ⟨d, 0, none⟩), .bool mf, .int .i64 (side : Int)] w fun e w' => e = .returned (.tuple #[]) ∧ McP m1 m2 p N N t r n d v side di mf a2 a3 Q R lc w w' := by
  have HM := Lib.hid (mc_any m1 m2 p N t r n cr d v side imp di mf a2 a3 Q R lc w hm1 hm2 hN hpm hT hI hQ hside hs hn hR hth hlc ha3 hmg hd hv htr htd htv hrd hrv hdv)
  clear hm1 hm2 hN hpm hT hI hQ hside hs hn hR hth hlc ha3 hmg hd hv htr htd htv hrd hrv hdv
  go_enter Tryd.func6, Tryd.ntmps6
  go_wp2_with (first | (go_at_call 14; refine HM.out.mono ?_; rintro e w2 ⟨rfl, h⟩))
  (try simp only [Exit.inBlock, Exit.then])
  refine bodyPost_end (results_none rfl _ _ _) rfl ?_
  exact ⟨rfl, h⟩
end Go.Proofs.YtmaljklijpoojaaDoor.Co
