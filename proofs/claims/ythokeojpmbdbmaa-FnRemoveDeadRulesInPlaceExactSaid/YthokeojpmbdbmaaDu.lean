/-
  Which selectors are dead.
-/
import Derived.Test.YthokeojpmbdbmaaDt
namespace Go.Proofs.Ythokeojpmbdbmaa.Dr
open Go.ChangeShapes Go.WideShapes Go.ChangeAt Go.RowKit Rg
set_option linter.unusedVariables false
set_option linter.unusedSimpArgs false
theorem any_more {α : Type} (f : α → Bool) (l : List α) (k : Nat) (hk : k < l.length) (h : (l.take k).any f = false) (h2 : f l[k] = false) : (l.take (k + 1)).any f = false := by
  rw [List.take_succ_eq_append_getElem hk, List.any_append, h]
  simp [h2]
theorem any_hit {α : Type} (f : α → Bool) (l : List α) (k : Nat) (hk : k < l.length) (h2 : f l[k] = true) : l.any f = true := List.any_eq_true.2 ⟨_, List.getElem_mem hk, h2⟩
theorem any_end {α : Type} (f : α → Bool) (l : List α) (n : Nat) (hn : n = l.length) (h : (l.take n).any f = false) : l.any f = false := by
  rwa [List.take_of_length_le (by omega)] at h
theorem all_more {α : Type} (f : α → Bool) (l : List α) (k : Nat) (hk : k < l.length) (h : (l.take k).all f = true) (h2 : f l[k] = true) : (l.take (k + 1)).all f = true := by
  rw [List.take_succ_eq_append_getElem hk, List.all_append, h]
  simp [h2]
theorem all_miss {α : Type} (f : α → Bool) (l : List α) (k : Nat) (hk : k < l.length) (h2 : f l[k] = false) : l.all f = false := by
  rw [List.all_eq_false]
  exact ⟨_, List.getElem_mem hk, by simp [h2]⟩
theorem all_end {α : Type} (f : α → Bool) (l : List α) (n : Nat) (hn : n = l.length) (h : (l.take n).all f = true) : l.all f = true := by
  rwa [List.take_of_length_le (by omega)] at h
theorem dS_0 : dS 0 = false := rfl
theorem dS_lo {k : Nat} (h2 : k ≠ 2) (h9 : k ≠ 9) : dS (256 + k) = false := by
  unfold dS
  rw [beq_eq_false_iff_ne.2 (by omega), beq_eq_false_iff_ne.2 (by omega)]
  rfl
theorem dS_hi (k : Nat) : dS (512 + k) = false := by
  unfold dS
  rw [beq_eq_false_iff_ne.2 (by omega), beq_eq_false_iff_ne.2 (by omega)]
  rfl
set_option maxRecDepth 100000 in
set_option maxHeartbeats 8000000 in
theorem d17 (X : Nat → Prop) (v : Value) (a : Cx) (w : World) (hX : ∀ b, X b → b < w.heap.size) (h : CxV Sb1 X w v a) (hsm : Sm a) :
    Calls Try.prog 17 #[v] w (fun e w' => e = .returned (.bool (dX a)) ∧ Below w.heap.size w w') := by
  obtain ⟨pa, pc, hv⟩ := RowV.slice h
  obtain ⟨n, hn⟩ : ∃ n, n = a.length := ⟨_, rfl⟩
  rw [← hn] at hv
  subst hv
  have hn4 : n ≤ 4096 := by rw [hn]; exact hsm.1
  have HO := Lib.hid (And.intro h (And.intro hX hn))
  have HSM := Lib.hid hsm
  obtain ⟨tC, hC, hC2⟩ := tyCmp
  obtain ⟨dS', hS, hS2⟩ := tySub
  clear h hX hn hsm
  go_enter Try.func17, Try.ntmps17
  go_upto_block 0 with fail
  have HST := Lib.hid (Below.refl w.heap.size w)
  refine wp_block ?_
  go_loopw [11] (fun i wr => ∃ (k : Nat), k ≤ n ∧ i = .int .i64 k ∧ Hid ((a.take k).any dC = false) ∧ Hid (Below w.heap.size w wr)) (fun i _ => n - (intOf i).toNat)
  case atStart => exact ⟨0, Nat.zero_le _, rfl, Lib.hid rfl, HST⟩
  case round =>
    clear HST
    obtain ⟨k, hk, rfl, HT, HW⟩ := hrel
    by_cases hlt : k < n
    · as_aux_lemma =>
      have q0 : (0 : Int) ≤ k := by omega
      have q1 : (k : Int) < n := by omega
      have kL : k < a.length := by have := HO.out.2.2; omega
      obtain ⟨g, c, x, hve, hXg, hr, hx⟩ := RowV.at HO.out.1 (fun _ => rfl) kL
      simp only [Value.slice.injEq] at hve
      obtain ⟨rfl, hz, rfl⟩ := hve
      clear hz
      obtain ⟨b, hb⟩ : ∃ b, b = a[k] := ⟨_, rfl⟩
      rw [← hb] at hx
      obtain ⟨xa, xc, hxe⟩ := RowV.slice hx
      obtain ⟨m, hm⟩ : ∃ m, m = b.length := ⟨_, rfl⟩
      rw [← hm] at hxe
      subst hxe
      have hm4 : m ≤ 4096 := by rw [hm, hb]; exact HSM.out.2 _ (List.getElem_mem kL)
      have HB := Lib.hid (And.intro hx (And.intro hm hb))
      have HR := Lib.hid (rg_keep HW.out hr)
      clear hx hm hb hr hXg
      go_upto_region 4 with (first
        | (refine wpList_load_mid rfl 83 _ rfl g (k * 6) rfl (cmc (.slice xa m xc)) tC HR.out hC hC2 szCmp ?_)
        | (refine wpList_store_mid rfl 83 _ _ rfl wr.heap.size 0 (cmc (.slice xa m xc)).toArray rfl rfl (th_new wr _ _ rfl) szCmp (cmc_all _ _ _) ?_))
      have hbS : Below wr.heap.size wr ((wr.alloc (.cells #[.pointer none, .slice none 0 0, .slice none 0 0, .int .i32 0, .int .u8 0, .bool false] 83)).setCells wr.heap.size 0 (cmc (.slice xa m xc))) := below_setCells (Nat.le_refl _) _ _ ((Below.refl _ _).alloc (Nat.le_refl _) _)
      have hrS : ((wr.alloc (.cells #[.pointer none, .slice none 0 0, .slice none 0 0, .int .i32 0, .int .u8 0, .bool false] 83)).setCells wr.heap.size 0 (cmc (.slice xa m xc))).rangeAt wr.heap.size 0 (cmc (.slice xa m xc)) := World.rangeAt_setCells_same _ _ _ _ (th_new wr _ _ rfl)
      generalize World.setCells _ _ _ _ = w5 at *
      obtain ⟨d0, d1, d2, d3, d4⟩ := cmc_at hrS
      have HW5 := Lib.hid (HW.out.trans (hbS.mono HW.out.size))
      clear hbS hrS HR HW
      generalize wr.heap.size = b6 at *
      clear wr
      as_aux_lemma =>
      go_upto_block 2 with fail
      clear d0 d1 d2 d3 d4
      refine wp_block ?_
      have HST := Lib.hid HW5.out
      go_loopw [18] (fun i wr => ∃ (q : Nat), q ≤ m ∧ i = .int .i64 q ∧ Hid ((b.take q).any dS = false) ∧ Hid (Below w.heap.size w wr)) (fun i _ => m - (intOf i).toNat)
      case atStart => exact ⟨0, Nat.zero_le _, rfl, Lib.hid rfl, HST⟩
      case round =>
        clear HST HW5
        obtain ⟨q, hq, rfl, HQ, HV⟩ := hrel
        by_cases hlq : q < m
        · as_aux_lemma =>
          have z0 : (0 : Int) ≤ q := by omega
          have z1 : (q : Int) < m := by omega
          have qL : q < b.length := by have := HB.out.2.1; omega
          obtain ⟨g2, c, y, hve, -, hr, hy⟩ := RowV.at HB.out.1 (fun _ => rfl) qL
          simp only [Value.slice.injEq] at hve
          obtain ⟨rfl, hz, rfl⟩ := hve
          clear hz
          obtain ⟨sc, hsc⟩ : ∃ z, z = b[q] := ⟨_, rfl⟩
          rw [← hsc] at hy
          have hy2 : ∃ T p, y = .iface T (.pointer (some ⟨p, 0, none⟩)) := by
            rcases hy with ⟨-, p, rfl, -, -⟩ | ⟨p, v, M0, k, rfl, -⟩
            · exact ⟨_, _, rfl⟩
            · exact ⟨_, _, rfl⟩
          obtain ⟨T, p, rfl⟩ := hy2
          have HY := Lib.hid (And.intro (loc1 _ _ _ _ _ _ (To.below HO.out.2.1 HV.out) hy) hsc)
          have HR := Lib.hid (rg_keep HV.out hr)
          clear hy hr hsc
          go_upto_region 7 with (first
            | (refine wpList_load_mid rfl 94 _ rfl g2 (q * 3) rfl (sbc (.iface T (.pointer (some ⟨p, 0, none⟩)))) dS' HR.out hS hS2 szSub ?_)
            | (refine wpList_store_mid rfl 94 _ _ rfl wr.heap.size 0 (sbc (.iface T (.pointer (some ⟨p, 0, none⟩)))).toArray rfl rfl (th_new wr _ _ rfl) szSub (sbc_all _ _) ?_))
          have hbS : Below wr.heap.size wr ((wr.alloc (.cells #[.nilIface, .int .i32 0, .int .i32 0] 94)).setCells wr.heap.size 0 (sbc (.iface T (.pointer (some ⟨p, 0, none⟩))))) := below_setCells (Nat.le_refl _) _ _ ((Below.refl _ _).alloc (Nat.le_refl _) _)
          have hrS : ((wr.alloc (.cells #[.nilIface, .int .i32 0, .int .i32 0] 94)).setCells wr.heap.size 0 (sbc (.iface T (.pointer (some ⟨p, 0, none⟩))))).rangeAt wr.heap.size 0 (sbc (.iface T (.pointer (some ⟨p, 0, none⟩)))) := World.rangeAt_setCells_same _ _ _ _ (th_new wr _ _ rfl)
          generalize World.setCells _ _ _ _ = w9 at *
          have c0 := hrS 0 _ rfl
          simp only [Nat.zero_add] at c0
          have HW9 := Lib.hid (HV.out.trans (hbS.mono HV.out.size))
          have hX9 : ∀ b, X b → b < wr.heap.size := fun b h => Nat.lt_of_lt_of_le (HO.out.2.1 b h) HV.out.size
          have hY9 := loc1 _ _ _ _ _ _ (To.below hX9 hbS) HY.out.1
          have HSC := Lib.hid HY.out.2
          clear hbS hrS HR HV HY hX9
          generalize wr.heap.size = b10 at *
          clear wr
          as_aux_lemma =>
          rcases hY9 with ⟨hz0, p', hpe, -, -⟩ | ⟨p', lv, M0, kk, hpe, -, hr, hkk, hM, hcase⟩
          · cases hpe
            subst hz0
            have HEQ := Lib.hid (any_more dS b q qL HQ.out (by rw [← HSC.out]; rfl))
            have h1 := fun W => ta_lp p W
            clear HSC
            go_wp2_with fail
            exact ⟨⟨q + 1, by omega, by go_num, HEQ, HW9⟩, by simp [intOf]; omega⟩
          · cases hpe
            obtain ⟨la, lc, hle⟩ := RowV.slice hM
            have h1 := fun W => ta_ll p W
            have l0 := hr 0 _ rfl
            have l2 := hr 3 _ rfl
            simp only [Nat.zero_add] at l0 l2
            clear hr hM
            subst hle
            rcases hcase with ⟨hce, rfl⟩ | ⟨hce, rfl⟩
            · simp only [List.length_nil] at l0
              by_cases k2 : kk = 2
              · subst k2
                have HEQ := Lib.hid (any_hit dC a k kL (by rw [← HB.out.2.2]; exact any_hit dS b q qL (by rw [← HSC.out, hce]; rfl)))
                clear hce HSC hkk
                go_wp2_with fail
                go_ret
                exact ⟨by unfold dX; rw [HEQ.out]; rfl, HW9.out⟩
              · by_cases k9 : kk = 9
                · subst k9
                  have HEQ := Lib.hid (any_hit dC a k kL (by rw [← HB.out.2.2]; exact any_hit dS b q qL (by rw [← HSC.out, hce]; rfl)))
                  clear hce HSC hkk
                  go_wp2_with fail
                  go_ret
                  exact ⟨by unfold dX; rw [HEQ.out]; rfl, HW9.out⟩
                · have e2 : ((kk : Int) == 2) = false := beq_eq_false_iff_ne.2 (by omega)
                  have e9 : ((kk : Int) == 9) = false := beq_eq_false_iff_ne.2 (by omega)
                  have HEQ := Lib.hid (any_more dS b q qL HQ.out (by rw [← HSC.out, hce]; exact dS_lo k2 k9))
                  clear k2 k9 hce HSC hkk
                  go_wp2_with fail
                  exact ⟨⟨q + 1, by omega, by go_num, HEQ, HW9⟩, by simp [intOf]; omega⟩
            · simp only [List.length_cons, List.length_nil, Nat.zero_add] at l0
              have HEQ := Lib.hid (any_more dS b q qL HQ.out (by rw [← HSC.out, hce]; exact dS_hi kk))
              clear hce HSC hkk
              go_wp2_with fail
              exact ⟨⟨q + 1, by omega, by go_num, HEQ, HW9⟩, by simp [intOf]; omega⟩
        · as_aux_lemma =>
          obtain rfl : q = m := by omega
          have HEQ := Lib.hid (any_more dC a k kL HT.out (by rw [← HB.out.2.2]; exact any_end dS b q HB.out.2.1 HQ.out))
          go_wp2_with fail
          exact ⟨⟨k + 1, by omega, by go_num, HEQ, HV⟩, by simp [intOf]; omega⟩
    · as_aux_lemma =>
      obtain rfl : k = n := by omega
      have HEQ := Lib.hid (any_end dC a k HO.out.2.2 HT.out)
      go_wp2_with fail
      go_ret
      exact ⟨by unfold dX; rw [HEQ.out]; rfl, HW.out⟩
set_option maxRecDepth 100000 in
set_option maxHeartbeats 8000000 in
theorem d14 (X : Nat → Prop) (v : Value) (a : Md) (w : World) (hX : ∀ b, X b → b < w.heap.size) (h : MdV Sb1 X w v a) (hsm : SmM a) :
    Calls Try.prog 14 #[v] w (fun e w' => e = .returned (.bool (dR a)) ∧ Below w.heap.size w w') := by
  obtain ⟨pa, pc, hv⟩ := RowV.slice h
  obtain ⟨n, hn⟩ : ∃ n, n = a.length := ⟨_, rfl⟩
  rw [← hn] at hv
  subst hv
  have hn4 : n ≤ 4096 := by rw [hn]; exact hsm.1
  have HO := Lib.hid (And.intro h (And.intro hX hn))
  have HSM := Lib.hid hsm
  obtain ⟨tC, hC, hC2⟩ := tyCpl
  clear h hX hn hsm
  go_enter Try.func14, Try.ntmps14
  go_upto_block 0 with fail
  have HST := Lib.hid (Below.refl w.heap.size w)
  refine wp_block ?_
  go_loopw [7] (fun i wr => ∃ (k : Nat), k ≤ n ∧ i = .int .i64 k ∧ Hid ((a.take k).all dX = true) ∧ Hid (Below w.heap.size w wr)) (fun i _ => n - (intOf i).toNat)
  case atStart => exact ⟨0, Nat.zero_le _, rfl, Lib.hid rfl, HST⟩
  case round =>
    clear HST
    obtain ⟨k, hk, rfl, HT, HW⟩ := hrel
    by_cases hlt : k < n
    · as_aux_lemma =>
      have q0 : (0 : Int) ≤ k := by omega
      have q1 : (k : Int) < n := by omega
      have kL : k < a.length := by have := HO.out.2.2; omega
      obtain ⟨g, c, x, hve, hXg, hr, hx⟩ := RowV.at HO.out.1 (fun _ => rfl) kL
      simp only [Value.slice.injEq] at hve
      obtain ⟨rfl, hz, rfl⟩ := hve
      clear hz
      obtain ⟨b, hb⟩ : ∃ b, b = a[k] := ⟨_, rfl⟩
      have hsb := HSM.out.2 _ (List.getElem_mem kL)
      rw [← hb] at hx hsb
      obtain ⟨xa, xc, hxe⟩ := RowV.slice hx
      obtain ⟨m, hm⟩ : ∃ m, m = b.length := ⟨_, rfl⟩
      rw [← hm] at hxe
      subst hxe
      rw [Nat.mul_one] at hr
      have HB := Lib.hid (And.intro hx (And.intro hsb hb))
      have HR := Lib.hid (rg_keep HW.out hr)
      clear hx hm hb hr hXg hsb
      go_upto_region 4 with (first
        | (refine wpList_load_mid rfl 48 _ rfl g k rfl (one (.slice xa m xc)) tC HR.out hC hC2 szCpl ?_)
        | (refine wpList_store_mid rfl 48 _ _ rfl wr.heap.size 0 (one (.slice xa m xc)).toArray rfl rfl (th_new wr _ _ rfl) szCpl (one_all _ _ _) ?_))
      have hbS : Below wr.heap.size wr ((wr.alloc (.cells #[.slice none 0 0] 48)).setCells wr.heap.size 0 (one (.slice xa m xc))) := below_setCells (Nat.le_refl _) _ _ ((Below.refl _ _).alloc (Nat.le_refl _) _)
      have hrS : ((wr.alloc (.cells #[.slice none 0 0] 48)).setCells wr.heap.size 0 (one (.slice xa m xc))).rangeAt wr.heap.size 0 (one (.slice xa m xc)) := World.rangeAt_setCells_same _ _ _ _ (th_new wr _ _ rfl)
      change Code.wp _ _ _ _ (World.setCells _ wr.heap.size 0 (one (.slice xa m xc)))
      generalize World.setCells _ _ _ _ = w5 at *
      have c0 := hrS 0 _ rfl
      simp only [Nat.zero_add] at c0
      have HW5 := Lib.hid (HW.out.trans (hbS.mono HW.out.size))
      clear hbS hrS HR HW
      generalize wr.heap.size = b6 at *
      clear wr
      as_aux_lemma =>
      go_wp2_with fail
      refine (d17 X _ b w5 (fun b h => Nat.lt_of_lt_of_le (HO.out.2.1 b h) HW5.out.size) (CxV.to loc1 HB.out.1 (To.below HO.out.2.1 HW5.out)) HB.out.2.1).mono ?_
      rintro e w6 ⟨rfl, hf⟩
      have HW6 := Lib.hid (HW5.out.trans (hf.mono HW5.out.size))
      clear hf c0 HW5
      obtain ⟨dd, hdd⟩ : ∃ d, d = dX b := ⟨_, rfl⟩
      rw [← hdd]
      have HDD := Lib.hid hdd
      clear hdd
      cases dd with
      | true =>
        have HEQ := Lib.hid (all_more dX a k kL HT.out (by rw [← HB.out.2.2]; exact HDD.out.symm))
        go_wp2_with fail
        exact ⟨⟨k + 1, by omega, by go_num, HEQ, HW6⟩, by simp [intOf]; omega⟩
      | false =>
        have HEQ := Lib.hid (all_miss dX a k kL (by rw [← HB.out.2.2]; exact HDD.out.symm))
        go_wp2_with fail
        go_ret
        exact ⟨by unfold dR; rw [HEQ.out]; rfl, HW6.out⟩
    · as_aux_lemma =>
      obtain rfl : k = n := by omega
      have HEQ := Lib.hid (all_end dX a k HO.out.2.2 HT.out)
      go_wp2_with fail
      go_ret
      exact ⟨by unfold dR; rw [HEQ.out]; rfl, HW.out⟩
end Go.Proofs.Ythokeojpmbdbmaa.Dr
