/-
  The premise.
-/
import Derived.Test.YtbpnmiedomchpaaFd
namespace Go.Proofs.Ytbpnmiedomchpaa.Fg
open Go.ChangeShapes Go.WideShapes Go.ChangeAt Go.RowKit Rg
set_option linter.unusedVariables false
set_option linter.unusedSimpArgs false
theorem tk_more {α : Type} {P : α → Prop} {l : List α} {k : Nat} (hk : k < l.length) (h : ∀ x ∈ l.take k, P x) (h2 : P l[k]) : ∀ x ∈ l.take (k + 1), P x := fun x hx => by
  rw [List.take_succ_eq_append_getElem hk, List.mem_append, List.mem_singleton] at hx
  rcases hx with hx | hx
  · exact h x hx
  · rw [hx]; exact h2
theorem tk_all {α : Type} {P : α → Prop} {l : List α} {n : Nat} (hn : n = l.length) (h : ∀ x ∈ l.take n, P x) : ∀ x ∈ l, P x := fun x hx => h x (by rw [List.take_of_length_le (by omega)]; exact hx)
def NoLG (N : List ByteArray) : Prop := ∀ n ∈ N, lgN n = false
def PmS (s : Sj) : Prop := s.wr = true → lgK s.kd = true → s.I ≠ [] ∧ ∀ i ∈ s.I, NoLG i.N
def PmC (C : List Co) : Prop := ∀ c ∈ C, ∀ s ∈ c.S, PmS s
def BoP (Q : Prop) (w : World) (e : Ending) (w' : World) : Prop := (∃ r : Bool, e = .returned (.bool r) ∧ (r = true → Q)) ∧ Below w.heap.size w w'
theorem bo_no {Q : Prop} {w w' : World} (h : Below w.heap.size w w') : BoP Q w (.returned (.bool false)) w' := ⟨⟨false, rfl, fun h => by cases h⟩, h⟩
set_option maxRecDepth 100000 in
set_option maxHeartbeats 8000000 in
theorem prm57 (X : Nat → Prop) (v : Value) (C : List Co) (w : World) (hv : CoV X w v C) (hl : wC C ≤ 1048576) :
    Calls Try.prog 7 #[v] w (BoP (PmC C) w) := by
  obtain ⟨va, vc, hve⟩ := RW.slice hv
  obtain ⟨m, hm⟩ : ∃ m, m = C.length := ⟨_, rfl⟩
  rw [← hm] at hve
  subst hve
  have hm2 : m ≤ 1048576 := by unfold wC at hl; omega
  have HC := Lib.hid (And.intro hv (And.intro hm hl))
  obtain ⟨tS, hS, hS2⟩ := tySj
  obtain ⟨tI, hI, hI2⟩ := tyIn
  clear hv hm hl
  go_enter Try.func7, Try.ntmps7
  go_upto_block 0 with fail
  refine wp_block ?_
  have HST := Lib.hid (Below.refl w.heap.size w)
  go_loopw [3] (fun i wr => ∃ (k : Nat), k ≤ m ∧ i = .int .i64 k ∧ Hid (∀ c ∈ C.take k, ∀ s ∈ c.S, PmS s) ∧ Hid (Below w.heap.size w wr)) (fun i _ => m - (intOf i).toNat)
  case atStart => exact ⟨0, Nat.zero_le _, rfl, Lib.hid (fun c hc => by cases hc), HST⟩
  case round =>
    clear HST
    obtain ⟨k, hk, rfl, HQ, HW⟩ := hrel
    by_cases hlt : k < m
    · as_aux_lemma =>
      have q0 : (0 : Int) ≤ k := by omega
      have q1 : (k : Int) < m := by omega
      have kL : k < C.length := by have := HC.out.2.1; omega
      obtain ⟨g, o, cc, a2, c2, hve, -, hr, -, hSv⟩ := CoV.at HC.out.1 kL
      simp only [Value.slice.injEq] at hve
      obtain ⟨rfl, hz, rfl⟩ := hve
      clear hz
      have hw : wS C[k].S ≤ 1048576 := by
        have h1 := wC_mem (List.getElem_mem kL)
        have h2 := HC.out.2.2
        omega
      obtain ⟨m2, hm2⟩ : ∃ m, m = C[k].S.length := ⟨_, rfl⟩
      have hm24 : m2 ≤ 1048576 := by rw [hm2]; exact Nat.le_trans (wS_len _) hw
      rw [← hm2] at hr hSv
      have HD := Lib.hid (And.intro (hr 3 _ rfl) (And.intro hSv (And.intro hm2 hw)))
      clear hr hSv hm2 hw
      go_upto_block 2 with fail
      refine wp_block ?_
      go_loopw [4] (fun i wr => ∃ (k2 : Nat), k2 ≤ m2 ∧ i = .int .i64 k2 ∧ Hid (∀ s ∈ C[k].S.take k2, PmS s) ∧ Hid (Below w.heap.size w wr)) (fun i _ => m2 - (intOf i).toNat)
      case atStart => exact ⟨0, Nat.zero_le _, rfl, Lib.hid (fun c hc => by cases hc), HW⟩
      case round =>
        clear HW
        obtain ⟨k2, hk2, rfl, HQ2, HV⟩ := hrel
        have d3 := later HV.out HD.out.1
        by_cases hlt2 : k2 < m2
        · as_aux_lemma =>
          have r0 : (0 : Int) ≤ k2 := by omega
          have r1 : (k2 : Int) < m2 := by omega
          have kL2 : k2 < C[k].S.length := by have := HD.out.2.2.1; omega
          obtain ⟨g2, o2, cc2, a3, c3, hve, -, hr, hkd6, hIv⟩ := SjV.at HD.out.2.1 kL2
          simp only [Value.slice.injEq] at hve
          obtain ⟨rfl, hz, rfl⟩ := hve
          clear hz
          have hwI : wI (C[k].S[k2]).I ≤ 1048576 := by
            have h1 := wS_mem (List.getElem_mem kL2)
            have h2 := HD.out.2.2.2
            omega
          obtain ⟨m3, hm3⟩ : ∃ m, m = (C[k].S[k2]).I.length := ⟨_, rfl⟩
          have hm34 : m3 ≤ 1048576 := by rw [hm3]; exact Nat.le_trans (wI_len _) hwI
          obtain ⟨nm, hnm⟩ : ∃ x, x = (C[k].S[k2]).nm := ⟨_, rfl⟩
          obtain ⟨wb, hwb⟩ : ∃ x, x = (C[k].S[k2]).wr := ⟨_, rfl⟩
          obtain ⟨kd, hkd⟩ : ∃ x, x = (C[k].S[k2]).kd := ⟨_, rfl⟩
          rw [← hm3, ← hnm, ← hwb, ← hkd] at hr
          rw [← hm3] at hIv
          rw [← hkd] at hkd6
          have H3 := Lib.hid (And.intro hIv (And.intro hm3 (And.intro hwI (And.intro hwb hkd))))
          have HR := Lib.hid (rg_keep HV.out hr)
          clear hr hIv hm3 hnm hwb hkd hwI
          go_upto_region 8 with (first
            | (refine wpList_load_mid rfl 58 _ rfl g2 (o2 + k2 * 4) rfl (sj4 wb kd nm a3 m3 c3) tS HR.out hS hS2 szSj ?_)
            | (refine wpList_store_mid rfl 58 _ _ rfl wr.heap.size 0 (sj4 wb kd nm a3 m3 c3).toArray rfl rfl (th_new wr _ _ rfl) szSj (sj4_all _ _ _ _ _ _) ?_))
          have hbS : Below wr.heap.size wr ((wr.alloc (.cells #[.bool false, .int .u8 0, .string ⟨#[]⟩, .slice none 0 0] 58)).setCells wr.heap.size 0 (sj4 wb kd nm a3 m3 c3)) := below_setCells (Nat.le_refl _) _ _ ((Below.refl _ _).alloc (Nat.le_refl _) _)
          have hrS : ((wr.alloc (.cells #[.bool false, .int .u8 0, .string ⟨#[]⟩, .slice none 0 0] 58)).setCells wr.heap.size 0 (sj4 wb kd nm a3 m3 c3)).rangeAt wr.heap.size 0 (sj4 wb kd nm a3 m3 c3) := World.rangeAt_setCells_same _ _ _ _ (th_new wr _ _ rfl)
          generalize World.setCells _ _ _ _ = w5 at *
          have e0 := hrS 0 _ rfl
          have e1 := hrS 1 _ rfl
          have e3 := hrS 3 _ rfl
          simp only [Nat.zero_add] at e0 e1 e3
          have HW5 := Lib.hid (And.intro (HV.out.trans (hbS.mono HV.out.size)) hrS)
          clear hbS hrS HR HV d3
          generalize wr.heap.size = b6 at *
          clear wr
          as_aux_lemma =>
          cases wb with
          | false =>
            as_aux_lemma =>
            have HN := Lib.hid (tk_more kL2 HQ2.out (fun h => by rw [← H3.out.2.2.2.1] at h; cases h))
            have HB := Lib.hid HW5.out.1
            go_wp2_with fail
            exact ⟨⟨k2 + 1, by omega, by go_num, HN, HB⟩, by simp [intOf]; omega⟩
          | true =>
            go_wp2_with fail
            refine (lgk_any kd hkd6 w5).mono ?_
            rintro e w6 ⟨rfl, hf⟩
            rw [← hf]
            clear hf w6
            obtain ⟨lg, hlg⟩ : ∃ x, x = lgK kd := ⟨_, rfl⟩
            rw [← hlg]
            have HLG := Lib.hid hlg
            clear hlg
            cases lg with
            | false =>
              as_aux_lemma =>
              have HN := Lib.hid (tk_more kL2 HQ2.out (fun _ h => by rw [← H3.out.2.2.2.2, ← HLG.out] at h; cases h))
              have HB := Lib.hid HW5.out.1
              go_wp2_with fail
              exact ⟨⟨k2 + 1, by omega, by go_num, HN, HB⟩, by simp [intOf]; omega⟩
            | true =>
              as_aux_lemma =>
              by_cases h0 : m3 = 0
              · as_aux_lemma =>
                subst h0
                have HB := Lib.hid HW5.out.1
                go_wp2_with fail
                go_ret
                exact bo_no HB.out
              have h0' : ¬ (m3 : Int) = 0 := by omega
              have h0'' : ((m3 : Int) == 0) = false := beq_eq_false_iff_ne.2 h0'
              clear e0 e1
              go_upto_block 4 with fail
              clear e3
              refine wp_block ?_
              go_loopw [6] (fun i wr => ∃ (k3 : Nat), k3 ≤ m3 ∧ i = .int .i64 k3 ∧ Hid (∀ i ∈ (C[k].S[k2]).I.take k3, NoLG i.N) ∧ Hid (Below w.heap.size w wr ∧ wr.rangeAt b6 0 (sj4 true kd nm a3 m3 c3))) (fun i _ => m3 - (intOf i).toNat)
              case atStart => exact ⟨0, Nat.zero_le _, rfl, Lib.hid (fun c hc => by cases hc), HW5⟩
              case round =>
                clear HW5
                obtain ⟨k3, hk3, rfl, HQ3, HU⟩ := hrel
                have e3 := HU.out.2 3 _ rfl
                simp only [Nat.zero_add] at e3
                by_cases hlt3 : k3 < m3
                · as_aux_lemma =>
                  have u0 : (0 : Int) ≤ k3 := by omega
                  have u1 : (k3 : Int) < m3 := by omega
                  have kL3 : k3 < (C[k].S[k2]).I.length := by have := H3.out.2.1; omega
                  obtain ⟨g3, o3, cc3, a4, c4, hve, -, hr, -, hN⟩ := InV.at H3.out.1 kL3
                  simp only [Value.slice.injEq] at hve
                  obtain ⟨rfl, hz, rfl⟩ := hve
                  clear hz
                  obtain ⟨m4, hm4⟩ : ∃ m, m = ((C[k].S[k2]).I[k3]).N.length := ⟨_, rfl⟩
                  have hm44 : m4 ≤ 1048576 := by
                    have h1 := wI_mem (List.getElem_mem kL3)
                    have h2 := H3.out.2.2.1
                    have h3 := wN_len ((C[k].S[k2]).I[k3]).N
                    omega
                  obtain ⟨am2, ham2⟩ : ∃ x, x = ((C[k].S[k2]).I[k3]).am := ⟨_, rfl⟩
                  obtain ⟨ty2, hty2⟩ : ∃ x, x = ((C[k].S[k2]).I[k3]).ty := ⟨_, rfl⟩
                  obtain ⟨cb2, hcb2⟩ : ∃ x, x = ((C[k].S[k2]).I[k3]).cb := ⟨_, rfl⟩
                  rw [← hm4, ← ham2, ← hty2, ← hcb2] at hr
                  rw [← hm4] at hN
                  have HD4 := Lib.hid (And.intro hN hm4)
                  have HR := Lib.hid (rg_keep HU.out.1 hr)
                  clear hr hN hm4 ham2 hty2 hcb2
                  go_upto_region 15 with (first
                    | (refine wpList_load_mid rfl 60 _ rfl g3 (o3 + k3 * 4) rfl (in4 cb2 ty2 am2 a4 m4 c4) tI HR.out hI hI2 szIn ?_)
                    | (refine wpList_store_mid rfl 60 _ _ rfl wr.heap.size 0 (in4 cb2 ty2 am2 a4 m4 c4).toArray rfl rfl (th_new wr _ _ rfl) szIn (in4_all _ _ _ _ _ _) ?_))
                  have hbS : Below wr.heap.size wr ((wr.alloc (.cells #[.int .u8 0, .int .u8 0, .int .u8 0, .slice none 0 0] 60)).setCells wr.heap.size 0 (in4 cb2 ty2 am2 a4 m4 c4)) := below_setCells (Nat.le_refl _) _ _ ((Below.refl _ _).alloc (Nat.le_refl _) _)
                  have hrS : ((wr.alloc (.cells #[.int .u8 0, .int .u8 0, .int .u8 0, .slice none 0 0] 60)).setCells wr.heap.size 0 (in4 cb2 ty2 am2 a4 m4 c4)).rangeAt wr.heap.size 0 (in4 cb2 ty2 am2 a4 m4 c4) := World.rangeAt_setCells_same _ _ _ _ (th_new wr _ _ rfl)
                  generalize World.setCells _ _ _ _ = w7 at *
                  have f1 := hrS 1 _ rfl
                  have f2 := hrS 2 _ rfl
                  have f3 := hrS 3 _ rfl
                  simp only [Nat.zero_add] at f1 f2 f3
                  have HW7 := Lib.hid (And.intro (HU.out.1.trans (hbS.mono HU.out.1.size)) (And.intro (rg_keep hbS HU.out.2) hrS))
                  clear hbS hrS HR HU e3
                  generalize wr.heap.size = b8 at *
                  clear wr
                  as_aux_lemma =>
                  dsimp only [Act.put]
                  go_cut [71] (fun z wx => ∃ bz : Bool, z = .bool bz ∧ Hid (wx = w7))
                  case first =>
                    by_cases t0 : ty2 = 0
                    · subst t0
                      by_cases t1 : am2 = 0
                      · subst t1
                        by_cases t2 : m4 = 0
                        · as_aux_lemma =>
                          subst t2
                          go_wp2_with fail
                          go_meet
                          exact ⟨_, rfl, Lib.hid rfl⟩
                        · as_aux_lemma =>
                          have t2' : ((m4 : Int) == 0) = false := beq_eq_false_iff_ne.2 (by omega)
                          go_wp2_with fail
                          go_meet
                          exact ⟨_, rfl, Lib.hid rfl⟩
                      · as_aux_lemma =>
                        have t1' : ((am2 : Int) == 0) = false := beq_eq_false_iff_ne.2 (by omega)
                        go_wp2_with fail
                        go_meet
                        exact ⟨_, rfl, Lib.hid rfl⟩
                    · as_aux_lemma =>
                      have t0' : ((ty2 : Int) == 0) = false := beq_eq_false_iff_ne.2 (by omega)
                      go_wp2_with fail
                      go_meet
                      exact ⟨_, rfl, Lib.hid rfl⟩
                  case rest =>
                  obtain ⟨bz, rfl, HWC⟩ := hcut
                  have hwc := HWC.out
                  rw [hwc]
                  clear hwc HWC
                  cases bz with
                  | true =>
                    as_aux_lemma =>
                    have HB := Lib.hid HW7.out.1
                    go_wp2_with fail
                    go_ret
                    exact bo_no HB.out
                  | false =>
                  as_aux_lemma =>
                  go_upto_block 6 with fail
                  clear f1 f2 f3
                  refine wp_block ?_
                  go_loopw [8] (fun i wr => ∃ (k4 : Nat), k4 ≤ m4 ∧ i = .int .i64 k4 ∧ Hid (∀ n ∈ ((C[k].S[k2]).I[k3]).N.take k4, lgN n = false) ∧ Hid (Below w.heap.size w wr ∧ wr.rangeAt b6 0 (sj4 true kd nm (some ⟨g3, o3, none⟩) m3 c3) ∧ wr.rangeAt b8 0 (in4 cb2 ty2 am2 a4 m4 c4))) (fun i _ => m4 - (intOf i).toNat)
                  case atStart => exact ⟨0, Nat.zero_le _, rfl, Lib.hid (fun c hc => by cases hc), HW7⟩
                  case round =>
                    clear HW7
                    obtain ⟨k4, hk4, rfl, HQ4, HT⟩ := hrel
                    have f3 := HT.out.2.2 3 _ rfl
                    simp only [Nat.zero_add] at f3
                    by_cases hlt4 : k4 < m4
                    · as_aux_lemma =>
                      have x0 : (0 : Int) ≤ k4 := by omega
                      have x1 : (k4 : Int) < m4 := by omega
                      have kL4 : k4 < ((C[k].S[k2]).I[k3]).N.length := by have := HD4.out.2; omega
                      obtain ⟨g4, o4, cc4, hve, -, hc⟩ := NmV.at HD4.out.1 kL4
                      simp only [Value.slice.injEq] at hve
                      obtain ⟨rfl, hz, rfl⟩ := hve
                      clear hz
                      obtain ⟨nn, hnn⟩ : ∃ x, x = ((C[k].S[k2]).I[k3]).N[k4] := ⟨_, rfl⟩
                      rw [← hnn] at hc
                      have e5 := later HT.out.1 hc
                      have HNN := Lib.hid hnn
                      clear hc hnn
                      go_wp2_with fail
                      refine (lgn_any nn wr).mono ?_
                      rintro e w9 ⟨rfl, hf⟩
                      rw [← hf]
                      clear hf w9 e5
                      obtain ⟨lg2, hlg⟩ : ∃ x, x = lgN nn := ⟨_, rfl⟩
                      rw [← hlg]
                      have HLG2 := Lib.hid hlg
                      clear hlg
                      cases lg2 with
                      | true =>
                        as_aux_lemma =>
                        have HB := Lib.hid HT.out.1
                        go_wp2_with fail
                        go_ret
                        exact bo_no HB.out
                      | false =>
                        as_aux_lemma =>
                        have HN := Lib.hid (tk_more kL4 HQ4.out (by rw [← HNN.out]; exact HLG2.out.symm))
                        go_wp2_with fail
                        exact ⟨⟨k4 + 1, by omega, by go_num, HN, HT⟩, by simp [intOf]; omega⟩
                    · as_aux_lemma =>
                      obtain rfl : k4 = m4 := by omega
                      have HN := Lib.hid (tk_more kL3 HQ3.out (tk_all HD4.out.2 HQ4.out))
                      have HB := Lib.hid (And.intro HT.out.1 HT.out.2.1)
                      go_wp2_with fail
                      exact ⟨⟨k3 + 1, by omega, by go_num, HN, HB⟩, by simp [intOf]; omega⟩
                · as_aux_lemma =>
                  obtain rfl : k3 = m3 := by omega
                  have HN := Lib.hid (tk_more kL2 HQ2.out (fun _ _ => ⟨fun e => by have h := H3.out.2.1; rw [e] at h; exact h0 h, tk_all H3.out.2.1 HQ3.out⟩))
                  have HB := Lib.hid HU.out.1
                  go_wp2_with fail
                  exact ⟨⟨k2 + 1, by omega, by go_num, HN, HB⟩, by simp [intOf]; omega⟩
        · as_aux_lemma =>
          obtain rfl : k2 = m2 := by omega
          have HN := Lib.hid (tk_more kL HQ.out (tk_all HD.out.2.2.1 HQ2.out))
          go_wp2_with fail
          exact ⟨⟨k + 1, by omega, by go_num, HN, HV⟩, by simp [intOf]; omega⟩
    · as_aux_lemma =>
      obtain rfl : k = m := by omega
      have HN := Lib.hid (tk_all HC.out.2.1 HQ.out)
      go_wp2_with fail
      go_ret
      exact ⟨⟨true, rfl, fun _ => HN.out⟩, HW.out⟩
end Go.Proofs.Ytbpnmiedomchpaa.Fg
