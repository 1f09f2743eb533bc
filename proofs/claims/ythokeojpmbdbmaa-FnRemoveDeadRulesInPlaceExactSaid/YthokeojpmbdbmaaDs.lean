/-
  The hash of a list of complex selectors.
-/
import Derived.Test.YthokeojpmbdbmaaDr
namespace Go.Proofs.Ythokeojpmbdbmaa.Dr
open Go.ChangeShapes Go.WideShapes Go.ChangeAt Go.RowKit Rg
set_option linter.unusedVariables false
set_option linter.unusedSimpArgs false
theorem fold_more {α β : Type} (f : β → α → β) (h : β) (l : List α) (k : Nat) (hk : k < l.length) : (l.take (k + 1)).foldl f h = f ((l.take k).foldl f h) l[k] := by
  rw [List.take_succ_eq_append_getElem hk, List.foldl_append]
  rfl
theorem fold_all {α β : Type} (f : β → α → β) (h : β) (l : List α) (n : Nat) (hn : n = l.length) : (l.take n).foldl f h = l.foldl f h := by
  rw [List.take_of_length_le (by omega)]
section
variable (hs : Nat → Int)
def hSb (h : Int) (c : Nat) : Int := hcv h (hs c)
def hCp (h : Int) (c : Cp) : Int := hcv (c.foldl (hSb hs) (hcv (hcv h 0) c.length)) 0
def hCx (h : Int) (x : Cx) : Int := x.foldl (hCp hs) (hcv h x.length)
def hMd (h : Int) (m : Md) : Int := m.foldl (hCx hs) h
end
/-- the subclass selectors' own hash -/
def HaS (S : SbP) (hs : Nat → Int) : Prop := ∀ (X : Nat → Prop) (w : World) (x : Value) (c : Nat), (∀ b, X b → b < w.heap.size) → S X w x c →
  ∃ (T p F : Nat), x = .iface T (.pointer (some ⟨p, 0, none⟩)) ∧ (∀ W, (method 305 T (.pointer (some ⟨p, 0, none⟩)) "Hash").run Try.prog W = .ok (F, .pointer (some ⟨p, 0, none⟩)) W) ∧ (∀ A W, (callFunc F A).run Try.prog W = .ok (.enter F A) W) ∧
    ∀ w1, Below w.heap.size w w1 → Calls Try.prog F #[.pointer (some ⟨p, 0, none⟩)] w1 (fun e w' => e = .returned (.int .u32 (hs c)) ∧ Below w1.heap.size w1 w')
theorem wrap_u32 (n : Nat) (h : n ≤ 4096) : IntKind.u32.wrap (n : Int) = (n : Int) := by
  simp [IntKind.wrap, IntKind.bits, IntKind.signed]
  omega
set_option maxRecDepth 100000 in
set_option maxHeartbeats 8000000 in
theorem h48 (S : SbP) (hs : Nat → Int) (hL : Loc S) (hH : HaS S hs) (X : Nat → Prop) (v : Value) (a : Md) (h0 : Int) (w : World) (hX : ∀ b, X b → b < w.heap.size) (h : MdV S X w v a) (hsm : SmM a) :
    Calls Try.prog 48 #[.int .u32 h0, v] w (fun e w' => e = .returned (.int .u32 (hMd hs h0 a)) ∧ Below w.heap.size w w') := by
  obtain ⟨pa, pc, hv⟩ := RowV.slice h
  obtain ⟨n, hn⟩ : ∃ n, n = a.length := ⟨_, rfl⟩
  rw [← hn] at hv
  subst hv
  have hn4 : n ≤ 4096 := by rw [hn]; exact hsm.1
  have HO := Lib.hid (And.intro h (And.intro hX (And.intro hsm hn)))
  have HLE := Lib.hid (And.intro hL hH)
  obtain ⟨dX, hXx, hX2⟩ := tyCpl
  obtain ⟨dC, hC, hC2⟩ := tyCmp
  obtain ⟨dS, hS, hS2⟩ := tySub
  clear h hX hsm hn hL hH
  go_enter Try.func48, Try.ntmps48
  go_upto_block 0 with fail
  have HST := Lib.hid (Below.refl w.heap.size w)
  refine wp_block ?_
  go_loopw [0, 13] (fun hv i wr => ∃ (k : Nat), k ≤ n ∧ i = .int .i64 k ∧ hv = .int .u32 ((a.take k).foldl (hCx hs) h0) ∧ Hid (Below w.heap.size w wr)) (fun _ i _ => n - (intOf i).toNat)
  case atStart => exact ⟨0, Nat.zero_le _, rfl, rfl, HST⟩
  case round =>
    clear HST
    obtain ⟨k, hk, rfl, rfl, HW⟩ := hrel
    by_cases hlt : k < n
    · as_aux_lemma =>
      have q0 : (0 : Int) ≤ k := by omega
      have q1 : (k : Int) < n := by omega
      have kL : k < a.length := by have := HO.out.2.2.2; omega
      obtain ⟨g, c, x, hve, hXg, hr, hx⟩ := RowV.at HO.out.1 (fun _ => rfl) kL
      simp only [Value.slice.injEq] at hve
      obtain ⟨rfl, hz, rfl⟩ := hve
      clear hz
      obtain ⟨b, hb⟩ : ∃ b, b = a[k] := ⟨_, rfl⟩
      have hsmb := HO.out.2.2.1.2 _ (List.getElem_mem kL)
      rw [← hb] at hx hsmb
      obtain ⟨xa, xc, hxe⟩ := RowV.slice hx
      obtain ⟨m, hm⟩ : ∃ m, m = b.length := ⟨_, rfl⟩
      rw [← hm] at hxe
      subst hxe
      have hm4 : m ≤ 4096 := by rw [hm]; exact hsmb.1
      have hmw := wrap_u32 m hm4
      rw [Nat.mul_one] at hr
      have HB := Lib.hid (And.intro hx (And.intro hsmb (And.intro hm hb)))
      have HR := Lib.hid (rg_keep HW.out hr)
      clear hx hm hb hr hXg hsmb
      obtain ⟨hk0, hhk⟩ : ∃ z, z = (a.take k).foldl (hCx hs) h0 := ⟨_, rfl⟩
      rw [← hhk]
      have HHK := Lib.hid hhk
      clear hhk
      go_upto_region 4 with (first
        | (refine wpList_load_mid rfl 48 _ rfl g k rfl (one (.slice xa m xc)) dX HR.out hXx hX2 szCpl ?_)
        | (refine wpList_store_mid rfl 48 _ _ rfl wr.heap.size 0 (one (.slice xa m xc)).toArray rfl rfl (th_new wr _ _ rfl) szCpl (one_all _ _ _) ?_))
      have hbS : Below wr.heap.size wr ((wr.alloc (.cells #[.slice none 0 0] 48)).setCells wr.heap.size 0 (one (.slice xa m xc))) := below_setCells (Nat.le_refl _) _ _ ((Below.refl _ _).alloc (Nat.le_refl _) _)
      have hrS : ((wr.alloc (.cells #[.slice none 0 0] 48)).setCells wr.heap.size 0 (one (.slice xa m xc))).rangeAt wr.heap.size 0 (one (.slice xa m xc)) := World.rangeAt_setCells_same _ _ _ _ (th_new wr _ _ rfl)
      change Code.wp _ _ _ _ (World.setCells _ wr.heap.size 0 (one (.slice xa m xc)))
      generalize World.setCells _ _ _ _ = w5 at *
      have c0 := hrS 0 _ rfl
      simp only [Nat.zero_add] at c0
      have HW5 := Lib.hid (HW.out.trans (hbS.mono HW.out.size))
      clear hbS hrS HR HW
      generalize wr.heap.size = b6 at *
      clear wr
      as_aux_lemma =>
      go_wp2_with fail
      refine (hc47 _ _ w5).mono ?_
      rintro e w6 ⟨rfl, hf⟩
      rw [← hf]
      clear hf w6
      go_upto_block 2 with fail
      clear c0
      refine wp_block ?_
      have HST := Lib.hid HW5.out
      go_loopw [0, 26] (fun hv i wr => ∃ (q : Nat), q ≤ m ∧ i = .int .i64 q ∧ hv = .int .u32 ((b.take q).foldl (hCp hs) (hcv hk0 m)) ∧ Hid (Below w.heap.size w wr)) (fun _ i _ => m - (intOf i).toNat)
      case atStart => exact ⟨0, Nat.zero_le _, rfl, rfl, HST⟩
      case round =>
        clear HST HW5
        obtain ⟨q, hq, rfl, rfl, HV⟩ := hrel
        by_cases hlq : q < m
        · as_aux_lemma =>
          have z0 : (0 : Int) ≤ q := by omega
          have z1 : (q : Int) < m := by omega
          have qL : q < b.length := by have := HB.out.2.2.1; omega
          obtain ⟨g2, c, y, hve, -, hr, hy⟩ := RowV.at HB.out.1 (fun _ => rfl) qL
          simp only [Value.slice.injEq] at hve
          obtain ⟨rfl, hz, rfl⟩ := hve
          clear hz
          obtain ⟨cp, hcp⟩ : ∃ z, z = b[q] := ⟨_, rfl⟩
          have hsmc := HB.out.2.1.2 _ (List.getElem_mem qL)
          rw [← hcp] at hy hsmc
          obtain ⟨ya, yc, hye⟩ := RowV.slice hy
          obtain ⟨l, hl⟩ : ∃ l, l = cp.length := ⟨_, rfl⟩
          rw [← hl] at hye
          subst hye
          have hl4 : l ≤ 4096 := by rw [hl]; exact hsmc
          have hlw := wrap_u32 l hl4
          have HCP := Lib.hid (And.intro hy (And.intro hl hcp))
          have HR := Lib.hid (rg_keep HV.out hr)
          clear hy hl hcp hr hsmc
          obtain ⟨hq0, hhq⟩ : ∃ z, z = (b.take q).foldl (hCp hs) (hcv hk0 m) := ⟨_, rfl⟩
          rw [← hhq]
          have HHQ := Lib.hid hhq
          clear hhq
          go_upto_region 8 with (first
            | (refine wpList_load_mid rfl 83 _ rfl g2 (q * 6) rfl (cmc (.slice ya l yc)) dC HR.out hC hC2 szCmp ?_)
            | (refine wpList_store_mid rfl 83 _ _ rfl wr.heap.size 0 (cmc (.slice ya l yc)).toArray rfl rfl (th_new wr _ _ rfl) szCmp (cmc_all _ _ _) ?_))
          have hbS : Below wr.heap.size wr ((wr.alloc (.cells #[.pointer none, .slice none 0 0, .slice none 0 0, .int .i32 0, .int .u8 0, .bool false] 83)).setCells wr.heap.size 0 (cmc (.slice ya l yc))) := below_setCells (Nat.le_refl _) _ _ ((Below.refl _ _).alloc (Nat.le_refl _) _)
          have hrS : ((wr.alloc (.cells #[.pointer none, .slice none 0 0, .slice none 0 0, .int .i32 0, .int .u8 0, .bool false] 83)).setCells wr.heap.size 0 (cmc (.slice ya l yc))).rangeAt wr.heap.size 0 (cmc (.slice ya l yc)) := World.rangeAt_setCells_same _ _ _ _ (th_new wr _ _ rfl)
          generalize World.setCells _ _ _ _ = w7 at *
          obtain ⟨d0, d1, d2, d3, d4⟩ := cmc_at hrS
          have HW7 := Lib.hid (And.intro (HV.out.trans (hbS.mono HV.out.size)) hrS)
          clear hbS hrS HR HV
          generalize wr.heap.size = b8 at *
          clear wr
          as_aux_lemma =>
          go_wp2_with fail
          refine (hc47 _ _ w7).mono ?_
          rintro e w8 ⟨rfl, hf⟩
          rw [← hf]
          clear hf w8
          go_wp2_with fail
          refine (hc47 _ _ w7).mono ?_
          rintro e w8 ⟨rfl, hf⟩
          rw [← hf]
          clear hf w8
          go_upto_block 4 with fail
          clear d0 d1 d2 d3 d4
          refine wp_block ?_
          have HST := Lib.hid HW7.out
          go_loopw [0, 52] (fun hv i wr => ∃ (r : Nat), r ≤ l ∧ i = .int .i64 r ∧ hv = .int .u32 ((cp.take r).foldl (hSb hs) (hcv (hcv hq0 0) l)) ∧ Hid (Below w.heap.size w wr ∧ wr.rangeAt b8 0 (cmc (.slice ya l yc)))) (fun _ i _ => l - (intOf i).toNat)
          case atStart => exact ⟨0, Nat.zero_le _, rfl, rfl, HST⟩
          case round =>
            clear HST HW7
            obtain ⟨r, hr, rfl, rfl, HU⟩ := hrel
            by_cases hlr : r < l
            · as_aux_lemma =>
              have y0 : (0 : Int) ≤ r := by omega
              have y1 : (r : Int) < l := by omega
              have rL : r < cp.length := by have := HCP.out.2.1; omega
              obtain ⟨g3, c, z, hve, -, hrr, hz3⟩ := RowV.at HCP.out.1 (fun _ => rfl) rL
              simp only [Value.slice.injEq] at hve
              obtain ⟨rfl, hz, rfl⟩ := hve
              clear hz
              obtain ⟨T, p, F, rfl, hmet, hcf, hcall⟩ := HLE.out.2 X w z _ HO.out.2.1 hz3
              have HC := Lib.hid (And.intro hcall (And.intro hmet hcf))
              have HR := Lib.hid (rg_keep HU.out.1 hrr)
              clear hcall hrr hz3 hmet hcf
              obtain ⟨hr0, hhr⟩ : ∃ z, z = (cp.take r).foldl (hSb hs) (hcv (hcv hq0 0) l) := ⟨_, rfl⟩
              rw [← hhr]
              have HHR := Lib.hid hhr
              clear hhr
              go_upto_region 15 with (first
                | (refine wpList_load_mid rfl 94 _ rfl g3 (r * 3) rfl (sbc (.iface T (.pointer (some ⟨p, 0, none⟩)))) dS HR.out hS hS2 szSub ?_)
                | (refine wpList_store_mid rfl 94 _ _ rfl wr.heap.size 0 (sbc (.iface T (.pointer (some ⟨p, 0, none⟩)))).toArray rfl rfl (th_new wr _ _ rfl) szSub (sbc_all _ _) ?_))
              have hbS : Below wr.heap.size wr ((wr.alloc (.cells #[.nilIface, .int .i32 0, .int .i32 0] 94)).setCells wr.heap.size 0 (sbc (.iface T (.pointer (some ⟨p, 0, none⟩))))) := below_setCells (Nat.le_refl _) _ _ ((Below.refl _ _).alloc (Nat.le_refl _) _)
              have hrS : ((wr.alloc (.cells #[.nilIface, .int .i32 0, .int .i32 0] 94)).setCells wr.heap.size 0 (sbc (.iface T (.pointer (some ⟨p, 0, none⟩))))).rangeAt wr.heap.size 0 (sbc (.iface T (.pointer (some ⟨p, 0, none⟩)))) := World.rangeAt_setCells_same _ _ _ _ (th_new wr _ _ rfl)
              generalize World.setCells _ _ _ _ = w9 at *
              have c0 := hrS 0 _ rfl
              simp only [Nat.zero_add] at c0
              have HW9 := Lib.hid (And.intro (HU.out.1.trans (hbS.mono HU.out.1.size)) (rg_keep hbS HU.out.2))
              clear hbS hrS HR HU
              generalize wr.heap.size = b10 at *
              clear wr
              as_aux_lemma =>
              have hmt := HC.out.2.1
              have hct := HC.out.2.2
              go_wp2_with fail
              refine (HC.out.1 w9 HW9.out.1).mono ?_
              rintro e w10 ⟨rfl, hf⟩
              have HW10 := Lib.hid (And.intro (HW9.out.1.trans (hf.mono HW9.out.1.size)) (rg_keep hf HW9.out.2))
              clear hf HW9 c0 hmt hct
              go_wp2_with fail
              refine (hc47 _ _ w10).mono ?_
              rintro e w11 ⟨rfl, hf⟩
              rw [← hf]
              clear hf w11
              go_wp2_with fail
              exact ⟨⟨r + 1, by omega, by go_num, by rw [fold_more _ _ _ _ rL, ← HHR.out]; rfl, HW10⟩, by simp [intOf]; omega⟩
            · as_aux_lemma =>
              obtain rfl : r = l := by omega
              have hEQ := fold_all (hSb hs) (hcv (hcv hq0 0) r) cp r HCP.out.2.1
              rw [hEQ]
              clear hEQ
              obtain ⟨hf0, hhf⟩ : ∃ z, z = cp.foldl (hSb hs) (hcv (hcv hq0 0) r) := ⟨_, rfl⟩
              rw [← hhf]
              have HHF := Lib.hid hhf
              clear hhf
              obtain ⟨d0, d1, d2, d3, d4⟩ := cmc_at HU.out.2
              go_wp2_with fail
              refine (hc47 _ _ wr).mono ?_
              rintro e w11 ⟨rfl, hf⟩
              rw [← hf]
              clear hf w11
              go_wp2_with fail
              exact ⟨⟨q + 1, by omega, by go_num, by rw [fold_more _ _ _ _ qL, ← HHQ.out, ← HCP.out.2.2]; unfold hCp; rw [← HCP.out.2.1, ← HHF.out], Lib.hid HU.out.1⟩, by simp [intOf]; omega⟩
        · as_aux_lemma =>
          obtain rfl : q = m := by omega
          have hEQ := fold_all (hCp hs) (hcv hk0 q) b q HB.out.2.2.1
          rw [hEQ]
          clear hEQ
          obtain ⟨hf0, hhf⟩ : ∃ z, z = b.foldl (hCp hs) (hcv hk0 q) := ⟨_, rfl⟩
          rw [← hhf]
          have HHF := Lib.hid hhf
          clear hhf
          go_wp2_with fail
          exact ⟨⟨k + 1, by omega, by go_num, by rw [fold_more _ _ _ _ kL, ← HHK.out, ← HB.out.2.2.2]; unfold hCx; rw [← HB.out.2.2.1, ← HHF.out], HV⟩, by simp [intOf]; omega⟩
    · as_aux_lemma =>
      obtain rfl : k = n := by omega
      have HEQ := Lib.hid (fold_all (hCx hs) h0 a k HO.out.2.2.2)
      go_wp2_with fail
      go_ret
      exact ⟨by show Ending.returned (.int .u32 ((a.take k).foldl (hCx hs) h0)) = _; rw [HEQ.out]; rfl, HW.out⟩
end Go.Proofs.Ythokeojpmbdbmaa.Dr
