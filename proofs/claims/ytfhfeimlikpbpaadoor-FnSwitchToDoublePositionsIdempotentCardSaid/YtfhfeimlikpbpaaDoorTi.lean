/-
  The law's walk.
-/
import Derived.Test.YtfhfeimlikpbpaaDoorTh
namespace Go.Proofs.YtfhfeimlikpbpaaDoor.Cs
open Go.ChangeShapes Go.WideShapes Go.ChangeAt Go.RowKit Rg
set_option linter.unusedVariables false
set_option maxRecDepth 100000 in
set_option maxHeartbeats 1000000 in
theorem dbw_any (ai : Option Addr) (n ci : Nat) (L : List Sp) (w : World) (hn : L.length = n) (hN : n ≤ 65536) (h : SR w 0 (.slice ai n ci) L) (hv0 : ∀ x, ai = some x → x.block < w.heap.size) :
    Calls Tryd.prog 10 #[.slice ai n ci] w (DbP L w) := by
  subst hn
  have HC := Lib.hid (dbl_any ai ci L w hN h hv0)
  clear h hv0
  go_enter Tryd.func10, Tryd.ntmps10
  go_wp2_with fail
  refine HC.out.mono ?_
  rintro e w2 ⟨v, L2, rfl, h1, h2, h3, h4⟩
  have HR := Lib.hid (show DbP L w (.returned v) w2 from ⟨v, L2, rfl, h1, h2, h3, h4⟩)
  clear h1 h2 h3 h4 HC
  go_wp2_with fail
  go_ret
  exact HR.out
theorem SR.arg {w : World} {B : Nat} {v : Value} {L : List Sp} (h : SR w B v L) : ∃ a c, v = .slice a L.length c ∧ SR w 0 (.slice a L.length c) L ∧ ∀ x, a = some x → x.block < w.heap.size := by
  rcases h.1.2 with ⟨rfl, h0⟩ | ⟨g, cap, cur, rfl, hg⟩
  · exact ⟨none, 0, by rw [h0], ⟨by rw [h0]; have h2 := own_mono h.1 (Nat.zero_le _); rw [h0] at h2; exact h2, h.2⟩, fun x hx => by cases hx⟩
  · exact ⟨_, _, rfl, ⟨own_mono h.1 (Nat.zero_le _), h.2⟩, fun x hx => by cases hx; exact (h.1.lt g rfl).2⟩
/-- the law's state behind the two calls -/
def LW (a1 : Option Addr) (l1 : Nat) (Z : Nat → Nat) (va vb : Value) (L1 L2 : List Sp) (w0 w : World) : Prop :=
  Sl w a1 l1 (fun i => .int .u8 (Z i : Nat)) ∧ SR w 0 va L1 ∧ SR w 0 vb L2 ∧ Below w0.heap.size w0 w
theorem LW.keep {a1 : Option Addr} {l1 : Nat} {Z : Nat → Nat} {va vb : Value} {L1 L2 : List Sp} {w0 w w' : World} (h : LW a1 l1 Z va vb L1 L2 w0 w) (hb : Below w.heap.size w w') : LW a1 l1 Z va vb L1 L2 w0 w' :=
  ⟨h.1.keep hb, h.2.1.keep hb, h.2.2.1.keep hb, h.2.2.2.trans (hb.mono h.2.2.2.size)⟩
set_option maxRecDepth 100000 in
set_option maxHeartbeats 8000000 in
theorem law52 (a0 a1 a2 : Option Addr) (l0 l1 l2 c0 c1 c2 : Nat) (C M : Nat → ByteArray) (Z : Nat → Nat) (w : World) (hz : ∀ i, Z i < 256) (h0 : Sl w a0 l0 (fun i => .string (C i))) (h1 : Sl w a1 l1 (fun i => .int .u8 (Z i : Nat))) (h2 : Sl w a2 l2 (fun i => .string (M i)))
    (n0 : a0 = none → l0 = 0) (n1 : a1 = none → l1 = 0) (n2 : a2 = none → l2 = 0) (m0 : l0 ≤ maxLen) (m1 : l1 ≤ maxLen) (m2 : l2 ≤ maxLen) (s0 : ∀ i, i < l0 → (C i).size ≤ maxLen) (s2 : ∀ i, i < l2 → (M i).size ≤ maxLen) :
    Calls Tryd.prog 3 #[.slice a0 l0 c0, .slice a1 l1 c1, .slice a2 l2 c2] w fun e w' => e = .returned (.bool true) ∧ Below w.heap.size w w' := by
  unfold maxLen at m0 m1 m2 s0 s2
  have HZB := Lib.hid (bytes52 a0 l0 c0 C a1 l1 c1 a2 l2 c2 M w (by omega) h0 (fun i hi => by have := s0 i hi; omega) (by omega) (by omega) h2 (fun i hi => by have := s2 i hi; omega))
  have H := Lib.hid (And.intro h0 (And.intro h1 h2))
  have HN := Lib.hid (And.intro n0 (And.intro n1 n2))
  have HZ := Lib.hid hz
  clear h0 h1 h2 n0 n1 n2 s0 s2 hz m0 m1 m2
  go_enter Tryd.func3, Tryd.ntmps3
  go_wp2_with fail
  refine HZB.out.mono ?_
  rintro e w1 ⟨⟨r, rfl, -⟩, rfl⟩
  cases r
  case false =>
    go_wp2_with fail
    go_ret
    exact ⟨rfl, Below.refl _ _⟩
  by_cases g0 : (65536 : Int) < l0
  · go_wp2_with fail
    go_ret
    exact ⟨rfl, Below.refl _ _⟩
  by_cases g1 : (65536 : Int) < l1
  · go_wp2_with fail
    go_ret
    exact ⟨rfl, Below.refl _ _⟩
  by_cases g2 : (65536 : Int) < l2
  · go_wp2_with fail
    go_ret
    exact ⟨rfl, Below.refl _ _⟩
  go_wp2_with fail
  refine (stb_any a0 l0 c0 C w H.out.1 (by omega)).mono ?_
  rintro e w1 ⟨⟨t1, rfl⟩, rfl⟩
  go_wp2_with fail
  refine (stb_any a2 l2 c2 M w H.out.2.2 (by omega)).mono ?_
  rintro e w1 ⟨⟨t2, rfl⟩, rfl⟩
  by_cases g3 : (1048576 : Int) < wrap64 (wrap64 (t1 + t2) + l1)
  · go_wp2_with fail
    go_ret
    exact ⟨rfl, Below.refl _ _⟩
  go_wp2_with fail
  clear g3
  refine (cls_any a0 l0 c0 C w H.out.1 HN.out.1 (by omega)).mono ?_
  rintro e w1 ⟨a0', c0', rfl, k0, -, -, b1⟩
  have HA := Lib.hid (And.intro k0 (And.intro (H.out.2.1.keep b1) (And.intro (H.out.2.2.keep b1) b1)))
  clear k0 b1
  go_wp2_with fail
  refine (clu_any a1 l1 c1 (fun i => (Z i : Nat)) w1 HA.out.2.1 HN.out.2.1 (by omega)).mono ?_
  rintro e w2 ⟨a1', c1', rfl, k1, -, -, b2⟩
  have HB := Lib.hid (show Sl w2 a0' l0 (fun i => .string (C i)) ∧ Sl w2 a1' l1 (fun i => .int .u8 (Z i : Nat)) ∧ Sl w2 a2 l2 (fun i => .string (M i)) ∧ Below w.heap.size w w2 from ⟨HA.out.1.keep b2, k1, HA.out.2.2.1.keep b2, HA.out.2.2.2.trans (b2.mono HA.out.2.2.2.size)⟩)
  clear k1 b2 HA
  go_wp2_with fail
  refine (cls_any a2 l2 c2 M w2 HB.out.2.2.1 HN.out.2.2 (by omega)).mono ?_
  rintro e w3 ⟨a2', c2', rfl, k2, -, -, b3⟩
  have HC := Lib.hid (show Sl w3 a0' l0 (fun i => .string (C i)) ∧ Sl w3 a1' l1 (fun i => .int .u8 (Z i : Nat)) ∧ Sl w3 a2' l2 (fun i => .string (M i)) ∧ Below w.heap.size w w3 from ⟨HB.out.1.keep b3, HB.out.2.1.keep b3, k2, HB.out.2.2.2.trans (b3.mono HB.out.2.2.2.size)⟩)
  clear k2 b3 HB H HN
  go_wp2_with fail
  refine (min_any l1 l2 w3).mono ?_
  rintro e wk ⟨rfl, hwk⟩
  rw [← hwk]
  clear hwk
  obtain ⟨nn, hn⟩ : ∃ n, n = (if l1 < l2 then l1 else l2) := ⟨_, rfl⟩
  rw [← hn]
  have hnn : nn ≤ l1 ∧ nn ≤ l2 := by rw [hn]; split <;> omega
  clear hn
  go_wp2_with fail
  refine (min_any l0 nn w3).mono ?_
  rintro e wk ⟨rfl, hwk⟩
  rw [← hwk]
  clear hwk
  obtain ⟨n, hn'⟩ : ∃ n, n = (if l0 < nn then l0 else nn) := ⟨_, rfl⟩
  rw [← hn']
  have hn3 : n ≤ l0 ∧ n ≤ nn := by rw [hn']; split <;> omega
  have hn0 : n ≤ l0 := hn3.1
  have hn1 : n ≤ l1 := by omega
  have hn2 : n ≤ l2 := by omega
  clear hn' hn3 hnn
  have hn6 : n ≤ 65536 := by omega
  go_wp2_with fail
  refine (bld_any a0' a1' a2' l0 l1 l2 c0' c1' c2' n Z C M w3 hn6 hn0 hn1 hn2 (by unfold maxLen; omega) (by unfold maxLen; omega) (by unfold maxLen; omega) HZ.out HC.out.1 HC.out.2.1 HC.out.2.2.1).mono ?_
  rintro e w4 ⟨v, rfl, L, hL, hT, ⟨gv, cv, rfl⟩, hb, -⟩
  have hLn : L.length = n := by have := congrArg List.length hT; simpa [bld] using this
  have HD := Lib.hid (show Sl w4 a1' l1 (fun i => .int .u8 (Z i : Nat)) ∧ Below w.heap.size w w4 ∧ gv < w4.heap.size from ⟨HC.out.2.1.keep hb, HC.out.2.2.2.trans (hb.mono HC.out.2.2.2.size), (hL.1.lt gv rfl).2⟩)
  have hL0 : SR w4 0 (.slice (some ⟨gv, 0, none⟩) L.length cv) L := ⟨by have h := own_mono hL.1 (Nat.zero_le _); rw [hLn] at h ⊢; exact h, hL.2⟩
  have HL := Lib.hid hL0
  have HT := Lib.hid hT
  have HLN := Lib.hid hLn
  clear hL hL0 hT hb hLn HC
  have HQ := Lib.hid (dbw_any (some ⟨gv, 0, none⟩) n cv L w4 HLN.out hn6 (by have h := HL.out; rw [HLN.out] at h; exact h) (fun x hx => by cases hx; exact HD.out.2.2))
  go_wp2_with fail
  refine HQ.out.mono ?_
  rintro e w5 ⟨v1, L1, rfl, h1, h2, h3, h4⟩
  obtain ⟨a5, c5, rfl, h5, h6⟩ := h1.arg
  have HD2 := Lib.hid (And.intro (HD.out.1.keep h4) (HD.out.2.1.trans (h4.mono HD.out.2.1.size)))
  have HT1 := Lib.hid (show L1.map Sp.t = dbl (bld (fun i => Z i % 4) C M n) from by rw [h2, HT.out])
  have hl1 : L1.length ≤ 65536 := by have := HLN.out; omega
  have HQ2 := Lib.hid (dbw_any a5 L1.length c5 L1 w5 rfl hl1 h5 h6)
  have HS1 := Lib.hid h5
  clear h1 h2 h3 h4 h5 h6 HD HL HT HLN HQ
  obtain ⟨m, hm⟩ : ∃ m, m = L1.length := ⟨_, rfl⟩
  rw [← hm] at HQ2 HS1 hl1 ⊢
  have HM := Lib.hid hm
  clear hm
  go_wp2_with fail
  refine HQ2.out.mono ?_
  rintro e w6 ⟨v2, L2, rfl, h1, h2, h3, h4⟩
  obtain ⟨a6, c6, rfl, h5, h6⟩ := h1.arg
  have hT2 : L2.map Sp.t = L1.map Sp.t := by rw [h2, HT1.out, dbl_dbl _ _ (Nat.le_refl _)]
  have hl2 : L2.length = m := by have := congrArg List.length hT2; have h7 := HM.out; simp at this; omega
  rw [hl2] at h5 ⊢
  have HW := Lib.hid (show LW a1' l1 Z (.slice a5 m c5) (.slice a6 m c6) L1 L2 w w6 from ⟨HD2.out.1.keep h4, HS1.out.keep h4, h5, HD2.out.2.trans (h4.mono HD2.out.2.size)⟩)
  have HT2 := Lib.hid hT2
  have HM2 := Lib.hid hl2
  clear h1 h2 h3 h4 h5 h6 hT2 hl2 HD2 HS1 HQ2
  go_wp2_with fail
  go_loopw [11] (fun i wr => ∃ (k : Nat), k ≤ m ∧ i = .int .i64 k ∧ Hid (LW a1' l1 Z (.slice a5 m c5) (.slice a6 m c6) L1 L2 w wr)) (fun i _ => m - (intOf i).toNat)
  case atStart => exact ⟨0, Nat.zero_le _, rfl, HW⟩
  case round =>
    clear HW
    obtain ⟨k, hk, rfl, HW⟩ := hrel
    by_cases hlt : k < m
    · -- <part
      as_aux_lemma =>
      have q0 : (0 : Int) ≤ k := by omega
      have q1 : (k : Int) < m := by omega
      have k1 : k < L1.length := by have := HM.out; omega
      have k2 : k < L2.length := by have := HM2.out; omega
      obtain ⟨g5, x5, hv5, -, -⟩ := HW.out.2.1.1.form (by omega)
      obtain ⟨g6, x6, hv6, -, -⟩ := HW.out.2.2.1.1.form (by omega)
      simp only [Value.slice.injEq] at hv5 hv6
      obtain ⟨rfl, hx1, rfl⟩ := hv5
      obtain ⟨rfl, hx2, rfl⟩ := hv6
      clear hx1 hx2
      have r1 := own_range (f := Sp.cells) (s := 15) (L := L1) (by have h := HW.out.2.1.1; rw [HM.out] at h; exact h) (fun x => rfl) k1
      have r2 := own_range (f := Sp.cells) (s := 15) (L := L2) (by have h := HW.out.2.2.1.1; rw [← HM2.out] at h; exact h) (fun x => rfl) k2
      have p1 := HW.out.2.1.2 _ (List.getElem_mem k1)
      have p2 := HW.out.2.2.1.2 _ (List.getElem_mem k2)
      have ht : (L2[k]).t = (L1[k]).t := by
        have h := List.getElem_of_eq HT2.out (i := k) (by simpa using k2)
        simpa using h
      obtain ⟨s1, hs1⟩ : ∃ s, s = L1[k] := ⟨_, rfl⟩
      obtain ⟨s2, hs2⟩ : ∃ s, s = L2[k] := ⟨_, rfl⟩
      rw [← hs1] at r1 p1 ht
      rw [← hs2] at r2 p2 ht
      clear hs1 hs2 k1 k2
      obtain ⟨v1, ps, c, mm⟩ := s1
      obtain ⟨v2, ps2, cc, mm2⟩ := s2
      simp only [Sp.t, Prod.mk.injEq] at ht
      obtain ⟨rfl, rfl, rfl⟩ := ht
      obtain ⟨a, cp, hv1⟩ := p1.slice
      obtain ⟨a', cp', hv2⟩ := p2.slice
      dsimp only at hv1 hv2 p1 p2
      subst hv1
      subst hv2
      have HP := Lib.hid (And.intro p1 p2)
      obtain ⟨np, hnp⟩ : ∃ n, n = ps2.length := ⟨_, rfl⟩
      have HNP := Lib.hid hnp
      have r3 : wr.rangeAt g5 (k * 15) (st (.slice a np cp) cc mm2) := by rw [hnp]; exact r1
      have r4 : wr.rangeAt g6 (k * 15) (st (.slice a' np cp') cc mm2) := by rw [hnp]; exact r2
      have HS0 := Lib.hid (show wr.drew.rangeAt g5 (k * 15) (st (.slice a np cp) cc mm2) ∧ wr.drew.rangeAt g6 (k * 15) (st (.slice a' np cp') cc mm2) from ⟨rg_keep ((Below.refl _ _).drew) r3, rg_keep ((Below.refl _ _).drew) r4⟩)
      obtain ⟨dS, hS, hS2⟩ := tySt
      clear hnp p1 p2 r1 r2 r3 r4
      go_wp2_with fail
      refine Pl.wp_region_split (fun w' => w'.rangeAt g5 (k * 15) (st (.slice a np cp) cc mm2) ∧ w'.rangeAt g6 (k * 15) (st (.slice a' np cp') cc mm2)) 8 (by kernel_rfl) (by kernel_rfl) ?_
      simp only [List.take_succ_cons, List.take_zero]
      have hHeld := HS0.out
      refine Pl.take_l (i := 0) (v := ?v1) rfl (by kernel_rfl) (by kernel_rfl) (by kernel_rfl) (fun _ _ _ h => h) rfl ?hy1 hHeld ?rest1
      case hy1 => (intro w hSw; (try dsimp only at hSw); (try obtain ⟨_, _⟩ := hSw); go_simp <;> (try with_reducible rfl))
      try simp only [Act.put, List.setIfInBounds_toArray, List.set_cons_zero, List.set_cons_succ]
      refine Pl.take_l (i := 1) (v := ?v2) rfl (by kernel_rfl) (by kernel_rfl) (by kernel_rfl) (fun _ _ _ h => h) rfl ?hy2 hHeld ?rest2
      case hy2 => (intro w hSw; (try dsimp only at hSw); (try obtain ⟨_, _⟩ := hSw); go_simp <;> (try with_reducible rfl))
      try simp only [Act.put, List.setIfInBounds_toArray, List.set_cons_zero, List.set_cons_succ]
      refine Pl.take_l (i := 2) (v := ?v3) rfl (by kernel_rfl) (by kernel_rfl) (by kernel_rfl) (fun _ _ _ h => h) rfl ?hy3 hHeld ?rest3
      case hy3 => (intro w hSw; (try dsimp only at hSw); (try obtain ⟨_, _⟩ := hSw); go_simp <;> (try with_reducible rfl))
      try simp only [Act.put, List.setIfInBounds_toArray, List.set_cons_zero, List.set_cons_succ]
      refine Pl.take_l (i := 3) (v := .agg #[.slice a np cp, .pointer none, .string cc, .int .i32 0, .int .u32 0, .int .u16 0, .int .u8 29, .int .u8 2, .pointer none, .string mm2, .int .i32 0, .int .u32 0, .int .u16 0, .int .u8 (mk mm2), .int .u8 0]) rfl (by kernel_rfl) (by kernel_rfl) (by kernel_rfl) (fun _ _ _ h => h) rfl (fun w hSw => ex_load 44 (.tmp 81) rfl g5 (k * 15) rfl (st (.slice a np cp) cc mm2) dS (hSw.1) hS hS2 szSt) hHeld ?_
      try simp only [Act.put, List.setIfInBounds_toArray, List.set_cons_zero, List.set_cons_succ]
      refine Pl.take_l (i := 4) (v := ?v4) rfl (by kernel_rfl) (by kernel_rfl) (by kernel_rfl) (fun _ _ _ h => h) rfl ?hy4 hHeld ?rest4
      case hy4 => (intro w hSw; (try dsimp only at hSw); (try obtain ⟨_, _⟩ := hSw); go_simp <;> (try with_reducible rfl))
      try simp only [Act.put, List.setIfInBounds_toArray, List.set_cons_zero, List.set_cons_succ]
      refine Pl.take_l (i := 5) (v := ?v5) rfl (by kernel_rfl) (by kernel_rfl) (by kernel_rfl) (fun _ _ _ h => h) rfl ?hy5 hHeld ?rest5
      case hy5 => (intro w hSw; (try dsimp only at hSw); (try obtain ⟨_, _⟩ := hSw); go_simp <;> (try with_reducible rfl))
      try simp only [Act.put, List.setIfInBounds_toArray, List.set_cons_zero, List.set_cons_succ]
      refine Pl.take_l (i := 6) (v := ?v6) rfl (by kernel_rfl) (by kernel_rfl) (by kernel_rfl) (fun _ _ _ h => h) rfl ?hy6 hHeld ?rest6
      case hy6 => (intro w hSw; (try dsimp only at hSw); (try obtain ⟨_, _⟩ := hSw); go_simp <;> (try with_reducible rfl))
      try simp only [Act.put, List.setIfInBounds_toArray, List.set_cons_zero, List.set_cons_succ]
      refine Pl.take_l (i := 7) (v := .agg #[.slice a' np cp', .pointer none, .string cc, .int .i32 0, .int .u32 0, .int .u16 0, .int .u8 29, .int .u8 2, .pointer none, .string mm2, .int .i32 0, .int .u32 0, .int .u16 0, .int .u8 (mk mm2), .int .u8 0]) rfl (by kernel_rfl) (by kernel_rfl) (by kernel_rfl) (fun _ _ _ h => h) rfl (fun w hSw => ex_load 44 (.tmp 85) rfl g6 (k * 15) rfl (st (.slice a' np cp') cc mm2) dS (hSw.2) hS hS2 szSt) hHeld ?_
      try simp only [Act.put, List.setIfInBounds_toArray, List.set_cons_zero, List.set_cons_succ]
      refine wpAnyH_done (by kernel_rfl) ?_ _
      refine Pl.behind_normal (by decide) ?_
      simp only [List.drop_succ_cons, List.drop_zero]
      clear hHeld
      have HW1 := Lib.hid (HW.out.keep (Below.refl _ _).drew)
      have HC := Lib.hid (show PR wr.drew 0 (.slice a np cp) ps2 ∧ PR wr.drew 0 (.slice a' np cp') ps2 from ⟨by have h := own_keep HP.out.1 (Below.refl _ _).drew; rw [HNP.out]; exact h, by have h := own_keep HP.out.2 (Below.refl _ _).drew; rw [HNP.out]; exact h⟩)
      clear HW HS0 HP
      generalize World.drew _ = w7 at *
      go_wp2_with fail
      refine (seq_any a a' np cp cp' cc mm2 ps2 w7 HNP.out HC.out.1 HC.out.2).mono ?_
      rintro e w8 ⟨rfl, hb⟩
      have HW := Lib.hid (HW1.out.keep hb)
      clear hb HW1 HC
      go_wp2_with fail
      exact ⟨⟨k + 1, by omega, by go_num, HW⟩, by simp [intOf]; omega⟩
      -- part>
    · as_aux_lemma =>
      obtain rfl : k = m := by omega
      clear hlt hk
      go_wp2_with fail
      go_loopw [12, 13] (fun t i wr => ∃ (j : Nat), j ≤ n ∧ i = .int .i64 j ∧ t = .int .i64 (qs (fun i => Z i % 4) j : Nat) ∧ Hid (LW a1' l1 Z (.slice a5 k c5) (.slice a6 k c6) L1 L2 w wr)) (fun _ i _ => n - (intOf i).toNat)
      case atStart => exact ⟨0, Nat.zero_le _, rfl, rfl, HW⟩
      case round =>
        clear HW
        obtain ⟨j, hj, rfl, rfl, HW⟩ := hrel
        by_cases hlt : j < n
        · -- <part
          as_aux_lemma =>
          obtain ⟨pb, po, rfl, d1⟩ := HW.out.1 j (by omega)
          have q0 : (0 : Int) ≤ j := by omega
          have q1 : (j : Int) < n := by omega
          have q2 : (j : Int) < l1 := by omega
          have HB := Lib.hid (And.intro (qs_le (fun i => Z i % 4) (fun i => by omega) j) (qs_le (fun i => Z i % 4) (fun i => by omega) (j + 1)))
          have HE := Lib.hid (show qs (fun i => Z i % 4) (j + 1) = qs (fun i => Z i % 4) j + Z j % 4 from rfl)
          obtain ⟨Q, hQ⟩ : ∃ Q, Q = qs (fun i => Z i % 4) j := ⟨_, rfl⟩
          rw [← hQ] at HB HE ⊢
          clear hQ
          go_wp2_with fail
          refine ⟨⟨j + 1, by omega, by go_num, ?_, HW⟩, by simp [intOf]; omega⟩
          have hqw : wrap64 ((Q : Int) + (Z j : Int) % 4) = (qs (fun i => Z i % 4) (j + 1) : Nat) := by
            have h1 := HB.out
            have h2 := HE.out
            unfold wrap64
            omega
          rw [← hqw]
          -- part>
        · as_aux_lemma =>
          obtain rfl : j = n := by omega
          clear hlt hj
          have hfl : (L1.map Sp.t).flatMap (·.1) = List.range' 0 (qs (fun i => Z i % 4) j) := by rw [HT1.out, dbl_flat _ _ (Nat.le_refl _), bld_flat]
          have HFL := Lib.hid hfl
          have HQN := Lib.hid (qs_le (fun i => Z i % 4) (fun i => by omega) j)
          have hpl : ∀ x, pre (L1.map Sp.t) x ≤ qs (fun i => Z i % 4) j := fun x => by have h := pre_le (L1.map Sp.t) x; rw [hfl, List.length_range'] at h; exact h
          have HPL := Lib.hid hpl
          have hpe : pre (L1.map Sp.t) k = qs (fun i => Z i % 4) j := by
            have h := pre_all (L1.map Sp.t)
            rw [hfl, List.length_range', List.length_map, ← HM.out] at h
            exact h
          have HPE := Lib.hid hpe
          clear hfl hpl hpe
          go_wp2_with fail
          go_loopw [14, 15] (fun q i wr => ∃ (x : Nat), x ≤ k ∧ i = .int .i64 x ∧ q = .int .i64 (pre (L1.map Sp.t) x : Nat) ∧ Hid (LW a1' l1 Z (.slice a5 k c5) (.slice a6 k c6) L1 L2 w wr)) (fun _ i _ => k - (intOf i).toNat)
          case atStart => exact ⟨0, Nat.zero_le _, rfl, by rw [pre_zero]; rfl, HW⟩
          case round =>
            clear HW
            obtain ⟨x, hx, rfl, rfl, HW⟩ := hrel
            by_cases hlt : x < k
            · -- <part
              as_aux_lemma =>
              have q0 : (0 : Int) ≤ x := by omega
              have q1 : (x : Int) < k := by omega
              have k1 : x < L1.length := by have := HM.out; omega
              obtain ⟨g5, x5, hv5, -, -⟩ := HW.out.2.1.1.form (by omega)
              simp only [Value.slice.injEq] at hv5
              obtain ⟨rfl, hx1, rfl⟩ := hv5
              clear hx1
              have r1 := own_range (f := Sp.cells) (s := 15) (L := L1) (by have h := HW.out.2.1.1; rw [HM.out] at h; exact h) (fun x => rfl) k1
              have p1 := HW.out.2.1.2 _ (List.getElem_mem k1)
              have hps : ∀ y q, (L1[x]).ps[y]? = some q → q = pre (L1.map Sp.t) x + y := fun y q hq => by
                obtain ⟨hy, e⟩ := List.getElem?_eq_some_iff.1 hq
                have h := pos_at (L1.map Sp.t) HFL.out (i := x) (j := y) (by simpa using k1) (by simpa [Sp.t] using hy)
                rw [← e]
                simpa [Sp.t] using h
              have hpn : pre (L1.map Sp.t) (x + 1) = pre (L1.map Sp.t) x + (L1[x]).ps.length := by
                have h := pre_succ (L1.map Sp.t) (i := x) (by simpa using k1)
                simpa [Sp.t] using h
              have HX := Lib.hid (HPL.out (x + 1))
              obtain ⟨s1, hs1⟩ : ∃ s, s = L1[x] := ⟨_, rfl⟩
              rw [← hs1] at r1 p1 hpn hps
              clear hs1
              obtain ⟨v1, ps, c, mm⟩ := s1
              obtain ⟨a, cp, hv1⟩ := p1.slice
              dsimp only at hv1 p1 hpn hps
              subst hv1
              have HPS := Lib.hid (And.intro hps (And.intro hpn p1))
              obtain ⟨np, hnp⟩ : ∃ n, n = ps.length := ⟨_, rfl⟩
              have HNP := Lib.hid hnp
              have r3 : wr.rangeAt g5 (x * 15) (st (.slice a np cp) c mm) := by rw [hnp]; exact r1
              have HR3 := Lib.hid r3
              obtain ⟨dS, hS, hS2⟩ := tySt
              obtain ⟨dT, hT, hT2⟩ := tyTok
              obtain ⟨P, hP⟩ : ∃ P, P = pre (L1.map Sp.t) x := ⟨_, rfl⟩
              rw [← hP] at HPS ⊢
              have HPP := Lib.hid hP
              clear hnp p1 r1 r3 hps hpn hP k1
              go_wp2_with (first
                | (refine wpList_load_mid rfl 44 _ rfl g5 (x * 15) rfl (st (.slice a np cp) c mm) dS HR3.out hS hS2 szSt ?_; change wpList _ _ _ _ (Act.put _ _ (Value.agg #[.slice a np cp, .pointer none, .string c, .int .i32 0, .int .u32 0, .int .u16 0, .int .u8 29, .int .u8 2, .pointer none, .string mm, .int .i32 0, .int .u32 0, .int .u16 0, .int .u8 (mk mm), .int .u8 0])) _))
              refine (gpos_any (.slice a np cp) c mm (mk mm) _).mono ?_
              rintro e w8 ⟨rfl, hb⟩
              have HW2 := Lib.hid (HW.out.keep hb)
              have HP2 := Lib.hid (show PR w8 0 (.slice a np cp) ps from by have h := own_keep HPS.out.2.2 hb; rw [HNP.out]; exact h)
              clear HW hb HR3
              go_wp2_with fail
              go_loopw [14, 17] (fun q y wr => ∃ (z : Nat), z ≤ np ∧ y = .int .i64 z ∧ q = .int .i64 (P + z : Nat) ∧ Hid (LW a1' l1 Z (.slice (some ⟨g5, 0, none⟩) k c5) (.slice a6 k c6) L1 L2 w wr ∧ PR wr 0 (.slice a np cp) ps)) (fun _ y _ => np - (intOf y).toNat)
              case atStart => exact ⟨0, Nat.zero_le _, rfl, rfl, Lib.hid ⟨HW2.out, HP2.out⟩⟩
              case round =>
                clear HW2 HP2
                obtain ⟨z, hz, rfl, rfl, HW⟩ := hrel
                by_cases hlt2 : z < np
                · as_aux_lemma =>
                  have z0 : (0 : Int) ≤ z := by omega
                  have z1 : (z : Int) < np := by omega
                  have kz : z < ps.length := by have := HNP.out; omega
                  obtain ⟨pg, pc, hve, -, -⟩ := HW.out.2.form (by omega)
                  simp only [Value.slice.injEq] at hve
                  obtain ⟨rfl, hx1, rfl⟩ := hve
                  clear hx1
                  have r1 := own_range (f := pt) (s := 7) (L := ps) (by have h := HW.out.2; rw [HNP.out] at h; exact h) (fun x => rfl) kz
                  have hqv : ps[z] = P + z := HPS.out.1 z _ (List.getElem?_eq_getElem kz)
                  rw [hqv] at r1
                  have hsm : P + z < 1000000 := by
                    have h1 := HPS.out.2.1
                    have h2 := HX.out
                    have h3 := HQN.out
                    have h4 := HPP.out
                    have h5 : j ≤ 65536 := hn6
                    rw [h1] at h2
                    omega
                  have hqb : P + z < 10000000000 := Nat.lt_trans hsm (by decide)
                  have hzb : (z : Int) < 1000000 := by clear hqb; omega
                  have hqw : wrap64 ((P : Int) + z + 1) = (P + (z + 1) : Nat) := by clear hqb; unfold wrap64; omega
                  have HS0 := Lib.hid (show wr.drew.rangeAt pg (z * 7) (pt (P + z)) ∧ True from ⟨rg_keep ((Below.refl _ _).drew) r1, trivial⟩)
                  have HQB := Lib.hid hqb
                  have HW1 := Lib.hid (show LW a1' l1 Z (.slice (some ⟨g5, 0, none⟩) k c5) (.slice a6 k c6) L1 L2 w wr.drew ∧ PR wr.drew 0 (.slice (some ⟨pg, 0, none⟩) np cp) ps from ⟨HW.out.1.keep (Below.refl _ _).drew, own_keep HW.out.2 (Below.refl _ _).drew⟩)
                  clear r1 hqv kz hqb hsm HW
                  go_wp2_with fail
                  refine Pl.wp_region_split (fun w' => w'.rangeAt pg (z * 7) (pt (P + z)) ∧ True) 6 (by kernel_rfl) (by kernel_rfl) ?_
                  simp only [List.take_succ_cons, List.take_zero]
                  have hHeld := HS0.out
                  refine Pl.take_l (i := 0) (v := ?v7) rfl (by kernel_rfl) (by kernel_rfl) (by kernel_rfl) (fun _ _ _ h => h) rfl ?hy7 hHeld ?rest7
                  case hy7 => (intro w hSw; (try dsimp only at hSw); (try obtain ⟨_, _⟩ := hSw); go_simp <;> (try with_reducible rfl))
                  try simp only [Act.put, List.setIfInBounds_toArray, List.set_cons_zero, List.set_cons_succ]
                  refine Pl.take_l (i := 1) (v := ?v8) rfl (by kernel_rfl) (by kernel_rfl) (by kernel_rfl) (fun _ _ _ h => h) rfl ?hy8 hHeld ?rest8
                  case hy8 => (intro w hSw; (try dsimp only at hSw); (try obtain ⟨_, _⟩ := hSw); go_simp <;> (try with_reducible rfl))
                  try simp only [Act.put, List.setIfInBounds_toArray, List.set_cons_zero, List.set_cons_succ]
                  refine Pl.take_l (i := 2) (v := ?v9) rfl (by kernel_rfl) (by kernel_rfl) (by kernel_rfl) (fun _ _ _ h => h) rfl ?hy9 hHeld ?rest9
                  case hy9 => (intro w hSw; (try dsimp only at hSw); (try obtain ⟨_, _⟩ := hSw); go_simp <;> (try with_reducible rfl))
                  try simp only [Act.put, List.setIfInBounds_toArray, List.set_cons_zero, List.set_cons_succ]
                  refine Pl.take_l (i := 3) (v := .agg #[.pointer none, .string (ptx (P + z)), .int .i32 0, .int .u32 0, .int .u16 0, .int .u8 34, .int .u8 2]) rfl (by kernel_rfl) (by kernel_rfl) (by kernel_rfl) (fun _ _ _ h => h) rfl (fun w hSw => ex_load 42 (.tmp 121) rfl pg (z * 7) rfl (pt (P + z)) dT (hSw.1) hT hT2 szTok) hHeld ?_
                  try simp only [Act.put, List.setIfInBounds_toArray, List.set_cons_zero, List.set_cons_succ]
                  refine Pl.take_l (i := 4) (v := ?v10) rfl (by kernel_rfl) (by kernel_rfl) (by kernel_rfl) (fun _ _ _ h => h) rfl ?hy10 hHeld ?rest10
                  case hy10 => (intro w hSw; (try dsimp only at hSw); (try obtain ⟨_, _⟩ := hSw); go_simp <;> (try with_reducible rfl))
                  try simp only [Act.put, List.setIfInBounds_toArray, List.set_cons_zero, List.set_cons_succ]
                  generalize World.drew _ = wd at *
                  refine Pl.alone_l (i := 5) (by kernel_rfl) rfl (fun K hK => ?_)
                  go_simp; refine (pos_any (P + z) HQB.out wd).mono ?_; rintro e w7 ⟨rfl, hb⟩; have HK := Lib.hid hb; clear hb; dsimp only
                  refine hK.out _ _ (⟨rg_keep HK.out HS0.out.1, trivial⟩) (fun hHeld2 => ?_)
                  clear hK K hHeld
                  have hHeld := hHeld2
                  clear hHeld2
                  try simp only [Act.put, List.setIfInBounds_toArray, List.set_cons_zero, List.set_cons_succ]
                  refine wpAnyH_done (by kernel_rfl) ?_ _
                  refine Pl.behind_normal (by decide) ?_
                  simp only [List.drop_succ_cons, List.drop_zero]
                  clear hHeld
                  go_wp2_with fail
                  refine (teq_any 34 2 (ptx (P + z)) w7).mono ?_
                  rintro e w10 ⟨rfl, hb⟩
                  have hbb := HK.out.trans (hb.mono HK.out.size)
                  have HW := Lib.hid (show LW a1' l1 Z (.slice (some ⟨g5, 0, none⟩) k c5) (.slice a6 k c6) L1 L2 w w10 ∧ PR w10 0 (.slice (some ⟨pg, 0, none⟩) np cp) ps from ⟨HW1.out.1.keep hbb, own_keep HW1.out.2 hbb⟩)
                  clear hb hbb HK HW1 HS0
                  go_wp2_with fail
                  exact ⟨⟨z + 1, by omega, by go_num, by rw [hqw], HW⟩, by simp [intOf]; omega⟩
                · as_aux_lemma =>
                  obtain rfl : z = np := by omega
                  have hq2 : (Value.int IntKind.i64 ((P + z : Nat) : Int)) = .int .i64 (pre (L1.map Sp.t) (x + 1) : Nat) := by rw [HPS.out.2.1, HPP.out, HNP.out]
                  go_wp2_with fail
                  exact ⟨⟨x + 1, by omega, by go_num, hq2, Lib.hid HW.out.1⟩, by simp [intOf]; omega⟩
              -- part>
            · as_aux_lemma =>
              obtain rfl : x = k := by omega
              have he := HPE.out
              rw [he]
              clear he
              go_wp2_with fail
              go_ret
              exact ⟨rfl, HW.out.2.2.2⟩
end Go.Proofs.YtfhfeimlikpbpaaDoor.Cs
