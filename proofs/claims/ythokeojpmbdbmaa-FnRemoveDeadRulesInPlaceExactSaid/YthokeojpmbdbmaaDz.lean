/-
  The law on the removal of dead rules.
-/
import Derived.Test.YthokeojpmbdbmaaDy
namespace Go.Proofs.Ythokeojpmbdbmaa.Dr
open Go.ChangeShapes Go.WideShapes Go.ChangeAt Go.RowKit Rg
set_option linter.unusedVariables false
set_option linter.unusedSimpArgs false
theorem u8_wf (x : Int) (h : (Lit.int .u8 x).wf = true) : 0 ≤ x ∧ x < 256 := by
  have h1 : IntKind.u8.min = 0 := by decide
  have h2 : IntKind.u8.max = 255 := by decide
  simp [Lit.wf, h1, h2] at h
  omega
/-- a list of bytes that came in -/
theorem row_bt {w : World} {a : Option Addr} {len cap : Nat} {zs : List Int}
    (h : (a = none ∧ len = 0 ∧ cap = 0 ∧ zs = []) ∨ ∃ x, a = some x ∧ len ≤ cap ∧ cap ≤ maxLen ∧ zs.length = cap ∧ (∀ i (h : i < zs.length), w.cell? (x.add i) = some (.int .u8 zs[i])) ∧ ∀ n ∈ zs, (Lit.int .u8 n).wf = true) :
    ∃ f, Bt (fun b => b < w.heap.size) w a len f ∧ (len : Int) ≤ 9223372036854775807 := by
  obtain ⟨h1, h2, -, h4⟩ := Sl.of_row h
  have hw : ∀ i, i < len → 0 ≤ zs.getD i default ∧ zs.getD i default < 256 := fun i hi => by
    exact u8_wf _ (h2 i hi)
  refine ⟨fun i => if i < len then (zs.getD i default).toNat else 0, ⟨fun i hi => ?_, fun i => ?_, fun i hi => ?_⟩, by unfold maxLen at h4; omega⟩
  · obtain ⟨g, o, e, hc⟩ := h1 i hi
    refine ⟨g, o, e, World.block_lt_of_cell? w _ hc, ?_⟩
    have := hw i hi
    simp only [if_pos hi]
    rw [hc, Int.toNat_of_nonneg this.1]
  · by_cases hi : i < len
    · have := hw i hi
      simp only [if_pos hi]
      omega
    · simp only [if_neg hi]
      omega
  · simp only [if_neg (show ¬ i < len by omega)]
theorem own_range {α : Type} {w : World} {lo : Nat} {t : TypeId} {s n c g : Nat} {cells : α → List Value} {B : List α} (h : w.ownsRow lo t s (.slice (some ⟨g, 0, none⟩) n c) n (B.flatMap cells)) (hl : B.length = n) (hs : ∀ x, (cells x).length = s) {j : Nat} (hj : j < B.length) : w.rangeAt g (j * s) (cells B[j]) := fun k u hk => by
  have hk2 : k < s := by rw [← hs B[j]]; exact (List.getElem?_eq_some_iff.1 hk).1
  have hlt : j * s + k < n * s := by
    have : (j + 1) * s ≤ n * s := Nat.mul_le_mul_right _ (by omega)
    rw [Nat.add_mul, Nat.one_mul] at this
    omega
  rw [h.cellAt _ hlt, flat_at cells hs B j k hj hk2]
  exact hk
section
variable {g : Gv} {w0 w : World} {n c1 c2 c3 : Nat} {a1 a2 a3 : Option Addr}
theorem rur_kd (h : RuR g w0 n (.slice a1 n c1) (.slice a2 n c2) (.slice a3 n c3) w) : KD g n a2 a3 w := fun i hi => by
  refine ⟨?_, ?_⟩
  · have hr := h.2.1.done (locKe g)
    obtain ⟨g2, c, x, hv, -, hrg, hx⟩ := RowV.at hr (fun _ => rfl) (i := i) (by simpa using hi)
    simp only [Value.slice.injEq] at hv
    rw [List.getElem_range] at hx
    obtain ⟨a, c', rfl, hk⟩ := KeE.key hx
    refine ⟨g2, a, c', hv.1, ?_, hk⟩
    have := hrg 0 _ rfl
    simpa using this
  · have hr := h.2.2.1.done (locDe g)
    obtain ⟨g2, c, x, hv, -, hrg, hx⟩ := RowV.at hr (fun _ => rfl) (i := i) (by simpa using hi)
    simp only [Value.slice.injEq] at hv
    rw [List.getElem_range] at hx
    refine ⟨g2, hv.1, ?_⟩
    have := hrg 0 _ rfl
    rw [← show x = dR (md g i) from hx]
    simpa using this
theorem rur_ru (h : RuR g w0 n (.slice a1 n c1) (.slice a2 n c2) (.slice a3 n c3) w) (hs : a1.isSome = true) : ∃ (gr : Nat) (P : Nat → Nat), a1 = some ⟨gr, 0, none⟩ ∧ n ≤ c1 ∧ gr < w.heap.size ∧ w0.heap.size ≤ gr ∧ w.there gr 0 (n * 2) ∧ (∀ j, j < n → w.rangeAt gr (j * 2) (ruc (P j) (j : Nat))) ∧
    ∀ j, j < n → RuV Sb1 (fun b => (w0.heap.size ≤ b ∧ b < w.heap.size) ∧ b ≠ gr) w (P j) (md g j) := by
  obtain ⟨B, hB1, hB2, hB3, -⟩ := h.1
  rw [List.length_range] at hB1 hB2
  rcases hB2.2 with ⟨hv, -⟩ | ⟨gr, cap, cur, hv, hlo, hh, hnc, hcm, hcs, -⟩
  · simp only [Value.slice.injEq] at hv
    rw [hv.1] at hs
    cases hs
  · simp only [Value.slice.injEq] at hv
    obtain ⟨rfl, -, rfl⟩ := hv
    have hlt : gr < w.heap.size := (Array.getElem?_eq_some_iff.1 hh).1
    refine ⟨gr, fun j => (B.getD j (0, 0)).1, rfl, hnc, hlt, hlo, ?_, fun j hj => ?_, fun j hj => ?_⟩
    · exact th_sub (Bk.there_ (show Bk w gr _ cur from hh) hcs.symm) (Nat.zero_le _) (by omega)
    · have hjB : j < B.length := by omega
      have h1 := own_range hB2 hB1 (fun _ => rfl) hjB
      have h2 := (hB3 j hjB (by simpa using hj)).1
      rw [List.getElem_range] at h2
      have e : (B.getD j (0, 0)) = B[j] := by simp [List.getD, hjB]
      show w.rangeAt gr (j * 2) (ruc (B.getD j (0, 0)).1 j)
      rw [e]
      have : ruv B[j] = ruc B[j].1 (j : Nat) := by unfold ruv; rw [h2]
      rw [← this]
      exact h1
    · have hjB : j < B.length := by omega
      obtain ⟨-, v, hx, hr, hm⟩ := hB3 j hjB (by simpa using hj)
      rw [List.getElem_range] at hm
      have e : (B.getD j (0, 0)) = B[j] := by simp [List.getD, hjB]
      show RuV Sb1 _ w (B.getD j (0, 0)).1 _
      rw [e]
      have hto : To (fun b => (w0.heap.size ≤ b ∧ b < w.heap.size) ∧ ¬ Tri (.slice a2 n c2) (.slice a3 n c3) b ∧ some b ≠ (Value.slice (some ⟨gr, 0, none⟩) n c1).ownBlock) w (fun b => (w0.heap.size ≤ b ∧ b < w.heap.size) ∧ b ≠ gr) w := To.same fun b hb => ⟨hb.1, fun e => hb.2.2 (by rw [e]; rfl)⟩
      refine ⟨v, (hto _ hx).1, ?_, ?_, MdV.to loc1 hm hto⟩
      · simpa using hr 0 _ rfl
      · simpa using hr 1 _ rfl
end
theorem sm_md (g : Gv) (r : Nat) : SmM (md g r) := by
  have h4 : ∀ x : Nat, x % 4 ≤ 4096 := fun x => by have := Nat.mod_lt x (show 0 < 4 by decide); omega
  refine ⟨by unfold md; rw [mdn_len]; exact h4 _, fun c hc => ?_⟩
  unfold md mdn at hc
  obtain ⟨q, -, rfl⟩ := List.mem_map.1 hc
  refine ⟨by unfold cx; rw [cxn_len]; exact h4 _, fun d hd => ?_⟩
  unfold cx cxn at hd
  obtain ⟨q2, -, rfl⟩ := List.mem_map.1 hd
  unfold cc
  rw [ccn_len]
  exact h4 _
theorem kept_kl (n : Nat) (m : Nat → Md) : kept n m n = kl n m 0 := by simp [kept, kl]
set_option maxRecDepth 100000 in
set_option maxHeartbeats 8000000 in
theorem law21 (a0 : Option Addr) (n0 c0 : Nat) (a1 : Option Addr) (n1 c1 : Nat) (a2 : Option Addr) (n2 c2 : Nat) (a3 : Option Addr) (n3 c3 : Nat) (a4 : Option Addr) (n4 c4 : Nat) (f0 f1 f2 f3 f4 : Nat → Nat) (w : World)
    (h0 : Bt (fun b => b < w.heap.size) w a0 n0 f0) (l0 : (n0 : Int) ≤ 9223372036854775807) (h1 : Bt (fun b => b < w.heap.size) w a1 n1 f1) (l1 : (n1 : Int) ≤ 9223372036854775807) (h2 : Bt (fun b => b < w.heap.size) w a2 n2 f2) (l2 : (n2 : Int) ≤ 9223372036854775807)
    (h3 : Bt (fun b => b < w.heap.size) w a3 n3 f3) (l3 : (n3 : Int) ≤ 9223372036854775807) (h4 : Bt (fun b => b < w.heap.size) w a4 n4 f4) (l4 : (n4 : Int) ≤ 9223372036854775807) :
    Calls Try.prog 3 #[.slice a0 n0 c0, .slice a1 n1 c1, .slice a2 n2 c2, .slice a3 n3 c3, .slice a4 n4 c4] w (fun e w' => e = .returned (.bool true) ∧ Below w.heap.size w w') := by
  have HL := Lib.hid (And.intro l0 (And.intro l1 (And.intro l2 (And.intro l3 l4))))
  obtain ⟨g, hg⟩ : ∃ g : Gv, g = ⟨f2, f3, f4, f1, f0⟩ := ⟨_, rfl⟩
  have HB := Lib.hid (show Bt (fun b => b < w.heap.size) w a0 n0 g.R ∧ Bt (fun b => b < w.heap.size) w a1 n1 g.C ∧ SH g (fun b => b < w.heap.size) w a2 n2 a3 n3 a4 n4 from by
    subst hg
    exact ⟨h0, h1, h2, h3, h4⟩)
  clear h0 h1 h2 h3 h4 l0 l1 l2 l3 l4 hg
  go_enter Try.func3, Try.ntmps3
  go_wp2_with fail
  refine (zb5 a0 n0 c0 a1 n1 c1 a2 n2 c2 a3 n3 c3 a4 n4 c4 w HL.out.1 HL.out.2.1 HL.out.2.2.1 HL.out.2.2.2.1 HL.out.2.2.2.2).mono ?_
  rintro e w1 ⟨⟨r, rfl, hr⟩, hw⟩
  rw [← hw]
  clear hw
  cases r with
  | false =>
    as_aux_lemma =>
    go_wp2_with fail
    go_ret
    exact ⟨rfl, Below.refl _ _⟩
  | true =>
    have HS := Lib.hid (hr rfl)
    clear hr
    go_wp2_with fail
    refine (big5 a0 n0 c0 a1 n1 c1 a2 n2 c2 a3 n3 c3 a4 n4 c4 w HS.out).mono ?_
    rintro e w1 ⟨⟨r, rfl, hr⟩, hw⟩
    rw [← hw]
    clear hw
    cases r with
    | true =>
      as_aux_lemma =>
      go_wp2_with fail
      go_ret
      exact ⟨rfl, Below.refl _ _⟩
    | false =>
      as_aux_lemma =>
      have hn : n0 ≤ 4096 := hr rfl
      clear hr
      have HBR := Lib.hid (brl_any g (fun b => b < w.heap.size) a0 n0 c0 a1 n1 c1 a2 n2 c2 a3 n3 c3 a4 n4 c4 w hn (fun b h => h) HB.out.1 HB.out.2.1 HB.out.2.2)
      go_wp2_with fail
      refine HBR.out.mono ?_
      rintro e w1 ⟨r1, d1, r2, d2, r3, d3, rfl, hru, hs1⟩
      have hb1 : Below w.heap.size w w1 := hru.2.2.2
      obtain ⟨gr, P, rfl, hcap, hgr, hlo, hth, hrg, hrv⟩ := rur_ru hru hs1
      have HK := Lib.hid (kept_any g n0 r2 d2 r3 d3 w1 hn (rur_kd hru))
      have H1 := Lib.hid (And.intro hb1 (And.intro hgr (And.intro hlo (And.intro hth (And.intro hrg hrv)))))
      clear hru hs1 hb1 hgr hlo hth hrg hrv
      go_wp2_with fail
      refine HK.out.mono ?_
      rintro e w2 ⟨ka, kc, rfl, hk, hb2⟩
      have H2 := Lib.hid (And.intro hb2 hk)
      clear hb2 hk
      go_upto_region 7 with fail
      go_wp2_with fail
      refine (mk8 w2).mono ?_
      rintro e w3 ⟨bm, rfl, hm, hbm, hbm2, hb3⟩
      have hone : (drc bm).toArray.all (·.oneCell') = true := by simp [drc, Value.oneCell']
      have HM := Lib.hid (And.intro hm (And.intro hbm (And.intro hbm2 hb3)))
      clear hm hbm hbm2 hb3
      go_upto_region 8 with (refine wpList_store_mid rfl 41 _ _ rfl w3.heap.size 0 (drc bm).toArray ?ha ?hv (th_new w3 _ _ rfl) szDrr hone ?_; (case ha => exact rfl); (case hv => exact rfl))
      change Code.wp _ _ _ _ ((w3.alloc (.cells #[.map none, .slice none 0 0, .slice none 0 0, .slice none 0 0, .slice none 0 0, .int .u32 0, .int .u32 0] 41)).setCells w3.heap.size 0 (drc bm))
      have hb4 : Below w3.heap.size w3 ((w3.alloc (.cells #[.map none, .slice none 0 0, .slice none 0 0, .slice none 0 0, .slice none 0 0, .int .u32 0, .int .u32 0] 41)).setCells w3.heap.size 0 (drc bm)) := below_setCells (Nat.le_refl _) _ _ ((Below.refl _ _).alloc (Nat.le_refl _) _)
      have hr4 : ((w3.alloc (.cells #[.map none, .slice none 0 0, .slice none 0 0, .slice none 0 0, .slice none 0 0, .int .u32 0, .int .u32 0] 41)).setCells w3.heap.size 0 (drc bm)).rangeAt w3.heap.size 0 (drc bm) := World.rangeAt_setCells_same _ _ _ _ (th_new w3 _ _ rfl)
      have ht4 : ((w3.alloc (.cells #[.map none, .slice none 0 0, .slice none 0 0, .slice none 0 0, .slice none 0 0, .int .u32 0, .int .u32 0] 41)).setCells w3.heap.size 0 (drc bm)).there w3.heap.size 0 7 := World.there_setCells (th_new w3 _ _ rfl) _ _ _
      have hz4 : ((w3.alloc (.cells #[.map none, .slice none 0 0, .slice none 0 0, .slice none 0 0, .slice none 0 0, .int .u32 0, .int .u32 0] 41)).setCells w3.heap.size 0 (drc bm)).heap.size = w3.heap.size + 1 := by rw [size_setCells, World.size_alloc]
      generalize World.setCells _ _ _ _ = w4 at *
      obtain ⟨rm, hrm⟩ : ∃ x, x = w3.heap.size := ⟨_, rfl⟩
      rw [← hrm] at hb4 hr4 ht4 hz4 ⊢
      have hz1 := H1.out.1.size
      have hz2 := H2.out.1.size
      have hz3 := HM.out.2.2.2.size
      have hgr := H1.out.2.1
      have hlo := H1.out.2.2.1
      have hbm := HM.out.2.1
      have hbm2 := HM.out.2.2.1
      have hb14 : Below w1.heap.size w1 w4 := (H2.out.1.trans (HM.out.2.2.2.mono hz2)).trans (hb4.mono (by omega))
      obtain ⟨c, hc⟩ : ∃ c : Cf, c = ⟨n0, md g, P, gr, rm, bm⟩ := ⟨_, rfl⟩
      have hok : COk c (fun b => (w.heap.size ≤ b ∧ b < w1.heap.size) ∧ b ≠ gr) w4 := by
        subst hc
        refine ⟨by show gr < _; omega, by show rm < _; omega, by show bm < _; omega, by show gr ≠ rm; omega, by show gr ≠ bm; omega, by show rm ≠ bm; omega, fun b hb => ⟨by omega, ?_⟩, fun r hr => ?_, fun r _ => sm_md g r, hn⟩
        · rintro (h | h | h)
          · exact hb.2 h
          · have : b = rm := h
            omega
          · have : b = bm := h
            omega
        · exact RuV.to loc1 (H1.out.2.2.2.2.2 r hr) (To.below (fun b hb => hb.1.2) hb14)
      have hrem := rem_any c _ w4 hok d1 (by subst hc; exact hcap) (by subst hc; simpa using hr4 0 _ rfl) (by subst hc; simpa using hr4 1 _ rfl) (by subst hc; have := (ht4 1 (by decide)).2; simpa using this)
        (by subst hc; exact (hb4.block bm (by omega)).trans HM.out.1) (fun j hj => by subst hc; exact rg_keep hb14 (H1.out.2.2.2.2.1 j hj)) (by subst hc; exact th_keep hb14 H1.out.2.2.2.1)
      have eK : c.K 0 = kept n0 (md g) n0 := by subst hc; exact (kept_kl _ _).symm
      have hargs : Calls Try.prog 9 #[.pointer (some ⟨rm, 0, none⟩), .int .u32 0, .slice (some ⟨gr, 0, none⟩) n0 d1, .slice none 0 0] w4 (RmP c w4) := by
        subst hc; exact hrem
      have HREM := Lib.hid hargs
      have HC := Lib.hid (And.intro hc eK)
      have hkr : KRow w1.heap.size w4 (.slice ka (kept n0 (md g) n0).length kc) (kept n0 (md g) n0) := (H2.out.2.keep HM.out.2.2.2).keep (hb4.mono (by omega))
      have HKR := Lib.hid hkr
      have HLT := Lib.hid (fun b hb => (H2.out.2.lt b hb : w1.heap.size ≤ b ∧ b < w2.heap.size))
      have HZ := Lib.hid (show w.heap.size ≤ gr ∧ gr < w1.heap.size ∧ w2.heap.size ≤ bm ∧ w2.heap.size ≤ rm ∧ w.heap.size ≤ w2.heap.size ∧ w2.heap.size ≤ w4.heap.size from by omega)
      have HB4 := Lib.hid (show Below w.heap.size w w4 from H1.out.1.trans (hb14.mono hz1))
      clear hc eK hok hrem hargs hkr hb4 hr4 ht4 hz4 hrm hz1 hz2 hz3 hgr hlo hbm hbm2 hb14 hone HM H1 H2
      go_wp2_with fail
      refine HREM.out.mono ?_
      rintro e w5 ⟨ra, rcp, rfl, hout, hr⟩
      obtain ⟨hc, eK⟩ := HC.out
      rw [eK]
      have hT : ∀ b, c.T b → w.heap.size ≤ b := fun b hb => by
        subst hc
        have := HZ.out
        rcases hb with h | h | h
        · have : b = gr := h
          omega
        · have : b = rm := h
          omega
        · have : b = bm := h
          omega
      have hk5 : KRow w1.heap.size w5 (.slice ka (kept n0 (md g) n0).length kc) (kept n0 (md g) n0) := HKR.out.ag (fun b hb => hout.block b (by have := HLT.out b hb; have := HZ.out; omega) (by
        subst hc
        have h1 := HLT.out b hb
        have h2 := HZ.out
        rintro (h | h | h)
        · have : b = gr := h
          omega
        · have : b = rm := h
          omega
        · have : b = bm := h
          omega))
      have hb5 : Below w.heap.size w w5 := HB4.out.trans ⟨hout.os, hout.tape, hout.output, hout.size, fun b hb => hout.block b (by have := HZ.out; omega) (fun h => by have := hT b h; omega)⟩
      have hr5 : ∀ t (h : t < (kept n0 (md g) n0).length), ∃ g' o, ra = some ⟨g', o, none⟩ ∧ w5.rangeAt g' (o + t * 2) (ruc (P (kept n0 (md g) n0)[t]) ((kept n0 (md g) n0)[t] : Nat)) := fun t ht => by
        obtain ⟨g', o, h1, h2⟩ := hr t (by rw [eK]; exact ht)
        refine ⟨g', o, h1, ?_⟩
        have e2 : (c.K 0)[t]'(by rw [eK]; exact ht) = (kept n0 (md g) n0)[t] := by simp only [eK]
        rw [e2] at h2
        subst hc
        exact h2
      have HL10 := Lib.hid (loc10 (kept n0 (md g) n0) P ra rcp ka kc w1.heap.size w5 (Nat.le_trans (kept_len _ _ _) hn) (fun r hr => by
        unfold kept at hr
        have := (List.mem_filter.1 hr).1
        have : r < n0 := by simpa using this
        omega) hk5 hr5)
      have HB5 := Lib.hid hb5
      clear hT hk5 hb5 hr5 hout hr hc eK
      go_wp2_with fail
      refine HL10.out.mono ?_
      rintro e w6 ⟨rfl, hb6⟩
      have HB6 := Lib.hid (HB5.out.trans (hb6.mono HB5.out.size))
      clear hb6
      go_wp2_with fail
      go_ret
      exact ⟨rfl, HB6.out⟩
end Go.Proofs.Ythokeojpmbdbmaa.Dr
