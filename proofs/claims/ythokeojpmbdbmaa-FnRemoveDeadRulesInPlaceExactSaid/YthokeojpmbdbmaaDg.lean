/-
  The builder of one compound selector.
-/
import Derived.Test.YthokeojpmbdbmaaDf
namespace Go.Proofs.Ythokeojpmbdbmaa.Dr
open Go.ChangeShapes Go.WideShapes Go.ChangeAt Go.RowKit Rg
set_option linter.unusedVariables false
set_option linter.unusedSimpArgs false
/-- what a builder leaves: Y: the blocks of what it built -/
def Own (w0 w : World) (kv : Value) (b : Nat) : Prop := (w0.heap.size ≤ b ∧ b < w.heap.size) ∧ ¬ some b = kv.ownBlock
def CpP (g : Gv) (D p j : Nat) (kv0 : Value) (ks : List Nat) (w0 : World) (e : Ending) (w : World) : Prop :=
  ∃ a n c ka kn kc, e = .returned (.tuple #[.agg #[.pointer none, .slice a n c, .slice none 0 0, .int .i32 0, .int .u8 0, .bool false], .int .i64 ((j + g.S p % 4 : Nat) : Int), .bool (dC (cc g p j)), .slice ka kn kc]) ∧
    CpV Sb1 (Own w0 w (.slice ka kn kc)) w (.slice a n c) (cc g p j) ∧ KRow D w (.slice ka kn kc) (ks ++ kC (cc g p j)) ∧ Gro kv0 w0 (.slice ka kn kc) w
theorem th_ag {w w' : World} {g o n : Nat} (hg : w'.heap[g]? = w.heap[g]?) (h : w.there g o n) : w'.there g o n := fun j hj => ⟨by rw [World.cell?_of_block (a := ⟨g, o + j, none⟩) hg]; exact (h j hj).1, by rw [World.frozen?_of_block (a := ⟨g, o + j, none⟩) hg]; exact (h j hj).2⟩
theorem key_push {D l m g3 cap3 n : Nat} {ks : List Nat} {kv : Value} {w x w9 : World} (hl : l = ks.length) (hm : m = l + 1) (hb : Below w.heap.size w x) (ho : w9.ownsRow D 3 1 (.slice (some ⟨g3, 0, none⟩) m cap3) m (ks.map ki ++ [ki n])) (hg : x.grownBy w9 kv.ownBlock) (ha : kv.ownBlock = some g3 ∨ w.heap.size ≤ g3) :
    KRow D w9 (.slice (some ⟨g3, 0, none⟩) m cap3) (ks ++ [n]) ∧ Gro kv w (.slice (some ⟨g3, 0, none⟩) m cap3) w9 := by
  refine ⟨?_, (grown_below hb _).trans hg, ?_⟩
  · unfold KRow
    rw [List.length_append, List.map_append, ← hl, List.length_singleton, ← hm]
    exact ho
  · rcases ha with h | h
    · exact .inl h.symm
    · exact .inr (fun b e => by
        have : g3 = b := by simpa [Value.ownBlock] using e
        omega)
theorem dC_succ (g : Gv) (j q : Nat) : dC (ccn g j (q + 1)) = (dC (ccn g j q) || dS (sk g (j + q))) := by rw [ccn_succ]; simp [dC]
/-- behind q subclass selectors -/
def CpR (g : Gv) (D j n : Nat) (kv0 : Value) (ks : List Nat) (x1 : World) (q : Nat) (kv sv : Value) (wr : World) : Prop :=
  KRow D wr kv (ks ++ n :: ccn g j q) ∧ Gro kv0 x1 kv wr ∧ Bld 94 3 sbc Sb1 x1.heap.size (fun c => some c = kv.ownBlock) sv (ccn g j q) wr
theorem ccn_len (g : Gv) (j q : Nat) : (ccn g j q).length = q := by simp [ccn]
set_option maxRecDepth 100000 in
set_option maxHeartbeats 8000000 in
theorem bcp_any (g : Gv) (X : Nat → Prop) (sa : Option Addr) (sn sc : Nat) (ta : Option Addr) (tn tc : Nat) (ka : Option Addr) (kn kc : Nat) (p j D : Nat) (kv : Value) (ks : List Nat) (w : World) (hp : p ≤ 1048576) (hj : j ≤ 1048576) (hks : ks.length ≤ 1048576)
    (hX : ∀ b, X b → b < D) (hD : D ≤ w.heap.size) (hs : Bt X w sa sn g.S) (ht : TK g X w ta tn ka kn) (hk : KRow D w kv ks) :
    Calls Try.prog 16 #[.slice sa sn sc, .slice ta tn tc, .slice ka kn kc, .int .i64 (p : Nat), .int .i64 (j : Nat), kv] w (CpP g D p j kv ks w) := by
  obtain ⟨ra, rc, rfl⟩ := own_slice hk
  obtain ⟨i0, hi, hz0, hz1, hz2⟩ := info_parts infoInt
  have HI := Lib.hid (And.intro hi (And.intro hz0 (And.intro hz1 hz2)))
  obtain ⟨i1, ji, jz0, jz1, jz2⟩ := info_parts infoSub
  have hmk : ∀ (n : Nat), n < 4 → ∀ W : World, (Instr.makeSlice 78 (.int .i64 0) (.int .i64 (n : Int))).run Try.prog W = .ok (.slice (some ⟨W.heap.size, 0, none⟩) 0 n) (W.alloc (.cells (madeCells #[.nilIface, .int .i32 0, .int .i32 0] (n * 3)) 94)) := fun n hn W => by
    have h := run_make_rowN (P := Try.prog) 78 94 i1 _ (by kernel_rfl) ji jz0 .i64 .i64 0 n (by omega) (by rw [jz2]; omega) (by omega) W
    rw [jz1] at h
    exact h
  have HJ := Lib.hid (And.intro ji (And.intro jz0 (And.intro jz1 jz2)))
  clear hi hz0 hz1 hz2 ji jz0 jz1 jz2
  obtain ⟨x1, hx1⟩ : ∃ x, x = w.alloc (.cells #[.pointer none, .slice none 0 0, .slice none 0 0, .int .i32 0, .int .u8 0, .bool false] 83) := ⟨_, rfl⟩
  obtain ⟨b, hb⟩ : ∃ b, b = w.heap.size := ⟨_, rfl⟩
  have h1 : Below w.heap.size w x1 := by rw [hx1]; exact (Below.refl _ _).alloc (Nat.le_refl _) _
  have t1 : x1.there b 0 6 := by rw [hx1, hb]; exact th_new w _ _ rfl
  have s1 : x1.heap.size = b + 1 := by rw [hx1, World.size_alloc, hb]
  have hX1 : ∀ b, X b → b < w.heap.size := fun b h => Nat.lt_of_lt_of_le (hX b h) hD
  have HT := Lib.hid (And.intro (hs.to (To.below hX1 h1)) (And.intro (ht.to (To.below hX1 h1)) (And.intro hX hD)))
  have HK1 := Lib.hid (hk.keep h1)
  have HK0 := Lib.hid (show w.ownsRow D 3 1 (.slice ra ks.length rc) ks.length (ks.map ki) from hk)
  have H1 := Lib.hid (And.intro h1 (And.intro t1 (And.intro s1 hb)))
  clear hs ht hk t1 s1 hX1 hX hD
  obtain ⟨n, hn⟩ : ∃ n, n = g.S p % 4 := ⟨_, rfl⟩
  have hn4 : n < 4 := by rw [hn]; exact Nat.mod_lt _ (by omega)
  have hr : ((g.S p : Nat) : Int) % 4 = (n : Nat) := by rw [hn]; simp
  have HN := Lib.hid hn
  have hmkn := hmk n hn4
  obtain ⟨l, hl⟩ : ∃ l, l = ks.length := ⟨_, rfl⟩
  have HL := Lib.hid hl
  rw [← hl] at hks HK0
  rw [← hl]
  clear hmk hn hl
  go_enter Try.func16, Try.ntmps16
  go_upto_region 1 with fail
  rw [← hx1, ← hb]
  clear hx1 hb h1
  go_wp2_with fail
  refine (at_any X sa sn sc g.S p x1 HT.out.1).mono ?_
  rintro e w1 ⟨rfl, hw⟩
  rw [← hw]
  clear hw
  go_upto_region 3 with (first
    | (at_builtin
       refine wpList_append_lies _ rfl (.tmp 24) (.tmp 26) _ rfl D 3 i0 _ 1 8 Try.underlying29 HI.out.1 HI.out.2.1 HI.out.2.2.1 HI.out.2.2.2 rfl (by omega) (.slice ra l rc) l (ks.map ki) ?hs (by rw [HL.out]; exact HK1.out.keep ((Below.refl _ _).alloc (Nat.le_refl _) _)) ⟨x1.heap.size, 0, none⟩ 1 1 [ki n] ?hx (by rfl) (World.news_of_block (heap_alloc_new x1 _)) (ki_one [n]) (by omega) (by unfold maxLen; omega) (by omega) (by have := HT.out.2.2.2; have := H1.out.1.size; simp; omega) (x1.heap.size + 1) (by simp) ?_; (case hs => exact rfl); (case hx => exact rfl)
       intro g3 cap3 w9 hown9 hgrow9 hat9 hlt9))
  have hKG := key_push (w := x1) HL.out rfl ((Below.refl _ _).alloc (Nat.le_refl _) _) hown9 hgrow9 (by
    rcases hat9 with h | h
    · exact .inl h
    · exact .inr (by omega))
  have HKG := Lib.hid hKG
  -- what is given stays
  have HTO := Lib.hid (show ∀ (kv' : Value) (w' : World), Gro (.slice ra l rc) x1 kv' w' → TK g X w' ta tn ka kn ∧ w'.there b 0 6 from fun kv' w' hg => by
    have hz := H1.out.2.2
    have hlt : ∀ c, c < w.heap.size → (∀ e, (Value.slice ra l rc).ownBlock = some e → e ≠ c) → w'.heap[c]? = x1.heap[c]? := fun c hc hne => hg.1.block c (by omega) (fun e => hne c e.symm rfl)
    refine ⟨HT.out.2.1.to (fun c hc => ⟨hc, ?_⟩), ?_⟩
    · have h1 := HT.out.2.2.1 c hc
      exact hlt c (by have := HT.out.2.2.2; omega) (fun e he h2 => by have := (HK0.out.lt e he).1; omega)
    · refine th_ag (hg.1.block b (by omega) (fun e => ?_)) H1.out.2.1
      have := (HK0.out.lt b e.symm).2
      omega)
  clear hKG hown9 hgrow9 hat9 hlt9
  go_upto_block 0 with fail
  have HV0 := Lib.hid (show CpR g D j n (.slice ra l rc) ks x1 0 (.slice (some ⟨g3, 0, none⟩) (l + 1) cap3) (.slice (some ⟨w9.heap.size, 0, none⟩) 0 n) (w9.alloc (.cells (madeCells #[.nilIface, .int .i32 0, .int .i32 0] (n * 3)) 94)) from by
    have hb : Below w9.heap.size w9 (w9.alloc (.cells (madeCells #[.nilIface, .int .i32 0, .int .i32 0] (n * 3)) 94)) := (Below.refl _ _).alloc (Nat.le_refl _) _
    refine ⟨HKG.out.1.keep hb, HKG.out.2.trans (Gro.below hb), Bld.made w9 _ n HKG.out.2.1.size (by unfold maxLen; omega) (by simp [madeCells]) (fun e => ?_)⟩
    have := (HKG.out.1.lt _ e.symm).2
    omega)
  generalize w9.alloc _ = x3 at *
  generalize w9.heap.size = g9 at *
  clear hmkn HKG
  refine wp_block ?_
  go_loopw [4, 5, 17, 18, 19] (fun jv kv sv dv qv wr => ∃ (q : Nat) (ka' : Option Addr) (kc' : Nat) (sa' : Option Addr) (sc' : Nat), q ≤ n ∧ jv = .int .i64 ((j + q : Nat) : Int) ∧ kv = .slice ka' (l + 1 + q) kc' ∧ sv = .slice sa' q sc' ∧ dv = .bool (dC (ccn g j q)) ∧ qv = .int .i64 (q : Nat) ∧ Hid (CpR g D j n (.slice ra l rc) ks x1 q (.slice ka' (l + 1 + q) kc') (.slice sa' q sc') wr)) (fun _ _ _ _ qv _ => n - (intOf qv).toNat)
  case atStart => exact ⟨0, some ⟨g3, 0, none⟩, cap3, _, _, Nat.zero_le _, rfl, rfl, rfl, rfl, rfl, HV0⟩
  case round =>
    clear HV0
    obtain ⟨q, ka', kc', sa', sc', hq, rfl, rfl, rfl, rfl, rfl, HV⟩ := hrel
    by_cases hlt : q < n
    · as_aux_lemma =>
      have q0 : (0 : Int) ≤ q := by omega
      have q1 : (q : Int) < (n : Nat) := by omega
      obtain ⟨jq', hjq⟩ : ∃ x, x = j + q := ⟨_, rfl⟩
      rw [← hjq]
      obtain ⟨m, hm⟩ : ∃ x, x = l + 1 + q := ⟨_, rfl⟩
      rw [← hm]
      rw [← hm] at HV
      have HJQ := Lib.hid (And.intro hjq hm)
      have hjb : jq' ≤ 1048580 := by omega
      have hmb : m ≤ 1048581 := by omega
      clear hjq hm
      obtain ⟨d, hd⟩ : ∃ d, d = dC (ccn g j q) := ⟨_, rfl⟩
      rw [← hd]
      obtain ⟨d2, hd2⟩ : ∃ d2, d2 = dS (sk g jq') := ⟨_, rfl⟩
      have HDD := Lib.hid (And.intro hd hd2)
      clear hd hd2
      have HTK := Lib.hid (HTO.out _ _ HV.out.2.1).1
      go_upto_if 38 with (first | (go_at_call 18; refine (sdead_any g X ta tn tc ka kn kc jq' wr HTK.out).mono ?_; rintro e w5 ⟨rfl, hw⟩; rw [← hw, ← HDD.out.2]; clear hw))
      go_cut [18] (fun v wx => v = .bool (d || d2) ∧ Hid (wx = wr))
      case first =>
        cases d2 with
        | false =>
          go_wp2_with fail
          go_meet
          exact ⟨by simp, Lib.hid rfl⟩
        | true =>
          go_wp2_with fail
          go_meet
          exact ⟨by simp, Lib.hid rfl⟩
      case rest =>
      obtain ⟨rfl, HW⟩ := hcut
      have hwc := HW.out
      rw [hwc]
      clear hwc HW
      have hKo : wr.ownsRow D 3 1 (.slice ka' m kc') m ((ks ++ n :: ccn g j q).map ki) := by
        have h := HV.out.1
        unfold KRow at h
        have e : (ks ++ n :: ccn g j q).length = m := by rw [List.length_append, List.length_cons, ccn_len, ← HL.out, HJQ.out.2]; omega
        rw [e] at h
        exact h
      have HKO := Lib.hid (own_keep hKo ((Below.refl wr.heap.size wr).alloc (Nat.le_refl _) (.cells #[ki (sk g jq')] 3)))
      have hml : m = (ks ++ n :: ccn g j q).length := by rw [List.length_append, List.length_cons, ccn_len, ← HL.out, HJQ.out.2]; omega
      have HML := Lib.hid hml
      have hDw : D ≤ wr.heap.size := by have := HT.out.2.2.2; have := H1.out.1.size; have := HV.out.2.1.1.size; omega
      have HDW := Lib.hid hDw
      clear hKo hml hDw
      go_upto_region 11 with (first
        | (go_at_call 19; refine (skey_any g X ta tn tc ka kn kc jq' wr HTK.out).mono ?_; rintro e w5 ⟨rfl, hw⟩; rw [← hw]; clear hw)
        | (at_builtin
           refine wpList_append_lies _ rfl (.tmp 39) (.tmp 44) _ rfl D 3 i0 _ 1 8 Try.underlying29 HI.out.1 HI.out.2.1 HI.out.2.2.1 HI.out.2.2.2 rfl (by omega) (.slice ka' m kc') m ((ks ++ n :: ccn g j q).map ki) ?hs HKO.out ⟨wr.heap.size, 0, none⟩ 1 1 [ki (sk g jq')] ?hx (by rfl) (World.news_of_block (heap_alloc_new wr _)) (ki_one [sk g jq']) (by omega) (by unfold maxLen; omega) (by omega) (by have := HDW.out; simp; omega) (wr.heap.size + 1) (by simp) ?_; (case hs => exact rfl); (case hx => exact rfl)
           intro g5 cap5 w5 hown5 hgrow5 hat5 hlt5))
      have hKG := key_push (w := wr) HML.out rfl ((Below.refl _ _).alloc (Nat.le_refl _) _) hown5 hgrow5 (by
        rcases hat5 with h | h
        · exact .inl h
        · exact .inr (by omega))
      have HG5 := Lib.hid hKG
      have HGX := Lib.hid (HV.out.2.1.trans HG5.out.2)
      have HB5 := Lib.hid (HV.out.2.2.other loc1E (fun b _ h2 h3 => HG5.out.2.1.block b h2 h3) HG5.out.2.1.size HG5.out.2.av)
      have HTK5 := Lib.hid (HTO.out _ _ HGX.out).1
      clear hKG hown5 hgrow5 hat5 hlt5 HKO HTK
      have hX5 : ∀ b, X b → b < w5.heap.size := fun b h => by have := HT.out.2.2.1 b h; have := HDW.out; have := HG5.out.2.1.size; omega
      have HX5 := Lib.hid hX5
      clear hX5
      go_wp2_with fail
      refine (bsub_any g X ta tn tc ka kn kc jq' w5 HX5.out HTK5.out).mono ?_
      rintro e w6 ⟨T, qx, rfl, hsb, hb6⟩
      have hal : Below w6.heap.size w6 (w6.alloc (.cells #[.iface T (.pointer (some ⟨qx, 0, none⟩)), .int .i32 0, .int .i32 0] 94)) := (Below.refl _ _).alloc (Nat.le_refl _) _
      have hbs := bs_sub T qx w6
      obtain ⟨w8, hw8⟩ : ∃ x, x = w6.alloc (.cells #[.iface T (.pointer (some ⟨qx, 0, none⟩)), .int .i32 0, .int .i32 0] 94) := ⟨_, rfl⟩
      have hblk := heap_alloc_new w6 (.cells #[.iface T (.pointer (some ⟨qx, 0, none⟩)), .int .i32 0, .int .i32 0] 94)
      have hz8 : w8.heap.size = w6.heap.size + 1 := by rw [hw8, World.size_alloc]
      rw [← hw8] at hal hbs hblk
      have hb58 := hb6.trans (hal.mono hb6.size)
      obtain ⟨B, hB1, hB2, hB3, hB4⟩ := HB5.out.keep loc1E hb58 (Av' := fun c => some c = (Value.slice (some ⟨g5, 0, none⟩) (m + 1) cap5).ownBlock) (fun _ _ h => h)
      have HB := Lib.hid (And.intro hB1 (And.intro hB3 hB4))
      rw [ccn_len] at hB2
      have HBO := Lib.hid hB2
      have HS8 := Lib.hid (And.intro (loc1 _ (fun c => w5.heap.size ≤ c ∧ c < w8.heap.size) _ w8 _ _ (fun c hc => ⟨⟨hc.1, Nat.lt_of_lt_of_le hc.2 hal.size⟩, hal.block c hc.2⟩) hsb) hb58)
      have HBL := Lib.hid (And.intro hblk hz8)
      have HZ6 := Lib.hid hb6.size
      clear hw8 hal hblk hB1 hB2 hB3 hB4 hb58 hz8 hsb hb6
      obtain ⟨g6, hg6⟩ : ∃ x, x = w6.heap.size := ⟨_, rfl⟩
      rw [← hg6] at hbs HBL HZ6
      clear hg6
      have h63 : x1.heap.size ≤ w8.heap.size := by have := HGX.out.1.size; have := HS8.out.2.size; omega
      have H63 := Lib.hid h63
      clear h63
      go_wp2_with (first
        | (refine wpl_bs1 rfl 78 (.tmp 50) rfl _ _ _ ?hx hbs ?_; case hx => (show _ = _; rfl))
        | (at_builtin
           refine wpList_append_lies _ rfl (.tmp 46) (.tmp 51) _ rfl x1.heap.size 94 i1 _ 3 24 Try.underlying78 HJ.out.1 HJ.out.2.1 HJ.out.2.2.1 HJ.out.2.2.2 rfl (by omega) (.slice sa' q sc') q (B.flatMap sbc) ?hs HBO.out ⟨g6, 0, none⟩ 1 1 (sbc (.iface T (.pointer (some ⟨qx, 0, none⟩)))) ?hx (by rfl) (World.news_of_block HBL.out.1) (by intro u hu; simp [sbc] at hu; rcases hu with rfl | rfl | rfl <;> rfl) (by omega) (by unfold maxLen; omega) (by omega) H63.out (g6 + 1) (by rw [HBL.out.2]) ?_; (case hs => exact rfl); (case hx => exact rfl)
           intro g7 cap7 w9' hown7 hgrow7 hat7 hlt7))
      have hat7' : (Value.slice sa' q sc').ownBlock = some g7 ∨ w8.heap.size ≤ g7 := by
        rcases hat7 with h | h
        · exact .inl h
        · exact .inr (by have := HBL.out.2; omega)
      have hkb : ∀ c, (Value.slice (some ⟨g5, 0, none⟩) (m + 1) cap5).ownBlock = some c → c < w5.heap.size := fun c hc => (HG5.out.1.lt c hc).2
      have hnav : ∀ c, w5.heap.size ≤ c → ¬ some c = (Value.slice (some ⟨g5, 0, none⟩) (m + 1) cap5).ownBlock := fun c hc e => by
        have := hkb c e.symm
        omega
      have hnsv : ∀ c, w5.heap.size ≤ c → some c ≠ (Value.slice sa' q sc').ownBlock := fun c hc e => by
        have := (HB5.out.lt e.symm).2
        omega
      have hx5 : x1.heap.size ≤ w5.heap.size := HGX.out.1.size
      have hsub : Sb1 (fun c => (x1.heap.size ≤ c ∧ c < w8.heap.size) ∧ ¬ some c = (Value.slice (some ⟨g5, 0, none⟩) (m + 1) cap5).ownBlock ∧ some c ≠ (Value.slice sa' q sc').ownBlock) w8 (.iface T (.pointer (some ⟨qx, 0, none⟩))) (sk g jq') :=
        loc1 _ _ _ _ _ _ (To.same fun c hc => ⟨⟨Nat.le_trans hx5 hc.1, hc.2⟩, hnav c hc.1, hnsv c hc.1⟩) HS8.out.1
      have hloc : (Value.slice (some ⟨g7, 0, none⟩) (q + 1) cap7).ownBlock = (Value.slice sa' q sc').ownBlock ∨ ∀ c, (Value.slice (some ⟨g7, 0, none⟩) (q + 1) cap7).ownBlock = some c → w8.heap.size ≤ c ∧ ¬ some c = (Value.slice (some ⟨g5, 0, none⟩) (m + 1) cap5).ownBlock := by
        rcases hat7' with h | h
        · exact .inl h.symm
        · refine .inr (fun c hc => ?_)
          have : g7 = c := by simpa [Value.ownBlock] using hc
          subst this
          exact ⟨h, hnav _ (Nat.le_trans HS8.out.2.size h)⟩
      have hpush := Bld.push loc1E (lo := x1.heap.size) (a := sk g jq') (v' := .slice (some ⟨g7, 0, none⟩) (q + 1) cap7) HB.out.1 HB.out.2.1 HB.out.2.2 hsub (by rw [ccn_len]; exact hown7) hgrow7 hloc
      have hN : CpR g D j n (.slice ra l rc) ks x1 (q + 1) (.slice (some ⟨g5, 0, none⟩) (m + 1) cap5) (.slice (some ⟨g7, 0, none⟩) (q + 1) cap7) w9' := by
        have e1 : ccn g j (q + 1) = ccn g j q ++ [sk g jq'] := by rw [ccn_succ, HJQ.out.1]
        refine ⟨?_, ?_, by rw [e1]; exact hpush⟩
        · rw [e1, show ks ++ n :: (ccn g j q ++ [sk g jq']) = (ks ++ n :: ccn g j q) ++ [sk g jq'] by simp]
          refine (HG5.out.1.keep HS8.out.2).ag (fun c hc => hgrow7.block c (Nat.lt_of_lt_of_le (hkb c hc) HS8.out.2.size) (fun e => HB.out.2.2 c e.symm hc.symm))
        · exact (HGX.out.trans (Gro.below HS8.out.2)).row hgrow7 (fun c hc => (HB5.out.lt hc).1)
      have HN2 := Lib.hid hN
      clear hpush hN hsub hloc hnav hnsv hx5 hown7 hgrow7 hat7 hat7' hlt7
      have e2 : ((j + (q + 1) : Nat) : Int) = (jq' : Int) + 1 := by have := HJQ.out.1; omega
      have e3 : m + 1 = l + 1 + (q + 1) := by have := HJQ.out.2; omega
      have e4 : dC (ccn g j (q + 1)) = (d || d2) := by rw [dC_succ, ← HJQ.out.1, ← HDD.out.1, ← HDD.out.2]
      refine ⟨⟨q + 1, some ⟨g5, 0, none⟩, cap5, some ⟨g7, 0, none⟩, cap7, by omega, by rw [e2], by rw [e3], rfl, by rw [e4], by go_num, by rw [← e3]; exact HN2⟩, by simp [intOf]; omega⟩
    · as_aux_lemma =>
      obtain rfl : n = q := by omega
      clear hlt hq
      obtain ⟨dC', hC, hC2⟩ := tyCmp
      obtain ⟨jn, hjn⟩ : ∃ x, x = j + n := ⟨_, rfl⟩
      rw [← hjn]
      have HJN := Lib.hid hjn
      clear hjn
      have HTH := Lib.hid (HTO.out _ _ HV.out.2.1).2
      have hz := HV.out.2.1.1.size
      have hbx : b < x1.heap.size := by have := H1.out.2.2.1; omega
      have hset : ∀ c, x1.heap.size ≤ c → c < wr.heap.size → (wr.setCells b 0 (cmc (.slice sa' n sc'))).heap[c]? = wr.heap[c]? := fun c hc hc2 => World.heap_setCells_other wr b 0 _ hc2 (by omega)
      have hsz : (wr.setCells b 0 (cmc (.slice sa' n sc'))).heap.size = wr.heap.size := size_setCells _ _ _ _
      have hkv : ∀ c, (Value.slice ka' (l + 1 + n) kc').ownBlock = some c → c ≠ b := fun c hc e => by
        subst e
        rcases HV.out.2.1.2 with h | h
        · have h2 := (HK0.out.lt c (by rw [← h]; exact hc)).2
          have := H1.out.2.2.2
          omega
        · have := h c hc; omega
      have hlt := HV.out.2.2.done loc1E
      have hres := World.rangeAt_setCells_same wr b 0 (cmc (.slice sa' n sc')) HTH.out
      have hfin : CpP g D p j (.slice ra l rc) ks w (.returned (.tuple #[.agg #[.pointer none, .slice sa' n sc', .slice none 0 0, .int .i32 0, .int .u8 0, .bool false], .int .i64 (jn : Nat), .bool (dC (ccn g j n)), .slice ka' (l + 1 + n) kc'])) (wr.setCells b 0 (cmc (.slice sa' n sc'))) := by
        refine ⟨sa', n, sc', ka', l + 1 + n, kc', by unfold cc; rw [← HN.out, ← HJN.out], ?_, ?_, ?_⟩
        · unfold cc
          rw [← HN.out]
          exact RowV.to hlt (fun c hc => ⟨⟨⟨by have := H1.out.1.size; omega, by rw [hsz]; exact hc.1.2⟩, hc.2⟩, hset c hc.1.1 hc.1.2⟩) (fun x a h => loc1 _ _ _ _ _ _ (fun c hc => ⟨⟨⟨by have := H1.out.1.size; omega, by rw [hsz]; exact hc.1.2⟩, hc.2⟩, hset c hc.1.1 hc.1.2⟩) h)
        · have h := HV.out.1
          unfold cc kC
          rw [← HN.out, ccn_len]
          exact own_fars (fun e => hkv b e rfl) _ 0 h
        · have h2 : Gro (.slice ra l rc) w (.slice ka' (l + 1 + n) kc') wr := (Gro.below H1.out.1).trans HV.out.2.1
          refine ⟨⟨by rw [World.os_setCells]; exact h2.1.os, ?_, ?_, by rw [hsz]; exact h2.1.size, fun c hc hne => ?_⟩, h2.2⟩
          · have := below_setCells (Nat.le_refl b) (cmc (.slice sa' n sc')) 0 (Below.refl b wr)
            exact this.tape.trans h2.1.tape
          · have := below_setCells (Nat.le_refl b) (cmc (.slice sa' n sc')) 0 (Below.refl b wr)
            exact this.output.trans h2.1.output
          · rw [World.heap_setCells_other wr b 0 _ (Nat.lt_of_lt_of_le hc h2.1.size) (by have := H1.out.2.2.2; omega)]
            exact h2.1.block c hc hne
      have HFIN := Lib.hid hfin
      have hone : (cmc (.slice sa' n sc')).toArray.all (·.oneCell') = true := by simp [cmc, Value.oneCell']
      clear hfin hlt hset hsz hkv hz
      go_wp2_with (first
        | (refine wpList_store_mid rfl 83 _ _ rfl b 0 (cmc (.slice sa' n sc')).toArray ?ha ?hv HTH.out szCmp hone ?_; (case ha => exact rfl); (case hv => exact rfl)))
      exact bodyPost_ret (results_cell_mid4 (p := 12) (t := 13) (u := 14) (x := 15) rfl _ _ b 0 (cmc (.slice sa' n sc')) dC' rfl hres hC hC2 szCmp) rfl HFIN.out
end Go.Proofs.Ythokeojpmbdbmaa.Dr
