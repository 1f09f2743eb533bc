/-
  includeUnitOf moves the tracker to the join.
-/
import Derived.Test.YtibdmppjmaacpaaDoorIj
namespace Go.Proofs.YtibdmppjmaacpaaDoor.Iu
open Go.ChangeShapes Go.WideShapes Go.ChangeAt Go.RowKit Rg
set_option linter.unusedVariables false
theorem jN0 (st : Int) (u c : ByteArray) (h0 : 0 ≤ st) : jN st u 0 c = st := by rw [jN, if_neg (fun h => absurd h.2.1 (by decide)), if_neg (by omega)]
theorem jN2 (st : Int) (u c : ByteArray) (h0 : 0 ≤ st) (h2 : st ≤ 2) : jN st u 2 c = 2 := by
  rw [jN, if_neg (fun h => absurd h.2.1 (by decide))]
  split <;> omega
theorem jUn (st n : Int) (u c : ByteArray) (h : n ≠ 1) : jU st u n c = u := by rw [jU, if_neg (fun x => h x.2)]
theorem jU1 (st : Int) (u c : ByteArray) (h : st ≠ 0) : jU st u 1 c = u := by rw [jU, if_neg (fun x => h x.1)]
def TB (w : World) (b : Nat) (u : ByteArray) (st : Int) : Prop := Bk w b 40 #[.string u, .int .u8 st]
def InP (b : Nat) (u : ByteArray) (st : Int) (w : World) (e : Ending) (w' : World) : Prop := e = .returned (.tuple #[]) ∧ TB w' b u st ∧ Below b w w'
theorem InP.mk' {b : Nat} {u u' : ByteArray} {st st' : Int} {w w' : World} (h1 : u' = u) (h2 : st' = st) (h : TB w' b u' st') (hb : Below b w w') : InP b u st w (.returned (.tuple #[])) w' := by subst h1 h2; exact ⟨rfl, h, hb⟩
set_option maxRecDepth 100000 in
set_option maxHeartbeats 2000000 in
theorem inc_any (b : Nat) (u : ByteArray) (st : Int) (K : Int) (T : ByteArray) (o : Nat) (w : World) (hB : TB w b u st) (h0 : 0 ≤ st) (h2 : st ≤ 2) (hK : K = 0 ∨ K = 30 ∨ K = 34 ∨ K = 26 ∨ K = 29) (hT : (T.size : Int) ≤ 1048576) (ho : (o : Int) ≤ T.size) (h : TL w) :
    Calls Tryd.prog 9 #[.pointer (some ⟨b, 0, none⟩), .agg #[.pointer none, .string T, .int .i32 0, .int .u32 0, .int .u16 o, .int .u8 K, .int .u8 0]] w (InP b (jU st u (clN K T o) (clU K T o)) (jN st u (clN K T o) (clU K T o)) w) := by
  have H := Lib.hid h
  have HTB := Lib.hid hB
  have hlt := hB.lt
  have hb0 : Below w.heap.size w (w.alloc (.cells #[.pointer none, .string T, .int .i32 0, .int .u32 0, .int .u16 o, .int .u8 K, .int .u8 0] 32)) := (Below.refl _ _).alloc (Nat.le_refl _) _
  have HB0 := Lib.hid hb0
  have HTB0 := Lib.hid (hB.keep hb0)
  have HLT := Lib.hid (Nat.le_of_lt hlt)
  have hltc := hlt
  have hcel : ∀ (oo : Obj), (w.alloc oo).cell? ⟨b, 1, none⟩ = some (.int .u8 st) := alloc_cell (hB.cell 1 rfl)
  have hcel0 : ∀ (oo : Obj), (w.alloc oo).cell? ⟨b, 0, none⟩ = some (.string u) := alloc_cell (hB.cell 0 rfl)
  have hfr := hB.frozen
  have c1 := hB.cell 1 rfl
  have c0 := hB.cell 0 rfl
  clear h hB hb0
  rcases kind_cases hK T o with ⟨rfl, h1, hn⟩ | ⟨rfl, h1, hn⟩ | ⟨rfl, hn⟩ | ⟨rfl, h1, hn⟩ | ⟨rfl, h1, hn⟩ | ⟨hk, hn⟩
  · rw [hn, jN0 _ _ _ h0, jUn _ _ _ _ (by decide)]
    clear hn
    go_enter Tryd.func9, Tryd.ntmps9
    go_wp2_with fail
    refine bodyPost_ret (v := .tuple #[]) (by simp [results, Tryd.results9, go_sem]) rfl ?_
    exact InP.mk' rfl rfl HTB0.out (HB0.out.mono HLT.out)
  · rw [hn, jN2 _ _ _ h0 h2, jUn _ _ _ _ (by decide)]
    have h2 : (T.toList == [48]) = false := by simpa using h1
    clear hn h1
    go_enter Tryd.func9, Tryd.ntmps9
    go_wp2_with fail
    refine bodyPost_ret (v := .tuple #[]) (by simp [results, Tryd.results9, go_sem]) rfl ?_
    exact InP.mk' rfl rfl ((HTB.out.set_ 1 _).keep ((Below.refl _ _).alloc (Nat.le_refl _) _)) (((Below.refl b w).setCell (Nat.le_refl _) _).alloc (by simpa [World.setCell] using HLT.out) _)
  · rw [hn, jN0 _ _ _ h0, jUn _ _ _ _ (by decide)]
    clear hn
    go_enter Tryd.func9, Tryd.ntmps9
    go_wp2_with fail
    refine bodyPost_ret (v := .tuple #[]) (by simp [results, Tryd.results9, go_sem]) rfl ?_
    exact InP.mk' rfl rfl HTB0.out (HB0.out.mono HLT.out)
  · rw [hn, jN0 _ _ _ h0, jUn _ _ _ _ (by decide)]
    have H1 := Lib.hid h1
    clear hn h1
    go_enter Tryd.func9, Tryd.ntmps9
    go_wp2_with fail
    refine (sl_any 26 T o _ hT ho (H.out.keep HB0.out)).mono ?_
    rintro e w1 ⟨rfl, hb1⟩
    rw [H1.out]
    have HB1 := Lib.hid ((HB0.out.trans (hb1.mono (by simp))).mono HLT.out)
    have HTB1 := Lib.hid (HTB0.out.keep hb1)
    clear hb1
    go_wp2_with fail
    refine bodyPost_ret (v := .tuple #[]) (by simp [results, Tryd.results9, go_sem]) rfl ?_
    exact InP.mk' rfl rfl HTB1.out HB1.out
  · rw [hn, clU_one hn]
    have H1 := Lib.hid h1
    clear hn h1
    go_enter Tryd.func9, Tryd.ntmps9
    go_wp2_with fail
    refine (sl_any 26 T o _ hT ho (H.out.keep HB0.out)).mono ?_
    rintro e w1 ⟨rfl, hb1⟩
    rw [H1.out]
    obtain ⟨hc, hf⟩ := bcell hb1
    have HB1 := Lib.hid (HB0.out.trans (hb1.mono (by simp)))
    have HTB1 := Lib.hid (HTB0.out.keep hb1)
    clear hb1
    go_wp2_with fail
    refine (du_any 26 T o _ hT ho).mono ?_
    rintro e w2 ⟨rfl, hb2⟩
    have HB2 := Lib.hid ((HB1.out.trans (hb2.mono HB1.out.size)).mono HLT.out)
    have HTB2 := Lib.hid (HTB1.out.keep hb2)
    clear hb2 hc hf hcel hcel0 c0 c1 hfr HTB1 HB1
    have d0 := HTB2.out.cell 0 rfl
    have d1 := HTB2.out.cell 1 rfl
    have df := HTB2.out.frozen
    generalize T.extract o T.size = U at *
    have hst : st = 0 ∨ st = 1 ∨ st = 2 := by omega
    rcases hst with rfl | rfl | rfl
    · go_wp2_with fail
      refine bodyPost_ret (v := .tuple #[]) (by simp [results, Tryd.results9, go_sem]) rfl ?_
      exact InP.mk' rfl rfl ((HTB2.out.set_ 1 _).set_ 0 _) ((HB2.out.setCell (Nat.le_refl _) _).setCell (Nat.le_refl _) _)
    · by_cases hu : u.toList = U.toList
      · have HJ : Hid ((1 : Int) = jN 1 u 1 U) := Lib.hid (by rw [jN, if_neg (fun x => x.2.2 hu)]; rfl)
        have g1 : (u.toList == U.toList) = true := by simpa using hu
        clear hu
        go_wp2_with fail
        refine bodyPost_ret (v := .tuple #[]) (by simp [results, Tryd.results9, go_sem]) rfl ?_
        exact InP.mk' (jU1 _ _ _ (by decide)).symm HJ.out HTB2.out HB2.out
      · have HJ : Hid ((2 : Int) = jN 1 u 1 U) := Lib.hid (by rw [jN, if_pos ⟨rfl, rfl, hu⟩])
        have g1 : (u.toList == U.toList) = false := by simpa using hu
        clear hu
        go_wp2_with fail
        refine bodyPost_ret (v := .tuple #[]) (by simp [results, Tryd.results9, go_sem]) rfl ?_
        exact InP.mk' (jU1 _ _ _ (by decide)).symm HJ.out (HTB2.out.set_ 1 _) (HB2.out.setCell (Nat.le_refl _) _)
    · go_wp2_with fail
      refine bodyPost_ret (v := .tuple #[]) (by simp [results, Tryd.results9, go_sem]) rfl ?_
      exact InP.mk' (jU1 _ _ _ (by decide)).symm rfl (HTB2.out.set_ 1 _) (HB2.out.setCell (Nat.le_refl _) _)
  · rw [hn, jN2 _ _ _ h0 h2, jUn _ _ _ _ (by decide)]
    clear hn
    rcases hk with rfl | rfl
    all_goals
      go_enter Tryd.func9, Tryd.ntmps9
      go_wp2_with fail
      refine bodyPost_ret (v := .tuple #[]) (by simp [results, Tryd.results9, go_sem]) rfl ?_
      exact InP.mk' rfl rfl ((HTB.out.set_ 1 _).keep ((Below.refl _ _).alloc (Nat.le_refl _) _)) (((Below.refl b w).setCell (Nat.le_refl _) _).alloc (by simpa [World.setCell] using HLT.out) _)
/-- the wrapper -/
def ZzP (u : ByteArray) (st : Int) (w : World) (e : Ending) (w' : World) : Prop := e = .returned (.tuple #[.string u, .int .u8 st]) ∧ Below w.heap.size w w'
set_option maxRecDepth 100000 in
set_option maxHeartbeats 2000000 in
theorem zz_any (u : ByteArray) (st : Int) (K : Int) (T : ByteArray) (o : Nat) (w : World) (h0 : 0 ≤ st) (h2 : st ≤ 2) (hK : K = 0 ∨ K = 30 ∨ K = 34 ∨ K = 26 ∨ K = 29) (hT : (T.size : Int) ≤ 1048576) (ho : (o : Int) ≤ T.size) (h : TL w) :
    Calls Tryd.prog 6 #[.string u, .int .u8 st, .agg #[.pointer none, .string T, .int .i32 0, .int .u32 0, .int .u16 o, .int .u8 K, .int .u8 0]] w (ZzP (jU st u (clN K T o) (clU K T o)) (jN st u (clN K T o) (clU K T o)) w) := by
  have H := Lib.hid h
  clear h
  go_enter Tryd.func6, Tryd.ntmps6
  go_wp2_with fail
  have hT0 : TB ((w.alloc (.cells #[.pointer none, .string T, .int .i32 0, .int .u32 0, .int .u16 o, .int .u8 K, .int .u8 0] 32)).alloc (.cells #[.string u, .int .u8 st] 40)) (w.heap.size + 1) u st := by
    have := heap_alloc_new (w.alloc (.cells #[.pointer none, .string T, .int .i32 0, .int .u32 0, .int .u16 o, .int .u8 K, .int .u8 0] 32)) (.cells #[.string u, .int .u8 st] 40)
    simpa [TB, Bk] using this
  have hb0 : Below w.heap.size w ((w.alloc (.cells #[.pointer none, .string T, .int .i32 0, .int .u32 0, .int .u16 o, .int .u8 K, .int .u8 0] 32)).alloc (.cells #[.string u, .int .u8 st] 40)) := ((Below.refl _ _).alloc (Nat.le_refl _) _).alloc (by simp) _
  refine (inc_any (w.heap.size + 1) u st K T o _ hT0 h0 h2 hK hT ho (H.out.keep hb0)).mono ?_
  rintro e w1 ⟨rfl, hTB, hb⟩
  have d0 := hTB.cell 0 rfl
  have d1 := hTB.cell 1 rfl
  have HB := Lib.hid (hb0.trans (hb.mono (by simp)))
  clear hT0 hb0 hTB hb
  go_wp2_with fail
  go_quiet (fail)
  go_wp2_with fail
  go_ret2
  exact ⟨rfl, Rg.below_drewN HB.out _⟩
end Go.Proofs.YtibdmppjmaacpaaDoor.Iu
