/-
  switchToDoublePositions.
-/
import Derived.Test.YtfhfeimlikpbpaaDoorTd
import Derived.StillTailTactics
import Derived.Laws.Rows
namespace Go.Proofs.YtfhfeimlikpbpaaDoor.Cs
open Go.ChangeShapes Go.WideShapes Go.ChangeAt Go.RowKit Rg
set_option linter.unusedVariables false
/-- the head of the loop: k stops are read, L2 stands written -/
def DS (k : Nat) (v vin : Value) (L L2 : List Sp) (w0 w : World) : Prop :=
  SR w w0.heap.size v L2 ∧ SR w 0 vin L ∧ (L2.map Sp.t ++ dbl ((L.map Sp.t).drop k) = dbl (L.map Sp.t)) ∧ L2.length ≤ k ∧ (∀ g, vin.ownBlock = some g → g < w0.heap.size) ∧ Below w0.heap.size w0 w
theorem drop_cons {α : Type} (L : List α) {k : Nat} (h : k < L.length) : L.drop k = L[k] :: L.drop (k + 1) := List.drop_eq_getElem_cons h
theorem dbl_last (a : Tp) : dbl [a] = [a] := by simp [dbl]
theorem dbl_no {a b : Tp} (r : List Tp) (h : can a b = false) : dbl (a :: b :: r) = a :: dbl (b :: r) := by rw [dbl, h]; simp
theorem dbl_yes {a b : Tp} (r : List Tp) (h : can a b = true) : dbl (a :: b :: r) = (a.1 ++ b.1, a.2.1, b.2.2) :: dbl r := by rw [dbl, h]; simp
/-- one step of the greedy join -/
theorem dbl_step (L : List Tp) {k : Nat} (h : k < L.length) (hn : ∀ h2 : k + 1 < L.length, can L[k] L[k + 1] = false) : dbl (L.drop k) = L[k] :: dbl (L.drop (k + 1)) := by
  rw [drop_cons L h]
  by_cases h2 : k + 1 < L.length
  · rw [drop_cons L h2, dbl_no _ (hn h2)]
  · rw [List.drop_eq_nil_of_le (by omega), dbl_last]; rfl
theorem dbl_join (L : List Tp) {k : Nat} (h2 : k + 1 < L.length) (hy : can L[k] L[k + 1] = true) : dbl (L.drop k) = (L[k].1 ++ L[k + 1].1, L[k].2.1, L[k + 1].2.2) :: dbl (L.drop (k + 1 + 1)) := by
  rw [drop_cons L (by omega), drop_cons L h2, dbl_yes _ hy]
theorem st_fields {w : World} {g o : Nat} {v : Value} {c m : ByteArray} (h : w.rangeAt g o (st v c m)) : w.cell? ⟨g, o, none⟩ = some v ∧ w.cell? ⟨g, o + 13, none⟩ = some (.int .u8 (mk m)) ∧ w.rangeAt g (o + 1) (tk 29 2 c) ∧ w.rangeAt g (o + 8) (tk (mk m) 0 m) := by
  refine ⟨h 0 _ rfl, h 13 _ rfl, fun j u hj => ?_, fun j u hj => ?_⟩
  · have hl : j < 7 := by rw [← tk_len 29 2 c]; exact (List.getElem?_eq_some_iff.1 hj).1
    rw [Nat.add_assoc]
    refine h (1 + j) u ?_
    rw [← hj]
    match j, hl with
    | 0, _ | 1, _ | 2, _ | 3, _ | 4, _ | 5, _ | 6, _ => rfl
  · have hl : j < 7 := by rw [← tk_len (mk m) 0 m]; exact (List.getElem?_eq_some_iff.1 hj).1
    rw [Nat.add_assoc]
    refine h (8 + j) u ?_
    rw [← hj]
    match j, hl with
    | 0, _ | 1, _ | 2, _ | 3, _ | 4, _ | 5, _ | 6, _ => rfl
theorem DS.put {k k' : Nat} {v vin : Value} {L L2 : List Sp} {w0 w W w6 : World} (h : DS k v vin L L2 w0 w) (hW : Below w.heap.size w W) {s : Sp} (hp : PR W 0 s.v s.ps) {g2 cap : Nat}
    (hown : w6.ownsRow w0.heap.size 44 15 (.slice (some ⟨g2, 0, none⟩) (L2.length + 1) cap) (L2.length + 1) (L2.flatMap Sp.cells ++ s.cells)) (hgrow : W.grownBy w6 v.ownBlock) (hk : k < k')
    (step : dbl ((L.map Sp.t).drop k) = s.t :: dbl ((L.map Sp.t).drop k')) : DS k' (.slice (some ⟨g2, 0, none⟩) (L2.length + 1) cap) vin L (L2 ++ [s]) w0 w6 := by
  obtain ⟨h1, h2, h3, h4, h5, h6⟩ := h
  have ho := own_keep h1.1 hW
  have hvin : vin.ownBlock = none ∨ vin.ownBlock ≠ v.ownBlock := by
    cases hv : vin.ownBlock with
    | none => exact .inl rfl
    | some g =>
      right
      intro e
      have := h5 g hv
      have := (h1.1.lt g e.symm).1
      omega
  refine ⟨⟨?_, fun x hx => ?_⟩, ⟨(own_keep h2.1 hW).kept hgrow hvin, fun x hx => PR.grown (own_keep (h2.2 x hx) hW) ho hgrow⟩, ?_, ?_, h5, ?_⟩
  · rw [List.length_append, List.flatMap_append]
    simpa using hown
  · rcases List.mem_append.1 hx with h | h
    · exact PR.grown (own_keep (h1.2 x h) hW) ho hgrow
    · obtain rfl : x = s := by simpa using h
      exact PR.grown hp ho hgrow
  · rw [List.map_append, List.append_assoc, ← h3, step]
    rfl
  · rw [List.length_append]; simp; omega
  · exact (h6.trans (hW.mono h6.size)).grown hgrow (Nat.le_trans h6.size hW.size) (fun q hq => (ho.lt q hq).1)
theorem DS.keep {k : Nat} {v vin : Value} {L L2 : List Sp} {w0 w w' : World} (h : DS k v vin L L2 w0 w) (hb : Below w.heap.size w w') : DS k v vin L L2 w0 w' :=
  ⟨h.1.keep hb, h.2.1.keep hb, h.2.2.1, h.2.2.2.1, h.2.2.2.2.1, h.2.2.2.2.2.trans (hb.mono h.2.2.2.2.2.size)⟩
theorem step_no (L : List Sp) {k : Nat} (h : k < L.length) {s : Sp} (hs : s = L[k]) (hn : ∀ h2 : k + 1 < L.length, can s.t (L[k + 1]).t = false) : dbl ((L.map Sp.t).drop k) = s.t :: dbl ((L.map Sp.t).drop (k + 1)) := by
  rw [dbl_step (L.map Sp.t) (by simpa using h) (fun h2 => by
    have h3 : k + 1 < L.length := by simpa using h2
    have := hn h3
    rw [hs] at this
    simpa using this)]
  rw [hs]; simp
theorem step_yes (L : List Sp) {k : Nat} (h2 : k + 1 < L.length) {s s' : Sp} (hs : s = L[k]) (hs' : s' = L[k + 1]) (hy : can s.t s'.t = true) : dbl ((L.map Sp.t).drop k) = (s.ps ++ s'.ps, s.c, s'.m) :: dbl ((L.map Sp.t).drop (k + 1 + 1)) := by
  rw [dbl_join (L.map Sp.t) (k := k) (by simpa using h2) (by rw [hs, hs'] at hy; simpa using hy)]
  rw [hs, hs']; simp [Sp.t]
theorem can_no1 {a b : Tp} (h : ¬ a.1.length = 1) : can a b = false := by simp [can, h]
theorem can_no2 {a b : Tp} (h : ¬ mk a.2.2 = 0) : can a b = false := by simp [can, h]
theorem can_no3 {a b : Tp} (h : ¬ b.1.length = 1) : can a b = false := by simp [can, h]
theorem can_no4 {a b : Tp} (h : sm a.2.1 b.2.1 = false) : can a b = false := by simp [can, h]
theorem can_ok {a b : Tp} (h1 : a.1.length = 1) (h2 : mk a.2.2 = 0) (h3 : b.1.length = 1) (h4 : sm a.2.1 b.2.1 = true) : can a b = true := by simp [can, h1, h2, h3, h4]
/-- what switchToDoublePositions answers -/
def DbP (L : List Sp) (w : World) (e : Ending) (w' : World) : Prop := ∃ v L2, e = .returned v ∧ SR w' w.heap.size v L2 ∧ L2.map Sp.t = dbl (L.map Sp.t) ∧ L2.length ≤ L.length ∧ Below w.heap.size w w'
set_option maxRecDepth 100000 in
set_option maxHeartbeats 8000000 in
theorem dbl_any (ai : Option Addr) (ci : Nat) (L : List Sp) (w : World) (hN : L.length ≤ 65536) (h : SR w 0 (.slice ai L.length ci) L) (hv0 : ∀ x, ai = some x → x.block < w.heap.size) :
    Calls Tryd.prog 18 #[.slice ai L.length ci] w (DbP L w) := by
  obtain ⟨i0, hi, hz0, hz1, hz2⟩ := info_parts infoSt
  have HI := Lib.hid (And.intro hi (And.intro hz0 (And.intro hz1 hz2)))
  obtain ⟨dS, hS, hS2⟩ := tySt
  obtain ⟨dT, hT, hT2⟩ := tyTok
  have H := Lib.hid h
  obtain ⟨N, hNe⟩ : ∃ N, N = L.length := ⟨_, rfl⟩
  have HN := Lib.hid (And.intro hNe hN)
  have hN2 : N ≤ 65536 := by omega
  have HV := Lib.hid hv0
  rw [← hNe] at H ⊢
  clear hi hz0 hz1 hz2 h hN hNe hv0
  go_enter Tryd.func18, Tryd.ntmps18
  go_wp2_with fail
  go_loopw [2, 3] (fun v i wr => ∃ (k : Nat) (L2 : List Sp), k ≤ N ∧ i = .int .i64 k ∧ Hid (DS k v (.slice ai N ci) L L2 w wr)) (fun _ i _ => N - (intOf i).toNat)
  case atStart => exact ⟨0, [], Nat.zero_le _, rfl, Lib.hid ⟨⟨World.ownsRow_nil _ _ _ _, fun s hs => by cases hs⟩, H.out, by simp, by simp, fun g hg => (by cases ai with | none => simp [Value.ownBlock] at hg | some x => (have := HV.out x rfl; simp [Value.ownBlock] at hg; omega)), Below.refl _ _⟩⟩
  case round =>
    obtain ⟨k, L2, hk, rfl, HD⟩ := hrel
    by_cases hlt : k < N
    · have q0 : (0 : Int) ≤ k := by omega
      have q1 : (k : Int) < N := by omega
      have hlt2 : k < L.length := by have := HN.out.1; omega
      obtain ⟨gi, cap, hvi, hBi, hgi⟩ := HD.out.2.1.1.form (by omega)
      simp only [Value.slice.injEq] at hvi
      obtain ⟨rfl, hx, rfl⟩ := hvi
      clear hx
      have hr := own_range (f := Sp.cells) (s := 15) (L := L) (by have h := HD.out.2.1.1; rw [HN.out.1] at h; exact h) (fun x => rfl) hlt2
      obtain ⟨s, hs⟩ : ∃ s, s = L[k] := ⟨_, rfl⟩
      have HPS := Lib.hid (show PR wr 0 s.v s.ps from by rw [hs]; exact HD.out.2.1.2 _ (List.getElem_mem hlt2))
      rw [← hs] at hr
      obtain ⟨v, ps, c, m⟩ := s
      obtain ⟨a, cp, hv⟩ := HPS.out.slice
      dsimp only at hv HPS
      obtain ⟨n, hn⟩ : ∃ n, n = ps.length := ⟨_, rfl⟩
      have HNP := Lib.hid hn
      rw [← hn] at hv
      clear hn
      subst hv
      have HRG := Lib.hid (show wr.rangeAt gi (k * 15) (st (.slice a n cp) c m) from hr)
      clear hr
      have HE := Lib.hid hs
      clear hs
      have hbb : Below wr.heap.size wr ((wr.alloc (.cells #[.slice none 0 0, .pointer none, .string ⟨#[]⟩, .int .i32 0, .int .u32 0, .int .u16 0, .int .u8 0, .int .u8 0, .pointer none, .string ⟨#[]⟩, .int .i32 0, .int .u32 0, .int .u16 0, .int .u8 0, .int .u8 0] 44)).setCells wr.heap.size 0 (st (.slice a n cp) c m)) := below_setCells (Nat.le_refl _) _ _ ((Below.refl _ _).alloc (Nat.le_refl _) _)
      have HX := Lib.hid (show DS k u2 (.slice (some ⟨gi, 0, none⟩) N ci) L L2 w ((wr.alloc (.cells #[.slice none 0 0, .pointer none, .string ⟨#[]⟩, .int .i32 0, .int .u32 0, .int .u16 0, .int .u8 0, .int .u8 0, .pointer none, .string ⟨#[]⟩, .int .i32 0, .int .u32 0, .int .u16 0, .int .u8 0, .int .u8 0] 44)).setCells wr.heap.size 0 (st (.slice a n cp) c m)) ∧ PR ((wr.alloc (.cells #[.slice none 0 0, .pointer none, .string ⟨#[]⟩, .int .i32 0, .int .u32 0, .int .u16 0, .int .u8 0, .int .u8 0, .pointer none, .string ⟨#[]⟩, .int .i32 0, .int .u32 0, .int .u16 0, .int .u8 0, .int .u8 0] 44)).setCells wr.heap.size 0 (st (.slice a n cp) c m)) 0 (.slice a n cp) ps ∧ ((wr.alloc (.cells #[.slice none 0 0, .pointer none, .string ⟨#[]⟩, .int .i32 0, .int .u32 0, .int .u16 0, .int .u8 0, .int .u8 0, .pointer none, .string ⟨#[]⟩, .int .i32 0, .int .u32 0, .int .u16 0, .int .u8 0, .int .u8 0] 44)).setCells wr.heap.size 0 (st (.slice a n cp) c m)).rangeAt wr.heap.size 0 (st (.slice a n cp) c m) from
        ⟨HD.out.keep hbb, own_keep HPS.out hbb, World.rangeAt_setCells_same _ _ _ _ (th_new wr _ _ rfl)⟩)
      clear hbb HD HPS
      go_upto_region 5 with (first
        | (refine wpList_load_mid rfl 44 _ rfl gi (k * 15) rfl (st (.slice a n cp) c m) dS HRG.out hS hS2 szSt ?_)
        | (refine wpList_store_mid rfl 44 _ _ rfl wr.heap.size 0 (st (.slice a n cp) c m).toArray rfl rfl (th_new wr _ _ rfl) szSt (st_all _ _ _ _ _) ?_))
      clear HRG
      generalize World.setCells _ _ _ _ = w1 at *
      generalize wr.heap.size = b1 at *
      obtain ⟨e0, e13, -, -⟩ := st_fields HX.out.2.2
      obtain ⟨km, hkm⟩ : ∃ x, x = mk m := ⟨_, rfl⟩
      rw [← hkm] at e13
      have HKM := Lib.hid hkm
      clear hkm
      by_cases hp1 : (k : Int) + 1 < N
      case neg =>
        -- <part
        have HO := Lib.hid (HX.out.1.1.1.alloc (.cells (st (.slice a n cp) c m).toArray 44))
        have HSZ := Lib.hid HX.out.1.2.2.2.2.2.size
        have HL2 := Lib.hid HX.out.1.2.2.2.1
        have hl2 : L2.length ≤ 65536 := by have := HL2.out; omega
        go_upto_region 10 with fail
        go_wp2_with (first
          | (refine wpList_load_mid rfl 44 _ rfl b1 0 rfl (st (.slice a n cp) c m) dS HX.out.2.2 hS hS2 szSt ?_; change wpList _ _ _ _ (Act.put _ _ (Value.agg #[.slice a n cp, .pointer none, .string c, .int .i32 0, .int .u32 0, .int .u16 0, .int .u8 29, .int .u8 2, .pointer none, .string m, .int .i32 0, .int .u32 0, .int .u16 0, .int .u8 (mk m), .int .u8 0])) _)
          | (refine wpl_bs1 rfl 29 (.tmp 71) rfl _ _ _ ?hx (bs_st a n cp c m (mk m) w1) ?_; case hx => (show _ = _; rfl))
          | (at_builtin
             refine wpList_append_lies _ rfl (.tmp 70) (.tmp 72) _ rfl w.heap.size 44 i0 _ 15 104 Tryd.underlying29 HI.out.1 HI.out.2.1 HI.out.2.2.1 HI.out.2.2.2 rfl (by omega) u2 L2.length (L2.flatMap Sp.cells) (by rfl) HO.out ⟨w1.heap.size, 0, none⟩ 1 1 (st (.slice a n cp) c m) (by rfl) (by rfl) (World.news_of_block (heap_alloc_new w1 _)) (st_one _ _ _ _ _) (by omega) (by unfold maxLen; omega) (by omega) (by have := HSZ.out; simp; omega) (w1.heap.size + 1) (by simp) ?_
             intro g2 cap w6 hown hgrow hat hlt3))
        have HF := Lib.hid (DS.put (s := ⟨.slice a n cp, ps, c, m⟩) HX.out.1 ((Below.refl _ _).alloc (Nat.le_refl _) _) (HX.out.2.1.alloc _) hown hgrow (Nat.lt_succ_self k) (step_no L hlt2 HE.out (fun h2 => absurd h2 (by have := HN.out.1; omega))))
        exact ⟨⟨k + 1, L2 ++ [⟨.slice a n cp, ps, c, m⟩], by omega, by go_num, HF⟩, by simp [intOf]; omega⟩
        -- part>
      by_cases hn1 : n = 1
      case neg =>
        have hn2 : ((n : Int) == 1) = false := by rw [beq_eq_false_iff_ne]; omega
        have HNN := Lib.hid hn1
        clear hn1
        -- <part
        have HO := Lib.hid (HX.out.1.1.1.alloc (.cells (st (.slice a n cp) c m).toArray 44))
        have HSZ := Lib.hid HX.out.1.2.2.2.2.2.size
        have HL2 := Lib.hid HX.out.1.2.2.2.1
        have hl2 : L2.length ≤ 65536 := by have := HL2.out; omega
        go_upto_region 10 with fail
        go_wp2_with (first
          | (refine wpList_load_mid rfl 44 _ rfl b1 0 rfl (st (.slice a n cp) c m) dS HX.out.2.2 hS hS2 szSt ?_; change wpList _ _ _ _ (Act.put _ _ (Value.agg #[.slice a n cp, .pointer none, .string c, .int .i32 0, .int .u32 0, .int .u16 0, .int .u8 29, .int .u8 2, .pointer none, .string m, .int .i32 0, .int .u32 0, .int .u16 0, .int .u8 (mk m), .int .u8 0])) _)
          | (refine wpl_bs1 rfl 29 (.tmp 71) rfl _ _ _ ?hx (bs_st a n cp c m (mk m) w1) ?_; case hx => (show _ = _; rfl))
          | (at_builtin
             refine wpList_append_lies _ rfl (.tmp 70) (.tmp 72) _ rfl w.heap.size 44 i0 _ 15 104 Tryd.underlying29 HI.out.1 HI.out.2.1 HI.out.2.2.1 HI.out.2.2.2 rfl (by omega) u2 L2.length (L2.flatMap Sp.cells) (by rfl) HO.out ⟨w1.heap.size, 0, none⟩ 1 1 (st (.slice a n cp) c m) (by rfl) (by rfl) (World.news_of_block (heap_alloc_new w1 _)) (st_one _ _ _ _ _) (by omega) (by unfold maxLen; omega) (by omega) (by have := HSZ.out; simp; omega) (w1.heap.size + 1) (by simp) ?_
             intro g2 cap w6 hown hgrow hat hlt3))
        have HF := Lib.hid (DS.put (s := ⟨.slice a n cp, ps, c, m⟩) HX.out.1 ((Below.refl _ _).alloc (Nat.le_refl _) _) (HX.out.2.1.alloc _) hown hgrow (Nat.lt_succ_self k) (step_no L hlt2 HE.out (fun h2 => can_no1 (by show ¬ ps.length = 1; rw [← HNP.out]; exact HNN.out))))
        exact ⟨⟨k + 1, L2 ++ [⟨.slice a n cp, ps, c, m⟩], by omega, by go_num, HF⟩, by simp [intOf]; omega⟩
        -- part>
      subst hn1
      by_cases hk1 : km = 0
      case neg =>
        have hk2 : (km == 0) = false := by rw [beq_eq_false_iff_ne]; exact hk1
        have HNN := Lib.hid hk1
        clear hk1
        -- <part
        have HO := Lib.hid (HX.out.1.1.1.alloc (.cells (st (.slice a 1 cp) c m).toArray 44))
        have HSZ := Lib.hid HX.out.1.2.2.2.2.2.size
        have HL2 := Lib.hid HX.out.1.2.2.2.1
        have hl2 : L2.length ≤ 65536 := by have := HL2.out; omega
        go_upto_region 10 with fail
        go_wp2_with (first
          | (refine wpList_load_mid rfl 44 _ rfl b1 0 rfl (st (.slice a 1 cp) c m) dS HX.out.2.2 hS hS2 szSt ?_; change wpList _ _ _ _ (Act.put _ _ (Value.agg #[.slice a 1 cp, .pointer none, .string c, .int .i32 0, .int .u32 0, .int .u16 0, .int .u8 29, .int .u8 2, .pointer none, .string m, .int .i32 0, .int .u32 0, .int .u16 0, .int .u8 (mk m), .int .u8 0])) _)
          | (refine wpl_bs1 rfl 29 (.tmp 71) rfl _ _ _ ?hx (bs_st a 1 cp c m (mk m) w1) ?_; case hx => (show _ = _; rfl))
          | (at_builtin
             refine wpList_append_lies _ rfl (.tmp 70) (.tmp 72) _ rfl w.heap.size 44 i0 _ 15 104 Tryd.underlying29 HI.out.1 HI.out.2.1 HI.out.2.2.1 HI.out.2.2.2 rfl (by omega) u2 L2.length (L2.flatMap Sp.cells) (by rfl) HO.out ⟨w1.heap.size, 0, none⟩ 1 1 (st (.slice a 1 cp) c m) (by rfl) (by rfl) (World.news_of_block (heap_alloc_new w1 _)) (st_one _ _ _ _ _) (by omega) (by unfold maxLen; omega) (by omega) (by have := HSZ.out; simp; omega) (w1.heap.size + 1) (by simp) ?_
             intro g2 cap w6 hown hgrow hat hlt3))
        have HF := Lib.hid (DS.put (s := ⟨.slice a 1 cp, ps, c, m⟩) HX.out.1 ((Below.refl _ _).alloc (Nat.le_refl _) _) (HX.out.2.1.alloc _) hown hgrow (Nat.lt_succ_self k) (step_no L hlt2 HE.out (fun h2 => can_no2 (by show ¬ mk m = 0; rw [← HKM.out]; exact HNN.out))))
        exact ⟨⟨k + 1, L2 ++ [⟨.slice a 1 cp, ps, c, m⟩], by omega, by go_num, HF⟩, by simp [intOf]; omega⟩
        -- part>
      subst hk1
      have hlt3 : k + 1 < L.length := by have := HN.out.1; omega
      have hr := own_range (f := Sp.cells) (s := 15) (L := L) (by have h := HX.out.1.2.1.1; rw [HN.out.1] at h; exact h) (fun x => rfl) hlt3
      obtain ⟨s', hs'⟩ : ∃ s, s = L[k + 1] := ⟨_, rfl⟩
      have HPS2 := Lib.hid (show PR w1 0 s'.v s'.ps from by rw [hs']; exact HX.out.1.2.1.2 _ (List.getElem_mem hlt3))
      rw [← hs'] at hr
      obtain ⟨v', ps', c', m'⟩ := s'
      obtain ⟨a', cp', hv'⟩ := HPS2.out.slice
      dsimp only at hv' HPS2
      obtain ⟨n', hn'⟩ : ∃ n, n = ps'.length := ⟨_, rfl⟩
      have HNP2 := Lib.hid hn'
      rw [← hn'] at hv'
      clear hn'
      subst hv'
      have HRG2 := Lib.hid (show w1.rangeAt gi ((k + 1) * 15) (st (.slice a' n' cp') c' m') from hr)
      clear hr
      have HE2 := Lib.hid hs'
      clear hs'
      have hbb : Below w1.heap.size w1 ((w1.alloc (.cells #[.slice none 0 0, .pointer none, .string ⟨#[]⟩, .int .i32 0, .int .u32 0, .int .u16 0, .int .u8 0, .int .u8 0, .pointer none, .string ⟨#[]⟩, .int .i32 0, .int .u32 0, .int .u16 0, .int .u8 0, .int .u8 0] 44)).setCells w1.heap.size 0 (st (.slice a' n' cp') c' m')) := below_setCells (Nat.le_refl _) _ _ ((Below.refl _ _).alloc (Nat.le_refl _) _)
      have HY := Lib.hid (show (DS k u2 (.slice (some ⟨gi, 0, none⟩) N ci) L L2 w ((w1.alloc (.cells #[.slice none 0 0, .pointer none, .string ⟨#[]⟩, .int .i32 0, .int .u32 0, .int .u16 0, .int .u8 0, .int .u8 0, .pointer none, .string ⟨#[]⟩, .int .i32 0, .int .u32 0, .int .u16 0, .int .u8 0, .int .u8 0] 44)).setCells w1.heap.size 0 (st (.slice a' n' cp') c' m')) ∧ PR ((w1.alloc (.cells #[.slice none 0 0, .pointer none, .string ⟨#[]⟩, .int .i32 0, .int .u32 0, .int .u16 0, .int .u8 0, .int .u8 0, .pointer none, .string ⟨#[]⟩, .int .i32 0, .int .u32 0, .int .u16 0, .int .u8 0, .int .u8 0] 44)).setCells w1.heap.size 0 (st (.slice a' n' cp') c' m')) 0 (.slice a 1 cp) ps ∧ ((w1.alloc (.cells #[.slice none 0 0, .pointer none, .string ⟨#[]⟩, .int .i32 0, .int .u32 0, .int .u16 0, .int .u8 0, .int .u8 0, .pointer none, .string ⟨#[]⟩, .int .i32 0, .int .u32 0, .int .u16 0, .int .u8 0, .int .u8 0] 44)).setCells w1.heap.size 0 (st (.slice a' n' cp') c' m')).rangeAt b1 0 (st (.slice a 1 cp) c m)) ∧
        PR ((w1.alloc (.cells #[.slice none 0 0, .pointer none, .string ⟨#[]⟩, .int .i32 0, .int .u32 0, .int .u16 0, .int .u8 0, .int .u8 0, .pointer none, .string ⟨#[]⟩, .int .i32 0, .int .u32 0, .int .u16 0, .int .u8 0, .int .u8 0] 44)).setCells w1.heap.size 0 (st (.slice a' n' cp') c' m')) 0 (.slice a' n' cp') ps' ∧ ((w1.alloc (.cells #[.slice none 0 0, .pointer none, .string ⟨#[]⟩, .int .i32 0, .int .u32 0, .int .u16 0, .int .u8 0, .int .u8 0, .pointer none, .string ⟨#[]⟩, .int .i32 0, .int .u32 0, .int .u16 0, .int .u8 0, .int .u8 0] 44)).setCells w1.heap.size 0 (st (.slice a' n' cp') c' m')).rangeAt w1.heap.size 0 (st (.slice a' n' cp') c' m') from
        ⟨⟨HX.out.1.keep hbb, own_keep HX.out.2.1 hbb, rg_keep hbb HX.out.2.2⟩, own_keep HPS2.out hbb, World.rangeAt_setCells_same _ _ _ _ (th_new w1 _ _ rfl)⟩)
      clear hbb HX HPS2
      go_upto_region 7 with (first
        | (refine wpList_load_mid rfl 44 _ rfl gi ((k + 1) * 15) rfl (st (.slice a' n' cp') c' m') dS HRG2.out hS hS2 szSt ?_)
        | (refine wpList_store_mid rfl 44 _ _ rfl w1.heap.size 0 (st (.slice a' n' cp') c' m').toArray rfl rfl (th_new w1 _ _ rfl) szSt (st_all _ _ _ _ _) ?_))
      clear HRG2 e0 e13
      generalize World.setCells _ _ _ _ = w2 at *
      generalize w1.heap.size = b2 at *
      obtain ⟨f0, -, -, -⟩ := st_fields HY.out.2.2
      have HX := Lib.hid HY.out.1
      have HX2 := Lib.hid HY.out.2
      clear HY
      by_cases hn3 : n' = 1
      case neg =>
        have hn4 : ((n' : Int) == 1) = false := by rw [beq_eq_false_iff_ne]; omega
        have HNN := Lib.hid hn3
        clear hn3
        -- <part
        have HO := Lib.hid (HX.out.1.1.1.alloc (.cells (st (.slice a 1 cp) c m).toArray 44))
        have HSZ := Lib.hid HX.out.1.2.2.2.2.2.size
        have HL2 := Lib.hid HX.out.1.2.2.2.1
        have hl2 : L2.length ≤ 65536 := by have := HL2.out; omega
        go_upto_region 10 with fail
        go_wp2_with (first
          | (refine wpList_load_mid rfl 44 _ rfl b1 0 rfl (st (.slice a 1 cp) c m) dS HX.out.2.2 hS hS2 szSt ?_; change wpList _ _ _ _ (Act.put _ _ (Value.agg #[.slice a 1 cp, .pointer none, .string c, .int .i32 0, .int .u32 0, .int .u16 0, .int .u8 29, .int .u8 2, .pointer none, .string m, .int .i32 0, .int .u32 0, .int .u16 0, .int .u8 (mk m), .int .u8 0])) _)
          | (refine wpl_bs1 rfl 29 (.tmp 71) rfl _ _ _ ?hx (bs_st a 1 cp c m (mk m) w2) ?_; case hx => (show _ = _; rfl))
          | (at_builtin
             refine wpList_append_lies _ rfl (.tmp 70) (.tmp 72) _ rfl w.heap.size 44 i0 _ 15 104 Tryd.underlying29 HI.out.1 HI.out.2.1 HI.out.2.2.1 HI.out.2.2.2 rfl (by omega) u2 L2.length (L2.flatMap Sp.cells) (by rfl) HO.out ⟨w2.heap.size, 0, none⟩ 1 1 (st (.slice a 1 cp) c m) (by rfl) (by rfl) (World.news_of_block (heap_alloc_new w2 _)) (st_one _ _ _ _ _) (by omega) (by unfold maxLen; omega) (by omega) (by have := HSZ.out; simp; omega) (w2.heap.size + 1) (by simp) ?_
             intro g2 cap w6 hown hgrow hat hlt3))
        have HF := Lib.hid (DS.put (s := ⟨.slice a 1 cp, ps, c, m⟩) HX.out.1 ((Below.refl _ _).alloc (Nat.le_refl _) _) (HX.out.2.1.alloc _) hown hgrow (Nat.lt_succ_self k) (step_no L hlt2 HE.out (fun h2 => can_no3 (by rw [← HE2.out]; show ¬ ps'.length = 1; rw [← HNP2.out]; exact HNN.out))))
        exact ⟨⟨k + 1, L2 ++ [⟨.slice a 1 cp, ps, c, m⟩], by omega, by go_num, HF⟩, by simp [intOf]; omega⟩
        -- part>
      subst hn3
      obtain ⟨-, -, hcl1, -⟩ := st_fields HX.out.2.2
      obtain ⟨-, -, hcl2, -⟩ := st_fields HX2.out.2
      have HC := Lib.hid (And.intro hcl1 hcl2)
      clear hcl1 hcl2
      have hw3 : Below w2.heap.size w2 ((w2.alloc (.cells #[.pointer none, .string c, .int .i32 0, .int .u32 0, .int .u16 0, .int .u8 29, .int .u8 2] 42)).alloc (.cells #[.pointer none, .string c', .int .i32 0, .int .u32 0, .int .u16 0, .int .u8 29, .int .u8 2] 42)) := ((Below.refl _ _).alloc (Nat.le_refl _) _).alloc (by simp) _
      have HW3 := Lib.hid (And.intro hw3 (And.intro (rg_keep (w := w2.alloc (.cells #[.pointer none, .string c, .int .i32 0, .int .u32 0, .int .u16 0, .int .u8 29, .int .u8 2] 42)) ((Below.refl _ _).alloc (Nat.le_refl _) (.cells #[.pointer none, .string c', .int .i32 0, .int .u32 0, .int .u16 0, .int .u8 29, .int .u8 2] 42)) (rg_new w2 #[.pointer none, .string c, .int .i32 0, .int .u32 0, .int .u16 0, .int .u8 29, .int .u8 2] 42)) (rg_new (w2.alloc (.cells #[.pointer none, .string c, .int .i32 0, .int .u32 0, .int .u16 0, .int .u8 29, .int .u8 2] 42)) #[.pointer none, .string c', .int .i32 0, .int .u32 0, .int .u16 0, .int .u8 29, .int .u8 2] 42)))
      clear hw3
      have d0 := HC.out.1 0 _ rfl
      have x0 := alloc_cell (HC.out.2 0 _ rfl) (.cells #[.pointer none, .string c, .int .i32 0, .int .u32 0, .int .u16 0, .int .u8 29, .int .u8 2] 42)
      have d1 := HC.out.1 1 _ rfl
      have x1 := alloc_cell (HC.out.2 1 _ rfl) (.cells #[.pointer none, .string c, .int .i32 0, .int .u32 0, .int .u16 0, .int .u8 29, .int .u8 2] 42)
      have d2 := HC.out.1 2 _ rfl
      have x2 := alloc_cell (HC.out.2 2 _ rfl) (.cells #[.pointer none, .string c, .int .i32 0, .int .u32 0, .int .u16 0, .int .u8 29, .int .u8 2] 42)
      have d3 := HC.out.1 3 _ rfl
      have x3 := alloc_cell (HC.out.2 3 _ rfl) (.cells #[.pointer none, .string c, .int .i32 0, .int .u32 0, .int .u16 0, .int .u8 29, .int .u8 2] 42)
      have d4 := HC.out.1 4 _ rfl
      have x4 := alloc_cell (HC.out.2 4 _ rfl) (.cells #[.pointer none, .string c, .int .i32 0, .int .u32 0, .int .u16 0, .int .u8 29, .int .u8 2] 42)
      have d5 := HC.out.1 5 _ rfl
      have x5 := alloc_cell (HC.out.2 5 _ rfl) (.cells #[.pointer none, .string c, .int .i32 0, .int .u32 0, .int .u16 0, .int .u8 29, .int .u8 2] 42)
      have d6 := HC.out.1 6 _ rfl
      have x6 := alloc_cell (HC.out.2 6 _ rfl) (.cells #[.pointer none, .string c, .int .i32 0, .int .u32 0, .int .u16 0, .int .u8 29, .int .u8 2] 42)
      simp only [Nat.zero_add, Nat.reduceAdd] at d0 d1 d2 d3 d4 d5 d6 x0 x1 x2 x3 x4 x5 x6
      go_wp2_with fail
      refine (tse_any w2.heap.size (w2.heap.size + 1) c c' _ HW3.out.2.1 (by have h := HW3.out.2.2; simp only [World.size_alloc] at h; exact h)).mono ?_
      rintro e w3 ⟨rfl, hb⟩
      have hbw := HW3.out.1.trans (hb.mono HW3.out.1.size)
      have HX3 := Lib.hid (show DS k u2 (.slice (some ⟨gi, 0, none⟩) N ci) L L2 w w3 ∧ PR w3 0 (.slice a 1 cp) ps ∧ w3.rangeAt b1 0 (st (.slice a 1 cp) c m) from ⟨HX.out.1.keep hbw, own_keep HX.out.2.1 hbw, rg_keep hbw HX.out.2.2⟩)
      have HX4 := Lib.hid (show PR w3 0 (.slice a' 1 cp') ps' ∧ w3.rangeAt b2 0 (st (.slice a' 1 cp') c' m') from ⟨own_keep HX2.out.1 hbw, rg_keep hbw HX2.out.2⟩)
      clear hb hbw HX HX2 HW3 HC f0 d0 d1 d2 d3 d4 d5 d6 x0 x1 x2 x3 x4 x5 x6
      have HX := HX3
      have HX2 := HX4
      clear HX3 HX4
      obtain ⟨sv, hsv⟩ : ∃ b, b = sm c c' := ⟨_, rfl⟩
      rw [← hsv]
      have HSV := Lib.hid hsv
      clear hsv
      cases sv
      case false =>
        -- <part
        have HO := Lib.hid (HX.out.1.1.1.alloc (.cells (st (.slice a 1 cp) c m).toArray 44))
        have HSZ := Lib.hid HX.out.1.2.2.2.2.2.size
        have HL2 := Lib.hid HX.out.1.2.2.2.1
        have hl2 : L2.length ≤ 65536 := by have := HL2.out; omega
        go_upto_region 10 with fail
        go_wp2_with (first
          | (refine wpList_load_mid rfl 44 _ rfl b1 0 rfl (st (.slice a 1 cp) c m) dS HX.out.2.2 hS hS2 szSt ?_; change wpList _ _ _ _ (Act.put _ _ (Value.agg #[.slice a 1 cp, .pointer none, .string c, .int .i32 0, .int .u32 0, .int .u16 0, .int .u8 29, .int .u8 2, .pointer none, .string m, .int .i32 0, .int .u32 0, .int .u16 0, .int .u8 (mk m), .int .u8 0])) _)
          | (refine wpl_bs1 rfl 29 (.tmp 71) rfl _ _ _ ?hx (bs_st a 1 cp c m (mk m) w3) ?_; case hx => (show _ = _; rfl))
          | (at_builtin
             refine wpList_append_lies _ rfl (.tmp 70) (.tmp 72) _ rfl w.heap.size 44 i0 _ 15 104 Tryd.underlying29 HI.out.1 HI.out.2.1 HI.out.2.2.1 HI.out.2.2.2 rfl (by omega) u2 L2.length (L2.flatMap Sp.cells) (by rfl) HO.out ⟨w3.heap.size, 0, none⟩ 1 1 (st (.slice a 1 cp) c m) (by rfl) (by rfl) (World.news_of_block (heap_alloc_new w3 _)) (st_one _ _ _ _ _) (by omega) (by unfold maxLen; omega) (by omega) (by have := HSZ.out; simp; omega) (w3.heap.size + 1) (by simp) ?_
             intro g2 cap w6 hown hgrow hat hlt3))
        have HF := Lib.hid (DS.put (s := ⟨.slice a 1 cp, ps, c, m⟩) HX.out.1 ((Below.refl _ _).alloc (Nat.le_refl _) _) (HX.out.2.1.alloc _) hown hgrow (Nat.lt_succ_self k) (step_no L hlt2 HE.out (fun h2 => can_no4 (by rw [← HE2.out]; exact HSV.out.symm))))
        exact ⟨⟨k + 1, L2 ++ [⟨.slice a 1 cp, ps, c, m⟩], by omega, by go_num, HF⟩, by simp [intOf]; omega⟩
        -- part>
      go_wp2_with fail
      -- <part
      obtain ⟨q, hq⟩ : ∃ q, ps = [q] := List.length_eq_one_iff.1 HNP.out.symm
      obtain ⟨q', hq'⟩ : ∃ q, ps' = [q] := List.length_eq_one_iff.1 HNP2.out.symm
      subst hq
      subst hq'
      have hpa := HX.out.2.1
      have hpa2 := HX2.out.1
      obtain ⟨pg, pc, hve, -, -⟩ := hpa.form (by simp)
      obtain ⟨pg2, pc2, hve2, -, -⟩ := hpa2.form (by simp)
      simp only [Value.slice.injEq] at hve hve2
      obtain ⟨rfl, hx1, rfl⟩ := hve
      obtain ⟨rfl, hx2, rfl⟩ := hve2
      clear hx1 hx2
      have hr1 : w3.rangeAt pg 0 (pt q) := by have h := own_range (f := pt) (s := 7) (L := [q]) hpa (fun x => rfl) (i := 0) (by simp); simpa using h
      have hr2 : w3.rangeAt pg2 0 (pt q') := by have h := own_range (f := pt) (s := 7) (L := [q']) hpa2 (fun x => rfl) (i := 0) (by simp); simpa using h
      obtain ⟨y0, -, y1, -⟩ := st_fields HX.out.2.2
      obtain ⟨z0, -, -, z8⟩ := st_fields HX2.out.2
      have hb0 : Below w3.heap.size w3 w3.drew := (Below.refl _ _).drew
      have HS0 := Lib.hid (show ((w3.drew.cell? ⟨b1, 0, none⟩ = some (.slice (some ⟨pg, 0, none⟩) 1 cp) ∧ w3.drew.cell? ⟨b2, 0, none⟩ = some (.slice (some ⟨pg2, 0, none⟩) 1 cp')) ∧ w3.drew.rangeAt b1 1 (tk 29 2 c) ∧ w3.drew.rangeAt pg 0 (pt q) ∧ w3.drew.rangeAt pg2 0 (pt q') ∧ w3.drew.rangeAt b2 8 (tk (mk m') 0 m') ∧ Below w3.heap.size w3 w3.drew) from ⟨⟨later hb0 y0, later hb0 z0⟩, rg_keep hb0 y1, rg_keep hb0 hr1, rg_keep hb0 hr2, rg_keep hb0 z8, hb0⟩)
      clear hb0 y0 y1 z0 z8 hr1 hr2 hpa hpa2
      refine Pl.wp_region_split (fun w' => ((w'.cell? ⟨b1, 0, none⟩ = some (.slice (some ⟨pg, 0, none⟩) 1 cp) ∧ w'.cell? ⟨b2, 0, none⟩ = some (.slice (some ⟨pg2, 0, none⟩) 1 cp')) ∧ w'.rangeAt b1 1 (tk 29 2 c) ∧ w'.rangeAt pg 0 (pt q) ∧ w'.rangeAt pg2 0 (pt q') ∧ w'.rangeAt b2 8 (tk (mk m') 0 m') ∧ Below w3.heap.size w3 w')) 16 (by kernel_rfl) (by kernel_rfl) ?_
      simp only [List.take_succ_cons, List.take_zero]
      have hHeld := HS0.out
      refine Pl.take_l (i := 0) (v := ?v1) rfl (by kernel_rfl) (by kernel_rfl) (by kernel_rfl) (fun _ _ _ h => h) rfl ?hy1 hHeld ?rest1
      case hy1 => (intro w hSw; (try dsimp only at hSw); (obtain ⟨⟨_, _⟩, _⟩ := hSw); go_simp <;> (try with_reducible rfl))
      try simp only [Act.put, List.setIfInBounds_toArray, List.set_cons_zero, List.set_cons_succ]
      refine Pl.take_l (i := 1) (v := ?v2) rfl (by kernel_rfl) (by kernel_rfl) (by kernel_rfl) (fun _ _ _ h => h) rfl ?hy2 hHeld ?rest2
      case hy2 => (intro w hSw; (try dsimp only at hSw); (obtain ⟨⟨_, _⟩, _⟩ := hSw); go_simp <;> (try with_reducible rfl))
      try simp only [Act.put, List.setIfInBounds_toArray, List.set_cons_zero, List.set_cons_succ]
      refine Pl.take_l (i := 2) (v := .agg #[.pointer none, .string c, .int .i32 0, .int .u32 0, .int .u16 0, .int .u8 29, .int .u8 2]) rfl (by kernel_rfl) (by kernel_rfl) (by kernel_rfl) (fun _ _ _ h => h) rfl (fun w hSw => ex_load 42 (.tmp 52) rfl b1 1 rfl (tk 29 2 c) dT (hSw.2.1) hT hT2 szTok) hHeld ?_
      try simp only [Act.put, List.setIfInBounds_toArray, List.set_cons_zero, List.set_cons_succ]
      refine Pl.take_l (i := 3) (v := ?v3) rfl (by kernel_rfl) (by kernel_rfl) (by kernel_rfl) (fun _ _ _ h => h) rfl ?hy3 hHeld ?rest3
      case hy3 => (intro w hSw; (try dsimp only at hSw); (obtain ⟨⟨_, _⟩, _⟩ := hSw); go_simp <;> (try with_reducible rfl))
      try simp only [Act.put, List.setIfInBounds_toArray, List.set_cons_zero, List.set_cons_succ]
      refine Pl.take_l (i := 4) (v := ?v4) rfl (by kernel_rfl) (by kernel_rfl) (by kernel_rfl) (fun _ _ _ h => h) rfl ?hy4 hHeld ?rest4
      case hy4 => (intro w hSw; (try dsimp only at hSw); (obtain ⟨⟨_, _⟩, _⟩ := hSw); go_simp <;> (try with_reducible rfl))
      try simp only [Act.put, List.setIfInBounds_toArray, List.set_cons_zero, List.set_cons_succ]
      refine Pl.take_l (i := 5) (v := ?v5) rfl (by kernel_rfl) (by kernel_rfl) (by kernel_rfl) (fun _ _ _ h => h) rfl ?hy5 hHeld ?rest5
      case hy5 => (intro w hSw; (try dsimp only at hSw); (obtain ⟨⟨_, _⟩, _⟩ := hSw); go_simp <;> (try with_reducible rfl))
      try simp only [Act.put, List.setIfInBounds_toArray, List.set_cons_zero, List.set_cons_succ]
      refine Pl.take_l (i := 6) (v := .agg #[.pointer none, .string (ptx q), .int .i32 0, .int .u32 0, .int .u16 0, .int .u8 34, .int .u8 2]) rfl (by kernel_rfl) (by kernel_rfl) (by kernel_rfl) (fun _ _ _ h => h) rfl (fun w hSw => ex_load 42 (.tmp 56) rfl pg 0 rfl (pt q) dT (hSw.2.2.1) hT hT2 szTok) hHeld ?_
      try simp only [Act.put, List.setIfInBounds_toArray, List.set_cons_zero, List.set_cons_succ]
      refine Pl.take_l (i := 7) (v := ?v6) rfl (by kernel_rfl) (by kernel_rfl) (by kernel_rfl) (fun _ _ _ h => h) rfl ?hy6 hHeld ?rest6
      case hy6 => (intro w hSw; (try dsimp only at hSw); (obtain ⟨⟨_, _⟩, _⟩ := hSw); go_simp <;> (try with_reducible rfl))
      try simp only [Act.put, List.setIfInBounds_toArray, List.set_cons_zero, List.set_cons_succ]
      refine Pl.take_l (i := 8) (v := ?v7) rfl (by kernel_rfl) (by kernel_rfl) (by kernel_rfl) (fun _ _ _ h => h) rfl ?hy7 hHeld ?rest7
      case hy7 => (intro w hSw; (try dsimp only at hSw); (obtain ⟨⟨_, _⟩, _⟩ := hSw); go_simp <;> (try with_reducible rfl))
      try simp only [Act.put, List.setIfInBounds_toArray, List.set_cons_zero, List.set_cons_succ]
      refine Pl.take_l (i := 9) (v := ?v8) rfl (by kernel_rfl) (by kernel_rfl) (by kernel_rfl) (fun _ _ _ h => h) rfl ?hy8 hHeld ?rest8
      case hy8 => (intro w hSw; (try dsimp only at hSw); (obtain ⟨⟨_, _⟩, _⟩ := hSw); go_simp <;> (try with_reducible rfl))
      try simp only [Act.put, List.setIfInBounds_toArray, List.set_cons_zero, List.set_cons_succ]
      refine Pl.take_l (i := 10) (v := .agg #[.pointer none, .string (ptx q'), .int .i32 0, .int .u32 0, .int .u16 0, .int .u8 34, .int .u8 2]) rfl (by kernel_rfl) (by kernel_rfl) (by kernel_rfl) (fun _ _ _ h => h) rfl (fun w hSw => ex_load 42 (.tmp 60) rfl pg2 0 rfl (pt q') dT (hSw.2.2.2.1) hT hT2 szTok) hHeld ?_
      try simp only [Act.put, List.setIfInBounds_toArray, List.set_cons_zero, List.set_cons_succ]
      refine Pl.take_l (i := 12) (v := ?v9) rfl (by kernel_rfl) (by kernel_rfl) (by kernel_rfl) (fun _ _ _ h => h) rfl ?hy9 hHeld ?rest9
      case hy9 => (intro w hSw; (try dsimp only at hSw); (obtain ⟨⟨_, _⟩, _⟩ := hSw); go_simp <;> (try with_reducible rfl))
      try simp only [Act.put, List.setIfInBounds_toArray, List.set_cons_zero, List.set_cons_succ]
      refine Pl.take_l (i := 13) (v := .agg #[.pointer none, .string m', .int .i32 0, .int .u32 0, .int .u16 0, .int .u8 (mk m'), .int .u8 0]) rfl (by kernel_rfl) (by kernel_rfl) (by kernel_rfl) (fun _ _ _ h => h) rfl (fun w hSw => ex_load 42 (.tmp 63) rfl b2 8 rfl (tk (mk m') 0 m') dT (hSw.2.2.2.2.1) hT hT2 szTok) hHeld ?_
      try simp only [Act.put, List.setIfInBounds_toArray, List.set_cons_zero, List.set_cons_succ]
      generalize World.drew w3 = w4 at *
      have HW4 := Lib.hid hHeld.2.2.2.2.2
      have hbs2 := bs_tk2 34 2 34 2 (ptx q) (ptx q') w4
      have hS5 : (((w4.alloc (.cells #[.pointer none, .string (ptx q), .int .i32 0, .int .u32 0, .int .u16 0, .int .u8 34, .int .u8 2, .pointer none, .string (ptx q'), .int .i32 0, .int .u32 0, .int .u16 0, .int .u8 34, .int .u8 2] 42)).cell? ⟨b1, 0, none⟩ = some (.slice (some ⟨pg, 0, none⟩) 1 cp) ∧ (w4.alloc (.cells #[.pointer none, .string (ptx q), .int .i32 0, .int .u32 0, .int .u16 0, .int .u8 34, .int .u8 2, .pointer none, .string (ptx q'), .int .i32 0, .int .u32 0, .int .u16 0, .int .u8 34, .int .u8 2] 42)).cell? ⟨b2, 0, none⟩ = some (.slice (some ⟨pg2, 0, none⟩) 1 cp')) ∧ (w4.alloc (.cells #[.pointer none, .string (ptx q), .int .i32 0, .int .u32 0, .int .u16 0, .int .u8 34, .int .u8 2, .pointer none, .string (ptx q'), .int .i32 0, .int .u32 0, .int .u16 0, .int .u8 34, .int .u8 2] 42)).rangeAt b1 1 (tk 29 2 c) ∧ (w4.alloc (.cells #[.pointer none, .string (ptx q), .int .i32 0, .int .u32 0, .int .u16 0, .int .u8 34, .int .u8 2, .pointer none, .string (ptx q'), .int .i32 0, .int .u32 0, .int .u16 0, .int .u8 34, .int .u8 2] 42)).rangeAt pg 0 (pt q) ∧ (w4.alloc (.cells #[.pointer none, .string (ptx q), .int .i32 0, .int .u32 0, .int .u16 0, .int .u8 34, .int .u8 2, .pointer none, .string (ptx q'), .int .i32 0, .int .u32 0, .int .u16 0, .int .u8 34, .int .u8 2] 42)).rangeAt pg2 0 (pt q') ∧ (w4.alloc (.cells #[.pointer none, .string (ptx q), .int .i32 0, .int .u32 0, .int .u16 0, .int .u8 34, .int .u8 2, .pointer none, .string (ptx q'), .int .i32 0, .int .u32 0, .int .u16 0, .int .u8 34, .int .u8 2] 42)).rangeAt b2 8 (tk (mk m') 0 m') ∧ Below w3.heap.size w3 (w4.alloc (.cells #[.pointer none, .string (ptx q), .int .i32 0, .int .u32 0, .int .u16 0, .int .u8 34, .int .u8 2, .pointer none, .string (ptx q'), .int .i32 0, .int .u32 0, .int .u16 0, .int .u8 34, .int .u8 2] 42))) := ⟨⟨later ((Below.refl _ _).alloc (Nat.le_refl _) _) hHeld.1.1, later ((Below.refl _ _).alloc (Nat.le_refl _) _) hHeld.1.2⟩, rg_keep ((Below.refl _ _).alloc (Nat.le_refl _) _) hHeld.2.1, rg_keep ((Below.refl _ _).alloc (Nat.le_refl _) _) hHeld.2.2.1, rg_keep ((Below.refl _ _).alloc (Nat.le_refl _) _) hHeld.2.2.2.1, rg_keep ((Below.refl _ _).alloc (Nat.le_refl _) _) hHeld.2.2.2.2.1, hHeld.2.2.2.2.2.alloc hHeld.2.2.2.2.2.size _⟩
      refine Pl.alone_l (i := 11) (by kernel_rfl) rfl (fun K hK => ?_)
      refine step_bs2 rfl 34 (.tmp 57) (.tmp 61) rfl _ _ _ _ (by rfl) (by rfl) hbs2 ?_; dsimp only
      refine hK.out _ _ hS5 (fun hHeld2 => ?_)
      clear hK K hHeld
      have hHeld := hHeld2
      clear hHeld2
      try simp only [Act.put, List.setIfInBounds_toArray, List.set_cons_zero, List.set_cons_succ]
      clear hbs2 hS5
      refine Pl.take_l (i := 14) (v := ?v10) rfl (by kernel_rfl) (by kernel_rfl) (by kernel_rfl) (fun _ _ _ h => h) rfl ?hy10 hHeld ?rest10
      case hy10 => (intro w hSw; (try dsimp only at hSw); (obtain ⟨⟨_, _⟩, _⟩ := hSw); go_simp <;> (try with_reducible rfl))
      try simp only [Act.put, List.setIfInBounds_toArray, List.set_cons_zero, List.set_cons_succ]
      have hbs := bs_st (some ⟨w4.heap.size, 0, none⟩) 2 2 c m' (mk m') (w4.alloc (.cells #[.pointer none, .string (ptx q), .int .i32 0, .int .u32 0, .int .u16 0, .int .u8 34, .int .u8 2, .pointer none, .string (ptx q'), .int .i32 0, .int .u32 0, .int .u16 0, .int .u8 34, .int .u8 2] 42))
      have hS6 : ((((w4.alloc (.cells #[.pointer none, .string (ptx q), .int .i32 0, .int .u32 0, .int .u16 0, .int .u8 34, .int .u8 2, .pointer none, .string (ptx q'), .int .i32 0, .int .u32 0, .int .u16 0, .int .u8 34, .int .u8 2] 42)).alloc (.cells #[.slice (some ⟨w4.heap.size, 0, none⟩) 2 2, .pointer none, .string c, .int .i32 0, .int .u32 0, .int .u16 0, .int .u8 29, .int .u8 2, .pointer none, .string m', .int .i32 0, .int .u32 0, .int .u16 0, .int .u8 (mk m'), .int .u8 0] 44)).cell? ⟨b1, 0, none⟩ = some (.slice (some ⟨pg, 0, none⟩) 1 cp) ∧ ((w4.alloc (.cells #[.pointer none, .string (ptx q), .int .i32 0, .int .u32 0, .int .u16 0, .int .u8 34, .int .u8 2, .pointer none, .string (ptx q'), .int .i32 0, .int .u32 0, .int .u16 0, .int .u8 34, .int .u8 2] 42)).alloc (.cells #[.slice (some ⟨w4.heap.size, 0, none⟩) 2 2, .pointer none, .string c, .int .i32 0, .int .u32 0, .int .u16 0, .int .u8 29, .int .u8 2, .pointer none, .string m', .int .i32 0, .int .u32 0, .int .u16 0, .int .u8 (mk m'), .int .u8 0] 44)).cell? ⟨b2, 0, none⟩ = some (.slice (some ⟨pg2, 0, none⟩) 1 cp')) ∧ ((w4.alloc (.cells #[.pointer none, .string (ptx q), .int .i32 0, .int .u32 0, .int .u16 0, .int .u8 34, .int .u8 2, .pointer none, .string (ptx q'), .int .i32 0, .int .u32 0, .int .u16 0, .int .u8 34, .int .u8 2] 42)).alloc (.cells #[.slice (some ⟨w4.heap.size, 0, none⟩) 2 2, .pointer none, .string c, .int .i32 0, .int .u32 0, .int .u16 0, .int .u8 29, .int .u8 2, .pointer none, .string m', .int .i32 0, .int .u32 0, .int .u16 0, .int .u8 (mk m'), .int .u8 0] 44)).rangeAt b1 1 (tk 29 2 c) ∧ ((w4.alloc (.cells #[.pointer none, .string (ptx q), .int .i32 0, .int .u32 0, .int .u16 0, .int .u8 34, .int .u8 2, .pointer none, .string (ptx q'), .int .i32 0, .int .u32 0, .int .u16 0, .int .u8 34, .int .u8 2] 42)).alloc (.cells #[.slice (some ⟨w4.heap.size, 0, none⟩) 2 2, .pointer none, .string c, .int .i32 0, .int .u32 0, .int .u16 0, .int .u8 29, .int .u8 2, .pointer none, .string m', .int .i32 0, .int .u32 0, .int .u16 0, .int .u8 (mk m'), .int .u8 0] 44)).rangeAt pg 0 (pt q) ∧ ((w4.alloc (.cells #[.pointer none, .string (ptx q), .int .i32 0, .int .u32 0, .int .u16 0, .int .u8 34, .int .u8 2, .pointer none, .string (ptx q'), .int .i32 0, .int .u32 0, .int .u16 0, .int .u8 34, .int .u8 2] 42)).alloc (.cells #[.slice (some ⟨w4.heap.size, 0, none⟩) 2 2, .pointer none, .string c, .int .i32 0, .int .u32 0, .int .u16 0, .int .u8 29, .int .u8 2, .pointer none, .string m', .int .i32 0, .int .u32 0, .int .u16 0, .int .u8 (mk m'), .int .u8 0] 44)).rangeAt pg2 0 (pt q') ∧ ((w4.alloc (.cells #[.pointer none, .string (ptx q), .int .i32 0, .int .u32 0, .int .u16 0, .int .u8 34, .int .u8 2, .pointer none, .string (ptx q'), .int .i32 0, .int .u32 0, .int .u16 0, .int .u8 34, .int .u8 2] 42)).alloc (.cells #[.slice (some ⟨w4.heap.size, 0, none⟩) 2 2, .pointer none, .string c, .int .i32 0, .int .u32 0, .int .u16 0, .int .u8 29, .int .u8 2, .pointer none, .string m', .int .i32 0, .int .u32 0, .int .u16 0, .int .u8 (mk m'), .int .u8 0] 44)).rangeAt b2 8 (tk (mk m') 0 m') ∧ Below w3.heap.size w3 ((w4.alloc (.cells #[.pointer none, .string (ptx q), .int .i32 0, .int .u32 0, .int .u16 0, .int .u8 34, .int .u8 2, .pointer none, .string (ptx q'), .int .i32 0, .int .u32 0, .int .u16 0, .int .u8 34, .int .u8 2] 42)).alloc (.cells #[.slice (some ⟨w4.heap.size, 0, none⟩) 2 2, .pointer none, .string c, .int .i32 0, .int .u32 0, .int .u16 0, .int .u8 29, .int .u8 2, .pointer none, .string m', .int .i32 0, .int .u32 0, .int .u16 0, .int .u8 (mk m'), .int .u8 0] 44))) := ⟨⟨later ((Below.refl _ _).alloc (Nat.le_refl _) _) hHeld.1.1, later ((Below.refl _ _).alloc (Nat.le_refl _) _) hHeld.1.2⟩, rg_keep ((Below.refl _ _).alloc (Nat.le_refl _) _) hHeld.2.1, rg_keep ((Below.refl _ _).alloc (Nat.le_refl _) _) hHeld.2.2.1, rg_keep ((Below.refl _ _).alloc (Nat.le_refl _) _) hHeld.2.2.2.1, rg_keep ((Below.refl _ _).alloc (Nat.le_refl _) _) hHeld.2.2.2.2.1, hHeld.2.2.2.2.2.alloc hHeld.2.2.2.2.2.size _⟩
      have HK7 := Lib.hid hS6.2.2.2.2.2
      refine Pl.alone_l (i := 15) (by kernel_rfl) rfl (fun K hK => ?_)
      refine step_bs1 rfl 29 (.tmp 65) rfl _ _ _ (by rfl) hbs ?_; dsimp only
      refine hK.out _ _ hS6 (fun hHeld2 => ?_)
      clear hK K hHeld
      have hHeld := hHeld2
      clear hHeld2
      try simp only [Act.put, List.setIfInBounds_toArray, List.set_cons_zero, List.set_cons_succ]
      clear hbs hS6
      refine wpAnyH_done (by kernel_rfl) ?_ _
      refine Pl.behind_normal (by decide) ?_
      simp only [List.drop_succ_cons, List.drop_zero]
      clear hHeld
      have HO := Lib.hid (own_keep HX.out.1.1.1 HK7.out)
      have HSZ := Lib.hid (Nat.le_trans HX.out.1.2.2.2.2.2.size HW4.out.size)
      have HL2 := Lib.hid HX.out.1.2.2.2.1
      have hl2 : L2.length ≤ 65536 := by have := HL2.out; omega
      go_wp2_with (first
        | (at_builtin
           refine wpList_append_lies _ rfl (.tmp 51) (.tmp 66) _ rfl w.heap.size 44 i0 _ 15 104 Tryd.underlying29 HI.out.1 HI.out.2.1 HI.out.2.2.1 HI.out.2.2.2 rfl (by omega) u2 L2.length (L2.flatMap Sp.cells) (by rfl) HO.out ⟨(w4.alloc (.cells #[.pointer none, .string (ptx q), .int .i32 0, .int .u32 0, .int .u16 0, .int .u8 34, .int .u8 2, .pointer none, .string (ptx q'), .int .i32 0, .int .u32 0, .int .u16 0, .int .u8 34, .int .u8 2] 42)).heap.size, 0, none⟩ 1 1 (st (.slice (some ⟨w4.heap.size, 0, none⟩) 2 2) c m') (by rfl) (by rfl) (World.news_of_block (heap_alloc_new (w4.alloc (.cells #[.pointer none, .string (ptx q), .int .i32 0, .int .u32 0, .int .u16 0, .int .u8 34, .int .u8 2, .pointer none, .string (ptx q'), .int .i32 0, .int .u32 0, .int .u16 0, .int .u8 34, .int .u8 2] 42)) _)) (st_one _ _ _ _ _) (by omega) (by unfold maxLen; omega) (by omega) (by have := HSZ.out; simp; omega) (w4.heap.size + 2) (by simp) ?_
           intro g2 cap w6 hown hgrow hat hlt4))
      have hpn : PR ((w4.alloc (.cells #[.pointer none, .string (ptx q), .int .i32 0, .int .u32 0, .int .u16 0, .int .u8 34, .int .u8 2, .pointer none, .string (ptx q'), .int .i32 0, .int .u32 0, .int .u16 0, .int .u8 34, .int .u8 2] 42)).alloc (.cells #[.slice (some ⟨w4.heap.size, 0, none⟩) 2 2, .pointer none, .string c, .int .i32 0, .int .u32 0, .int .u16 0, .int .u8 29, .int .u8 2, .pointer none, .string m', .int .i32 0, .int .u32 0, .int .u16 0, .int .u8 (mk m'), .int .u8 0] 44)) 0 (.slice (some ⟨w4.heap.size, 0, none⟩) 2 2) [q, q'] := (World.ownsRow_lit w4 #[.pointer none, .string (ptx q), .int .i32 0, .int .u32 0, .int .u16 0, .int .u8 34, .int .u8 2, .pointer none, .string (ptx q'), .int .i32 0, .int .u32 0, .int .u16 0, .int .u8 34, .int .u8 2] 2 (Nat.zero_le _) (by decide) rfl).alloc _
      have HF := Lib.hid (DS.put (k' := k + 1 + 1) (s := ⟨.slice (some ⟨w4.heap.size, 0, none⟩) 2 2, [q, q'], c, m'⟩) HX.out.1 HK7.out hpn hown hgrow (by omega) (step_yes L hlt3 HE.out HE2.out (can_ok rfl HKM.out.symm rfl HSV.out.symm)))
      exact ⟨⟨k + 1 + 1, L2 ++ [⟨.slice (some ⟨w4.heap.size, 0, none⟩) 2 2, [q, q'], c, m'⟩], by omega, by go_num, HF⟩, by simp [intOf]; omega⟩
      -- part>
    · obtain rfl : k = N := by omega
      go_wp2_with fail
      go_ret
      obtain ⟨h1, h2, h3, h4, h6, h5⟩ := HD.out
      rw [List.drop_eq_nil_of_le (by have := HN.out.1; simp; omega)] at h3
      exact ⟨_, L2, rfl, h1, by simpa [dbl] using h3, by have := HN.out.1; omega, h5⟩
end Go.Proofs.YtfhfeimlikpbpaaDoor.Cs
