/-
  The model's clone, its group's end, its component; the tokens it builds; the parser made over them.
-/
import Derived.Test.YtelpdhhcpdagbaaFmtCb
import Derived.Laws.IdiomStrings
namespace Go.Proofs.YtelpdhhcpdagbaaFmt.Av
open Go.ChangeShapes Go.WideShapes Go.ChangeAt Go.RowKit Rg
set_option linter.unusedVariables false
theorem clone8_info : (Tryf.prog.info? 5).map (fun i => (i.zero, i.size, i.bytes)) = some (some (.int .u8 0), 1, 1) := by kernel_rfl
set_option maxRecDepth 100000 in
set_option maxHeartbeats 1000000 in
theorem clone8 (a : Option Addr) (n c : Nat) (Z : Nat → Int) (w : World) (h : Sl w a n (fun i => .int .u8 (Z i))) (h0 : a = none → n = 0) (hn : (n : Int) ≤ 1048576) :
    Calls Tryf.prog 5 #[.slice a n c] w (Clon a n (fun i => .int .u8 (Z i)) w) := by
  have hq : ∀ W n' c', (binOp .eql 22 (.slice a n c) (.slice none n' c')).run Tryf.prog W = .ok (.bool a.isNone) W := fun W n' c' => Lib.run_eql_slice_nil W 22 5 a n c n' c' (by kernel_rfl)
  obtain ⟨i0, hi, hz0, hz1, hz2⟩ := info_parts clone8_info
  have hmk := fun W => run_make_rowN (P := Tryf.prog) 22 5 i0 _ (by kernel_rfl) hi hz0 .i64 .i64 n n (Nat.le_refl _) (by rw [hz2]; omega) (by omega) W
  rw [hz1] at hmk
  have H := Lib.hid h
  clear h
  cases a with
  | none =>
    obtain rfl := h0 rfl
    clear hmk hi hz0 hz1 hz2
    go_enter Tryf.func5, Tryf.ntmps5
    go_wp2
    go_ret
    exact ⟨none, 0, rfl, Sl.none_ _ _ _, fun x hx => by simp at hx, Iff.rfl, Below.refl _ _⟩
  | some x =>
    have hT0 : CR w.heap.size w.heap.size n 0 (fun i => .int .u8 (Z i)) w (w.alloc (.cells (madeCells #[.int .u8 0] n) 5)) := CR.made w n _ _ _ (by simp [madeCells])
    clear h0
    go_enter Tryf.func5, Tryf.ntmps5
    go_wp2
    generalize World.alloc w _ = w1 at hT0 ⊢
    have HT0 := Lib.hid hT0
    clear hT0 hmk hi hz0 hz1 hz2 hq
    go_loopw [4] (fun i wr => ∃ k : Nat, k ≤ n ∧ i = .int .i64 k ∧ Hid (CR w.heap.size w.heap.size n k (fun i => .int .u8 (Z i)) w wr)) (fun i _ => n - (intOf i).toNat)
    case atStart => exact ⟨0, Nat.zero_le _, rfl, HT0⟩
    case round =>
      clear HT0
      obtain ⟨k, hk, rfl, HT⟩ := hrel
      by_cases hlt : k < n
      · obtain ⟨ab, ao, hx, r0⟩ := H.out k hlt
        simp only [Option.some.injEq] at hx
        subst hx
        have bel := HT.out.2.2.2.2.2
        have t0 : wr.cell? ⟨ab, ao + k, none⟩ = some (.int .u8 (Z k)) := (bel.cell (p := ⟨ab, ao + k, none⟩) (World.block_lt_of_cell? w _ r0)).trans r0
        have hne : ab ≠ w.heap.size := by have := World.block_lt_of_cell? w _ r0; simp at this; omega
        have q0 : (0 : Int) ≤ k := by omega
        have q1 : (k : Int) < n := by omega
        obtain ⟨v0, e0⟩ := Option.isSome_iff_exists.1 (HT.out.2.1 k (by omega))
        have hf := HT.out.2.2.1
        have HP := Lib.hid (HT.out.put hlt)
        clear r0 bel
        go_wp2
        exact ⟨⟨k + 1, by omega, by go_num, HP⟩, by simp [intOf]; omega⟩
      · obtain rfl : k = n := by omega
        go_wp2
        go_ret
        exact ⟨some ⟨w.heap.size, 0, none⟩, k, rfl, HT.out.done, fun y hy => by injection hy with hy; subst hy; exact Nat.le_refl _, by simp, HT.out.2.2.2.2.2⟩
theorem int_info : (Tryf.prog.info? 3).map (fun i => (i.zero, i.size, i.bytes)) = some (some (.int .i64 0), 1, 8) := by kernel_rfl
theorem u8_info : (Tryf.prog.info? 5).map (fun i => (i.zero, i.size, i.bytes)) = some (some (.int .u8 0), 1, 1) := by kernel_rfl
def ints (l : List Int) : List Value := l.map (fun k => .int .i64 k)
/-- the model's stack -/
def GS (B : Nat) (st : List Int) (v : Value) (w0 w : World) : Prop := w.ownsRow B 3 1 v st.length (ints st.reverse) ∧ Below B w0 w ∧ B ≤ w.heap.size
section
variable {B : Nat} {st : List Int} {v : Value} {w0 w w' : World}
theorem GS.push (h : GS B st v w0 w) (c : Int) {g cap : Nat} (ho : w'.ownsRow B 3 1 (.slice (some ⟨g, 0, none⟩) (st.length + 1) cap) (st.length + 1) (ints st.reverse ++ [.int .i64 c])) (o : Obj) (hg : (w.alloc o).grownBy w' v.ownBlock) :
    GS B (c :: st) (.slice (some ⟨g, 0, none⟩) (st.length + 1) cap) w0 w' := by
  obtain ⟨h1, h2, h3⟩ := h
  have hs : (w.alloc o).heap.size = w.heap.size + 1 := by simp
  refine ⟨by simpa [ints] using ho, (h2.alloc h3 o).grown hg (by omega) (fun k hk => (h1.lt k hk).1), ?_⟩
  have := hg.size
  omega
theorem GS.top {c : Int} (h : GS B (c :: st) v w0 w) : ∃ gs cap, v = .slice (some ⟨gs, 0, none⟩) (st.length + 1) cap ∧ w.cell? ⟨gs, st.length, none⟩ = some (.int .i64 c) ∧ st.length + 1 ≤ cap ∧ cap ≤ maxLen ∧
    GS B st (.slice (some ⟨gs, 0, none⟩) st.length cap) w0 w := by
  obtain ⟨h2, h3, h4⟩ := h
  rcases h2.2 with ⟨_, h0⟩ | ⟨gs, cap, cur, rfl, hB, hh, hn, hm, hs, ht⟩
  · simp at h0
  · refine ⟨gs, cap, by simp, ?_, by simpa using hn, hm, ?_, h3, h4⟩
    · rw [h2.cellAt st.length (by simp)]
      simp [ints]
    · refine ⟨by simp [ints], .inr ⟨gs, cap, cur, rfl, hB, hh, by simp at hn; omega, hm, hs, ?_⟩⟩
      have := congrArg (List.take st.length) ht
      rw [List.take_take] at this
      simp only [List.length_cons, Nat.mul_one] at this ⊢
      rw [show min st.length (st.length + 1) = st.length by omega] at this
      rw [this]
      simp [ints]
end
def GeP (n : Nat) (m : Option Nat) (w : World) (e : Ending) (w' : World) : Prop := ∃ (r : Nat) (ok : Bool), e = .returned (.tuple #[.int .i64 r, .bool ok]) ∧ ((ok = true ∧ m = some r ∧ r ≤ n) ∨ (ok = false ∧ m = none)) ∧ Below w.heap.size w w'
set_option maxRecDepth 100000 in
set_option maxHeartbeats 4000000 in
theorem ge_any (a : Option Addr) (n cc : Nat) (Z : Nat → Int) (hZ : ∀ j, j < n → 0 ≤ Z j ∧ Z j ≤ 255) (hn : (n : Int) ≤ 65536) (i : Nat) (hi : i ≤ n) (c : Int) (hc : c = 7 ∨ c = 9 ∨ c = 11) (w : World) (h : Sl w a n (fun j => .int .u8 (Z j))) :
    Calls Tryf.prog 11 #[.slice a n cc, .int .i64 i, .int .i64 c] w (GeP n (M n (fun j => Z j % 15) [c] i) w) := by
  obtain ⟨i0, ji, jz, js, jb⟩ := info_parts int_info
  have HI := Lib.hid (And.intro ji (And.intro jz (And.intro js jb)))
  obtain ⟨w7, hmk, hown7, hgr7⟩ := run_make_own (P := Tryf.prog) w w.heap.size 88 3 i0 _ 1 Tryf.underlying88 ji jz js .i64 .i64 8 (by rw [jb]; omega) (by decide) (Nat.le_refl _)
  have HK7 := Lib.hid (show GS w.heap.size [] (.slice (some ⟨w.heap.size, 0, none⟩) 0 8) w w7 from ⟨hown7, (Below.refl _ _).grown hgr7 (Nat.le_refl _) (fun k hk => by cases hk), hgr7.size⟩)
  have HS := Lib.hid h
  have HZ := Lib.hid hZ
  have hck : kid c = c := by rcases hc with rfl | rfl | rfl <;> decide
  have hcr : 0 ≤ c ∧ c ≤ 14 := by omega
  have hmk : (Instr.makeSlice 88 (.int .i64 0) (.int .i64 8)).run Tryf.prog w = .ok (.slice (some ⟨w.heap.size, 0, none⟩) 0 8) w7 := hmk
  clear h hZ hown7 hgr7 ji jz js jb hc
  go_enter Tryf.func11, Tryf.ntmps11
  go_wp2_with fail
  refine (kid_any c hcr w7).mono ?_
  rintro e w1 ⟨rfl, rfl⟩
  rw [hck]
  clear hmk hck hcr
  go_wp2_with (first | (at_builtin; refine wpList_append_lies _ rfl (.tmp 13) (.tmp 16) 88 rfl w.heap.size 3 i0 _ 1 8 Tryf.underlying88 HI.out.1 HI.out.2.1 HI.out.2.2.1 HI.out.2.2.2 rfl (by omega) _ _ _ rfl (HK7.out.1.alloc (.cells #[.int .i64 c] 3)) ⟨w7.heap.size, 0, none⟩ 1 1 [.int .i64 c] rfl rfl (World.news_of_block (cs := #[.int .i64 c]) (heap_alloc_new w7 _)) (by simp [Value.oneCell']) (by omega) (by decide) (by decide) (by have := HK7.out.2.2; simp; omega) _ rfl ?_; intro g9 cap9 w9 ho9 hg9 hat9 hlt9))
  have HK := Lib.hid (HK7.out.push c ho9 _ hg9)
  clear ho9 hg9 hat9 hlt9 HK7
  go_wp2_with fail
  go_loopw [8, 9] (fun v jv wr => ∃ (t : Nat) (d : Int) (st : List Int), i ≤ t ∧ t ≤ n ∧ st.length ≤ t ∧ jv = .int .i64 t ∧ Hid (GS w.heap.size (d :: st) v w wr) ∧ Hid (M n (fun j => Z j % 15) [c] i = M n (fun j => Z j % 15) (d :: st) t)) (fun _ jv _ => n - (intOf jv).toNat)
  case atStart => exact ⟨i, c, [], Nat.le_refl _, hi, Nat.zero_le _, rfl, HK, Lib.hid rfl⟩
  case round =>
    clear HK
    obtain ⟨t, d, st, hit, htn, hst, rfl, HK, HM⟩ := hrel
    have HST := Lib.hid hst
    obtain ⟨gs, cap, rfl, ctop, hcap, hcm, hpop⟩ := HK.out.top
    have HPOP := Lib.hid hpop
    clear hpop hst
    obtain ⟨m, hm⟩ : ∃ m, m = st.length := ⟨_, rfl⟩
    rw [← hm] at ctop hcap HPOP ⊢
    have HML := Lib.hid hm
    have m0 : (0 : Int) ≤ m := by omega
    have m1 : (m : Int) < m + 1 := by omega
    have m2 : (m : Int) ≤ cap := by omega
    have m3 : (m : Int) ≤ 9223372036854775806 := by unfold maxLen at hcm; omega
    clear hm
    by_cases hlt : t < n
    · obtain ⟨ab, ao, hx, cx⟩ := HS.out t hlt
      have cx := (HK.out.2.1.cell (p := ⟨ab, ao + t, none⟩) (World.block_lt_of_cell? w _ cx)).trans cx
      subst hx
      have p0 : (0 : Int) ≤ t := by omega
      have p1 : (t : Int) < n := by omega
      have hz := HZ.out t hlt
      have hq : 0 ≤ Z t % 15 ∧ Z t % 15 ≤ 14 := by omega
      have HQ := Lib.hid hq
      go_wp2_with fail
      refine (cls_any (Z t) hz wr).mono ?_
      rintro e w1 ⟨rfl, rfl⟩
      clear hz cx
      go_wp2_with fail
      refine (kid_any (Z t % 15) hq wr).mono ?_
      rintro e w1 ⟨rfl, rfl⟩
      obtain ⟨k, hk⟩ : ∃ k, k = kid (Z t % 15) := ⟨_, rfl⟩
      rw [← hk]
      have HKD := Lib.hid hk.symm
      have hkr : 0 ≤ k ∧ k ≤ 14 := by rw [hk]; exact kid_range hq
      clear hk hq
      by_cases hkd : k = d
      · as_aux_lemma =>
        have HN := Lib.hid (show M n (fun j => Z j % 15) [c] i = M n (fun j => Z j % 15) st (t + 1) by rw [HM.out]; exact M_pop hlt (by rw [HKD.out, hkd]))
        subst hkd
        clear hkr HM
        rcases st with _ | ⟨d2, r⟩
        · obtain rfl : m = 0 := HML.out
          go_wp2_with fail
          go_ret2
          exact ⟨t + 1, true, rfl, .inl ⟨rfl, by rw [HN.out]; exact M_nil, by omega⟩, HK.out.2.1⟩
        · have m4 : ((m : Int) == 0) = false := by have := HML.out; simp at this ⊢; omega
          go_wp2_with fail
          have HK2 := HPOP
          have hml := HML.out
          clear HPOP HML m0 m1 m2 m3 m4 hcap hcm ctop
          subst hml
          go_roundw
          case rel => exact ⟨t + 1, d2, r, by omega, by omega, by have := HST.out; simp at this; omega, by go_num, HK2, HN⟩
          case measure => simp [intOf]; omega
      · have hkf : (k == d) = false := by simp; omega
        go_wp2_with fail
        refine (closer_any k hkr wr).mono ?_
        rintro e w1 ⟨rfl, rfl⟩
        by_cases h0 : 0 ≤ cl k
        · as_aux_lemma =>
          have HN := Lib.hid (show M n (fun j => Z j % 15) [c] i = M n (fun j => Z j % 15) (cl k :: d :: st) (t + 1) by rw [HM.out]; have := M_open (n := n) (Q := fun j => Z j % 15) (S := st) (w := d) hlt (by rw [HKD.out]; exact hkd) (by rw [HKD.out]; exact h0); rw [HKD.out] at this; exact this)
          have HKm : Hid (GS w.heap.size (d :: st) (.slice (some ⟨gs, 0, none⟩) (m + 1) cap) w wr) := by rw [HML.out]; exact HK
          clear HM hkr
          go_wp2_with (first | (at_builtin; refine wpList_append_lies _ rfl (.tmp 53) (.tmp 55) 88 rfl w.heap.size 3 i0 _ 1 8 Tryf.underlying88 HI.out.1 HI.out.2.1 HI.out.2.2.1 HI.out.2.2.2 rfl (by omega) (.slice (some ⟨gs, 0, none⟩) (m + 1) cap) (d :: st).length (ints (d :: st).reverse) rfl (HKm.out.1.alloc (.cells #[.int .i64 (cl k)] 3)) ⟨wr.heap.size, 0, none⟩ 1 1 [.int .i64 (cl k)] rfl rfl (World.news_of_block (cs := #[.int .i64 (cl k)]) (heap_alloc_new wr _)) (by simp [Value.oneCell']) (by omega) (by have := HST.out; unfold maxLen; simp; omega) (by have := HST.out; simp; omega) (by have := HKm.out.2.2; simp; omega) _ rfl ?_; intro g9 cap9 w9 ho9 hg9 hat9 hlt9))
          have HK2 := Lib.hid (HKm.out.push (cl k) ho9 _ hg9)
          clear ho9 hg9 hat9 hlt9 HKm HK HPOP ctop hcap hcm m0 m1 m2 m3
          go_wp2_with fail
          go_roundw
          case rel => exact ⟨t + 1, cl k, d :: st, by omega, by omega, by have := HST.out; simp; omega, by go_num, HK2, HN⟩
          case measure => simp [intOf]; omega
        · as_aux_lemma =>
          have HN := Lib.hid (show M n (fun j => Z j % 15) [c] i = M n (fun j => Z j % 15) (d :: st) (t + 1) by rw [HM.out]; exact M_other hlt (by rw [HKD.out]; exact hkd) (by rw [HKD.out]; exact h0))
          have HKm : Hid (GS w.heap.size (d :: st) (.slice (some ⟨gs, 0, none⟩) (m + 1) cap) w wr) := by rw [HML.out]; exact HK
          clear HM hkr HK
          go_wp2_with fail
          go_roundw
          case rel => exact ⟨t + 1, d, st, by omega, by omega, by have := HST.out; omega, by go_num, HKm, HN⟩
          case measure => simp [intOf]; omega
    · as_aux_lemma =>
      obtain rfl : t = n := by omega
      have HN := Lib.hid (show M t (fun j => Z j % 15) [c] i = none by rw [HM.out]; exact M_end (Nat.le_refl _))
      clear ctop hlt HPOP
      go_wp2_with fail
      go_ret2
      exact ⟨t, false, rfl, .inr ⟨rfl, HN.out⟩, HK.out.2.1⟩
end Go.Proofs.YtelpdhhcpdagbaaFmt.Av
