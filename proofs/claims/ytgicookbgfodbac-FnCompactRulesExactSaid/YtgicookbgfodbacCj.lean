/-
  zzLayRules: n declarations and n rules.
-/
import Derived.Test.YtgicookbgfodbacCi
import Derived.Deep.RegionWith
namespace Go.Proofs.Ytgicookbgfodbac.Co
open Go.ChangeShapes Go.WideShapes Go.ChangeAt Go.RowKit Rg Quad
set_option linter.unusedVariables false
set_option linter.unusedSimpArgs false
theorem th_set {w : World} {b o n : Nat} {p : Addr} {x : Value} (h : w.there b o n) : (w.setCell p x).there b o n := fun j hj =>
  ⟨set_some (h j hj).1, by simp only [World.frozen?_setCell]; exact (h j hj).2⟩
theorem rg_far {w : World} {b o : Nat} {cs : List Value} {p : Addr} {x : Value} (h : w.rangeAt b o cs) (hne : ∀ j, j < cs.length → p ≠ ⟨b, o + j, none⟩) : (w.setCell p x).rangeAt b o cs := fun j v hv => by
  have hj : j < cs.length := (List.getElem?_eq_some_iff.1 hv).1
  rw [World.cell?_setCell_other _ _ _ _ (fun e => hne j hj e)]
  exact h j v hv
theorem rg_other {w : World} {b o : Nat} {cs : List Value} {p : Addr} {x : Value} (h : w.rangeAt b o cs) (hne : p.block ≠ b) : (w.setCell p x).rangeAt b o cs := rg_far h fun j _ e => hne (by rw [e])
theorem cell_other {w : World} {p q : Addr} {v x : Value} (h : w.cell? q = some v) (hne : p.block ≠ q.block) : (w.setCell p x).cell? q = some v := by
  rw [World.cell?_setCell_other]
  · exact h
  · intro e; exact hne (by rw [e])
def upD (D : Nat → Nat) (k d j : Nat) : Nat := if j = k then d else D j
def LI (B gd gr n k : Nat) (D : Nat → Nat) (lc : Nat → Int) (w0 w : World) : Prop :=
  (∀ j, j < k → w.cell? ⟨gd, j, none⟩ = some (.pointer (some ⟨D j, 0, none⟩))) ∧ RR w gr k (fun j => (some (D j), lc j)) ∧ (∀ j, j < k → (∃ cs, Bk w (D j) 68 cs) ∧ gd ≠ D j ∧ gr ≠ D j) ∧ w.there gd 0 n ∧ w.there gr 0 (n * 2) ∧ gd ≠ gr ∧ B ≤ gd ∧ B ≤ gr ∧ gd < w.heap.size ∧ gr < w.heap.size ∧ Below B w0 w
section
variable {B gd gr n k : Nat} {D : Nat → Nat} {lc : Nat → Int} {w0 w w' : World}
theorem LI.keep (h : LI B gd gr n k D lc w0 w) (hb : Below w.heap.size w w') : LI B gd gr n k D lc w0 w' := by
  obtain ⟨h1, h2, h3, h4, h5, h6, h7, h8, h9, h10, h11⟩ := h
  exact ⟨fun j hj => later hb (h1 j hj), h2.keep hb, fun j hj => by obtain ⟨⟨cs, hc⟩, ha, hc2⟩ := h3 j hj; exact ⟨⟨cs, hc.keep hb⟩, ha, hc2⟩, th_keep hb h4, th_keep hb h5, h6, h7, h8, Nat.lt_of_lt_of_le h9 hb.size, Nat.lt_of_lt_of_le h10 hb.size, h11.trans (hb.mono (by omega))⟩
theorem LI.drewN (h : LI B gd gr n k D lc w0 w) (m : Nat) : LI B gd gr n k D lc w0 (w.drewN m) := h.keep ⟨rfl, rfl, rfl, Nat.le_refl _, fun _ _ => rfl⟩
theorem LI.put1 (h : LI B gd gr n k D lc w0 w) (x : Value) : LI B gd gr n k D lc w0 (w.setCell ⟨gd, k, none⟩ x) := by
  obtain ⟨h1, h2, h3, h4, h5, h6, h7, h8, h9, h10, h11⟩ := h
  refine ⟨fun j hj => set_far (by omega) (h1 j hj), fun j hj => rg_other (h2 j hj) h6, fun j hj => ?_, th_set h4, th_set h5, h6, h7, h8, by simpa [World.setCell] using h9, by simpa [World.setCell] using h10, h11.setCell h7 _⟩
  obtain ⟨⟨cs, hc⟩, ha, hc2⟩ := h3 j hj
  exact ⟨⟨cs, hc.far (p := ⟨gd, k, none⟩) (fun e => ha e.symm) x⟩, ha, hc2⟩
theorem LI.put2 (h : LI B gd gr n k D lc w0 w) (hk : k < n) {d : Nat} {cs : Array Value} (hc : w.cell? ⟨gd, k, none⟩ = some (.pointer (some ⟨d, 0, none⟩))) (hd : Bk w d 68 cs) (ha : gd ≠ d) (hr : gr ≠ d) :
    LI B gd gr n (k + 1) (upD D k d) lc w0 (w.setCells gr (k * 2) [.iface 56 (.pointer (some ⟨d, 0, none⟩)), .int .i32 (lc k)]) := by
  obtain ⟨h1, h2, h3, h4, h5, h6, h7, h8, h9, h10, h11⟩ := h
  have e0 : (w.cell? ⟨gr, k * 2, none⟩).isSome = true := by have := (h5 (k * 2) (by omega)).1; rwa [Nat.zero_add] at this
  have e1 : (w.cell? ⟨gr, k * 2 + 1, none⟩).isSome = true := by have := (h5 (k * 2 + 1) (by omega)).1; rwa [Nat.zero_add] at this
  simp only [World.setCells]
  refine ⟨fun j hj => ?_, fun j hj => ?_, fun j hj => ?_, th_set (th_set h4), th_set (th_set h5), h6, h7, h8, by simpa [World.setCell] using h9, by simpa [World.setCell] using h10, (h11.setCell h8 _).setCell h8 _⟩
  · have hx : w.cell? ⟨gd, j, none⟩ = some (.pointer (some ⟨upD D k d j, 0, none⟩)) := by
      unfold upD
      by_cases e : j = k
      · rw [if_pos e, e]; exact hc
      · rw [if_neg e]; exact h1 j (by omega)
    exact cell_other (cell_other hx (fun e => h6 e.symm)) (fun e => h6 e.symm)
  · unfold upD
    by_cases e : j = k
    · subst e
      dsimp only
      rw [if_pos rfl]
      intro i v hv
      rcases i with _ | _ | i
      · simp only [ruR, dv, List.getElem?_cons_zero, Option.some.injEq] at hv
        subst hv
        exact set_far (by omega) (set_same e0)
      · simp only [ruR, List.getElem?_cons_succ, List.getElem?_cons_zero, Option.some.injEq] at hv
        subst hv
        exact set_same (set_some e1)
      · simp [ruR] at hv
    · dsimp only
      rw [if_neg e]
      refine rg_far (rg_far (h2 j (by omega)) ?_) ?_
      all_goals
        intro i hi he
        simp only [ruR, List.length_cons, List.length_nil] at hi
        injection he with _ e2
        omega
  · unfold upD
    by_cases e : j = k
    · rw [if_pos e]
      exact ⟨⟨cs, (hd.far (p := ⟨gr, k * 2, none⟩) (fun e => hr e.symm) _).far (p := ⟨gr, k * 2 + 1, none⟩) (fun e => hr e.symm) _⟩, ha, hr⟩
    · rw [if_neg e]
      obtain ⟨⟨cs', hc'⟩, ha', hr'⟩ := h3 j (by omega)
      exact ⟨⟨cs', (hc'.far (p := ⟨gr, k * 2, none⟩) (fun e => hr' e.symm) _).far (p := ⟨gr, k * 2 + 1, none⟩) (fun e => hr' e.symm) _⟩, ha', hr'⟩
end
theorem pd_info : (Try.prog.info? 56).map (fun i => (i.zero, i.size, i.bytes)) = some (some (.pointer none), 1, 8) := by kernel_rfl
theorem ru_info : (Try.prog.info? 61).map (fun i => (i.zero, i.size, i.bytes)) = some (some (.agg #[.nilIface, .int .i32 0]), 2, 24) := by kernel_rfl
def LayP (n : Nat) (lc : Nat → Int) (w : World) (e : Ending) (w' : World) : Prop := ∃ gd gr D, e = .returned (.tuple #[.slice (some ⟨gd, 0, none⟩) n n, .slice (some ⟨gr, 0, none⟩) n n]) ∧ LI w.heap.size gd gr n n D lc w w'
set_option maxRecDepth 100000 in
set_option maxHeartbeats 1000000 in
theorem ly_any (al : Option Addr) (n c : Nat) (lc : Nat → Int) (w : World) (h : Sl w al n (fun i => .int .i32 (lc i))) (hn : n ≤ 4096) :
    Calls Try.prog 6 #[.slice al n c] w (LayP n lc w) := by
  obtain ⟨i0, hi, hz0, hz1, hz2⟩ := info_parts pd_info
  obtain ⟨i1, hj, hy0, hy1, hy2⟩ := info_parts ru_info
  have hmk := fun W => run_make_rowN (P := Try.prog) 28 56 i0 _ (by kernel_rfl) hi hz0 .i64 .i64 n n (Nat.le_refl _) (by rw [hz2]; omega) (by omega) W
  have hmk2 := fun W => run_make_rowN (P := Try.prog) 29 61 i1 _ (by kernel_rfl) hj hy0 .i64 .i64 n n (Nat.le_refl _) (by rw [hy2]; omega) (by omega) W
  rw [hz1] at hmk
  rw [hy1] at hmk2
  have H := Lib.hid h
  clear h hi hz0 hz1 hz2 hj hy0 hy1 hy2
  unfold LayP
  have hL : LI w.heap.size w.heap.size (w.heap.size + 1) n 0 (fun _ => 0) lc w ((w.alloc (.cells (madeCells #[.pointer none] n) 56)).alloc (.cells (madeCells #[.nilIface, .int .i32 0] (n * 2)) 61)) := by
    have hb := (Below.refl w.heap.size w).alloc (Nat.le_refl _) (.cells (madeCells #[.pointer none] n) 56)
    refine ⟨fun j hj => absurd hj (by omega), fun j hj => absurd hj (by omega), fun j hj => absurd hj (by omega), ?_, ?_, by omega, Nat.le_refl _, by omega, by simp; omega, by simp, hb.alloc (by simp) _⟩
    · exact th_keep ((Below.refl _ _).alloc (Nat.le_refl _) _) (th_new w _ _ (by rw [size_madeCells]))
    · have := th_new (n := n * 2) (w.alloc (.cells (madeCells #[.pointer none] n) 56)) (madeCells #[.nilIface, .int .i32 0] (n * 2)) 61 (by rw [size_madeCells])
      rwa [show (w.alloc (.cells (madeCells #[.pointer none] n) 56)).heap.size = w.heap.size + 1 by simp] at this
  go_enter Try.func6, Try.ntmps6
  go_upto_block 0 with fail
  obtain ⟨gr, hg⟩ : ∃ g, w.heap.size + 1 = g := ⟨_, rfl⟩
  rw [hg] at hL
  try rw [hg]
  generalize World.alloc (World.alloc w _) _ = w1 at hL ⊢
  have HL := Lib.hid hL
  clear hL hmk hmk2
  go_wp2_with fail
  go_loopw [7] (fun iv wr => ∃ (k : Nat) (D : Nat → Nat), k ≤ n ∧ iv = .int .i64 k ∧ Hid (LI w.heap.size w.heap.size gr n k D lc w wr)) (fun iv _ => n - (intOf iv).toNat)
  case atStart => exact ⟨0, _, Nat.zero_le _, rfl, HL⟩
  case round =>
    clear HL
    obtain ⟨k, D, hk, rfl, HT⟩ := hrel
    by_cases hlt : k < n
    case neg =>
      obtain rfl : k = n := by omega
      go_wp2_with fail
      go_ret2
      exact ⟨_, _, D, rfl, HT.out⟩
    have q0 : (0 : Int) ≤ k := by omega
    have q1 : (k : Int) < n := by omega
    obtain ⟨m, hm⟩ : ∃ m, (k : Int).tmod 5 = m := ⟨_, rfl⟩
    have hm2 : m = (k : Int) % 5 := by rw [← hm, Int.tmod_eq_emod_of_nonneg q0]
    have hm0 : 0 ≤ m := by omega
    have hm1 : m < 5 := by omega
    clear hm2
    go_wp2_with fail
    refine (zt_any m wr hm0 (by omega)).mono ?_
    rintro e w2 ⟨rfl, hb⟩
    have HT2 := Lib.hid (HT.out.keep hb)
    clear hb HT hm hm0 hm1
    unfold tyV
    dsimp only
    generalize tT (m % 8) = tx
    generalize tK (m % 8) = tk
    have hA : ∀ (o o' : Obj), Below w2.heap.size w2 ((w2.alloc o).alloc o') := fun o o' => ((Below.refl _ _).alloc (Nat.le_refl _) _).alloc (by simp) _
    have tg : ∀ (o o' : Obj), ((w2.alloc o).alloc o').there w.heap.size 0 n := fun o o' => (HT2.out.keep (hA o o')).2.2.2.1
    obtain ⟨v0, hv0⟩ := Option.isSome_iff_exists.1 (HT2.out.2.2.2.1 k hlt).1
    rw [Nat.zero_add] at hv0
    have e0 : ∀ (o o' : Obj), ((w2.alloc o).alloc o').cell? ⟨w.heap.size, k, none⟩ = some v0 := fun o o' => alloc_cell (alloc_cell hv0 o) o'
    have f0 : ∀ (o o' : Obj), ((w2.alloc o).alloc o').frozen? ⟨w.heap.size, k, none⟩ = false := fun o o' => by have := (tg o o' k hlt).2; rwa [Nat.zero_add] at this
    clear tg
    go_wp2_with fail
    have HT3 := Lib.hid (HT2.out.keep (hA (.cells #[.pointer none, .string tx, .int .i32 0, .int .u32 0, .int .u16 0, .int .u8 tk, .int .u8 0] 40) (.cells #[.string ⟨#[]⟩, .slice (some ⟨w2.heap.size, 0, none⟩) 1 1, .int .i32 0, .int .i32 0, .int .u16 0, .bool false] 68)))
    have hbk : Bk ((w2.alloc (.cells #[.pointer none, .string tx, .int .i32 0, .int .u32 0, .int .u16 0, .int .u8 tk, .int .u8 0] 40)).alloc (.cells #[.string ⟨#[]⟩, .slice (some ⟨w2.heap.size, 0, none⟩) 1 1, .int .i32 0, .int .i32 0, .int .u16 0, .bool false] 68)) (w2.heap.size + 1) 68 #[.string ⟨#[]⟩, .slice (some ⟨w2.heap.size, 0, none⟩) 1 1, .int .i32 0, .int .i32 0, .int .u16 0, .bool false] := by
      have := heap_alloc_new (w2.alloc (.cells #[.pointer none, .string tx, .int .i32 0, .int .u32 0, .int .u16 0, .int .u8 tk, .int .u8 0] 40)) (.cells #[.string ⟨#[]⟩, .slice (some ⟨w2.heap.size, 0, none⟩) 1 1, .int .i32 0, .int .i32 0, .int .u16 0, .bool false] 68)
      rwa [show (w2.alloc (.cells #[.pointer none, .string tx, .int .i32 0, .int .u32 0, .int .u16 0, .int .u8 tk, .int .u8 0] 40)).heap.size = w2.heap.size + 1 by simp] at this
    have hd1 : w.heap.size ≠ w2.heap.size + 1 := by have := HT2.out.2.2.2.2.2.2.2.2.1; omega
    have hd2 : gr ≠ w2.heap.size + 1 := by have := HT2.out.2.2.2.2.2.2.2.2.2.1; omega
    clear hA e0 f0 hv0
    generalize ((w2.alloc _).alloc _) = w3 at *
    generalize w2.heap.size + 1 = d at *
    have ck : (w3.setCell ⟨w.heap.size, k, none⟩ (.pointer (some ⟨d, 0, none⟩))).cell? ⟨w.heap.size, k, none⟩ = some (.pointer (some ⟨d, 0, none⟩)) := set_same (by have := (HT3.out.2.2.2.1 k hlt).1; rwa [Nat.zero_add] at this)
    have hb4 := hbk.far (p := ⟨w.heap.size, k, none⟩) (fun e => hd1 e.symm) (.pointer (some ⟨d, 0, none⟩))
    have HT4 := Lib.hid (HT3.out.put1 (.pointer (some ⟨d, 0, none⟩)))
    clear hbk HT3 HT2
    generalize (w3.setCell _ _) = w4 at *
    obtain ⟨ab, ao, rfl, cl⟩ := (H.out.keep HT4.out.2.2.2.2.2.2.2.2.2.2) k hlt
    dsimp only at cl
    obtain ⟨a0, ha0⟩ := Option.isSome_iff_exists.1 (HT4.out.2.2.2.2.1 (k * 2) (by omega)).1
    obtain ⟨a1, ha1⟩ := Option.isSome_iff_exists.1 (HT4.out.2.2.2.2.1 (k * 2 + 1) (by omega)).1
    have f0 := (HT4.out.2.2.2.2.1 (k * 2) (by omega)).2
    have f1 := (HT4.out.2.2.2.2.1 (k * 2 + 1) (by omega)).2
    rw [Nat.zero_add] at ha0 ha1 f0 f1
    have HP := Lib.hid ((HT4.out.put2 hlt ck hb4 hd1 hd2).drewN 1)
    replace cl : w4.drew.cell? ⟨ab, ao + k, none⟩ = some (.int .i32 (lc k)) := cl
    replace ck : w4.drew.cell? ⟨w.heap.size, k, none⟩ = some (.pointer (some ⟨d, 0, none⟩)) := ck
    replace ha0 : w4.drew.cell? ⟨gr, k * 2, none⟩ = some a0 := ha0
    have ha1' : w4.drew.cell? ⟨gr, k * 2 + 1, none⟩ = some a1 := ha1
    replace f0 : w4.drew.frozen? ⟨gr, k * 2, none⟩ = false := f0
    have f1' : w4.drew.frozen? ⟨gr, k * 2 + 1, none⟩ = false := f1
    clear HT4 hb4
    go_region
    go_wp2_with fail
    exact ⟨⟨k + 1, upD D k d, by omega, by go_num, HP⟩, by simp [intOf]; omega⟩
end Go.Proofs.Ytgicookbgfodbac.Co
