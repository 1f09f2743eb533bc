/-
  Token.Equal, TokensEqual at lists of one; the number's text.
-/
import Derived.Test.YtfhfeimlikpbpaaDoorTa
import Derived.StillTailTactics
import Derived.Laws.Rows
namespace Go.Proofs.YtfhfeimlikpbpaaDoor.Cs
open Go.ChangeShapes Go.WideShapes Go.ChangeAt Go.RowKit Rg
set_option linter.unusedVariables false
/-- two colours are the same text -/
def sm (c d : ByteArray) : Bool := c.toList == d.toList
theorem sm_eq (c d : ByteArray) : sm c d = true ↔ c = d := by
  unfold sm
  rw [beq_iff_eq]
  exact ⟨tl_ext, fun h => by rw [h]⟩
-- <part
set_option maxRecDepth 100000 in
set_option maxHeartbeats 1000000 in
theorem equ_any (c d : ByteArray) (w : World) : Calls Tryd.prog 23 #[.agg #[.pointer none, .string c, .int .i32 0, .int .u32 0, .int .u16 0, .int .u8 29, .int .u8 2], .agg #[.pointer none, .string d, .int .i32 0, .int .u32 0, .int .u16 0, .int .u8 29, .int .u8 2], .pointer none] w fun e w' => e = .returned (.bool (sm c d)) ∧ Below w.heap.size w w' := by
  by_cases h : (c.toList == d.toList) = true
  · have e := tl_ext (beq_iff_eq.1 h)
    subst e
    rw [show sm c c = true from h]
    clear h
    go_enter Tryd.func23, Tryd.ntmps23
    go_wp2
    go_ret
    exact ⟨rfl, ((Below.refl _ _).alloc (Nat.le_refl _) _).alloc (by simp) _⟩
  · have h1 : (c.toList == d.toList) = false := by simpa using h
    rw [show sm c d = false from h1]
    clear h
    go_enter Tryd.func23, Tryd.ntmps23
    go_wp2
    go_ret
    exact ⟨rfl, ((Below.refl _ _).alloc (Nat.le_refl _) _).alloc (by simp) _⟩
-- part>
-- <part
set_option maxRecDepth 100000 in
set_option maxHeartbeats 2000000 in
theorem tse_any (g1 g2 : Nat) (c d : ByteArray) (w : World) (h1 : w.rangeAt g1 0 (tk 29 2 c)) (h2 : w.rangeAt g2 0 (tk 29 2 d)) : Calls Tryd.prog 22 #[.slice (some ⟨g1, 0, none⟩) 1 1, .slice (some ⟨g2, 0, none⟩) 1 1, .pointer none] w fun e w' => e = .returned (.bool (sm c d)) ∧ Below w.heap.size w w' := by
  have HR := Lib.hid (And.intro h1 h2)
  clear h1 h2
  go_enter Tryd.func22, Tryd.ntmps22
  go_wp2_with fail
  go_loopw [16] (fun i wr => ((i = .int .i64 0 ∧ Hid (wr.rangeAt g1 0 (tk 29 2 c) ∧ wr.rangeAt g2 0 (tk 29 2 d))) ∨ (i = .int .i64 1 ∧ Hid (sm c d = true))) ∧ Hid (Below w.heap.size w wr)) (fun i _ => 1 - (intOf i).toNat)
  case atStart => exact ⟨.inl ⟨rfl, HR⟩, Lib.hid (Below.refl _ _)⟩
  case round =>
    clear HR
    obtain ⟨hrel, HB⟩ := hrel
    rcases hrel with ⟨rfl, HR⟩ | ⟨rfl, HS⟩
    · have d0 := HR.out.1 0 _ rfl
      have d1 := HR.out.1 1 _ rfl
      have d2 := HR.out.1 2 _ rfl
      have d3 := HR.out.1 3 _ rfl
      have d4 := HR.out.1 4 _ rfl
      have d5 := HR.out.1 5 _ rfl
      have d6 := HR.out.1 6 _ rfl
      simp only [Nat.zero_add] at d0 d1 d2 d3 d4 d5 d6
      go_wp2_with fail
      have e0 := alloc_cell (HR.out.2 0 _ rfl)
      have e1 := alloc_cell (HR.out.2 1 _ rfl)
      have e2 := alloc_cell (HR.out.2 2 _ rfl)
      have e3 := alloc_cell (HR.out.2 3 _ rfl)
      have e4 := alloc_cell (HR.out.2 4 _ rfl)
      have e5 := alloc_cell (HR.out.2 5 _ rfl)
      have e6 := alloc_cell (HR.out.2 6 _ rfl)
      simp only [Nat.zero_add] at e0 e1 e2 e3 e4 e5 e6
      clear d0 d1 d2 d3 d4 d5 d6
      have hbx := heap_alloc_new wr (.cells #[.pointer none, .string c, .int .i32 0, .int .u32 0, .int .u16 0, .int .u8 29, .int .u8 2] 42)
      have d0 := cell_of_row _ _ 0 _ _ _ hbx
      have d1 := cell_of_row _ _ 1 _ _ _ hbx
      have d2 := cell_of_row _ _ 2 _ _ _ hbx
      have d3 := cell_of_row _ _ 3 _ _ _ hbx
      have d4 := cell_of_row _ _ 4 _ _ _ hbx
      have d5 := cell_of_row _ _ 5 _ _ _ hbx
      have d6 := cell_of_row _ _ 6 _ _ _ hbx
      have HB2 := Lib.hid (HB.out.trans (((Below.refl _ _).alloc (Nat.le_refl _) (.cells #[.pointer none, .string c, .int .i32 0, .int .u32 0, .int .u16 0, .int .u8 29, .int .u8 2] 42)).mono HB.out.size))
      clear hbx HB HR
      have e0 := e0 (.cells #[.pointer none, .string c, .int .i32 0, .int .u32 0, .int .u16 0, .int .u8 29, .int .u8 2] 42)
      have e1 := e1 (.cells #[.pointer none, .string c, .int .i32 0, .int .u32 0, .int .u16 0, .int .u8 29, .int .u8 2] 42)
      have e2 := e2 (.cells #[.pointer none, .string c, .int .i32 0, .int .u32 0, .int .u16 0, .int .u8 29, .int .u8 2] 42)
      have e3 := e3 (.cells #[.pointer none, .string c, .int .i32 0, .int .u32 0, .int .u16 0, .int .u8 29, .int .u8 2] 42)
      have e4 := e4 (.cells #[.pointer none, .string c, .int .i32 0, .int .u32 0, .int .u16 0, .int .u8 29, .int .u8 2] 42)
      have e5 := e5 (.cells #[.pointer none, .string c, .int .i32 0, .int .u32 0, .int .u16 0, .int .u8 29, .int .u8 2] 42)
      have e6 := e6 (.cells #[.pointer none, .string c, .int .i32 0, .int .u32 0, .int .u16 0, .int .u8 29, .int .u8 2] 42)
      generalize wr.alloc _ = w4 at *
      generalize wr.heap.size = bx at *
      simp at d0 d1 d2 d3 d4 d5 d6
      go_still_tail 6, (by kernel_rfl)
      have HB3 := Lib.hid HB2.out.drew
      change wpList _ _ _ _ _ (World.drew w4)
      clear d0 d1 d2 d3 d4 d5 d6 e0 e1 e2 e3 e4 e5 e6 HB2
      generalize World.drew _ = w5 at *
      have HB2 := HB3
      clear HB3
      go_wp2_with fail
      refine (equ_any c d w5).mono ?_
      rintro e w6 ⟨rfl, hb⟩
      have HB3 := Lib.hid (HB2.out.trans (hb.mono HB2.out.size))
      clear HB2 hb
      cases hs : sm c d
      · go_wp2_with fail
        go_ret
        exact ⟨congrArg (fun b => Ending.returned (.bool b)) hs.symm, HB3.out⟩
      · go_wp2_with fail
        exact ⟨⟨.inr ⟨by go_num, Lib.hid hs⟩, HB3⟩, by simp [intOf]⟩
    · go_wp2_with fail
      go_ret
      exact ⟨congrArg (fun b => Ending.returned (.bool b)) HS.out.symm, HB.out⟩
-- part>
/-- the digits of a number, after those that are there -/
def digs : Nat → Nat → List UInt8 → List UInt8
  | 0, _, D => D
  | f + 1, u, D => if u = 0 then D else digs f (u / 10) (UInt8.ofNat (48 + u % 10) :: D)
/-- the number's text -/
def itoa (v : Nat) : ByteArray := if v = 0 then ⟨#[48]⟩ else ⟨(digs 10 v []).toArray⟩
/-- the loop over the digits: place x of block b, what is left y, what is there D -/
def ITO (b v j x y : Nat) (D : List UInt8) (w0 w : World) : Prop :=
  y < 10 ^ j ∧ x = 14 + j ∧ (j ≤ 10 ∧ D.length + x = 24 ∧ (x = 24 → y = v)) ∧ digs j y D = digs 10 v [] ∧ (∀ p (h : p < D.length), w.cell? ⟨b, x + p, none⟩ = some (.int .u8 (D[p].toNat : Int))) ∧ (∀ o, o < 24 → (w.cell? ⟨b, o, none⟩).isSome = true ∧ w.frozen? ⟨b, o, none⟩ = false) ∧ w0.heap.size ≤ b ∧ Below w0.heap.size w0 w
-- <part
set_option maxRecDepth 100000 in
set_option maxHeartbeats 2000000 in
theorem ito_any (v : Nat) (hv : v < 10000000000) (w : World) : Calls Tryd.prog 21 #[.int .i64 v] w fun e w' => e = .returned (.string (itoa v)) ∧ Below w.heap.size w w' := by
  by_cases h0 : v = 0
  · subst h0
    go_enter Tryd.func21, Tryd.ntmps21
    go_wp2_with fail
    go_ret
    exact ⟨rfl, Below.refl _ _⟩
  · have hz : ((v : Int) == 0) = false := by rw [beq_eq_false_iff_ne]; omega
    have hn : ¬ (v : Int) < 0 := by omega
    have hw1 : IntKind.u64.wrap (v : Int) = v := by rw [IntKind.wrap_u64]; omega
    have hv2 := Lib.hid hv
    clear hv
    go_enter Tryd.func21, Tryd.ntmps21
    go_wp2_with fail
    have hnew := heap_alloc_new w (.cells (Array.replicate 24 (.int .u8 0)) 53)
    have HI := Lib.hid (show ITO w.heap.size v 10 24 v [] w (w.alloc (.cells (Array.replicate 24 (.int .u8 0)) 53)) from
      ⟨hv2.out, rfl, ⟨by omega, rfl, fun _ => rfl⟩, rfl, fun p hp => absurd hp (by simp), fun o ho => ⟨by rw [cell_of_row _ _ o _ _ _ hnew]; simp [ho], frozen_of_row _ _ o _ _ hnew⟩, Nat.le_refl _, (Below.refl _ _).alloc (Nat.le_refl _) _⟩)
    rw [show w.alloc (.cells #[.int .u8 0, .int .u8 0, .int .u8 0, .int .u8 0, .int .u8 0, .int .u8 0, .int .u8 0, .int .u8 0, .int .u8 0, .int .u8 0, .int .u8 0, .int .u8 0, .int .u8 0, .int .u8 0, .int .u8 0, .int .u8 0, .int .u8 0, .int .u8 0, .int .u8 0, .int .u8 0, .int .u8 0, .int .u8 0, .int .u8 0, .int .u8 0] 53) = w.alloc (.cells (Array.replicate 24 (.int .u8 0)) 53) from rfl]
    generalize w.alloc _ = wA at *
    clear hnew hv2
    obtain ⟨b, hb⟩ : ∃ b, b = w.heap.size := ⟨_, rfl⟩
    rw [← hb] at HI ⊢
    clear hb
    go_loopw [5, 6] (fun i u wr => ∃ (j x y : Nat) (D : List UInt8), i = .int .i64 x ∧ u = .int .u64 y ∧ Hid (ITO b v j x y D w wr)) (fun i _ _ => (intOf i).toNat)
    case atStart => exact ⟨10, 24, v, [], rfl, rfl, HI⟩
    case round =>
      clear HI
      obtain ⟨j, x, y, D, rfl, rfl, HI⟩ := hrel
      by_cases hy : y = 0
      · subst hy
        have q0 : (0 : Int) ≤ x := by omega
        have q1 : (x : Int) ≤ 24 := by have := HI.out.2.1; have := HI.out.2.2.1.1; omega
        have q4 : ¬ x = 24 := fun e => h0 (HI.out.2.2.1.2.2 e).symm
        have q5 : (x : Int) < 24 := by omega
        have hdl : D.length = 24 - x := by have := HI.out.2.2.1.2.1; omega
        have hbk := run_convert_bytes_back (P := Tryd.prog) wr 23 9 5 ⟨b, x, none⟩ (24 - x) D Tryd.underlying23 Tryd.underlying5 Tryd.underlying9 (fun j hj => by rw [add_none]; exact HI.out.2.2.2.2.1 j hj)
        rw [hdl] at hbk
        have hD : itoa v = ⟨D.toArray⟩ := by
          have h4 := HI.out.2.2.2.1
          unfold itoa
          rw [if_neg h0, ← h4]
          cases j <;> simp [digs]
        have HB := Lib.hid HI.out.2.2.2.2.2.2.2
        have HD := Lib.hid hD
        clear HI hdl hD
        go_wp2_with fail
        go_ret
        exact ⟨congrArg (fun b => Ending.returned (.string b)) HD.out.symm, HB.out⟩
      · obtain ⟨i, rfl⟩ : ∃ i, x = i + 1 := ⟨x - 1, by have := HI.out.2.1; omega⟩
        have q0 : (0 : Int) ≤ i := by omega
        have q1 : (i : Int) < 24 := by have := HI.out.2.1; have := HI.out.2.2.1.1; omega
        have q2 : ¬ (y : Int) ≤ 0 := by omega
        have q3 : (0 : Int) < y := by omega
        obtain ⟨u0, c0⟩ := Option.isSome_iff_exists.1 (HI.out.2.2.2.2.2.1 i (by omega)).1
        have c1 := (HI.out.2.2.2.2.2.1 i (by omega)).2
        go_wp2_with fail
        have hq : IntKind.u64.wrap ((y : Int) / 10) = ((y / 10 : Nat) : Int) := by rw [IntKind.wrap_u64]; have h1 := HI.out.1; have h2 := Nat.pow_le_pow_right (n := 10) (by omega) HI.out.2.2.1.1; omega
        rw [hq]
        refine ⟨⟨j - 1, i, y / 10, UInt8.ofNat (48 + y % 10) :: D, rfl, rfl, Lib.hid ?_⟩, by simp [intOf]⟩
        obtain ⟨h1, h2, h3, h4, h5, h6, h8, h7⟩ := HI.out
        have hj : j = (j - 1) + 1 := by
          rcases Nat.eq_zero_or_pos j with e | e
          · subst e; simp at h1; omega
          · omega
        generalize j - 1 = jj at hj
        subst hj
        refine ⟨?_, by omega, ⟨by omega, by simp; omega, by omega⟩, ?_, ?_, ?_, h8, h7.setCell h8 _⟩
        · rw [Nat.pow_succ] at h1; omega
        · rw [← h4, digs, if_neg hy]
        · intro p hp
          cases p with
          | zero =>
            rw [Nat.add_zero, set_same (h6 i (by omega)).1]
            have e : (UInt8.ofNat (48 + y % 10)).toNat = 48 + y % 10 := by simp; omega
            simp only [List.getElem_cons_zero, e]
            congr 2
          | succ p =>
            have := h5 p (by simpa using hp)
            rw [show i + 1 + p = i + (p + 1) by omega] at this
            rw [set_far (by omega) this]
            simp
        · intro o ho
          exact ⟨set_some (h6 o ho).1, by simp only [World.frozen?_setCell]; exact (h6 o ho).2⟩
-- part>
theorem digs_len : ∀ (f u : Nat) (D : List UInt8), (digs f u D).length ≤ f + D.length
  | 0, _, _ => by simp [digs]
  | f + 1, u, D => by
    unfold digs
    split
    · omega
    · have := digs_len f (u / 10) (UInt8.ofNat (48 + u % 10) :: D)
      simp only [List.length_cons] at this
      omega
theorem itoa_len (v : Nat) : (itoa v).size ≤ 10 := by
  unfold itoa
  split
  · exact (by decide : (1 : Nat) ≤ 10)
  · have := digs_len 10 v []
    simpa [ByteArray.size] using this
/-- a position's text -/
def ptx (q : Nat) : ByteArray := itoa q ++ ⟨#[37]⟩
-- <part
set_option maxRecDepth 100000 in
set_option maxHeartbeats 2000000 in
theorem pos_any (v : Nat) (hv : v < 10000000000) (w : World) : Calls Tryd.prog 14 #[.int .i64 v, .int .u8 2] w fun e w' => e = .returned (.agg #[.pointer none, .string (ptx v), .int .i32 0, .int .u32 0, .int .u16 0, .int .u8 34, .int .u8 2]) ∧ Below w.heap.size w w' := by
  have HI := Lib.hid (fun w => ito_any v hv w)
  obtain ⟨du, hu, hu2⟩ := tyTok
  have HT := Lib.hid (show (w.alloc (.cells #[.pointer none, .string ⟨#[]⟩, .int .i32 0, .int .u32 0, .int .u16 0, .int .u8 0, .int .u8 0] 42)).there w.heap.size 0 7 ∧ Below w.heap.size w (w.alloc (.cells #[.pointer none, .string ⟨#[]⟩, .int .i32 0, .int .u32 0, .int .u16 0, .int .u8 0, .int .u8 0] 42)) from ⟨th_new w _ _ rfl, (Below.refl _ _).alloc (Nat.le_refl _) _⟩)
  clear hv
  go_enter Tryd.func14, Tryd.ntmps14
  go_wp2_with fail
  refine (HI.out _).mono ?_
  rintro e w2 ⟨rfl, hb⟩
  have hsz : ¬ 9223372036854775807 < (itoa v).size + 1 := by have := itoa_len v; omega
  have HT2 := Lib.hid (And.intro (th_keep hb HT.out.1) (HT.out.2.trans (hb.mono HT.out.2.size)))
  clear hb HT HI
  go_wp2_with (first | (refine wpList_store_mid rfl 42 _ _ rfl w.heap.size 0 (tk 34 2 (ptx v)).toArray rfl rfl HT2.out.1 szTok (tk_all _ _ _) ?_))
  exact bodyPost_ret (results_cell_mid rfl _ _ w.heap.size 0 (tk 34 2 (ptx v)) du rfl (World.rangeAt_setCells_same _ _ _ _ HT2.out.1) hu hu2 szTok) rfl ⟨rfl, below_setCells (Nat.le_refl _) _ _ HT2.out.2⟩
-- part>
end Go.Proofs.YtfhfeimlikpbpaaDoor.Cs
