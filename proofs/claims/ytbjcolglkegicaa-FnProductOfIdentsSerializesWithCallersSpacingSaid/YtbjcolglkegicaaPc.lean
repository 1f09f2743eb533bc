/-
  calcProduct.convertToToken over a row of terms.
-/
import Derived.Test.YtbjcolglkegicaaPv
import Derived.OneCell
namespace Go.Proofs.Ytbjcolglkegicaa.Pd
open Go.ChangeShapes Go.WideShapes Go.ChangeAt Go.RowKit Rg
set_option linter.unusedVariables false
theorem infoTk : (Try.prog.info? 38).map (fun i => (i.zero, i.size, i.bytes)) = some (some (.agg #[.pointer none, .string ⟨#[]⟩, .int .i32 0, .int .u32 0, .int .u16 0, .int .u8 0, .int .u8 0]), 7, 40) := by kernel_rfl
theorem met_val (a : Value) (w : World) : (method 175 43 a "github.com/evanw/esbuild/internal/css_parser.convertToToken").run Try.prog w = .ok (32, a) w := by kernel_rfl
theorem ta_inv (D : Value) (w : World) : (Instr.typeAssert (.iface 42 D) 47 42 true).run Try.prog w = .ok (.tuple #[D, .bool true]) w := by kernel_rfl
theorem ta_val (D : Value) (w : World) : (Instr.typeAssert (.iface 43 D) 47 42 true).run Try.prog w = .ok (.tuple #[.pointer none, .bool false]) w := by kernel_rfl
abbrev sB : ByteArray := ⟨#[47]⟩
abbrev mB : ByteArray := ⟨#[42]⟩
def opc (inv : Bool) (ws : Int) : List Value := if inv then [.pointer none, .string sB, .int .i32 0, .int .u32 0, .int .u16 0, .int .u8 24, .int .u8 ws] else [.pointer none, .string mB, .int .i32 0, .int .u32 0, .int .u16 0, .int .u8 13, .int .u8 ws]
theorem tyTok : ∃ d, Try.prog.underlying 38 = some d ∧ d.isRow = true := ⟨_, Try.underlying38, rfl⟩
/-- token j of the product -/
def tkc (iv : Nat → Bool) (T : Nat → ByteArray) (ws : Int) (j : Nat) : List Value := if j % 2 = 0 then (vtok (T (j / 2))).toList else opc (iv ((j + 1) / 2)) ws
theorem tkc_len (iv : Nat → Bool) (T : Nat → ByteArray) (ws : Int) (j : Nat) : (tkc iv T ws j).length = 7 := by
  unfold tkc opc
  split
  · rfl
  · split <;> rfl
theorem tkc_two (iv : Nat → Bool) (T : Nat → ByteArray) (ws : Int) (k : Nat) : rowg (tkc iv T ws) (2 * k + 3) = rowg (tkc iv T ws) (2 * k + 1) ++ (opc (iv (k + 1)) ws ++ (vtok (T (k + 1))).toList) := by
  rw [show 2 * k + 3 = 2 * k + 1 + 1 + 1 by omega, rowg_succ, rowg_succ, List.append_assoc]
  have e1 : tkc iv T ws (2 * k + 1) = opc (iv (k + 1)) ws := by
    unfold tkc
    rw [if_neg (by omega), show (2 * k + 1 + 1) / 2 = k + 1 by omega]
  have e2 : tkc iv T ws (2 * k + 1 + 1) = (vtok (T (k + 1))).toList := by
    unfold tkc
    rw [if_pos (by omega), show (2 * k + 1 + 1) / 2 = k + 1 by omega]
  rw [e1, e2]
theorem opc_one (inv : Bool) (ws : Int) (t : ByteArray) : ∀ u ∈ opc inv ws ++ (vtok t).toList, u.oneCell' = true := by
  intro u hu
  cases inv <;> simp [opc] at hu <;> rcases hu with rfl | rfl | rfl | rfl | rfl | rfl | rfl | rfl | rfl | rfl | rfl | rfl | rfl | rfl <;> rfl
theorem vtok_one (t : ByteArray) : ∀ u ∈ (vtok t).toList, u.oneCell' = true := by
  intro u hu
  simp at hu
  rcases hu with rfl | rfl | rfl | rfl | rfl | rfl | rfl <;> rfl
/-- at the loop's head: k terms are written behind the first -/
def PI (h0 k : Nat) (iv : Nat → Bool) (T : Nat → ByteArray) (ws : Int) (w0 w : World) : Prop :=
  (∃ gr cr, Bk w (h0 + 2) 41 #[.slice (some ⟨gr, 0, none⟩) (2 * k + 1) cr] ∧ w.ownsRow h0 38 7 (.slice (some ⟨gr, 0, none⟩) (2 * k + 1) cr) (2 * k + 1) (rowg (tkc iv T ws) (2 * k + 1)) ∧ gr ≠ h0) ∧
  (∃ zs, Bk w h0 38 zs ∧ zs.size = 7) ∧ Below h0 w0 w
theorem PI.step {h0 k n0 c0 g0 : Nat} {iv : Nat → Bool} {T : Nat → ByteArray} {ws : Int} {w0 w w2 : World} {x : Value} {xs : List Value} {gr cr : Nat} (hO : w.ownsRow h0 38 7 (.slice (some ⟨g0, 0, none⟩) n0 c0) n0 xs) (hX : Bk w (h0 + 2) 41 #[x])
    (hZ : ∃ zs, Bk w h0 38 zs ∧ zs.size = 7) (hB : Below h0 w0 w) (hne0 : g0 ≠ h0) (hgr : gr ≠ h0) (hg : w.grownBy w2 (Value.slice (some ⟨g0, 0, none⟩) n0 c0).ownBlock)
    (hN : w2.ownsRow h0 38 7 (.slice (some ⟨gr, 0, none⟩) (2 * k + 1) cr) (2 * k + 1) (rowg (tkc iv T ws) (2 * k + 1))) : PI h0 k iv T ws w0 (w2.setCell ⟨h0 + 2, 0, none⟩ (.slice (some ⟨gr, 0, none⟩) (2 * k + 1) cr)) := by
  have hne : some h0 ≠ (Value.slice (some ⟨g0, 0, none⟩) n0 c0).ownBlock := by simp [Value.ownBlock]; omega
  have hX2 := hX.grown hg (hX.ne_row hO (by decide))
  have hne2 := hX2.ne_row hN (by decide)
  obtain ⟨zs, hz, hzs⟩ := hZ
  refine ⟨⟨gr, cr, hX2.set_ 0 _, ownsRow_setCell_other hN (fun e => hne2 e.symm) _, hgr⟩, ⟨zs, Bk.far (hz.grown hg hne) (by simp) _, hzs⟩, (hB.grown hg (Nat.le_trans (Nat.le_refl _) (Nat.le_of_lt hz.lt)) (fun q hq => (hO.lt q hq).1)).setCell (by simp) _⟩
theorem PI.keep {h0 k : Nat} {iv : Nat → Bool} {T : Nat → ByteArray} {ws : Int} {w0 w w' : World} (h : PI h0 k iv T ws w0 w) (hb : Below w.heap.size w w') : PI h0 k iv T ws w0 w' := by
  obtain ⟨⟨gr, cr, h1, h2, h3⟩, ⟨zs, h4, h5⟩, h6⟩ := h
  exact ⟨⟨gr, cr, h1.keep hb, own_keep h2 hb, h3⟩, ⟨zs, h4.keep hb, h5⟩, h6.trans (hb.mono (Nat.le_of_lt h4.lt))⟩
/-- the terms that came in -/
def TI (B p gt n ct : Nat) (iv : Nat → Bool) (G H : Nat → Nat) (T : Nat → ByteArray) (w : World) : Prop :=
  Bk w p 54 #[.slice (some ⟨gt, 0, none⟩) n ct] ∧ w.ownsRow B 49 2 (.slice (some ⟨gt, 0, none⟩) n ct) n (rowg (fun i => tc (iv i) (G i)) n) ∧ ∀ i, i < n → TV w (iv i) (G i) (H i) (T i)
theorem TI.keep {B p gt n ct : Nat} {iv : Nat → Bool} {G H : Nat → Nat} {T : Nat → ByteArray} {w w' : World} (h : TI B p gt n ct iv G H T w) (hb : Below w.heap.size w w') : TI B p gt n ct iv G H T w' :=
  ⟨h.1.keep hb, own_keep h.2.1 hb, fun i hi => (h.2.2 i hi).keep hb⟩
def Prd (n : Nat) (iv : Nat → Bool) (T : Nat → ByteArray) (ws : Int) (w : World) (e : Ending) (w' : World) : Prop :=
  ∃ gb gr cr, e = .returned (.tuple #[.agg #[.pointer (some ⟨gb, 0, none⟩), .string ⟨#[40]⟩, .int .i32 0, .int .u32 0, .int .u16 0, .int .u8 33, .int .u8 0], .bool true]) ∧
    Bk w' gb 41 #[.slice (some ⟨gr, 0, none⟩) (2 * n - 1) cr] ∧ w'.ownsRow w.heap.size 38 7 (.slice (some ⟨gr, 0, none⟩) (2 * n - 1) cr) (2 * n - 1) (rowg (tkc iv T ws) (2 * n - 1)) ∧ Below w.heap.size w w'
set_option maxRecDepth 100000 in
set_option maxHeartbeats 2000000 in
theorem prod_any (B p gt n ct : Nat) (iv : Nat → Bool) (G H : Nat → Nat) (T : Nat → ByteArray) (ws : Int) (w : World) (h : TI B p gt n ct iv G H T w) (h2 : 2 ≤ n) (hn : (n : Int) ≤ 65536) (hc : n ≤ ct) (hi0 : iv 0 = false) :
    Calls Try.prog 11 #[.pointer (some ⟨p, 0, none⟩), .int .u8 ws] w (Prd n iv T ws w) := by
  obtain ⟨i0, hi, hz0, hz1, hz2⟩ := info_parts infoTk
  have hmk0 := fun W => run_make_rowN (P := Try.prog) 41 38 i0 _ (by kernel_rfl) hi hz0 .i64 .i64 0 (n * 2) (Nat.zero_le _) (by rw [hz2]; omega) (by omega) W
  rw [hz1] at hmk0
  have hmk : ∀ W : World, (Instr.makeSlice 41 (.int .i64 0) (.int .i64 ((n : Int) * 2))).run Try.prog W = .ok (.slice (some ⟨W.heap.size, 0, none⟩) 0 (n * 2)) (W.alloc (.cells (madeCells #[.pointer none, .string ⟨#[]⟩, .int .i32 0, .int .u32 0, .int .u16 0, .int .u8 0, .int .u8 0] (n * 2 * 7)) 38)) := fun W => by
    have := hmk0 W
    rw [Int.natCast_mul] at this
    exact this
  clear hmk0
  have HI := Lib.hid (And.intro hi (And.intro hz0 (And.intro hz1 hz2)))
  have H0 := Lib.hid h
  have HC := Lib.hid hc
  have hp0 := alloc_cell (h.1.cell 0 rfl)
  have hp3 := fun o1 o2 => alloc_cell (alloc_cell (alloc_cell (h.1.cell 0 rfl) o1) o2)
  have ht3 := fun o1 o2 => alloc_cell (alloc_cell (alloc_cell (own_cell (i := 0) (j := 0) (u := .iface 43 (.pointer (some ⟨G 0, 0, none⟩))) h.2.1 (fun _ => rfl) (by omega) (by simp [tc, ity, hi0])) o1) o2)
  have hv0 := h.2.2 0 (by omega)
  rw [hi0] at hv0
  have HV := Lib.hid (show Bk w (G 0) 45 (vcells (T 0)) from hv0)
  have hct : (1 : Int) < ct := by omega
  have hnn : (1 : Int) ≤ n := by omega
  clear hi hz0 hz1 hz2 h hc
  go_enter Try.func11, Try.ntmps11
  have hme := met_val
  clear hv0 hi0
  go_wp2_with fail
  refine (val_any (G 0) (T 0) ws _ (((HV.out.keep ((Below.refl _ _).alloc (Nat.le_refl _) _)).keep ((Below.refl _ _).alloc (Nat.le_refl _) _)).keep ((Below.refl _ _).alloc (Nat.le_refl _) _))).mono ?_
  rintro e w1 ⟨rfl, hb⟩
  have HT1 := Lib.hid ((((H0.out.keep ((Below.refl _ _).alloc (Nat.le_refl _) _)).keep ((Below.refl _ _).alloc (Nat.le_refl _) _)).keep ((Below.refl _ _).alloc (Nat.le_refl _) _)).keep hb)
  have HB1 := Lib.hid (((((Below.refl w.heap.size w).alloc (Nat.le_refl _) _).alloc (by simp) _).alloc (by simp; omega) _).trans (hb.mono (by simp; omega)))
  have HO1 := Lib.hid (own_keep ((World.ownsRow_made (base := w.heap.size) (e := 38) (size := 7) (w.alloc (.cells #[.pointer none, .string ⟨#[]⟩, .int .i32 0, .int .u32 0, .int .u16 0, .int .u8 0, .int .u8 0] 38)) (madeCells #[.pointer none, .string ⟨#[]⟩, .int .i32 0, .int .u32 0, .int .u16 0, .int .u8 0, .int .u8 0] (n * 2 * 7)) (n * 2) (by simp) (by unfold maxLen; omega) (by simp [madeCells])).alloc (.cells #[.slice (some ⟨w.heap.size + 1, 0, none⟩) 0 (n * 2)] 41)) hb)
  have HX1 := Lib.hid (show Bk w1 (w.heap.size + 2) 41 #[.slice (some ⟨w.heap.size + 1, 0, none⟩) 0 (n * 2)] from Bk.keep (by
    have := heap_alloc_new ((w.alloc (.cells #[.pointer none, .string ⟨#[]⟩, .int .i32 0, .int .u32 0, .int .u16 0, .int .u8 0, .int .u8 0] 38)).alloc (.cells (madeCells #[.pointer none, .string ⟨#[]⟩, .int .i32 0, .int .u32 0, .int .u16 0, .int .u8 0, .int .u8 0] (n * 2 * 7)) 38)) (.cells #[.slice (some ⟨w.heap.size + 1, 0, none⟩) 0 (n * 2)] 41)
    unfold Bk
    simpa using this) hb)
  have HZ1 := Lib.hid (show Bk w1 w.heap.size 38 #[.pointer none, .string ⟨#[]⟩, .int .i32 0, .int .u32 0, .int .u16 0, .int .u8 0, .int .u8 0] from Bk.keep (Bk.keep (Bk.keep (heap_alloc_new w _) ((Below.refl _ _).alloc (Nat.le_refl _) _)) ((Below.refl _ _).alloc (Nat.le_refl _) _)) hb)
  rw [show ((w.alloc (.cells #[.pointer none, .string ⟨#[]⟩, .int .i32 0, .int .u32 0, .int .u16 0, .int .u8 0, .int .u8 0] 38)).heap.size) = w.heap.size + 1 by simp] at HO1
  have hbx := alloc_cell (HX1.out.cell 0 rfl)
  have hp1 := fun o1 => alloc_cell (alloc_cell (HT1.out.1.cell 0 rfl) o1)
  clear hb HV hp0 hp3 ht3 hmk
  go_wp2_with (first
    | (at_builtin
       refine wpList_append_own_at _ rfl (.tmp 39) (.tmp 41) _ rfl w.heap.size 38 i0 _ 7 40 Try.underlying41 HI.out.1 HI.out.2.1 HI.out.2.2.1 HI.out.2.2.2 rfl (by omega) (.slice (some ⟨w.heap.size + 1, 0, none⟩) 0 (n * 2)) 0 [] (by rfl) ((HO1.out.alloc _).alloc _) ⟨w1.heap.size + 1, 0, none⟩ 1 1 (vtok (T 0)).toList (by rfl) (by rfl) (World.news_of_block (cs := vtok (T 0)) (heap_alloc2_new w1 _ _)) (vtok_one _) (by unfold maxLen; omega) (by omega) (by have := HB1.out.size; simp; omega) ?_
       intro v2 w2 hown hgrow hnil hat
       simp only [Nat.zero_add, List.nil_append] at hown
       obtain ⟨gr, cr, rfl, -, -⟩ := hown.form (by omega)
       have hgr0 : gr ≠ w.heap.size := by
         have := HB1.out.size
         simp [Value.ownBlock] at hat
         omega
       have HG := Lib.hid (((grown_alloc w1 _ _).trans (grown_alloc _ _ _)).trans hgrow)
       have HW := Lib.hid hown
       have hx2 := HX1.out.grown HG.out (HX1.out.ne_row HO1.out (by decide))
       have hx3 := hx2.cell 0 rfl
       have hx4 := hx2.frozen 0
       have HP0 := Lib.hid (show PI w.heap.size 0 iv T ws w (w2.setCell ⟨w.heap.size + 1 + 1, 0, none⟩ (.slice (some ⟨gr, 0, none⟩) 1 cr)) from PI.step (k := 0) HO1.out HX1.out ⟨_, HZ1.out, rfl⟩ HB1.out (by omega) hgr0 HG.out (by rw [show rowg (tkc iv T ws) (2 * 0 + 1) = (vtok (T 0)).toList from by simp [rowg, tkc]]; exact HW.out))
       have hp2 := (H0.out.keep HP0.out.2.2).1.cell 0 rfl
       clear hown hgrow hnil hat hx2 HG HW))
  clear HO1 HX1 HZ1 HB1 HT1 hbx hp1 hx3 hx4
  generalize w2.setCell _ _ = w3 at HP0 ⊢
  clear hp2
  obtain ⟨N, hN⟩ : ∃ N, N = n - 1 := ⟨_, rfl⟩
  rw [← hN]
  have HN := Lib.hid (show n = N + 1 by omega)
  have hNb : (N : Int) ≤ 65535 := by omega
  clear hN hct hnn hn h2
  generalize ct - 1 = ct1
  go_loopw [49] (fun i wr => ∃ k : Nat, k ≤ N ∧ i = .int .i64 k ∧ Hid (PI w.heap.size k iv T ws w wr)) (fun i _ => N - (intOf i).toNat)
  case atStart => exact ⟨0, Nat.zero_le _, rfl, HP0⟩
  case round =>
    clear HP0
    obtain ⟨k, hk, rfl, HT⟩ := hrel
    have HA := Lib.hid (H0.out.keep HT.out.2.2)
    by_cases hlt : k < N
    · have hx1 : wr.cell? ⟨gt, 2 + k * 2 + 1, none⟩ = some (.int .i32 0) := by
        have := own_cell (i := k + 1) (j := 1) (u := .int .i32 0) HA.out.2.1 (fun _ => rfl) (by have := HN.out; omega) (by simp [tc])
        rwa [show (k + 1) * 2 + 1 = 2 + k * 2 + 1 by omega] at this
      have q0 : (0 : Int) ≤ k := by omega
      have q1 : (k : Int) < N := by omega
      cases hiv : iv (k + 1)
      · have hx : wr.cell? ⟨gt, 2 + k * 2, none⟩ = some (.iface 43 (.pointer (some ⟨G (k + 1), 0, none⟩))) := by
          have := own_cell (i := k + 1) (j := 0) (u := .iface 43 (.pointer (some ⟨G (k + 1), 0, none⟩))) HA.out.2.1 (fun _ => rfl) (by have := HN.out; omega) (by simp [tc, ity, hiv])
          rwa [show (k + 1) * 2 + 0 = 2 + k * 2 by omega] at this
        have hta := fun w => ta_val (.pointer (some ⟨G (k + 1), 0, none⟩)) w
        have hv := HA.out.2.2 (k + 1) (by have := HN.out; omega)
        rw [hiv] at hv
        have HV := Lib.hid (show Bk wr (G (k + 1)) 45 (vcells (T (k + 1))) from hv)
        have HIV := Lib.hid hiv
        clear hv hiv
        go_wp2_with fail
        refine (val_any _ (T (k + 1)) ws _ (HV.out.keep ((Below.refl _ _).alloc (Nat.le_refl _) _))).mono ?_
        rintro e w4 ⟨rfl, hb⟩
        have HT4 := Lib.hid ((HT.out.keep ((Below.refl _ _).alloc (Nat.le_refl _) _)).keep hb)
        have ht10 := alloc_cell (later hb (p := ⟨wr.heap.size, 1, none⟩) (v := .int .i32 0) (by simp))
        obtain ⟨⟨gr2, cr2, hX, hO, hne0⟩, hZ, hB⟩ := HT4.out
        have hbx := alloc_cell (hX.cell 0 rfl)
        obtain ⟨M, hM⟩ : ∃ M, M = 2 * k + 1 := ⟨_, rfl⟩
        rw [← hM] at hbx hX hO
        have HM := Lib.hid hM
        have HX := Lib.hid hX
        have HO := Lib.hid hO
        have HZ := Lib.hid hZ
        have HB := Lib.hid hB
        have hzlt := Lib.hid (show w.heap.size < w4.heap.size by obtain ⟨zs, hz, _⟩ := HZ.out; exact hz.lt)
        have HMb := Lib.hid (show (M : Int) ≤ 131071 by omega)
        clear hb hX hO hZ hB hM HT HA HV hx hx1 hta HT4
        go_wp2_with (first
          | (at_builtin
             refine wpList_append_own_at _ rfl (.tmp 91) (.tmp 97) _ rfl w.heap.size 38 i0 _ 7 40 Try.underlying41 HI.out.1 HI.out.2.1 HI.out.2.2.1 HI.out.2.2.2 rfl (by omega) (.slice (some ⟨gr2, 0, none⟩) M cr2) M _ (by rfl) ((HO.out.alloc _).alloc _) ⟨w4.heap.size + 1, 0, none⟩ 2 2 (opc false ws ++ (vtok (T (k + 1))).toList) (by rfl) (by rfl) (World.news_of_block (cs := #[.pointer none, .string mB, .int .i32 0, .int .u32 0, .int .u16 0, .int .u8 13, .int .u8 ws, .pointer none, .string (T (k + 1)), .int .i32 0, .int .u32 0, .int .u16 0, .int .u8 29, .int .u8 0]) (heap_alloc2_new w4 _ _)) (opc_one _ _ _) (by have := HMb.out; unfold maxLen; omega) (by have := HMb.out; omega) (by have := HB.out.size; simp; omega) ?_
             intro v2 w5 hown hgrow hnil hat
             obtain ⟨gr3, cr3, rfl, -, -⟩ := hown.form (by omega)
             have hgr3 : gr3 ≠ w.heap.size := by
               have := Nat.lt_of_lt_of_le hzlt.out (Nat.le_refl _)
               simp [Value.ownBlock] at hat
               omega
             have hG := ((grown_alloc w4 _ _).trans (grown_alloc _ _ _)).trans hgrow
             have hx2 := HX.out.grown hG (HX.out.ne_row HO.out (by decide))
             have hx3 := hx2.cell 0 rfl
             have hx4 := hx2.frozen 0
             have HP : Hid (PI w.heap.size (k + 1) iv T ws w (w5.setCell ⟨w.heap.size + 1 + 1, 0, none⟩ (.slice (some ⟨gr3, 0, none⟩) (M + 2) cr3))) := by
               have e1 : M + 2 = 2 * (k + 1) + 1 := by have := HM.out; omega
               rw [e1] at hown ⊢
               obtain ⟨zs, hz, hzs⟩ := HZ.out
               refine PI.step (k := k + 1) HO.out HX.out ⟨zs, hz, hzs⟩ HB.out hne0 hgr3 hG ?_
               · rw [show 2 * (k + 1) + 1 = 2 * k + 3 by omega, tkc_two, HIV.out, ← show 2 * k + 1 + 2 = 2 * k + 3 by omega]
                 have := hown
                 rw [HM.out] at this
                 exact this
             clear hown hgrow hnil hat hx2 hG))
        exact ⟨⟨k + 1, by omega, by go_num, HP⟩, by simp [intOf]; omega⟩
      · have hx : wr.cell? ⟨gt, 2 + k * 2, none⟩ = some (.iface 42 (.pointer (some ⟨G (k + 1), 0, none⟩))) := by
          have := own_cell (i := k + 1) (j := 0) (u := .iface 42 (.pointer (some ⟨G (k + 1), 0, none⟩))) HA.out.2.1 (fun _ => rfl) (by have := HN.out; omega) (by simp [tc, ity, hiv])
          rwa [show (k + 1) * 2 + 0 = 2 + k * 2 by omega] at this
        have hta := fun w => ta_inv (.pointer (some ⟨G (k + 1), 0, none⟩)) w
        have hv := HA.out.2.2 (k + 1) (by have := HN.out; omega)
        rw [hiv] at hv
        have HV := Lib.hid (show Bk wr (H (k + 1)) 45 (vcells (T (k + 1))) from hv.2)
        have hg0 := alloc_cell (Bk.cell hv.1 0 rfl)
        have HIV := Lib.hid hiv
        clear hv hiv
        go_wp2_with fail
        refine (val_any _ (T (k + 1)) ws _ (HV.out.keep ((Below.refl _ _).alloc (Nat.le_refl _) _))).mono ?_
        rintro e w4 ⟨rfl, hb⟩
        have HT4 := Lib.hid ((HT.out.keep ((Below.refl _ _).alloc (Nat.le_refl _) _)).keep hb)
        have ht10 := alloc_cell (later hb (p := ⟨wr.heap.size, 1, none⟩) (v := .int .i32 0) (by simp))
        obtain ⟨⟨gr2, cr2, hX, hO, hne0⟩, hZ, hB⟩ := HT4.out
        have hbx := alloc_cell (hX.cell 0 rfl)
        obtain ⟨M, hM⟩ : ∃ M, M = 2 * k + 1 := ⟨_, rfl⟩
        rw [← hM] at hbx hX hO
        have HM := Lib.hid hM
        have HX := Lib.hid hX
        have HO := Lib.hid hO
        have HZ := Lib.hid hZ
        have HB := Lib.hid hB
        have hzlt := Lib.hid (show w.heap.size < w4.heap.size by obtain ⟨zs, hz, _⟩ := HZ.out; exact hz.lt)
        have HMb := Lib.hid (show (M : Int) ≤ 131071 by omega)
        clear hb hX hO hZ hB hM HT HA HV hx hx1 hta HT4 hg0
        go_wp2_with (first
          | (at_builtin
             refine wpList_append_own_at _ rfl (.tmp 73) (.tmp 79) _ rfl w.heap.size 38 i0 _ 7 40 Try.underlying41 HI.out.1 HI.out.2.1 HI.out.2.2.1 HI.out.2.2.2 rfl (by omega) (.slice (some ⟨gr2, 0, none⟩) M cr2) M _ (by rfl) ((HO.out.alloc _).alloc _) ⟨w4.heap.size + 1, 0, none⟩ 2 2 (opc true ws ++ (vtok (T (k + 1))).toList) (by rfl) (by rfl) (World.news_of_block (cs := #[.pointer none, .string sB, .int .i32 0, .int .u32 0, .int .u16 0, .int .u8 24, .int .u8 ws, .pointer none, .string (T (k + 1)), .int .i32 0, .int .u32 0, .int .u16 0, .int .u8 29, .int .u8 0]) (heap_alloc2_new w4 _ _)) (opc_one _ _ _) (by have := HMb.out; unfold maxLen; omega) (by have := HMb.out; omega) (by have := HB.out.size; simp; omega) ?_
             intro v2 w5 hown hgrow hnil hat
             obtain ⟨gr3, cr3, rfl, -, -⟩ := hown.form (by omega)
             have hgr3 : gr3 ≠ w.heap.size := by
               have := Nat.lt_of_lt_of_le hzlt.out (Nat.le_refl _)
               simp [Value.ownBlock] at hat
               omega
             have hG := ((grown_alloc w4 _ _).trans (grown_alloc _ _ _)).trans hgrow
             have hx2 := HX.out.grown hG (HX.out.ne_row HO.out (by decide))
             have hx3 := hx2.cell 0 rfl
             have hx4 := hx2.frozen 0
             have HP : Hid (PI w.heap.size (k + 1) iv T ws w (w5.setCell ⟨w.heap.size + 1 + 1, 0, none⟩ (.slice (some ⟨gr3, 0, none⟩) (M + 2) cr3))) := by
               have e1 : M + 2 = 2 * (k + 1) + 1 := by have := HM.out; omega
               rw [e1] at hown ⊢
               obtain ⟨zs, hz, hzs⟩ := HZ.out
               refine PI.step (k := k + 1) HO.out HX.out ⟨zs, hz, hzs⟩ HB.out hne0 hgr3 hG ?_
               · rw [show 2 * (k + 1) + 1 = 2 * k + 3 by omega, tkc_two, HIV.out, ← show 2 * k + 1 + 2 = 2 * k + 3 by omega]
                 have := hown
                 rw [HM.out] at this
                 exact this
             clear hown hgrow hnil hat hx2 hG))
        exact ⟨⟨k + 1, by omega, by go_num, HP⟩, by simp [intOf]; omega⟩
    · have hkN : n = k + 1 := by have := HN.out; omega
      have q1 : (N : Int) ≤ k := by omega
      have q2 : (k : Int) ≤ 65535 := by omega
      have q3 : (0 : Int) < 2 * (k : Int) + 1 := by omega
      obtain ⟨⟨gr2, cr2, hX, hO, hne0⟩, ⟨zs, hZ, hzs⟩, hB⟩ := HT.out
      have hbx := hX.cell 0 rfl
      have htk : wr.cell? ⟨gr2, 2, none⟩ = some (.int .i32 0) := own_cell (i := 0) (j := 2) hO (tkc_len iv T ws) (by omega) (by simp [tkc])
      obtain ⟨du, hu, hu2⟩ := tyTok
      have HX := Lib.hid hX
      have HO := Lib.hid hO
      have HZ := Lib.hid (hZ.there_ (n := 7) hzs.symm)
      have HB := Lib.hid hB
      have HE := Lib.hid (show 2 * n - 1 = 2 * k + 1 by omega)
      have HF := Lib.hid (And.intro hne0 hkN)
      clear hX hO hZ hB HT HA hlt hk hne0 hkN hu
      go_wp2_with (refine wpList_store_mid rfl 38 _ _ rfl w.heap.size 0 #[.pointer (some ⟨w.heap.size + 1 + 1, 0, none⟩), .string ⟨#[40]⟩, .int .i32 0, .int .u32 0, .int .u16 0, .int .u8 33, .int .u8 0] rfl rfl HZ.out (by kernel_rfl) (by simp [Value.oneCell']) ?_)
      have HR := Lib.hid (World.rangeAt_setCells_same wr w.heap.size 0 [.pointer (some ⟨w.heap.size + 1 + 1, 0, none⟩), .string ⟨#[40]⟩, .int .i32 0, .int .u32 0, .int .u16 0, .int .u8 33, .int .u8 0] HZ.out)
      obtain ⟨du, hu, hu2⟩ := tyTok
      refine bodyPost_ret (results_cell_mid2 rfl _ _ w.heap.size 0 _ du rfl HR.out hu hu2 (by kernel_rfl)) rfl ⟨w.heap.size + 1 + 1, gr2, cr2, rfl, ?_, ?_, below_setCells (Nat.le_refl _) _ _ HB.out⟩
      · rw [HE.out]
        exact HX.out.fars (by omega) _ _
      · rw [HE.out]
        exact own_fars (by simp [Value.ownBlock]; exact HF.out.1) _ _ HO.out
end Go.Proofs.Ytbjcolglkegicaa.Pd
