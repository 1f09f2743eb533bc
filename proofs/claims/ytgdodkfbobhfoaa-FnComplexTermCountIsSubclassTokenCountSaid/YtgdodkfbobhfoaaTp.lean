/-
  zzParseList builds a tree that counts what was read.
-/
import Derived.Test.YtgdodkfbobhfoaaTs
import Derived.Deep.LoopGhost
import Derived.BigFrame
import Derived.Deep.Cut
import Derived.Great.BuildSlice
import Derived.KernelRfl
namespace Go.Proofs.Ytgdodkfbobhfoaa.Tr
open Go.ChangeShapes Go.WideShapes Go.ChangeAt Go.RowKit Rg
set_option linter.unusedVariables false
theorem infoSub : (Try.prog.info? 41).map (fun i => (i.zero, i.size, i.bytes)) = some (some (.agg #[.nilIface, .int .i32 0, .int .i32 0]), 3, 24) := by kernel_rfl
theorem infoCmp : (Try.prog.info? 49).map (fun i => (i.zero, i.size, i.bytes)) = some (some (.agg #[.pointer none, .slice none 0 0, .slice none 0 0, .int .i32 0, .int .u8 0, .bool false]), 6, 72) := by kernel_rfl
theorem fill_cmp (aS : Option Addr) (mS cS : Nat) (s : Nat) (hs : s = 6) : Instr.fill (fun i => some (i * s, s)) ((Array.range (1 * s)).map ((Value.agg #[.pointer none, .slice none 0 0, .slice none 0 0, .int .i32 0, .int .u8 0, .bool false]).cells[· % (Value.agg #[.pointer none, .slice none 0 0, .slice none 0 0, .int .i32 0, .int .u8 0, .bool false]).cells.size]!)) [(0, Value.agg #[.pointer none, .slice aS mS cS, .slice none 0 0, .int .i32 0, .int .u8 0, .bool false])] = some #[.pointer none, .slice aS mS cS, .slice none 0 0, .int .i32 0, .int .u8 0, .bool false] := by
  subst hs; kernel_rfl
theorem bs_cmp (aS : Option Addr) (mS cS : Nat) (w : World) : (Instr.buildSlice 32 1 #[(0, .agg #[.pointer none, .slice aS mS cS, .slice none 0 0, .int .i32 0, .int .u8 0, .bool false])]).run Try.prog w = .ok (.slice (some ⟨w.heap.size, 0, none⟩) 1 1) (w.alloc (.cells #[.pointer none, .slice aS mS cS, .slice none 0 0, .int .i32 0, .int .u8 0, .bool false] 49)) := by
  obtain ⟨i0, hi, hz0, hz1, hz2⟩ := info_parts infoCmp
  have h := fill_cmp aS mS cS i0.size hz1
  exact run_buildSlice w 32 49 1 _ _ i0 _ Try.underlying32 hi hz0 (by rw [hz1]; decide) (by rw [hz1]; decide) h
theorem wpl_bs1 {P : Program} {ops : Array Oper} {rest : List Oper} {o : Oper} {a : Act} {w : World} {Q : Exit → Act → World → Prop} (hg : o.guard = none) (t : TypeId) (x : Operand) (ho : o.op = .buildSlice t 1 #[(0, x)])
    (v r : Value) (W : World) (hx : a.eval x = v) (hrun : (Instr.buildSlice t 1 #[(0, v)]).run P w = .ok r W) (h : wpList P ops Q rest (a.put o.dst r) W) : wpList P ops Q (o :: rest) a w := by
  refine wpList_plain hg fun _ hK => ?_
  unfold Oper.wp execOp
  simp only [ho, Sem.run_bind, List.map_toArray, List.map_cons, List.map_nil, hx, hrun, Result.andThen_ok]
  exact hK _ _ h
theorem infoCpl : (Try.prog.info? 51).map (fun i => (i.zero, i.size, i.bytes)) = some (some (.agg #[.slice none 0 0]), 1, 24) := by kernel_rfl
theorem fill_cpl (aS : Option Addr) (mS cS : Nat) (s : Nat) (hs : s = 1) : Instr.fill (fun i => some (i * s, s)) ((Array.range (1 * s)).map ((Value.agg #[.slice none 0 0]).cells[· % (Value.agg #[.slice none 0 0]).cells.size]!)) [(0, Value.agg #[.slice aS mS cS])] = some #[.slice aS mS cS] := by
  subst hs; kernel_rfl
theorem bs_cpl (aS : Option Addr) (mS cS : Nat) (w : World) : (Instr.buildSlice 25 1 #[(0, .agg #[.slice aS mS cS])]).run Try.prog w = .ok (.slice (some ⟨w.heap.size, 0, none⟩) 1 1) (w.alloc (.cells #[.slice aS mS cS] 51)) := by
  obtain ⟨i0, hi, hz0, hz1, hz2⟩ := info_parts infoCpl
  have h := fill_cpl aS mS cS i0.size hz1
  exact run_buildSlice w 25 51 1 _ _ i0 _ Try.underlying25 hi hz0 (by rw [hz1]; decide) (by rw [hz1]; decide) h
theorem ST.lt {ov : Value} {Z : Nat → Int} {p i0 M k q : Nat} {vL vC vS : Value} {w0 w : World} (h : ST ov Z p i0 M k q vL vC vS w0 w) : ∀ g, (vL.ownBlock = some g ∨ vC.ownBlock = some g ∨ vS.ownBlock = some g) → g < w.heap.size := by
  obtain ⟨X, nL, cL, nC, cC, nS, cS, xL, xC, xS, ⟨_, _, _, h1, _⟩, ⟨_, _, _, h2, _⟩, ⟨_, _, _, _, _, _, h3, _⟩, _⟩ := h
  rintro g (e | e | e)
  · exact (h1.lt g e).2
  · exact (h2.lt g e).2
  · exact (h3.lt g e).2
set_option maxRecDepth 100000 in
set_option maxHeartbeats 1000000 in
theorem leaf_any (w : World) : Calls Try.prog 9 #[] w fun e w' => e = .returned (.agg #[.iface 52 (.pointer (some ⟨w.heap.size + 1, 0, none⟩)), .int .i32 0, .int .i32 0]) ∧ Below w.heap.size w w' := by
  go_enter Try.func9, Try.ntmps9
  go_wp2
  refine bodyPost_ret (v := .agg #[.iface 52 (.pointer (some ⟨w.heap.size + 1, 0, none⟩)), .int .i32 0, .int .i32 0]) (by simp [results, Try.results9, go_sem]) rfl ⟨rfl, ((Below.refl _ _).alloc (Nat.le_refl _) _).alloc (by simp) _⟩
set_option maxRecDepth 100000 in
set_option maxHeartbeats 1000000 in
theorem is_any (a : Option Addr) (n c : Nat) (w : World) : Calls Try.prog 10 #[.slice a n c] w fun e w' => e = .returned (.agg #[.iface 56 (.pointer (some ⟨w.heap.size + 1, 0, none⟩)), .int .i32 0, .int .i32 0]) ∧ w'.cell? ⟨w.heap.size + 1, 0, none⟩ = some (.slice a n c) ∧ w.heap.size + 1 < w'.heap.size ∧ Below w.heap.size w w' := by
  go_enter Try.func10, Try.ntmps10
  go_wp2
  refine bodyPost_ret (v := .agg #[.iface 56 (.pointer (some ⟨w.heap.size + 1, 0, none⟩)), .int .i32 0, .int .i32 0]) (by simp [results, Try.results10, go_sem]) rfl ⟨rfl, by go_simp, by simp, ((Below.refl _ _).alloc (Nat.le_refl _) _).alloc (by simp) _⟩
theorem subc_leaf (h : Nat) : ∀ u ∈ subc (leafD h), u.oneCell' = true := by
  intro u hu
  simp [subc, leafD] at hu
  rcases hu with rfl | rfl <;> rfl
theorem subc_nest (h : Nat) : ∀ u ∈ subc (nestD h), u.oneCell' = true := by
  intro u hu
  simp [subc, nestD] at hu
  rcases hu with rfl | rfl <;> rfl
theorem compc_one (a : Option Addr) (m c : Nat) : ∀ u ∈ compc (.slice a m c), u.oneCell' = true := by
  intro u hu
  simp [compc] at hu
  rcases hu with rfl | rfl | rfl | rfl | rfl | rfl <;> rfl
theorem slice_one (a : Option Addr) (m c : Nat) : ∀ u ∈ [Value.slice a m c], u.oneCell' = true := by
  intro u hu
  simp at hu
  subst hu; rfl
theorem ST.grown0 {ov : Value} {Z : Nat → Int} {p i0 M k q : Nat} {vL vC vS : Value} {w0 w : World} (h : ST ov Z p i0 M k q vL vC vS w0 w) : w0.grownBy w (some p) := by
  obtain ⟨X, nL, cL, nC, cC, nS, cS, xL, xC, xS, _, _, _, _, _, _, h7, _⟩ := h; exact h7
/-- what zzParseList answers -/
def Prs (ov : Value) (Z : Nat → Int) (p n d i : Nat) (w : World) (e : Ending) (w' : World) : Prop :=
  ∃ (v : Value) (c i2 : Nat) (X : Nat → Prop), e = .returned v ∧ i ≤ i2 ∧ i2 ≤ n ∧ Bk w' p 29 #[ov, .int .i64 i2] ∧ TT w' X 2 v c ∧ (∀ g, X g → w.heap.size ≤ g ∧ g < w'.heap.size) ∧ w.grownBy w' (some p) ∧ c + cntF Z i = cntF Z i2 ∧ (d = 0 → i2 = n)
theorem sl_grown {w w' : World} {a : Option Addr} {n : Nat} {X : Nat → Value} {p : Nat} (h : Sl w a n X) (hp : 0 < n → ∀ x, a = some x → x.block ≠ p) (hg : w.grownBy w' (some p)) : Sl w' a n X := by
  intro i hi
  obtain ⟨ab, ao, e, c⟩ := h i hi
  exact ⟨ab, ao, e, hg.cell c (by have := hp (by omega) _ e; simp; exact this)⟩
set_option maxRecDepth 100000 in
set_option maxHeartbeats 4000000 in
theorem parse_any (a : Option Addr) (n cn : Nat) (Z : Nat → Int) (p : Nat) (hn : (n : Int) ≤ 65536) (hZ : ∀ j, j < n → 0 ≤ Z j ∧ Z j ≤ 255) (hp : 0 < n → ∀ x, a = some x → x.block ≠ p) (m : Nat) :
    ∀ (d i : Nat) (w : World), n - i ≤ m → i ≤ n → d ≤ i → Sl w a n (fun j => .int .u8 (Z j)) → Bk w p 29 #[.slice a n cn, .int .i64 i] →
    Calls Try.prog 6 #[.pointer (some ⟨p, 0, none⟩), .int .i64 d] w (Prs (.slice a n cn) Z p n d i w) := by
  induction m using Nat.strongRecOn with
  | _ m ih =>
  intro d i w hm hi hd hs hb
  obtain ⟨i0, hi0, hz00, hz01, hz02⟩ := info_parts infoSub
  have HI0 := Lib.hid (And.intro hi0 (And.intro hz00 (And.intro hz01 hz02)))
  obtain ⟨i1, hi1, hz10, hz11, hz12⟩ := info_parts infoCmp
  have HI1 := Lib.hid (And.intro hi1 (And.intro hz10 (And.intro hz11 hz12)))
  obtain ⟨i2, hi2, hz20, hz21, hz22⟩ := info_parts infoCpl
  have HI2 := Lib.hid (And.intro hi2 (And.intro hz20 (And.intro hz21 hz22)))
  have IH := Lib.hid ih
  have HZ := Lib.hid hZ
  have HP := Lib.hid hp
  have HS := Lib.hid hs
  have HM := Lib.hid hm
  have HD := Lib.hid hd
  have hmk : ∀ W : World, (Instr.makeSlice 25 (.int .i64 0) (.int .i64 0)).run Try.prog W = .ok (.slice (some ⟨W.heap.size, 0, none⟩) 0 0) (W.alloc (.cells (madeCells #[.slice none 0 0] (0 * 1)) 51)) := fun W => by
    have := run_make_rowN (P := Try.prog) 25 51 i2 _ (by kernel_rfl) hi2 hz20 .i64 .i64 0 0 (Nat.le_refl _) (by omega) (by omega) W
    rw [hz21] at this
    exact this
  have HT0 := Lib.hid (show ST (.slice a n cn) Z p i 0 i i (.slice (some ⟨w.heap.size, 0, none⟩) 0 0) (.slice none 0 0) (.slice none 0 0) w (w.alloc (.cells (madeCells #[.slice none 0 0] (0 * 1)) 51)) from
    ⟨fun _ => False, 0, 0, 0, 0, 0, 0, [], [], [], ⟨fun _ => .nilIface, fun _ => 0, rfl, World.ownsRow_made w _ 0 (Nat.le_refl _) (by unfold maxLen; omega) (by simp [madeCells]), fun i hi => absurd hi (by omega), rfl, fun g _ h => h⟩, P1.nil _ _ _, P0.nil _ _ _, by omega, by omega, fun g h => h.elim, grown_alloc _ _ _, hb.keep ((Below.refl _ _).alloc (Nat.le_refl _) _), hb.lt⟩)
  clear ih hZ hp hs hm hd hi0 hz00 hz01 hz02 hi1 hz10 hz11 hz12 hi2 hz20 hz21 hz22 hb
  go_enter Try.func6, Try.ntmps6
  go_wp2_with fail
  simp only [Nat.zero_mul] at HT0
  generalize (World.alloc _ _ : World) = wA at HT0 ⊢
  clear hmk
  go_loopg [5, 6, 7] (n - i) (fun g vL vC vS wr => ∃ k M : Nat, i ≤ k ∧ k ≤ n ∧ M ≤ 3 * k ∧ Hid (g = n - k) ∧ Hid (ST (.slice a n cn) Z p i M k k vL vC vS w wr))
  case atStart => exact ⟨i, 0, Nat.le_refl _, hi, Nat.zero_le _, Lib.hid rfl, HT0⟩
  case round =>
    clear HT0
    obtain ⟨k, M, hik, hkn, hM, HG, HT⟩ := hrel
    obtain ⟨⟨aL, mL, cL, rfl⟩, ⟨aC, mC, cC, rfl⟩, aS, mS, cS, rfl⟩ := HT.out.forms
    have c0 := HT.out.cur.cell 0 rfl
    have c1 := HT.out.cur.cell 1 rfl
    have cf := HT.out.cur.frozen 1
    by_cases hlt : k < n
    · have hgr : w.grownBy wr (some p) := by obtain ⟨X, nL, cL, nC, cC, nS, cS, xL, xC, xS, _, _, _, _, _, _, h7, _⟩ := HT.out; exact h7
      obtain ⟨ab, ao, hx, d0⟩ := (sl_grown HS.out HP.out hgr) k hlt
      subst hx
      have hz := HZ.out k hlt
      have q0 : (0 : Int) ≤ k := by omega
      have q1 : (k : Int) < n := by omega
      have HT1 := Lib.hid (fun nq => show ST (.slice (some ⟨ab, ao, none⟩) n cn) Z p i M k (k + 1) (.slice aL mL cL) (.slice aC mC cC) (.slice aS mS cS) w ((wr.drewN nq).setCell ⟨p, 1, none⟩ (.int .i64 ((k : Int) + 1))) from (HT.out.keep (below_drewN (Below.refl _ _) nq)).tick (k + 1))
      have hdd : (d : Int) ≤ 65536 := by have := HD.out; omega
      have hMb : (M : Int) ≤ 200000 := by omega
      clear hgr HT
      have hr : Z k % 5 = 0 ∨ Z k % 5 = 1 ∨ Z k % 5 = 2 ∨ Z k % 5 = 3 ∨ Z k % 5 = 4 := by omega
      rcases hr with hr | hr | hr | hr | hr
      · as_aux_lemma =>
        have t0 : (Z k % 5 == 0) = true := by rw [hr]; rfl
        have t1 : (Z k % 5 == 1) = false := by rw [hr]; rfl
        have t2 : (Z k % 5 == 2) = false := by rw [hr]; rfl
        have t3 : (Z k % 5 == 3) = false := by rw [hr]; rfl
        have t4 : (Z k % 5 == 4) = false := by rw [hr]; rfl
        have HR := Lib.hid hr
        clear hr
        go_wp2_with fail
        go_quiet (fail)
        go_wp2_with fail
        go_quiet (fail)
        go_wp2_with fail
        generalize hwq : (World.setCell (World.drewN _ _) _ _ : World) = wq
        have HT2 := Lib.hid (show ST (.slice (some ⟨ab, ao, none⟩) n cn) Z p i M k (k + 1) (.slice aL mL cL) (.slice aC mC cC) (.slice aS mS cS) w wq from by rw [← hwq]; exact HT1.out _)
        clear hwq HT1 c0 c1 cf d0
        refine (leaf_any wq).mono ?_
        rintro e w2 ⟨rfl, hb⟩
        have HT3 := Lib.hid ((HT2.out.keep hb).keep ((Below.refl _ _).alloc (Nat.le_refl _) (.cells #[.iface 52 (.pointer (some ⟨wq.heap.size + 1, 0, none⟩)), .int .i32 0, .int .i32 0] 41)))
        clear hb HT2
        obtain ⟨nS, xS, hnS, oS, nxt⟩ := HT3.out.leaf (by have := HR.out; omega)
        have HO := Lib.hid oS
        have HX := Lib.hid nxt
        have HSZ := Lib.hid HT3.out.size
        clear oS nxt HT3
        go_wp2_with (first
          | (at_builtin
             refine wpList_append_own_at _ rfl (.tmp 41) (.tmp 43) _ rfl w.heap.size 41 i0 _ 3 24 Try.underlying33 HI0.out.1 HI0.out.2.1 HI0.out.2.2.1 HI0.out.2.2.2 rfl (by omega) (.slice aS mS cS) nS xS (by rfl) HO.out ⟨w2.heap.size, 0, none⟩ 1 1 (subc (leafD (wq.heap.size + 1))) (by rfl) (by rfl) (World.news_of_block (cs := #[.iface 52 (.pointer (some ⟨wq.heap.size + 1, 0, none⟩)), .int .i32 0, .int .i32 0]) (heap_alloc_new w2 _)) (subc_leaf _) (by unfold maxLen; omega) (by omega) HSZ.out ?_
             intro v2 w3 hown hgrow hnil hat
             have HN := Lib.hid (HX.out w3 v2 (wq.heap.size + 1) hgrow hown (hat.imp id fun e => ⟨_, e, Nat.le_refl _⟩))
             clear hown hgrow hnil hat HX HO HSZ))
        go_roundg (n - (k + 1))
        case measure => have := HG.out; omega
        case rel => exact ⟨k + 1, M + 1, by omega, by omega, by omega, Lib.hid rfl, HN⟩
      · as_aux_lemma =>
        have t0 : (Z k % 5 == 0) = false := by rw [hr]; rfl
        have t1 : (Z k % 5 == 1) = true := by rw [hr]; rfl
        have t2 : (Z k % 5 == 2) = false := by rw [hr]; rfl
        have t3 : (Z k % 5 == 3) = false := by rw [hr]; rfl
        have t4 : (Z k % 5 == 4) = false := by rw [hr]; rfl
        have HR := Lib.hid hr
        clear hr
        go_wp2_with fail
        go_quiet (fail)
        go_wp2_with fail
        go_quiet (fail)
        go_wp2_with fail
        generalize hwq : (World.setCell (World.drewN _ _) _ _ : World) = wq
        have HT2 := Lib.hid (show ST (.slice (some ⟨ab, ao, none⟩) n cn) Z p i M k (k + 1) (.slice aL mL cL) (.slice aC mC cC) (.slice aS mS cS) w wq from by rw [← hwq]; exact HT1.out _)
        clear hwq HT1 c0 c1 cf d0
        refine (show Calls Try.prog 6 #[.pointer (some ⟨p, 0, none⟩), .int .i64 ((d : Int) + 1)] wq (Prs (.slice (some ⟨ab, ao, none⟩) n cn) Z p n (d + 1) (k + 1) wq) from IH.out (n - (k + 1)) (by have := HM.out; omega) (d + 1) (k + 1) wq (Nat.le_refl _) (by omega) (by have := HD.out; omega) (sl_grown HS.out HP.out HT2.out.grown0) HT2.out.cur).mono ?_
        rintro e w2 ⟨v, c, k2, Xc, rfl, h1, h2, hbk, ht, hXc, hg, hcc, -⟩
        obtain ⟨av, nv, cv, rfl⟩ := ht.form
        have HT3 := Lib.hid (HT2.out.move hg hbk)
        have HLT := Lib.hid HT2.out.lt
        have HX := Lib.hid (And.intro ht (And.intro hXc hcc))
        have HZ2 := Lib.hid HT2.out.size
        clear hbk ht hXc hg hcc HT2
        go_wp2_with fail
        refine (is_any av nv cv w2).mono ?_
        rintro e w3 ⟨rfl, hcl, hlt3, hb⟩
        obtain ⟨nS, xS, hnS, oS, nxt⟩ := HT3.out.nest (h0 := w2.heap.size + 1) (w1 := w3.alloc (.cells #[.iface 56 (.pointer (some ⟨w2.heap.size + 1, 0, none⟩)), .int .i32 0, .int .i32 0] 41)) (by have := HR.out; omega) (hb.alloc hb.size _) HX.out.2.2 HX.out.1 (fun g hx => ⟨Nat.le_trans HZ2.out (HX.out.2.1 g hx).1, (HX.out.2.1 g hx).2⟩) (fun g e hx => by have := HLT.out g e; have := (HX.out.2.1 g hx).1; omega) ⟨by omega, by simp; omega⟩ (alloc_cell hcl _)
        have HO := Lib.hid oS
        have HXN := Lib.hid nxt
        have HSZ := Lib.hid (show w.heap.size ≤ w3.heap.size from Nat.le_trans HT3.out.size hb.size)
        clear oS nxt HT3 hcl hb
        go_wp2_with (first
          | (at_builtin
             refine wpList_append_own_at _ rfl (.tmp 51) (.tmp 54) _ rfl w.heap.size 41 i0 _ 3 24 Try.underlying33 HI0.out.1 HI0.out.2.1 HI0.out.2.2.1 HI0.out.2.2.2 rfl (by omega) (.slice aS mS cS) nS xS (by rfl) HO.out ⟨w3.heap.size, 0, none⟩ 1 1 (subc (nestD (w2.heap.size + 1))) (by rfl) (by rfl) (World.news_of_block (cs := #[.iface 56 (.pointer (some ⟨w2.heap.size + 1, 0, none⟩)), .int .i32 0, .int .i32 0]) (heap_alloc_new w3 _)) (subc_nest _) (by unfold maxLen; omega) (by omega) (by have := HSZ.out; simp; omega) ?_
             intro v2 w4 hown hgrow hnil hat
             have HN := Lib.hid (HXN.out w4 v2 hgrow hown (hat.imp id fun e => ⟨_, e, Nat.le_refl _⟩))
             clear hown hgrow hnil hat HXN HO HSZ))
        go_roundg (n - (k2))
        case measure => have := HG.out; omega
        case rel => exact ⟨k2, M + 1, by omega, by omega, by omega, Lib.hid rfl, HN⟩
      · as_aux_lemma =>
        have t0 : (Z k % 5 == 0) = false := by rw [hr]; rfl
        have t1 : (Z k % 5 == 1) = false := by rw [hr]; rfl
        have t2 : (Z k % 5 == 2) = true := by rw [hr]; rfl
        have t3 : (Z k % 5 == 3) = false := by rw [hr]; rfl
        have t4 : (Z k % 5 == 4) = false := by rw [hr]; rfl
        have HR := Lib.hid hr
        clear hr
        go_wp2_with fail
        go_quiet (fail)
        go_wp2_with fail
        go_quiet (fail)
        go_upto_region 7 with (fail)
        generalize hwq : (World.setCell (World.drewN _ _) _ _ : World) = wq
        have HTq := Lib.hid (show ST (.slice (some ⟨ab, ao, none⟩) n cn) Z p i M k (k + 1) (.slice aL mL cL) (.slice aC mC cC) (.slice aS mS cS) w wq from by rw [← hwq]; exact HT1.out _)
        clear hwq HT1 c0 c1 cf d0
        obtain ⟨nC, xC, hnC, oC, nxt⟩ := (HTq.out.keep ((Below.refl _ _).alloc (Nat.le_refl _) (.cells #[.pointer none, .slice aS mS cS, .slice none 0 0, .int .i32 0, .int .u8 0, .bool false] 49))).comp (by omega)
        have HOC := Lib.hid oC
        have HXC := Lib.hid nxt
        have HSC := Lib.hid (HTq.out.keep ((Below.refl _ _).alloc (Nat.le_refl _) (.cells #[.pointer none, .slice aS mS cS, .slice none 0 0, .int .i32 0, .int .u8 0, .bool false] 49))).size
        clear oC nxt HTq
        go_wp2_with (first
          | (at_builtin
             refine wpList_append_own_at _ rfl (.tmp 66) (.tmp 69) _ rfl w.heap.size 49 i1 _ 6 72 Try.underlying32 HI1.out.1 HI1.out.2.1 HI1.out.2.2.1 HI1.out.2.2.2 rfl (by omega) (.slice aC mC cC) nC xC (by rfl) HOC.out ⟨wq.heap.size, 0, none⟩ 1 1 (compc (.slice aS mS cS)) (by rfl) (by rfl) (World.news_of_block (cs := #[.pointer none, .slice aS mS cS, .slice none 0 0, .int .i32 0, .int .u8 0, .bool false]) (heap_alloc_new wq _)) (compc_one _ _ _) (by unfold maxLen; omega) (by omega) HSC.out ?_
             intro v2 w2 hown hgrow hnil hat
             obtain ⟨g2, cap2, rfl, -, -⟩ := hown.form (by omega)
             have HN0 := Lib.hid (HXC.out w2 (.slice (some ⟨g2, 0, none⟩) (nC + 1) cap2) hgrow hown (hat.imp id fun e => ⟨_, e, Nat.le_refl _⟩))
             clear hown hgrow hnil hat HOC HXC HSC)
          | (refine wpl_bs1 rfl 32 (.tmp 68) rfl _ _ _ (by rfl) (bs_cmp aS mS cS wq) ?_))
        have HN := Lib.hid (HN0.out.skip (by have := HR.out; omega))
        clear HN0
        go_roundg (n - (k + 1))
        case measure => have := HG.out; omega
        case rel => exact ⟨k + 1, M + 1, by omega, by omega, by omega, Lib.hid rfl, HN⟩
      · as_aux_lemma =>
        have t0 : (Z k % 5 == 0) = false := by rw [hr]; rfl
        have t1 : (Z k % 5 == 1) = false := by rw [hr]; rfl
        have t2 : (Z k % 5 == 2) = false := by rw [hr]; rfl
        have t3 : (Z k % 5 == 3) = true := by rw [hr]; rfl
        have t4 : (Z k % 5 == 4) = false := by rw [hr]; rfl
        have HR := Lib.hid hr
        clear hr
        go_wp2_with fail
        go_quiet (fail)
        go_wp2_with fail
        go_quiet (fail)
        go_upto_region 7 with (fail)
        generalize hwq : (World.setCell (World.drewN _ _) _ _ : World) = wq
        have HTq := Lib.hid (show ST (.slice (some ⟨ab, ao, none⟩) n cn) Z p i M k (k + 1) (.slice aL mL cL) (.slice aC mC cC) (.slice aS mS cS) w wq from by rw [← hwq]; exact HT1.out _)
        clear hwq HT1 c0 c1 cf d0
        obtain ⟨nC, xC, hnC, oC, nxt⟩ := (HTq.out.keep ((Below.refl _ _).alloc (Nat.le_refl _) (.cells #[.pointer none, .slice aS mS cS, .slice none 0 0, .int .i32 0, .int .u8 0, .bool false] 49))).comp (by omega)
        have HOC := Lib.hid oC
        have HXC := Lib.hid nxt
        have HSC := Lib.hid (HTq.out.keep ((Below.refl _ _).alloc (Nat.le_refl _) (.cells #[.pointer none, .slice aS mS cS, .slice none 0 0, .int .i32 0, .int .u8 0, .bool false] 49))).size
        clear oC nxt HTq
        go_wp2_with (first
          | (at_builtin
             refine wpList_append_own_at _ rfl (.tmp 73) (.tmp 76) _ rfl w.heap.size 49 i1 _ 6 72 Try.underlying32 HI1.out.1 HI1.out.2.1 HI1.out.2.2.1 HI1.out.2.2.2 rfl (by omega) (.slice aC mC cC) nC xC (by rfl) HOC.out ⟨wq.heap.size, 0, none⟩ 1 1 (compc (.slice aS mS cS)) (by rfl) (by rfl) (World.news_of_block (cs := #[.pointer none, .slice aS mS cS, .slice none 0 0, .int .i32 0, .int .u8 0, .bool false]) (heap_alloc_new wq _)) (compc_one _ _ _) (by unfold maxLen; omega) (by omega) HSC.out ?_
             intro v2 w2 hown hgrow hnil hat
             obtain ⟨g2, cap2, rfl, -, -⟩ := hown.form (by omega)
             have HN0 := Lib.hid (HXC.out w2 (.slice (some ⟨g2, 0, none⟩) (nC + 1) cap2) hgrow hown (hat.imp id fun e => ⟨_, e, Nat.le_refl _⟩))
             clear hown hgrow hnil hat HOC HXC HSC
             obtain ⟨nL, xL, hnL, oL, nxtL⟩ := (HN0.out.keep ((Below.refl _ _).alloc (Nat.le_refl _) (.cells #[.slice (some ⟨g2, 0, none⟩) (nC + 1) cap2] 51))).cmpl (by omega)
             have HOL := Lib.hid oL
             have HXL := Lib.hid nxtL
             have HSL := Lib.hid (HN0.out.keep ((Below.refl _ _).alloc (Nat.le_refl _) (.cells #[.slice (some ⟨g2, 0, none⟩) (nC + 1) cap2] 51))).size
             clear oL nxtL HN0)
          | (at_builtin
             refine wpList_append_own_at _ rfl (.tmp 78) (.tmp 81) _ rfl w.heap.size 51 i2 _ 1 24 Try.underlying25 HI2.out.1 HI2.out.2.1 HI2.out.2.2.1 HI2.out.2.2.2 rfl (by omega) (.slice aL mL cL) nL xL (by rfl) HOL.out ⟨w2.heap.size, 0, none⟩ 1 1 [.slice (some ⟨g2, 0, none⟩) (nC + 1) cap2] (by rfl) (by rfl) (World.news_of_block (cs := #[.slice (some ⟨g2, 0, none⟩) (nC + 1) cap2]) (heap_alloc_new w2 _)) (slice_one _ _ _) (by unfold maxLen; omega) (by omega) HSL.out ?_
             intro v3 w3 hown hgrow hnil hat
             obtain ⟨g3, cap3, rfl, -, -⟩ := hown.form (by omega)
             have HN1 := Lib.hid (HXL.out w3 (.slice (some ⟨g3, 0, none⟩) (nL + 1) cap3) hgrow hown (hat.imp id fun e => ⟨_, e, Nat.le_refl _⟩))
             clear hown hgrow hnil hat HOL HXL HSL)
          | (refine wpl_bs1 rfl 32 (.tmp 75) rfl _ _ _ (by rfl) (bs_cmp aS mS cS wq) ?_)
          | (refine wpl_bs1 rfl 25 (.tmp 80) rfl _ _ _ (by rfl) (bs_cpl (some ⟨g2, 0, none⟩) (nC + 1) cap2 w2) ?_))
        have HN := Lib.hid (HN1.out.skip (by have := HR.out; omega))
        clear HN1
        go_roundg (n - (k + 1))
        case measure => have := HG.out; omega
        case rel => exact ⟨k + 1, M + 1 + 1, by omega, by omega, by omega, Lib.hid rfl, HN⟩
      · by_cases hd0 : d = 0
        · as_aux_lemma =>
          have t0 : (Z k % 5 == 0) = false := by rw [hr]; rfl
          have t1 : (Z k % 5 == 1) = false := by rw [hr]; rfl
          have t2 : (Z k % 5 == 2) = false := by rw [hr]; rfl
          have t3 : (Z k % 5 == 3) = false := by rw [hr]; rfl
          have t4 : (Z k % 5 == 4) = true := by rw [hr]; rfl
          have HR := Lib.hid hr
          clear hr
          have t5 : ((d : Int) == 0) = true := by simp; omega
          clear hd0
          go_wp2_with fail
          go_quiet (fail)
          go_wp2_with fail
          go_quiet (fail)
          go_upto_region 7 with (fail)
          generalize hwq : (World.setCell (World.drewN _ _) _ _ : World) = wq
          have HTq := Lib.hid (show ST (.slice (some ⟨ab, ao, none⟩) n cn) Z p i M k (k + 1) (.slice aL mL cL) (.slice aC mC cC) (.slice aS mS cS) w wq from by rw [← hwq]; exact HT1.out _)
          clear hwq HT1 c0 c1 cf d0
          obtain ⟨nC, xC, hnC, oC, nxt⟩ := (HTq.out.keep ((Below.refl _ _).alloc (Nat.le_refl _) (.cells #[.pointer none, .slice aS mS cS, .slice none 0 0, .int .i32 0, .int .u8 0, .bool false] 49))).comp (by omega)
          have HOC := Lib.hid oC
          have HXC := Lib.hid nxt
          have HSC := Lib.hid (HTq.out.keep ((Below.refl _ _).alloc (Nat.le_refl _) (.cells #[.pointer none, .slice aS mS cS, .slice none 0 0, .int .i32 0, .int .u8 0, .bool false] 49))).size
          clear oC nxt HTq
          go_wp2_with (first
            | (at_builtin
               refine wpList_append_own_at _ rfl (.tmp 66) (.tmp 69) _ rfl w.heap.size 49 i1 _ 6 72 Try.underlying32 HI1.out.1 HI1.out.2.1 HI1.out.2.2.1 HI1.out.2.2.2 rfl (by omega) (.slice aC mC cC) nC xC (by rfl) HOC.out ⟨wq.heap.size, 0, none⟩ 1 1 (compc (.slice aS mS cS)) (by rfl) (by rfl) (World.news_of_block (cs := #[.pointer none, .slice aS mS cS, .slice none 0 0, .int .i32 0, .int .u8 0, .bool false]) (heap_alloc_new wq _)) (compc_one _ _ _) (by unfold maxLen; omega) (by omega) HSC.out ?_
               intro v2 w2 hown hgrow hnil hat
               obtain ⟨g2, cap2, rfl, -, -⟩ := hown.form (by omega)
               have HN0 := Lib.hid (HXC.out w2 (.slice (some ⟨g2, 0, none⟩) (nC + 1) cap2) hgrow hown (hat.imp id fun e => ⟨_, e, Nat.le_refl _⟩))
               clear hown hgrow hnil hat HOC HXC HSC)
            | (refine wpl_bs1 rfl 32 (.tmp 68) rfl _ _ _ (by rfl) (bs_cmp aS mS cS wq) ?_))
          have HN := Lib.hid (HN0.out.skip (by have := HR.out; omega))
          clear HN0
          go_roundg (n - (k + 1))
          case measure => have := HG.out; omega
          case rel => exact ⟨k + 1, M + 1, by omega, by omega, by omega, Lib.hid rfl, HN⟩
        · as_aux_lemma =>
          have t0 : (Z k % 5 == 0) = false := by rw [hr]; rfl
          have t1 : (Z k % 5 == 1) = false := by rw [hr]; rfl
          have t2 : (Z k % 5 == 2) = false := by rw [hr]; rfl
          have t3 : (Z k % 5 == 3) = false := by rw [hr]; rfl
          have t4 : (Z k % 5 == 4) = true := by rw [hr]; rfl
          have HR := Lib.hid hr
          clear hr
          have t5 : ((d : Int) == 0) = false := by simp; omega
          go_wp2_with fail
          go_quiet (fail)
          go_wp2_with fail
          go_quiet (fail)
          go_upto_region 7 with (fail)
          generalize hwq : (World.setCell (World.drewN _ _) _ _ : World) = wq
          have HTq := Lib.hid (show ST (.slice (some ⟨ab, ao, none⟩) n cn) Z p i M k (k + 1) (.slice aL mL cL) (.slice aC mC cC) (.slice aS mS cS) w wq from by rw [← hwq]; exact HT1.out _)
          clear hwq HT1 c0 c1 cf d0
          obtain ⟨nC, xC, hnC, oC, nxt⟩ := (HTq.out.keep ((Below.refl _ _).alloc (Nat.le_refl _) (.cells #[.pointer none, .slice aS mS cS, .slice none 0 0, .int .i32 0, .int .u8 0, .bool false] 49))).comp (by omega)
          have HOC := Lib.hid oC
          have HXC := Lib.hid nxt
          have HSC := Lib.hid (HTq.out.keep ((Below.refl _ _).alloc (Nat.le_refl _) (.cells #[.pointer none, .slice aS mS cS, .slice none 0 0, .int .i32 0, .int .u8 0, .bool false] 49))).size
          clear oC nxt HTq
          go_wp2_with (first
            | (at_builtin
               refine wpList_append_own_at _ rfl (.tmp 83) (.tmp 86) _ rfl w.heap.size 49 i1 _ 6 72 Try.underlying32 HI1.out.1 HI1.out.2.1 HI1.out.2.2.1 HI1.out.2.2.2 rfl (by omega) (.slice aC mC cC) nC xC (by rfl) HOC.out ⟨wq.heap.size, 0, none⟩ 1 1 (compc (.slice aS mS cS)) (by rfl) (by rfl) (World.news_of_block (cs := #[.pointer none, .slice aS mS cS, .slice none 0 0, .int .i32 0, .int .u8 0, .bool false]) (heap_alloc_new wq _)) (compc_one _ _ _) (by unfold maxLen; omega) (by omega) HSC.out ?_
               intro v2 w2 hown hgrow hnil hat
               obtain ⟨g2, cap2, rfl, -, -⟩ := hown.form (by omega)
               have HN0 := Lib.hid (HXC.out w2 (.slice (some ⟨g2, 0, none⟩) (nC + 1) cap2) hgrow hown (hat.imp id fun e => ⟨_, e, Nat.le_refl _⟩))
               clear hown hgrow hnil hat HOC HXC HSC
               obtain ⟨nL, xL, hnL, oL, nxtL⟩ := (HN0.out.keep ((Below.refl _ _).alloc (Nat.le_refl _) (.cells #[.slice (some ⟨g2, 0, none⟩) (nC + 1) cap2] 51))).cmpl (by omega)
               have HOL := Lib.hid oL
               have HXL := Lib.hid nxtL
               have HSL := Lib.hid (HN0.out.keep ((Below.refl _ _).alloc (Nat.le_refl _) (.cells #[.slice (some ⟨g2, 0, none⟩) (nC + 1) cap2] 51))).size
               clear oL nxtL HN0)
            | (at_builtin
               refine wpList_append_own_at _ rfl (.tmp 88) (.tmp 91) _ rfl w.heap.size 51 i2 _ 1 24 Try.underlying25 HI2.out.1 HI2.out.2.1 HI2.out.2.2.1 HI2.out.2.2.2 rfl (by omega) (.slice aL mL cL) nL xL (by rfl) HOL.out ⟨w2.heap.size, 0, none⟩ 1 1 [.slice (some ⟨g2, 0, none⟩) (nC + 1) cap2] (by rfl) (by rfl) (World.news_of_block (cs := #[.slice (some ⟨g2, 0, none⟩) (nC + 1) cap2]) (heap_alloc_new w2 _)) (slice_one _ _ _) (by unfold maxLen; omega) (by omega) HSL.out ?_
               intro v3 w3 hown hgrow hnil hat
               obtain ⟨g3, cap3, rfl, -, -⟩ := hown.form (by omega)
               have HN1 := Lib.hid (HXL.out w3 (.slice (some ⟨g3, 0, none⟩) (nL + 1) cap3) hgrow hown (hat.imp id fun e => ⟨_, e, Nat.le_refl _⟩))
               clear hown hgrow hnil hat HOL HXL HSL)
            | (refine wpl_bs1 rfl 32 (.tmp 85) rfl _ _ _ (by rfl) (bs_cmp aS mS cS wq) ?_)
            | (refine wpl_bs1 rfl 25 (.tmp 90) rfl _ _ _ (by rfl) (bs_cpl (some ⟨g2, 0, none⟩) (nC + 1) cap2 w2) ?_))
          have HN2 := HN1.out.skip (by have := HR.out; omega)
          obtain ⟨c, X, f1, f2, f3, f4, f5⟩ := HN2.done (by omega)
          go_ret
          exact ⟨_, c, k + 1, X, rfl, by omega, by omega, f5, f1, f3, f4, f2, fun e => absurd e hd0⟩
    · as_aux_lemma =>
      obtain rfl : k = n := by omega
      have hMb : (M : Int) ≤ 200000 := by omega
      go_wp2_with fail
      go_quiet (fail)
      have HTq := Lib.hid (HT.out.keep (below_drewN (Below.refl _ _) nq))
      clear HT c0 c1 cf
      generalize World.drewN _ _ = wd at *
      obtain ⟨nC, xC, hnC, oC, nxt⟩ := (HTq.out.keep ((Below.refl _ _).alloc (Nat.le_refl _) (.cells #[.pointer none, .slice aS mS cS, .slice none 0 0, .int .i32 0, .int .u8 0, .bool false] 49))).comp (by omega)
      have HOC := Lib.hid oC
      have HXC := Lib.hid nxt
      have HSC := Lib.hid (HTq.out.keep ((Below.refl _ _).alloc (Nat.le_refl _) (.cells #[.pointer none, .slice aS mS cS, .slice none 0 0, .int .i32 0, .int .u8 0, .bool false] 49))).size
      clear oC nxt HTq
      go_wp2_with (first
        | (at_builtin
           refine wpList_append_own_at _ rfl (.tmp 83) (.tmp 86) _ rfl w.heap.size 49 i1 _ 6 72 Try.underlying32 HI1.out.1 HI1.out.2.1 HI1.out.2.2.1 HI1.out.2.2.2 rfl (by omega) (.slice aC mC cC) nC xC (by rfl) HOC.out ⟨wd.heap.size, 0, none⟩ 1 1 (compc (.slice aS mS cS)) (by rfl) (by rfl) (World.news_of_block (cs := #[.pointer none, .slice aS mS cS, .slice none 0 0, .int .i32 0, .int .u8 0, .bool false]) (heap_alloc_new wd _)) (compc_one _ _ _) (by unfold maxLen; omega) (by omega) HSC.out ?_
           intro v2 w2 hown hgrow hnil hat
           obtain ⟨g2, cap2, rfl, -, -⟩ := hown.form (by omega)
           have HN0 := Lib.hid (HXC.out w2 (.slice (some ⟨g2, 0, none⟩) (nC + 1) cap2) hgrow hown (hat.imp id fun e => ⟨_, e, Nat.le_refl _⟩))
           clear hown hgrow hnil hat HOC HXC HSC
           obtain ⟨nL, xL, hnL, oL, nxtL⟩ := (HN0.out.keep ((Below.refl _ _).alloc (Nat.le_refl _) (.cells #[.slice (some ⟨g2, 0, none⟩) (nC + 1) cap2] 51))).cmpl (by omega)
           have HOL := Lib.hid oL
           have HXL := Lib.hid nxtL
           have HSL := Lib.hid (HN0.out.keep ((Below.refl _ _).alloc (Nat.le_refl _) (.cells #[.slice (some ⟨g2, 0, none⟩) (nC + 1) cap2] 51))).size
           clear oL nxtL HN0)
        | (at_builtin
           refine wpList_append_own_at _ rfl (.tmp 88) (.tmp 91) _ rfl w.heap.size 51 i2 _ 1 24 Try.underlying25 HI2.out.1 HI2.out.2.1 HI2.out.2.2.1 HI2.out.2.2.2 rfl (by omega) (.slice aL mL cL) nL xL (by rfl) HOL.out ⟨w2.heap.size, 0, none⟩ 1 1 [.slice (some ⟨g2, 0, none⟩) (nC + 1) cap2] (by rfl) (by rfl) (World.news_of_block (cs := #[.slice (some ⟨g2, 0, none⟩) (nC + 1) cap2]) (heap_alloc_new w2 _)) (slice_one _ _ _) (by unfold maxLen; omega) (by omega) HSL.out ?_
           intro v3 w3 hown hgrow hnil hat
           obtain ⟨g3, cap3, rfl, -, -⟩ := hown.form (by omega)
           have HN1 := Lib.hid (HXL.out w3 (.slice (some ⟨g3, 0, none⟩) (nL + 1) cap3) hgrow hown (hat.imp id fun e => ⟨_, e, Nat.le_refl _⟩))
           clear hown hgrow hnil hat HOL HXL HSL)
        | (refine wpl_bs1 rfl 32 (.tmp 85) rfl _ _ _ (by rfl) (bs_cmp aS mS cS wd) ?_)
        | (refine wpl_bs1 rfl 25 (.tmp 90) rfl _ _ _ (by rfl) (bs_cpl (some ⟨g2, 0, none⟩) (nC + 1) cap2 w2) ?_))
      obtain ⟨c, X, f1, f2, f3, f4, f5⟩ := HN1.out.done (by omega)
      go_ret
      exact ⟨_, c, k, X, rfl, by omega, by omega, f5, f1, f3, f4, f2, fun _ => rfl⟩
end Go.Proofs.Ytgdodkfbobhfoaa.Tr
