/-
  The walk through the flattening.
-/
import Derived.Test.YtbpnmiedomchpaaFs
namespace Go.Proofs.Ytbpnmiedomchpaa.Fg
open Go.ChangeShapes Go.WideShapes Go.ChangeAt Go.RowKit Rg
set_option linter.unusedVariables false
set_option linter.unusedSimpArgs false
theorem wpl_mk {P : Program} {ops : Array Oper} {rest : List Oper} {o : Oper} {a : Act} {w : World} {Q : Exit → Act → World → Prop} (hg : o.guard = none) (t : TypeId) (x y : Operand) (ho : o.op = .makeSlice t x y)
    (v1 v2 r : Value) (W : World) (hx : a.eval x = v1) (hy : a.eval y = v2) (hrun : (Instr.makeSlice t v1 v2).run P w = .ok r W) (h : wpList P ops Q rest (a.put o.dst r) W) : wpList P ops Q (o :: rest) a w := by
  refine wpList_plain hg fun _ hK => ?_
  unfold Oper.wp execOp
  simp only [ho, Sem.run_bind, hx, hy, hrun, Result.andThen_ok]
  exact hK _ _ h
def sla (gi c : Nat) : Option Addr := if c = 1 then some ⟨gi, 0, none⟩ else some ⟨gi, 6, none⟩
theorem sl_lo (gi n c : Nat) (hn : 0 < n) (hc : n ≤ c) (W : World) : (Instr.slice 38 (.slice (some ⟨gi, 0, none⟩) n c) (some (.int .i64 1)) none none).run Try.prog W = .ok (.slice (sla gi c) (n - 1) (c - 1)) W := by
  obtain ⟨i3, hi, -, hz1, -⟩ := info_parts infoCmp
  have h1 : (1 : Int) ≤ n := by omega
  unfold sla
  by_cases e : c = 1
  · simp [Instr.slice, run_underlying Try.underlying38, Instr.sliceBounds, Instr.sliceBound, asIntOf, sizeOf, typeInfo, hi, h1, e]
  · simp [Instr.slice, run_underlying Try.underlying38, Instr.sliceBounds, Instr.sliceBound, asIntOf, sizeOf, typeInfo, hi, h1, e, hz1, Addr.add]
theorem sl_hi (a : Option Addr) (n c m : Nat) (hc : m ≤ c) (W : World) : (Instr.slice 38 (.slice a n c) none (some (.int .i64 (m : Nat))) none).run Try.prog W = .ok (.slice a m c) W := by
  obtain ⟨i3, hi, -, hz1, -⟩ := info_parts infoCmp
  have h1 : (m : Int) ≤ c := by omega
  simp [Instr.slice, run_underlying Try.underlying38, Instr.sliceBounds, Instr.sliceBound, asIntOf, sizeOf, typeInfo, hi, h1, hz1, Addr.add]
  intro h
  omega
theorem fill_loc (v : Value) (s : Nat) (hs : s = 1) : Instr.fill (fun i => some (i * s, s)) ((Array.range (1 * s)).map ((Value.agg #[.int .i32 0]).cells[· % (Value.agg #[.int .i32 0]).cells.size]!)) [(0, Value.agg #[v])] = some #[v] := by
  subst hs; kernel_rfl
theorem bs_loc (z : Int) (w : World) : (Instr.buildSlice 31 1 #[(0, .agg #[.int .i32 z])]).run Try.prog w = .ok (.slice (some ⟨w.heap.size, 0, none⟩) 1 1) (w.alloc (.cells #[.int .i32 z] 33)) := by
  obtain ⟨i0, hi, hz0, hz1, hz2⟩ := info_parts infoLoc
  exact run_buildSlice w 31 33 1 _ _ i0 _ Try.underlying31 hi hz0 (by rw [hz1]; decide) (by rw [hz1]; decide) (fill_loc _ i0.size hz1)
theorem wpl_fld {P : Program} {ops : Array Oper} {rest : List Oper} {o : Oper} {a : Act} {w : World} {Q : Exit → Act → World → Prop} (hg : o.guard = none) (t : TypeId) (x : Operand) (i : Nat) (ho : o.op = .field t x i)
    (v r : Value) (hx : a.eval x = v) (hrun : (Instr.field t v i).run P w = .ok r w) (h : wpList P ops Q rest (a.put o.dst r) w) : wpList P ops Q (o :: rest) a w := by
  refine wpList_plain hg fun _ hK => ?_
  unfold Oper.wp execOp
  simp only [ho, Sem.run_bind, hx, hrun, Result.andThen_ok]
  exact hK _ _ h
theorem run_fld (a l : Int) (w : World) : (Instr.field 64 (.agg (rg2 a l).toArray) 0).run Try.prog w = .ok (.agg #[.int .i32 a]) w := by kernel_rfl
theorem step_le {c j : Nat} (h : c ≤ j * 2097152) : c ≤ (j + 1) * 2097152 := Nat.le_trans h (Nat.mul_le_mul_right _ (Nat.le_succ j))
theorem one_sbc {T : TypeId} {a : Option Addr} {u : Value} (h : u ∈ sbc (.iface T (.pointer a))) : u.oneCell' = true := by
  simp only [sbc, List.mem_cons, List.not_mem_nil, or_false] at h
  rcases h with rfl | rfl | rfl <;> rfl
set_option maxRecDepth 100000 in
set_option maxHeartbeats 16000000 in
theorem flat_lg (Q : Su → Prop) (zs : List Tc) (lo pp md nl : Nat) (lv v : Value) (cs : List Value) (M : List (Cp Su)) (w : World) (hS : SelT lo v M zs w) (hQ : MOK Q M) (hlg : lgM M = true) (hmd : w.cell? ⟨pp, 52, none⟩ = some (.int .u8 (md : Nat))) (hm : md ≠ 0)
    (hl : w.ownsRow 0 40 1 lv nl cs) (hn : nl ≤ 1048576) (hpp : pp < lo ∧ lo ≤ w.heap.size) (hlo : ∀ y, lv.ownBlock = some y → y < lo ∧ y ≠ pp) (hfl : w.cell? ⟨pp, 53, none⟩ = some (.bool false) ∧ w.frozen? ⟨pp, 53, none⟩ = false) :
    Calls Try.prog 18 #[.pointer (some ⟨pp, 0, none⟩), lv, .agg #[v]] w (fun e w' => FlB Q zs pp nl lv cs w e w') := by
  obtain ⟨va, vc, hve⟩ := own_slice hS.2.1
  obtain ⟨n, hnn⟩ : ∃ n, n = M.length := ⟨_, rfl⟩
  rw [← hnn] at hve
  subst hve
  obtain ⟨la, lc, rfl⟩ := own_slice hl
  obtain ⟨i1, hi, hz0, hz1, hz2⟩ := info_parts infoCpl
  have HK := Lib.hid (And.intro hi (And.intro hz0 (And.intro hz1 hz2)))
  clear hi hz0 hz1 hz2
  obtain ⟨i2, hi, hz0, hz1, hz2⟩ := info_parts infoSub
  have hmk : ∀ (W : World) (m : Nat), m ≤ 1048576 → (Instr.makeSlice 30 (.int .i64 0) (.int .i64 (m : Int))).run Try.prog W = .ok (.slice (some ⟨W.heap.size, 0, none⟩) 0 m) (W.alloc (.cells (madeCells #[.nilIface, .int .i32 0, .int .i32 0] (m * 3)) 119)) := fun W m hm => by
    have h := run_make_rowN (P := Try.prog) 30 119 i2 _ (by kernel_rfl) hi hz0 .i64 .i64 0 m (by omega) (by rw [hz2]; omega) (by omega) W
    rw [hz1] at h
    exact h
  have HMK := Lib.hid hmk
  have HK2 := Lib.hid (And.intro hi (And.intro hz0 (And.intro hz1 hz2)))
  clear hi hz0 hz1 hz2 hmk
  obtain ⟨i3, hi, hz0, hz1, hz2⟩ := info_parts infoCmp
  have HK3 := Lib.hid (And.intro hi (And.intro hz0 (And.intro hz1 hz2)))
  clear hi hz0 hz1 hz2
  obtain ⟨tX, hXx, hX2⟩ := tyCpl
  obtain ⟨tC, hC, hC2⟩ := tyCmp
  obtain ⟨tS, hS1, hS2⟩ := tySub
  have hv : CxV e1 (fun y => y < w.heap.size) w (.slice va n vc) M := hS.view (fun _ _ q => q)
  have hn4 : n ≤ 1048576 := by rw [hnn]; exact hQ.len
  have hbd : Bd M := ⟨by have := hQ.len; unfold big; omega, fun c hc => by have := (hQ.sub c hc).1; unfold big; omega⟩
  have HO := Lib.hid (And.intro hv (And.intro hbd (And.intro hlg hm)))
  have HS := Lib.hid (And.intro hS (And.intro hnn hQ))
  have HL := Lib.hid (And.intro hl (And.intro hpp (And.intro hlo hfl)))
  clear hS hbd hm hl hnn hv hlg hpp hlo hfl hQ
  go_enter Try.func18, Try.ntmps18
  go_upto_region 1 with fail
  have hb : Below w.heap.size w (w.alloc (.cells #[.slice va n vc] 40)) := (Below.refl _ _).alloc (Nat.le_refl _) _
  have hr := rg_new w #[.slice va n vc] 40
  have ht := th_new w #[.slice va n vc] 40 (n := 1) rfl
  have hz1 : (w.alloc (.cells #[.slice va n vc] 40)).heap.size = w.heap.size + 1 := World.size_alloc _ _
  generalize w.alloc _ = w1 at *
  obtain ⟨b5, hb5⟩ : ∃ b, b = w.heap.size := ⟨_, rfl⟩
  rw [← hb5] at hr ht ⊢
  have H5 := Lib.hid (And.intro hr (And.intro hb (And.intro hb5 (And.intro hz1 ht))))
  have c5 := hr 0 _ rfl
  simp only [Nat.zero_add] at c5
  have hmd1 := later hb hmd
  clear hr hb hb5 hmd hz1 ht
  go_cut [27] (fun x wx => x = .bool true ∧ Hid (Below w1.heap.size w1 wx))
  case first =>
    as_aux_lemma =>
    have hz2 : ((md : Int) == 0) = false := beq_eq_false_iff_ne.2 (by have := HO.out.2.2.2; omega)
    have hz3 : ¬ md = 0 := HO.out.2.2.2
    have HCON := Lib.hid (con_any (fun y => y < w.heap.size) (.slice va n vc) M w1 (fun b hb => Nat.lt_of_lt_of_le hb H5.out.2.1.size) (CxV.to loc1 HO.out.1 (To.below (fun _ q => q) H5.out.2.1)) HO.out.2.1)
    go_wp2_with fail
    refine HCON.out.mono ?_
    rintro e w2 ⟨rfl, hb2⟩
    have HB := Lib.hid hb2
    clear hb2
    rw [HO.out.2.2.1]
    go_wp2_with fail
    go_meet
    exact ⟨by rw [show ((md : Int) != 0) = true by unfold bne; rw [hz2]; rfl], HB⟩
  case rest =>
  obtain ⟨rfl, HB⟩ := hcut
  obtain ⟨w2, hw2⟩ : ∃ x, x = wc := ⟨_, rfl⟩
  subst hw2
  obtain ⟨D0, hD0⟩ : ∃ x, x = w.heap.size := ⟨_, rfl⟩
  have HC := Lib.hid (show Cx Q lo (.slice va n vc) M zs D0 w w1 from ⟨HS.out.1, HS.out.2.2, hD0.symm, H5.out.2.1, by rw [hD0]; exact H5.out.2.2.2.1⟩)
  have hr2 := rg_keep HB.out H5.out.1
  have c6 := hr2 0 _ rfl
  simp only [Nat.zero_add] at c6
  have HST := Lib.hid (show OutS Q zs M D0 w1 0 none 0 0 w2 from ⟨[], 0, rfl, ⟨Bld.nil _, Fr.new HB.out, (fun c hc => by cases hc), HC.out.sz⟩, fun _ _ _ _ _ => Nat.zero_le _, Nat.zero_le _⟩)
  have HD := Lib.hid (show b5 = D0 from H5.out.2.2.1.trans hD0.symm)
  have HMN := Lib.hid HS.out.2.1
  clear hr2 c5 hmd1 HB hD0
  as_aux_lemma =>
  go_upto_block 0 with fail
  clear c6
  refine wp_block ?_
  go_loopw [7, 31] (fun rv iv wr => ∃ (k : Nat) (ra : Option Addr) (rn rc : Nat), k ≤ n ∧ rv = .slice ra rn rc ∧ iv = .int .i64 k ∧ Hid (OutS Q zs M D0 w1 k ra rn rc wr)) (fun _ iv _ => n - (intOf iv).toNat)
  case atStart => exact ⟨0, none, 0, 0, Nat.zero_le _, rfl, rfl, HST⟩
  case round =>
    clear HST
    obtain ⟨k, ra, rn, rc, hk, rfl, rfl, HR⟩ := hrel
    by_cases hlt : k < n
    · skip
      -- <P1
      as_aux_lemma =>
      have q0 : (0 : Int) ≤ k := by omega
      have q1 : (k : Int) < n := by omega
      have kL : k < M.length := by have := HMN.out; omega
      have kZ : k < zs.length := by have := HS.out.1.1; omega
      have hcp := HC.out.cp kL kZ
      obtain ⟨pa, sa, sc, fa, fc, hxf⟩ := hcp.form
      obtain ⟨L0, th0, hrn, hrs, hthr, hlb⟩ := HR.out
      obtain ⟨gv, vc', hvv, hrow2⟩ := HC.out.row hrs.kp kL kZ
      simp only [Value.slice.injEq] at hvv
      obtain ⟨rfl, hz, rfl⟩ := hvv
      clear hz
      rw [hxf] at hrow2
      obtain ⟨m, hm⟩ : ∃ m, m = M[k].subs.length := ⟨_, rfl⟩
      obtain ⟨ln, hln⟩ : ∃ m, m = M[k].nest := ⟨_, rfl⟩
      obtain ⟨cb, hcb⟩ : ∃ m, m = M[k].cb := ⟨_, rfl⟩
      obtain ⟨we, hwe⟩ : ∃ m, m = M[k].we := ⟨_, rfl⟩
      rw [← hm, ← hln, ← hcb, ← hwe] at hrow2 hxf
      have hm4 : m ≤ 1048576 := by rw [hm]; exact (HS.out.2.2.sub _ (List.getElem_mem kL)).1
      have HRW := Lib.hid hrow2
      have HX := Lib.hid (And.intro hxf hm)
      clear hrow2 hcp hxf hm hln hcb hwe hrn hrs hthr hlb
      go_upto_region 6 with (first
        | (refine wpList_load_mid rfl 37 _ rfl gv (k * 6) ?hpa (Cv.cells ⟨.pointer pa, .slice sa m sc, .slice fa ln fc, cb, we⟩) tC HRW.out hC hC2 szCmp ?_; (case hpa => first | rfl | simp))
        | (refine wpList_store_mid rfl 37 _ _ rfl wr.heap.size 0 (Cv.cells ⟨.pointer pa, .slice sa m sc, .slice fa ln fc, cb, we⟩).toArray rfl rfl (th_new wr _ _ rfl) szCmp (cells_one _ rfl rfl rfl) ?_))
      have hbS : Below wr.heap.size wr ((wr.alloc (.cells #[.pointer none, .slice none 0 0, .slice none 0 0, .int .i32 0, .int .u8 0, .bool false] 37)).setCells wr.heap.size 0 (Cv.cells ⟨.pointer pa, .slice sa m sc, .slice fa ln fc, cb, we⟩)) := below_setCells (Nat.le_refl _) _ _ ((Below.refl _ _).alloc (Nat.le_refl _) _)
      have hrS : ((wr.alloc (.cells #[.pointer none, .slice none 0 0, .slice none 0 0, .int .i32 0, .int .u8 0, .bool false] 37)).setCells wr.heap.size 0 (Cv.cells ⟨.pointer pa, .slice sa m sc, .slice fa ln fc, cb, we⟩)).rangeAt wr.heap.size 0 (Cv.cells ⟨.pointer pa, .slice sa m sc, .slice fa ln fc, cb, we⟩) := World.rangeAt_setCells_same _ _ _ _ (th_new wr _ _ rfl)
      have htS : ((wr.alloc (.cells #[.pointer none, .slice none 0 0, .slice none 0 0, .int .i32 0, .int .u8 0, .bool false] 37)).setCells wr.heap.size 0 (Cv.cells ⟨.pointer pa, .slice sa m sc, .slice fa ln fc, cb, we⟩)).there wr.heap.size 0 6 := World.there_setCells (th_new wr _ _ rfl) _ 0 _
      have hzS : ((wr.alloc (.cells #[.pointer none, .slice none 0 0, .slice none 0 0, .int .i32 0, .int .u8 0, .bool false] 37)).setCells wr.heap.size 0 (Cv.cells ⟨.pointer pa, .slice sa m sc, .slice fa ln fc, cb, we⟩)).heap.size = wr.heap.size + 1 := by rw [size_setCells, World.size_alloc]
      generalize World.setCells _ _ _ _ = w5 at *
      obtain ⟨b9, hb9⟩ : ∃ b, b = wr.heap.size := ⟨_, rfl⟩
      rw [← hb9] at hrS htS hzS ⊢
      have e1 := hrS 1 _ rfl
      simp only [Nat.zero_add] at e1
      have hmk := HMK.out w5 m hm4
      have hb7 : Below w5.heap.size w5 (w5.alloc (.cells (madeCells #[.nilIface, .int .i32 0, .int .i32 0] (m * 3)) 119)) := (Below.refl _ _).alloc (Nat.le_refl _) _
      have ho7 : (w5.alloc (.cells (madeCells #[.nilIface, .int .i32 0, .int .i32 0] (m * 3)) 119)).ownsRow w5.heap.size 119 3 (.slice (some ⟨w5.heap.size, 0, none⟩) 0 m) 0 [] := by
        simpa using World.ownsRow_made w5 (madeCells #[.nilIface, .int .i32 0, .int .i32 0] (m * 3)) m (Nat.le_refl _) (by unfold maxLen; omega) (by simp [madeCells])
      generalize w5.alloc _ = w7 at *
      obtain ⟨g7, hg7⟩ : ∃ b, b = w5.heap.size := ⟨_, rfl⟩
      rw [← hg7] at ho7 hmk
      have ht7 := th_keep hb7 htS
      have e7 := later hb7 e1
      have f7 := (ht7 1 (by decide)).2
      have hgb : g7 ≠ b9 := by omega
      simp only [Nat.zero_add] at f7
      have hrow7 : (w7.setCell ⟨b9, 1, none⟩ (.slice (some ⟨g7, 0, none⟩) 0 m)).ownsRow 0 119 3 (.slice (some ⟨g7, 0, none⟩) 0 m) 0 [] := own_mono (own_ag ho7 (fun g hg => by
        have : g7 = g := by simpa [Value.ownBlock] using hg
        exact heap_set (by omega))) (Nat.zero_le _)
      have HIN := Lib.hid (show InS Q zs M D0 w1 b9 k M[k].subs 0 ra rn rc (w7.setCell ⟨b9, 1, none⟩ (.slice (some ⟨g7, 0, none⟩) 0 m)) from
        HR.out.begin HC.out kL kZ HX.out.1 ((hbS.trans (hb7.mono hbS.size)).setCell (by show wr.heap.size ≤ b9; omega) _) (by omega) (rg_set (k := 1) (n := 6) (rg_keep hb7 hrS) (by show 1 < 6; decide)) (th_set ht7)
          hrow7 (by omega) hgb)
      clear hbS hrS htS hzS hb9 HRW hb7 ho7 hg7 ht7 HR hgb hrow7
      as_aux_lemma =>
      go_upto_block 2 with (refine wpl_mk rfl 30 _ _ rfl (.int .i64 0) (.int .i64 (m : Int)) _ _ (show _ = _ from rfl) (show _ = _ from rfl) hmk ?_)
      clear e1 e7 f7 hmk
      refine wp_block ?_
      go_loopw [7, 43] (fun rv iv wr2 => ∃ (j : Nat) (ra : Option Addr) (rn rc : Nat), j ≤ m ∧ rv = .slice ra rn rc ∧ iv = .int .i64 j ∧ Hid (InS Q zs M D0 w1 b9 k M[k].subs j ra rn rc wr2)) (fun _ iv _ => m - (intOf iv).toNat)
      case atStart => exact ⟨0, ra, rn, rc, Nat.zero_le _, rfl, rfl, HIN⟩
      case round =>
        clear HIN
        obtain ⟨j, ra, rn, rc, hj, rfl, rfl, HR⟩ := hrel
        by_cases hlj : j < m
        · skip
          -- <P2
          as_aux_lemma =>
          have z0 : (0 : Int) ≤ j := by omega
          have z1 : (j : Int) < m := by omega
          have jL : j < M[k].subs.length := by have := HX.out.2; omega
          have jZ : j < zs[k].ys.length := by have := (HC.out.cp kL kZ).len; omega
          obtain ⟨L0, x0, c0, th0, hrn, hFs, hthr, hlb, hcl⟩ := HR.out
          obtain ⟨gS, cS, hvs, hsr⟩ := HC.out.sub hFs.rs.kp kL kZ jZ
          rw [HX.out.1] at hvs
          simp only [Value.slice.injEq] at hvs
          obtain ⟨rfl, hz, rfl⟩ := hvs
          clear hz
          have hs1 := HC.out.s1 hFs.rs.kp hthr kL kZ jZ jL
          obtain ⟨su, hsu⟩ : ∃ s, s = M[k].subs[j] := ⟨_, rfl⟩
          rw [← hsu] at hs1
          obtain ⟨T, p, hyv⟩ := e1_form (hs1.view (X := fun _ => True) (fun _ _ _ => trivial))
          rw [hyv] at hsr hs1
          have HRW := Lib.hid hsr
          have HY := Lib.hid (And.intro hs1 (And.intro hsu hyv))
          clear hsr hs1 hsu hyv hrn hFs hthr hlb hcl
          go_upto_region 11 with (first
            | (refine wpList_load_mid rfl 119 _ rfl gS (j * 3) ?hpa (sbc (.iface T (.pointer (some ⟨p, 0, none⟩)))) tS HRW.out hS1 hS2 szSub ?_; (case hpa => first | rfl | simp))
            | (refine wpList_store_mid rfl 119 _ _ rfl wr.heap.size 0 (sbc (.iface T (.pointer (some ⟨p, 0, none⟩)))).toArray rfl rfl (th_new wr _ _ rfl) szSub (sub_all _ rfl) ?_))
          have hbS : Below wr.heap.size wr ((wr.alloc (.cells #[.nilIface, .int .i32 0, .int .i32 0] 119)).setCells wr.heap.size 0 (sbc (.iface T (.pointer (some ⟨p, 0, none⟩))))) := below_setCells (Nat.le_refl _) _ _ ((Below.refl _ _).alloc (Nat.le_refl _) _)
          have hrS : ((wr.alloc (.cells #[.nilIface, .int .i32 0, .int .i32 0] 119)).setCells wr.heap.size 0 (sbc (.iface T (.pointer (some ⟨p, 0, none⟩))))).rangeAt wr.heap.size 0 (sbc (.iface T (.pointer (some ⟨p, 0, none⟩)))) := World.rangeAt_setCells_same _ _ _ _ (th_new wr _ _ rfl)
          generalize World.setCells _ _ _ _ = w12 at *
          obtain ⟨b12, hb12⟩ : ∃ b, b = wr.heap.size := ⟨_, rfl⟩
          rw [← hb12] at hrS ⊢
          obtain ⟨L0, x0, c0, th0, hrn, hFs0, hthr, hlb, hcl⟩ := HR.out
          have hFs := hFs0.keep hbS
          have hs1 : S1 zs[k].ys[j].lo zs[k].ys[j].hi w12 (.iface T (.pointer (some ⟨p, 0, none⟩))) su := by rw [HY.out.2.1, ← HY.out.2.2]; exact HC.out.s1 hFs.rs.kp hthr kL kZ jZ jL
          have HB12 := Lib.hid hrS
          have HF := Lib.hid (And.intro hFs (And.intro hthr (And.intro hrn (And.intro hlb hcl))))
          have HYV := Lib.hid (And.intro HY.out.2.1 HY.out.2.2)
          have k0 := hrS 0 _ rfl
          simp only [Nat.zero_add] at k0
          clear hFs0 hrn hlb hcl HR HRW HY hbS hb12 hrS hFs hthr
          as_aux_lemma =>
          by_cases hlg : lgU su = false
          · skip
            -- <P3
            as_aux_lemma =>
            go_upto_block 4 with fail
            go_cut [7] (fun v wx => v = .slice ra rn rc ∧ wx = w12)
            case first =>
              cases su with
              | bare nm =>
                obtain ⟨p', hpe, -, -, hr⟩ := hs1
                cases hpe
                have h1 := fun W => ta_pp p W
                have l0 := hr 0 _ rfl
                simp only [Nat.zero_add] at l0
                clear hr
                have hlg2 : lgN nm = false := hlg
                unfold lgN at hlg2
                cases hh1 : (nm.toList == ([103, 108, 111, 98, 97, 108] : List UInt8)) with
                | true => rw [hh1] at hlg2; cases hlg2
                | false =>
                  cases hh2 : (nm.toList == ([108, 111, 99, 97, 108] : List UInt8)) with
                  | true => rw [hh1, hh2] at hlg2; cases hlg2
                  | false =>
                    as_aux_lemma =>
                    clear hlg hlg2
                    go_wp2_with fail
                    go_meet
                    exact ⟨rfl, rfl⟩
              | wrap kd M0 =>
                obtain ⟨p', lv, M1, h2, -, hpe, -, -, -, hr, hkd, -⟩ := hs1
                cases hpe
                have h1 := fun W => ta_pl p W
                have h2 := fun W => ta_ll p W
                have l3 := hr 3 _ rfl
                simp only [Nat.zero_add] at l3
                clear hr
                have hlg2 : ((kd == 0) || (kd == 3)) = false := hlg
                obtain ⟨n0, n3⟩ : ¬ kd = 0 ∧ ¬ kd = 3 := by simpa using hlg2
                have e2 : ((kd : Int) == 0) = false := beq_eq_false_iff_ne.2 (by omega)
                have e3 : ((kd : Int) == 3) = false := beq_eq_false_iff_ne.2 (by omega)
                as_aux_lemma =>
                clear hlg hlg2 n0 n3
                go_wp2_with fail
                go_meet
                exact ⟨rfl, rfl⟩
            case rest =>
            obtain ⟨rfl, hcut⟩ := hcut
            subst hcut
            as_aux_lemma =>
            obtain ⟨pa2, sa2, sc2, la2, lc2, hxf⟩ := HF.out.1.tg.form
            obtain ⟨n2, hn2⟩ : ∃ x, x = c0.subs.length := ⟨_, rfl⟩
            have hn24 : n2 ≤ 2199023255552 := by have := HF.out.2.2.2.2; omega
            rw [← hn2] at hxf
            subst hxf
            have c1 := HF.out.1.tg.box 1 _ rfl
            simp only [Nat.zero_add] at c1
            have hbs := bs_sub (.iface T (.pointer (some ⟨p, 0, none⟩))) wc
            have hal : Below wc.heap.size wc (wc.alloc (.cells #[(.iface T (.pointer (some ⟨p, 0, none⟩))), .int .i32 0, .int .i32 0] 119)) := (Below.refl _ _).alloc (Nat.le_refl _) _
            have hblk := heap_alloc_new wc (.cells #[(.iface T (.pointer (some ⟨p, 0, none⟩))), .int .i32 0, .int .i32 0] 119)
            obtain ⟨w13, hw13⟩ : ∃ x, x = wc.alloc (.cells #[(.iface T (.pointer (some ⟨p, 0, none⟩))), .int .i32 0, .int .i32 0] 119) := ⟨_, rfl⟩
            rw [← hw13] at hal hbs hblk
            obtain ⟨g13, hg13⟩ : ∃ x', x' = wc.heap.size := ⟨_, rfl⟩
            rw [← hg13] at hbs hblk
            have hF13 := HF.out.1.keep (by rw [← hg13]; exact hal.mono (by omega))
            obtain ⟨B, hB1, hB2, hB3⟩ := hF13.tg.sub
            rw [← hn2] at hB2
            have HOWN := Lib.hid hB2
            have HBK := Lib.hid hblk
            have HFA := Lib.hid (And.intro hF13 (And.intro hB1 hB3))
            have HN2 := Lib.hid hn2
            clear hw13 hblk hal hg13 hF13 hB1 hB2 hB3 hn2
            go_upto_region 29 with (first
              | (at_builtin
                 refine wpl_appR rfl (.tmp 121) (.tmp 123) _ rfl 0 119 i2 _ 3 24 Try.underlying30 HK2.out.1 HK2.out.2.1 HK2.out.2.2.1 HK2.out.2.2.2 rfl (by omega) (.slice sa2 n2 sc2) n2 (B.flatMap sbc) (show _ = _ from rfl) HOWN.out (some ⟨g13, 0, none⟩) 1 1 (sbc (.iface T (.pointer (some ⟨p, 0, none⟩)))) (show _ = _ from rfl) rfl (fun h => by cases h) (fun aa haa => by cases haa; exact World.news_of_block HBK.out) (fun u hu => one_sbc hu) (by unfold maxLen; omega) (by omega) (Nat.zero_le _) ?_
                 intro v8 w8 hown8 hgrow8 hat8
                 obtain ⟨sa8, sc8, rfl⟩ := own_slice hown8
                 have hbb := hgrow8.block b9 HFA.out.1.bs (fun q => HFA.out.1.tg.own b9 q.symm rfl)
                 have c8 := rg_ag hbb HFA.out.1.tg.box 1 _ rfl
                 have f8 := (th_ag hbb HFA.out.1.tg.thr 1 (by decide)).2
                 simp only [Nat.zero_add] at c8 f8
                 have HG := Lib.hid (And.intro hown8 (And.intro hgrow8 hat8))
                 clear hown8 hgrow8 hat8 hbb)
              | (refine wpList_load_mid ?hgd 119 (.tmp 12) ?hoq b12 0 ?hpa (sbc (.iface T (.pointer (some ⟨p, 0, none⟩)))) tS ?hrq hS1 hS2 szSub ?_
                 case hoq => rfl
                 case hgd => rfl
                 case hpa => rfl
                 case hrq => exact HB12.out)
              | (refine wpl_bs1 ?hgd 30 (.tmp 122) ?hoq (.agg #[(.iface T (.pointer (some ⟨p, 0, none⟩))), .int .i32 0, .int .i32 0]) (.slice (some ⟨g13, 0, none⟩) 1 1) w13 ?hxq ?hrq ?_
                 case hoq => rfl
                 case hgd => rfl
                 case hrq => exact hbs
                 case hxq => (show _ = _; rfl)))
            have hNX := HC.out.next1 HFA.out.1 HF.out.2.1 kL kZ jZ jL HFA.out.2.1 HFA.out.2.2 (by rw [← HYV.out.1]; exact hlg) (v' := .slice sa8 (n2 + 1) sc8) (W' := w8) (by rw [← HN2.out, HYV.out.2]; exact HG.out.1) HG.out.2.1 (HG.out.2.2.imp id (fun q y hy => by rw [q] at hy; cases hy; exact Nat.le_refl _)) HF.out.2.2.1 HF.out.2.2.2.1 HF.out.2.2.2.2
            have HNEXT := Lib.hid hNX
            clear hNX HFA HG HN2 HYV HF HC HBK HOWN HX HB12 HS HO HL
            go_wp2_with fail
            exact ⟨⟨j + 1, _, _, _, by omega, rfl, by go_num, HNEXT⟩, by simp [intOf]; omega⟩
            -- P3>
          · skip
            -- <P4
            as_aux_lemma =>
            have hthhi := HC.out.thhi HF.out.2.1 kL kZ jZ
            cases su with
            | bare nm =>
              -- <PB
              obtain ⟨p', hpe, -, -, hr⟩ := hs1
              cases hpe
              have h1 := fun W => ta_pp p W
              have l0 := hr 0 _ rfl
              simp only [Nat.zero_add] at l0
              clear hr
              have hlg2 : lgN nm = true := by
                cases h : lgN nm with
                | true => rfl
                | false => exact absurd h hlg
              have HNEXT := Lib.hid (HC.out.next0 (m := 0) HF.out.1 HF.out.2.1 kL kZ jZ jL (fun y => PT.up hthhi) HF.out.2.2.1 HF.out.2.2.2.1 (step_le HF.out.2.2.2.2))
              unfold lgN at hlg2
              clear hlg hthhi HF HYV HB12
              cases hh1 : (nm.toList == ([103, 108, 111, 98, 97, 108] : List UInt8)) with
              | true =>
                as_aux_lemma =>
                clear hlg2
                go_wp2_with fail
                exact ⟨⟨j + 1, _, _, _, by omega, rfl, by go_num, HNEXT⟩, by simp [intOf]; omega⟩
              | false =>
                have hh2 : (nm.toList == ([108, 111, 99, 97, 108] : List UInt8)) = true := by rw [hh1] at hlg2; simpa using hlg2
                as_aux_lemma =>
                clear hlg2
                go_wp2_with fail
                exact ⟨⟨j + 1, _, _, _, by omega, rfl, by go_num, HNEXT⟩, by simp [intOf]; omega⟩
              -- PB>
            | wrap kd Ms =>
              -- <PW
              have hkd : kd = 0 ∨ kd = 3 := by
                have h : ¬ (((kd == 0) || (kd == 3)) = false) := hlg
                simp only [Bool.or_eq_false_iff, beq_eq_false_iff_ne, ne_eq, not_and, Decidable.not_not] at h
                exact Decidable.or_iff_not_imp_left.2 h
              obtain ⟨M0, p', q, gi, ci, ys, rfl, hv2, hwi, hpos, hok⟩ := HC.out.wi HF.out.1.rs.kp HF.out.2.1 kL kZ jZ jL HYV.out.1.symm hkd
              have hpe := HYV.out.2.symm.trans hv2
              cases hpe
              have HWX := Lib.hid (show Wx Q lo (.slice (some ⟨gv, 0, none⟩) n vc) M zs D0 w w1 k j th0 kd p q gi ci M0 ys w12 from ⟨HC.out, HF.out.2.1, kL, kZ, jZ, jL, HYV.out.1.symm, hwi, HF.out.1.rs.kp, hpos, hok⟩)
              have h1 := fun W => ta_pl p W
              have h2 := fun W => ta_ll p W
              have l3 := hwi.pr 3 _ rfl
              have l0 := hwi.pr 0 _ rfl
              have lq := hwi.qr 0 _ rfl
              simp only [Nat.zero_add] at l0 l3 lq
              have hy0 : 0 < ys.length := by rw [HWX.out.ylen]; exact hpos
              obtain ⟨pb, sb, sc3, lb, lc3, hyf⟩ := (hwi.cpi hy0 hpos).form
              have hr0 := hwi.cell hy0
              rw [hyf, Nat.zero_mul] at hr0
              obtain ⟨cb2, hcb2⟩ : ∃ x, x = M0[0].cb := ⟨_, rfl⟩
              obtain ⟨m2, hm2⟩ : ∃ x, x = M0[0].subs.length := ⟨_, rfl⟩
              obtain ⟨ln3, hln3⟩ : ∃ x, x = M0[0].nest := ⟨_, rfl⟩
              obtain ⟨we3, hwe3⟩ : ∃ x, x = M0[0].we := ⟨_, rfl⟩
              rw [← hcb2, ← hm2, ← hln3, ← hwe3] at hr0 hyf
              have l4 := hr0 4 _ rfl
              simp only [Nat.zero_add] at l4
              obtain ⟨n0, hn0⟩ : ∃ x, x = M0.length := ⟨_, rfl⟩
              have hci : n0 ≤ ci := by rw [hn0]; exact hwi.cp
              rw [← hn0] at lq hpos
              have q5 : (0 : Int) < n0 := by omega
              have HR0 := Lib.hid (And.intro hr0 (And.intro hyf (And.intro hy0 (And.intro hm2 hln3))))
              have HN0 := Lib.hid (And.intro hn0 hci)
              clear hs1 hlg hv2 hwi hok hcb2 hm2 hln3 hwe3 hn0 hci hr0 hyf hthhi HB12
              go_upto_region 17 with fail
              go_cut [78] (fun v wx => v = .bool true ∧ wx = w12)
              case first =>
                rcases hkd with rfl | rfl
                all_goals
                  as_aux_lemma =>
                  go_wp2_with fail
                  go_meet
                  exact ⟨rfl, rfl⟩
              case rest =>
              obtain ⟨rfl, hcut⟩ := hcut
              subst hcut
              clear hkd h1 h2
              obtain ⟨wA, hwA⟩ : ∃ x, x = wc := ⟨_, rfl⟩
              subst hwA
              as_aux_lemma =>
              go_upto_if 91 with fail
              go_cut [15] (fun v wx => ∃ (a' : Option Addr) (nn c' : Nat), v = .slice a' nn c' ∧ nn ≤ 4194304 ∧ Hid (MgS Q zs M D0 w1 b9 k j th0 gi M[k].subs M0 ys wA ra rn rc a' nn c' wx))
              case first =>
                -- <MG
                by_cases hc0 : cb2 = 0
                · as_aux_lemma =>
                  subst hc0
                  obtain ⟨pa2, sa2, sc2, la2, lc2, hxf⟩ := HF.out.1.tg.form
                  obtain ⟨n2, hn2⟩ : ∃ x, x = c0.subs.length := ⟨_, rfl⟩
                  obtain ⟨ln2, hln2⟩ : ∃ x, x = c0.nest := ⟨_, rfl⟩
                  obtain ⟨cb0, hcb0⟩ : ∃ x, x = c0.cb := ⟨_, rfl⟩
                  obtain ⟨we0, hwe0⟩ : ∃ x, x = c0.we := ⟨_, rfl⟩
                  rw [← hn2, ← hln2, ← hcb0, ← hwe0] at hxf
                  subst hxf
                  have hF1 := HF.out.1.up (P' := PI zs th0 ys 1) (E' := ET zs th0) (fun y hy => .inl hy) (fun y hy => hy)
                  have hS := (HWX.out.hwi.cpi hy0 HWX.out.pos).view
                  rw [HR0.out.2.1] at hS
                  have hok := HWX.out.ok _ (List.getElem_mem HWX.out.pos)
                  have HMR := Lib.hid (mrg_any b9 pa2 pb sa2 sb la2 lb n2 sc2 ln2 lc2 cb0 m2 sc3 ln3 lc3 0 we0 we3 c0 (M0[0]'HWX.out.pos) _ (InB ys[0]) wA hF1.tg hS (fun y hy => HWX.out.hZ hF1 hy0 hy (.inr ⟨0, hy0, by omega, hy⟩))
                    (by have := HF.out.2.2.2.2; have := hok.1; have := HR0.out.2.2.2.1; omega) (by have := hok.2.1; have := HR0.out.2.2.2.2; omega) (by have := hF1.ok.2.2; omega))
                  have HF1 := Lib.hid hF1
                  have hsl := fun W => sl_lo gi n0 ci hpos HN0.out.2 W
                  clear hn2 hln2 hcb0 hwe0 hF1 hS hok
                  go_wp2_with (refine wpList_load_mid rfl 37 _ rfl gi 0 ?hpa (Cv.cells ⟨.pointer pb, .slice sb m2 sc3, .slice lb ln3 lc3, 0, we3⟩) tC HR0.out.1 hC hC2 szCmp ?_; (case hpa => first | rfl | simp))
                  refine HMR.out.mono ?_
                  rintro e w20 ⟨rfl, hMg⟩
                  have HST := Lib.hid (MgS.merge (S := M[k].subs) (a' := sla gi ci) HWX.out HF1.out HF.out.2.2.1 HF.out.2.2.2.1 HF.out.2.2.2.2 (Nat.le_refl _) hMg (fun h => by
                    have h1 := HN0.out
                    unfold sla
                    rw [if_neg (by omega)]))
                  rw [← HN0.out.1] at HST
                  clear hMg HMR HF1
                  go_wp2_with fail
                  go_meet
                  exact ⟨_, _, _, rfl, (by have := HWX.out.len; have := HN0.out.1; omega), HST⟩
                · as_aux_lemma =>
                  have e0 : ((cb2 : Int) == 0) = false := beq_eq_false_iff_ne.2 (by omega)
                  have HST := Lib.hid (MgS.skip (S := M[k].subs) HWX.out HF.out.1 HF.out.2.2.1 HF.out.2.2.2.1 HF.out.2.2.2.2 (Nat.le_refl _))
                  rw [← HN0.out.1] at HST
                  clear hc0
                  go_wp2_with fail
                  go_meet
                  exact ⟨_, _, _, rfl, (by have := HWX.out.len; have := HN0.out.1; omega), HST⟩
                -- MG>
              case rest =>
              obtain ⟨a', nn, c', rfl, hnn4, HMG⟩ := hcut
              clear l0 l3 l4 lq k0
              as_aux_lemma =>
              by_cases hn' : 0 < nn
              · skip
                -- <PN
                as_aux_lemma =>
                have q6 : (0 : Int) < nn := by omega
                obtain ⟨mm, hmm, rfl, hc4⟩ := HMG.out.pos hn'
                obtain ⟨pa3, sa3, sn3, sc4, la3, ln4, lc4, cb3, we4, hbx, hpty⟩ := HMG.out.box
                have HBX := Lib.hid hbx
                have HEMP := Lib.hid (emp_any (.pointer pa3) sa3 la3 sn3 sc4 ln4 lc4 cb3 we4 wc hpty)
                have hrn4 : rn ≤ 4194304 := by
                  obtain ⟨-, -, -, -, -, -, -, -, -, -, -, h, -⟩ := HMG.out.push hn' (by omega)
                  have := HWX.out.len
                  omega
                clear hbx hpty
                go_upto_region 24 with fail
                go_cut [104] (fun v wx => ∃ bb, v = .bool bb ∧ Hid (Below wc.heap.size wc wx))
                case first =>
                  as_aux_lemma =>
                  go_wp2_with (refine wpList_load_mid rfl 37 _ rfl b9 0 ?hpa (Cv.cells ⟨.pointer pa3, .slice sa3 sn3 sc4, .slice la3 ln4 lc4, cb3, we4⟩) tC HBX.out hC hC2 szCmp ?_; (case hpa => first | rfl | simp))
                  refine HEMP.out.mono ?_
                  rintro e w21 ⟨bb, rfl, hb⟩
                  have HB := Lib.hid hb
                  clear hb
                  go_wp2_with fail
                  go_meet
                  exact ⟨_, rfl, HB⟩
                case rest =>
                obtain ⟨bb, rfl, HB⟩ := hcut
                have HMG2 := Lib.hid (HMG.out.keep HB.out)
                clear HMG HEMP HBX HB
                as_aux_lemma =>
                go_upto_if 104 with fail
                go_cut [7] (fun v wx => ∃ (ra' : Option Addr) (rn' rc' : Nat), v = .slice ra' rn' rc' ∧ rn' ≤ 4194305 ∧ Hid (PuS Q zs M D0 w1 b9 k j th0 M[k].subs M0 ys wA 1 ra' rn' rc' wx))
                case first =>
                  -- <PC
                  cases bb with
                  | false =>
                    as_aux_lemma =>
                    have HST := Lib.hid (HMG2.out.nopush hn' (Below.refl _ _))
                    go_wp2_with fail
                    go_meet
                    exact ⟨_, _, _, rfl, by omega, HST⟩
                  | true =>
                    as_aux_lemma =>
                    obtain ⟨pa3, sa3, sn3, sc4, la3, ln4, lc4, cb3, we4, B, hbx, -, hD, hp⟩ := HMG2.out.push hn' (by omega)
                    have hbs := bs_cmp ⟨.pointer pa3, .slice sa3 sn3 sc4, .slice la3 ln4 lc4, cb3, we4⟩ wc
                    have hal : Below wc.heap.size wc (wc.alloc (.cells (Cv.cells ⟨.pointer pa3, .slice sa3 sn3 sc4, .slice la3 ln4 lc4, cb3, we4⟩).toArray 37)) := (Below.refl _ _).alloc (Nat.le_refl _) _
                    have hblk := heap_alloc_new wc (.cells (Cv.cells ⟨.pointer pa3, .slice sa3 sn3 sc4, .slice la3 ln4 lc4, cb3, we4⟩).toArray 37)
                    obtain ⟨w25, hw25⟩ : ∃ x, x = wc.alloc (.cells (Cv.cells ⟨.pointer pa3, .slice sa3 sn3 sc4, .slice la3 ln4 lc4, cb3, we4⟩).toArray 37) := ⟨_, rfl⟩
                    rw [← hw25] at hal hbs hblk
                    obtain ⟨g25, hg25⟩ : ∃ x', x' = wc.heap.size := ⟨_, rfl⟩
                    obtain ⟨hown, hpu⟩ := hp w25 hal
                    have hD2 : D0 + 1 ≤ w25.heap.size := Nat.le_trans hD hal.size
                    rw [← hg25] at hbs hblk
                    have HOWN := Lib.hid hown
                    have HPU := Lib.hid hpu
                    have HBK := Lib.hid hblk
                    have HBX := Lib.hid hbx
                    have HD2 := Lib.hid hD2
                    clear hw25 hal hblk hg25 hp hown hpu hbx hD hD2
                    go_wp2_with (first
                      | (refine wpl_bs1 rfl 38 (.tmp 106) rfl _ _ _ ?hx hbs ?_; case hx => (show _ = _; rfl))
                      | (refine wpList_load_mid rfl 37 _ rfl b9 0 rfl (Cv.cells ⟨.pointer pa3, .slice sa3 sn3 sc4, .slice la3 ln4 lc4, cb3, we4⟩) tC HBX.out hC hC2 szCmp ?_)
                      | (at_builtin
                         refine wpl_appR rfl (.tmp 105) (.tmp 107) _ rfl (D0 + 1) 37 i3 _ 6 72 Try.underlying38 HK3.out.1 HK3.out.2.1 HK3.out.2.2.1 HK3.out.2.2.2 rfl (by omega) (.slice ra rn rc) rn (B.flatMap Cv.cells) (show _ = _ from rfl) HOWN.out (some ⟨g25, 0, none⟩) 1 1 (Cv.cells ⟨.pointer pa3, .slice sa3 sn3 sc4, .slice la3 ln4 lc4, cb3, we4⟩) (show _ = _ from rfl) rfl (fun h => by cases h) (fun aa haa => by cases haa; exact World.news_of_block HBK.out) (one_cv rfl rfl rfl) (by unfold maxLen; omega) (by omega) HD2.out ?_
                         intro v8 w8 hown8 hgrow8 hat8
                         obtain ⟨sa8, sc8, rfl⟩ := own_slice hown8
                         have HST := Lib.hid (HPU.out _ _ hown8 hgrow8 (hat8.imp id (fun q y hy => by rw [q] at hy; cases hy; exact Nat.le_refl _)) _ _ rfl)
                         clear hown8 hgrow8 hat8))
                    go_meet
                    exact ⟨_, _, _, rfl, by omega, HST⟩
                  -- PC>
                case rest =>
                obtain ⟨ra2, rn2, rc2, rfl, hrn2, HPU⟩ := hcut
                clear HMG2 hrn4
                obtain ⟨m', rfl⟩ : ∃ m', nn = m' + 1 := ⟨nn - 1, by omega⟩
                have hm6 : (((m' + 1 : Nat) : Int) - 1) = m' := by omega
                have hsl := fun W => sl_hi (some ⟨gi, mm * 6, none⟩) (m' + 1) c' m' (by omega) W
                obtain ⟨B, hown, hlb2, hwi, hpu⟩ := HPU.out.inn HWX.out (mm := mm) (m := m') (by omega)
                have hyl := HWX.out.ylen
                have hlen : (((ys.drop mm).take m').flatMap Ib.cells).length = m' * 6 := by
                  rw [flat_len Ib.cells (s := 6) (fun _ => rfl), List.length_take, List.length_drop]
                  congr 1
                  omega
                have HOWN := Lib.hid hown
                have HSRC := Lib.hid (And.intro hlen (And.intro (hwi.mid (a := mm) (m := m') (by omega)) (hwi.one mm m')))
                have HPN := Lib.hid hpu
                have hbase : D0 + 1 ≤ wc.heap.size := by
                  obtain ⟨L, -, h2, -⟩ := HPU.out
                  exact h2.sz
                have HBS := Lib.hid hbase
                have HY := Lib.hid (And.intro hmm hyl)
                clear hown hwi hpu hlen hbase hmm hyl hlb2 HPU
                as_aux_lemma =>
                go_upto_region 27 with (first
                  | (at_builtin
                     refine wpl_appR rfl (.tmp 109) (.tmp 113) _ rfl (D0 + 1) 37 i3 _ 6 72 Try.underlying38 HK3.out.1 HK3.out.2.1 HK3.out.2.2.1 HK3.out.2.2.2 rfl (by omega) (.slice ra2 rn2 rc2) rn2 (B.flatMap Cv.cells) (show _ = _ from rfl) HOWN.out (some ⟨gi, mm * 6, none⟩) m' c' (((ys.drop mm).take m').flatMap Ib.cells) (show _ = _ from rfl) HSRC.out.1 (fun h => by cases h) (fun aa haa => by cases haa; intro j u hj; rw [add_at]; exact HSRC.out.2.1 j u hj) HSRC.out.2.2 (by unfold maxLen; omega) (by omega) HBS.out ?_
                     intro v8 w8 hown8 hgrow8 hat8
                     obtain ⟨sa8, sc8, rfl⟩ := own_slice hown8
                     have HST := Lib.hid (HPN.out _ _ hown8 hgrow8 (hat8.imp id (fun q y hy => by rw [q] at hy; cases hy; exact Nat.le_refl _)) _ _ rfl)
                     clear hown8 hgrow8 hat8))
                have hi2 : mm + m' < ys.length := by have := HY.out; omega
                obtain ⟨hth, hr5, ⟨pa5, sa5, sn5, sc5, la5, ln5, lc5, cb5, we5, hx5⟩, hnx⟩ := PuS.last HWX.out HST.out (by have := HY.out; omega) (i := mm + m') (by have := HY.out; omega) hi2
                rw [hx5, Nat.add_mul] at hr5
                rw [hx5] at hnx
                have HR5 := Lib.hid hr5
                have HTH := Lib.hid hth
                have HNEXT := Lib.hid hnx
                clear HPN HSRC HOWN hsl HST hx5 hr5 hth hnx hi2
                as_aux_lemma =>
                go_wp2_with (first
                  | (refine wpList_load_mid ?hgd 37 (.tmp 118) ?hoq gi (mm * 6 + m' * 6) ?hpa (Cv.cells ⟨.pointer pa5, .slice sa5 sn5 sc5, .slice la5 ln5 lc5, cb5, we5⟩) tC ?hrq hC hC2 szCmp ?_
                     case hoq => rfl
                     case hgd => rfl
                     case hpa => first | rfl | simp
                     case hrq => exact HR5.out)
                  | (refine wpList_store_mid ?hgd 37 (.tmp 9) (.tmp 119) ?hoq b9 0 (Cv.cells ⟨.pointer pa5, .slice sa5 sn5 sc5, .slice la5 ln5 lc5, cb5, we5⟩).toArray ?hpa ?hxq ?hrq szCmp ?hlq ?_
                     case hoq => rfl
                     case hgd => rfl
                     case hpa => rfl
                     case hxq => rfl
                     case hrq => exact HTH.out
                     case hlq => exact cells_one _ rfl rfl rfl))
                exact ⟨⟨j + 1, _, _, _, by omega, rfl, by go_num, HNEXT⟩, by simp [intOf]; omega⟩
                -- PN>
              · as_aux_lemma =>
                obtain rfl : nn = 0 := by omega
                have HNEXT := Lib.hid (HMG.out.done HWX.out)
                go_wp2_with fail
                exact ⟨⟨j + 1, _, _, _, by omega, rfl, by go_num, HNEXT⟩, by simp [intOf]; omega⟩
              -- PW>
            -- P4>
          -- P2>
        · skip
          -- <P5
          as_aux_lemma =>
          obtain rfl : j = m := by omega
          obtain ⟨pa3, sa3, sn3, sc4, la3, ln4, lc4, cb3, we4, hbx, hpty⟩ := HR.out.box
          have HBX := Lib.hid hbx
          have HEMP := Lib.hid (emp_any (.pointer pa3) sa3 la3 sn3 sc4 ln4 lc4 cb3 we4 wr hpty)
          have hrn4 : rn ≤ 4194304 := by
            obtain ⟨L, x, c, th, -, -, -, h4, -⟩ := HR.out
            have := LB.le HC.out.mok.wt kL (j := j)
            omega
          clear hbx hpty
          go_upto_region 30 with fail
          go_cut [129] (fun v wx => ∃ bb, v = .bool bb ∧ Hid (Below wr.heap.size wr wx))
          case first =>
            as_aux_lemma =>
            go_wp2_with (refine wpList_load_mid rfl 37 _ rfl b9 0 ?hpa (Cv.cells ⟨.pointer pa3, .slice sa3 sn3 sc4, .slice la3 ln4 lc4, cb3, we4⟩) tC HBX.out hC hC2 szCmp ?_; (case hpa => first | rfl | simp))
            refine HEMP.out.mono ?_
            rintro e w21 ⟨bb, rfl, hb⟩
            have HB := Lib.hid hb
            clear hb
            go_wp2_with fail
            go_meet
            exact ⟨_, rfl, HB⟩
          case rest =>
          obtain ⟨bb, rfl, HB⟩ := hcut
          have HI := HR.out.keep HB.out
          rw [HX.out.2] at HI
          have HI2 := Lib.hid HI
          clear HR HI HEMP HBX HB
          as_aux_lemma =>
          go_upto_if 129 with fail
          cases bb with
          | false =>
            as_aux_lemma =>
            have HST := Lib.hid (HI2.out.nopush kL)
            go_wp2_with fail
            exact ⟨⟨k + 1, _, _, _, by omega, rfl, by go_num, HST⟩, by simp [intOf]; omega⟩
          | true =>
            as_aux_lemma =>
            obtain ⟨pa3, sa3, sn3, sc4, la3, ln4, lc4, cb3, we4, B, hbx, -, hD, hp⟩ := HI2.out.push kL (by have := HX.out.2; omega)
            have hbs := bs_cmp ⟨.pointer pa3, .slice sa3 sn3 sc4, .slice la3 ln4 lc4, cb3, we4⟩ wc
            have hal : Below wc.heap.size wc (wc.alloc (.cells (Cv.cells ⟨.pointer pa3, .slice sa3 sn3 sc4, .slice la3 ln4 lc4, cb3, we4⟩).toArray 37)) := (Below.refl _ _).alloc (Nat.le_refl _) _
            have hblk := heap_alloc_new wc (.cells (Cv.cells ⟨.pointer pa3, .slice sa3 sn3 sc4, .slice la3 ln4 lc4, cb3, we4⟩).toArray 37)
            obtain ⟨w25, hw25⟩ : ∃ x, x = wc.alloc (.cells (Cv.cells ⟨.pointer pa3, .slice sa3 sn3 sc4, .slice la3 ln4 lc4, cb3, we4⟩).toArray 37) := ⟨_, rfl⟩
            rw [← hw25] at hal hbs hblk
            obtain ⟨g25, hg25⟩ : ∃ x', x' = wc.heap.size := ⟨_, rfl⟩
            obtain ⟨hown, hpu⟩ := hp w25 hal
            have hD2 : D0 + 1 ≤ w25.heap.size := Nat.le_trans hD hal.size
            rw [← hg25] at hbs hblk
            have HOWN := Lib.hid hown
            have HPU := Lib.hid hpu
            have HBK := Lib.hid hblk
            have HBX := Lib.hid hbx
            have HD2 := Lib.hid hD2
            clear hw25 hal hblk hg25 hp hown hpu hbx hD hD2
            go_wp2_with (first
              | (refine wpl_bs1 rfl 38 (.tmp 131) rfl _ _ _ ?hx hbs ?_; case hx => (show _ = _; rfl))
              | (refine wpList_load_mid rfl 37 _ rfl b9 0 rfl (Cv.cells ⟨.pointer pa3, .slice sa3 sn3 sc4, .slice la3 ln4 lc4, cb3, we4⟩) tC HBX.out hC hC2 szCmp ?_)
              | (at_builtin
                 refine wpl_appR rfl (.tmp 130) (.tmp 132) _ rfl (D0 + 1) 37 i3 _ 6 72 Try.underlying38 HK3.out.1 HK3.out.2.1 HK3.out.2.2.1 HK3.out.2.2.2 rfl (by omega) (.slice ra rn rc) rn (B.flatMap Cv.cells) (show _ = _ from rfl) HOWN.out (some ⟨g25, 0, none⟩) 1 1 (Cv.cells ⟨.pointer pa3, .slice sa3 sn3 sc4, .slice la3 ln4 lc4, cb3, we4⟩) (show _ = _ from rfl) rfl (fun h => by cases h) (fun aa haa => by cases haa; exact World.news_of_block HBK.out) (one_cv rfl rfl rfl) (by unfold maxLen; omega) (by omega) HD2.out ?_
                 intro v8 w8 hown8 hgrow8 hat8
                 obtain ⟨sa8, sc8, rfl⟩ := own_slice hown8
                 have HST := Lib.hid (HPU.out _ _ hown8 hgrow8 (hat8.imp id (fun q y hy => by rw [q] at hy; cases hy; exact Nat.le_refl _)) _ _ rfl)
                 clear hown8 hgrow8 hat8))
            exact ⟨⟨k + 1, _, _, _, by omega, rfl, by go_num, HST⟩, by simp [intOf]; omega⟩
          -- P5>
      -- P1>
    · skip
      -- <P6
      as_aux_lemma =>
      obtain rfl : k = n := by omega
      have hloD : lo ≤ D0 := by rw [HC.out.hD.symm]; exact HL.out.2.1.2
      have hb5 := HR.out.far HC.out (y := D0) (.inr rfl) hloD
      have hpb := HR.out.far HC.out (y := pp) (.inl HL.out.2.1.1) hloD
      have hpw : pp < w.heap.size := Nat.lt_of_lt_of_le HL.out.2.1.1 HL.out.2.1.2
      rw [← HD.out] at hb5
      have c6 := rg_ag hb5 H5.out.1 0 _ rfl
      simp only [Nat.zero_add] at c6
      have p1 := cell_ag hpb (cell_ag (H5.out.2.1.block pp hpw) HL.out.2.2.2.1)
      have p2 : wr.frozen? ⟨pp, 53, none⟩ = false := by rw [World.frozen?_of_block (a := ⟨pp, 53, none⟩) (hpb.trans (H5.out.2.1.block pp hpw))]; exact HL.out.2.2.2.2
      have HPP := Lib.hid (And.intro p1 (And.intro p2 hloD))
      clear hloD hb5 hpb hpw p1 p2
      go_upto_if 137 with fail
      go_cut [7] (fun v wx => ∃ (ra' : Option Addr) (rn' rc' : Nat), v = .slice ra' rn' rc' ∧ Hid (FinS Q zs D0 pp w1 ra' rn' rc' wx))
      case first =>
        -- <PE
        by_cases hr0 : rn = 0
        · as_aux_lemma =>
          subst hr0
          have hM0 : 0 < M.length := by
            cases hm : M with
            | nil => have := HO.out.2.2.1; rw [hm] at this; cases this
            | cons x r => simp
          have hz0 : 0 < zs.length := by rw [HC.out.sel.1]; exact hM0
          obtain ⟨th0, hkp⟩ := HR.out.kp
          have hrow := HC.out.row hkp hM0 hz0
          obtain ⟨gv, vc', hvv, hrow2⟩ := hrow
          simp only [Value.slice.injEq] at hvv
          obtain ⟨rfl, hz, rfl⟩ := hvv
          clear hz
          have hcw := HC.out.weak hkp hM0 hz0
          obtain ⟨pa, sa, sc, fa, fc, hxf⟩ := (HC.out.cp hM0 hz0).form
          obtain ⟨m, hm⟩ : ∃ m, m = M[0].subs.length := ⟨_, rfl⟩
          obtain ⟨ln, hln⟩ : ∃ m, m = M[0].nest := ⟨_, rfl⟩
          obtain ⟨cb, hcb⟩ : ∃ m, m = M[0].cb := ⟨_, rfl⟩
          obtain ⟨we, hwe⟩ : ∃ m, m = M[0].we := ⟨_, rfl⟩
          rw [← hm, ← hln, ← hcb, ← hwe] at hxf
          rw [hxf, Nat.zero_mul] at hrow2
          rw [hxf] at hcw
          have hsub := HC.out.mok.sub _ (List.getElem_mem hM0)
          have HCS := Lib.hid (csr_any eW (fun y => y < wr.heap.size) pa sa fa m sc ln fc cb we M[0] wr (fun b hb => hb) hcw (by rw [hm]; have := hsub.1; omega) (by rw [hln]; have := hsub.2.1; omega) (fun x a h => h))
          have HRW := Lib.hid hrow2
          have q1 : (0 : Int) < k := by have := HMN.out; omega
          clear hm hln hcb hwe hrow2 hxf hcw hsub hkp
          go_wp2_with (refine wpList_load_mid ?hgd 37 (.tmp 141) ?hoq gv 0 ?hpa (Cv.cells ⟨.pointer pa, .slice sa m sc, .slice fa ln fc, cb, we⟩) tC ?hrq hC hC2 szCmp ?_; (case hoq => rfl); (case hgd => rfl); (case hpa => first | rfl | simp); (case hrq => exact HRW.out))
          refine HCS.out.mono ?_
          rintro e wd ⟨⟨a0, l0, rfl⟩, hb⟩
          have hbs1 := bs_loc a0 wd
          have hal1 : Below wd.heap.size wd (wd.alloc (.cells #[.int .i32 a0] 33)) := (Below.refl _ _).alloc (Nat.le_refl _) _
          have hrg1 := rg_new wd #[.int .i32 a0] 33
          have hsz1 : (wd.alloc (.cells #[.int .i32 a0] 33)).heap.size = wd.heap.size + 1 := World.size_alloc _ _
          obtain ⟨we1, hwe1⟩ : ∃ x, x = wd.alloc (.cells #[.int .i32 a0] 33) := ⟨_, rfl⟩
          rw [← hwe1] at hbs1 hal1 hrg1 hsz1
          obtain ⟨gl, hgl⟩ : ∃ x', x' = wd.heap.size := ⟨_, rfl⟩
          rw [← hgl] at hbs1 hrg1 hsz1
          have hbs2 := bs_cmp ⟨.pointer none, .slice none 0 0, .slice (some ⟨gl, 0, none⟩) 1 1, 0, true⟩ we1
          have hal2 : Below we1.heap.size we1 (we1.alloc (.cells (Cv.cells ⟨.pointer none, .slice none 0 0, .slice (some ⟨gl, 0, none⟩) 1 1, 0, true⟩).toArray 37)) := (Below.refl _ _).alloc (Nat.le_refl _) _
          have hblk := heap_alloc_new we1 (.cells (Cv.cells ⟨.pointer none, .slice none 0 0, .slice (some ⟨gl, 0, none⟩) 1 1, 0, true⟩).toArray 37)
          obtain ⟨we2, hwe2⟩ : ∃ x, x = we1.alloc (.cells (Cv.cells ⟨.pointer none, .slice none 0 0, .slice (some ⟨gl, 0, none⟩) 1 1, 0, true⟩).toArray 37) := ⟨_, rfl⟩
          rw [← hwe2] at hal2 hbs2 hblk
          obtain ⟨g2, hg2⟩ : ∃ x', x' = we1.heap.size := ⟨_, rfl⟩
          rw [← hg2] at hbs2 hblk
          obtain ⟨hbase, hown, hpu⟩ := OutS.none (pp := pp) (by have := HPP.out.2.2; have := HL.out.2.1.1; omega) HR.out ((hb.trans (hal1.mono hb.size)).trans (hal2.mono (Nat.le_trans hb.size hal1.size))) (by have := hb.size; omega) (by have := hal2.size; omega) (rg_keep hal2 hrg1)
          have HOWN := Lib.hid hown
          have HPU := Lib.hid hpu
          have HBK := Lib.hid hblk
          have HBS := Lib.hid hbase
          clear hwe1 hwe2 hb hal1 hal2 hrg1 hsz1 hgl hg2 hblk hbase hown hpu HCS HRW c6
          go_wp2_with (first
            | (at_builtin
               refine wpl_appR rfl (.tmp 138) (.tmp 147) _ rfl (D0 + 1) 37 i3 _ 6 72 Try.underlying38 HK3.out.1 HK3.out.2.1 HK3.out.2.2.1 HK3.out.2.2.2 rfl (by omega) (.slice ra 0 rc) 0 [] (show _ = _ from rfl) HOWN.out (some ⟨g2, 0, none⟩) 1 1 (Cv.cells ⟨.pointer none, .slice none 0 0, .slice (some ⟨gl, 0, none⟩) 1 1, 0, true⟩) (show _ = _ from rfl) rfl (fun h => by cases h) (fun aa haa => by cases haa; exact World.news_of_block HBK.out) (one_cv rfl rfl rfl) (by unfold maxLen; omega) (by omega) HBS.out ?_
               intro v8 w8 hown8 hgrow8 hat8
               obtain ⟨sa8, sc8, rfl⟩ := own_slice hown8
               obtain ⟨hpb, hfin⟩ := HPU.out _ _ (by simpa using hown8) hgrow8 (hat8.imp id (fun q y hy => by rw [q] at hy; cases hy; exact Nat.le_refl _))
               have HST := Lib.hid (hfin _ _ rfl)
               have p1 := cell_ag hpb HPP.out.1
               have p2 : w8.frozen? ⟨pp, 53, none⟩ = false := by rw [World.frozen?_of_block (a := ⟨pp, 53, none⟩) hpb]; exact HPP.out.2.1
               clear hown8 hgrow8 hat8 hpb hfin)
            | (refine wpl_fld rfl 64 (.tmp 143) 0 rfl (.agg (rg2 a0 l0).toArray) (.agg #[.int .i32 a0]) (show _ = _ from rfl) (run_fld a0 l0 _) ?_)
            | (refine wpl_bs1 ?hgd 31 (.tmp 144) ?hoq (.agg #[.int .i32 a0]) (.slice (some ⟨gl, 0, none⟩) 1 1) we1 ?hxq ?hrq ?_
               case hoq => rfl
               case hgd => rfl
               case hrq => exact hbs1
               case hxq => (show _ = _; rfl))
            | (refine wpl_bs1 ?hgd 38 (.tmp 146) ?hoq (.agg (Cv.cells ⟨.pointer none, .slice none 0 0, .slice (some ⟨gl, 0, none⟩) 1 1, 0, true⟩).toArray) (.slice (some ⟨g2, 0, none⟩) 1 1) we2 ?hxq ?hrq ?_
               case hoq => rfl
               case hgd => rfl
               case hrq => exact hbs2
               case hxq => (show _ = _; rfl)))
          go_meet
          exact ⟨_, _, _, rfl, Lib.hid (HST.out _ _)⟩
        · as_aux_lemma =>
          have e0 : ((rn : Int) == 0) = false := beq_eq_false_iff_ne.2 (by omega)
          have HST := Lib.hid (OutS.fin (pp := pp) HC.out (by rw [← HMN.out]; exact HR.out))
          clear hr0
          go_wp2_with fail
          go_meet
          exact ⟨_, _, _, rfl, HST⟩
        -- PE>
      case rest =>
      obtain ⟨ra2, rn2, rc2, rfl, HF⟩ := hcut
      clear HR c6
      as_aux_lemma =>
      -- <PF
      have hM0 : 0 < M.length := by
        cases hm : M with
        | nil => have := HO.out.2.2.1; rw [hm] at this; cases this
        | cons x r => simp
      have hb5 := HF.out.far HC.out HL.out.2.1.1 HPP.out.2.2
      rw [← HD.out] at hb5
      have hr5 := rg_ag hb5 H5.out.1
      have ht5 := th_ag hb5 H5.out.2.2.2.2
      have c5 := hr5 0 _ rfl
      have f5 := (ht5 0 (by decide)).2
      simp only [Nat.zero_add] at c5 f5
      have hr6 := rg_set (k := 0) (n := 1) (v := .slice ra2 rn2 rc2) hr5 (by show 0 < 1; decide)
      have d5 := hr6 0 _ rfl
      simp only [Nat.zero_add] at d5
      have hbs := bs_cpl (.slice ra2 rn2 rc2) (wc.setCell ⟨b5, 0, none⟩ (.slice ra2 rn2 rc2))
      have hal : Below (wc.setCell ⟨b5, 0, none⟩ (.slice ra2 rn2 rc2)).heap.size (wc.setCell ⟨b5, 0, none⟩ (.slice ra2 rn2 rc2)) ((wc.setCell ⟨b5, 0, none⟩ (.slice ra2 rn2 rc2)).alloc (.cells #[.slice ra2 rn2 rc2] 40)) := (Below.refl _ _).alloc (Nat.le_refl _) _
      have hblk := heap_alloc_new (wc.setCell ⟨b5, 0, none⟩ (.slice ra2 rn2 rc2)) (.cells #[.slice ra2 rn2 rc2] 40)
      obtain ⟨w7, hw7⟩ : ∃ x, x = (wc.setCell ⟨b5, 0, none⟩ (.slice ra2 rn2 rc2)).alloc (.cells #[.slice ra2 rn2 rc2] 40) := ⟨_, rfl⟩
      rw [← hw7] at hal hbs hblk
      have hal2 := hal
      rw [HD.out] at hal2
      obtain ⟨hown, hfin⟩ := HF.out.fin HC.out HL.out.2.1.1 HL.out.2.2.1 hM0 HL.out.1 hal2
      obtain ⟨g7, hg7⟩ : ∃ x', x' = (wc.setCell ⟨b5, 0, none⟩ (.slice ra2 rn2 rc2)).heap.size := ⟨_, rfl⟩
      rw [← hg7] at hbs hblk
      have HBK := Lib.hid hblk
      have HOWN := Lib.hid hown
      have HFN := Lib.hid hfin
      clear hw7 hal hal2 hblk hg7 hown hfin hr5 ht5 hr6 hb5 hM0 HF
      go_wp2_with (first
        | (at_builtin
           refine wpl_appR2 rfl (.tmp 154) (.tmp 156) _ rfl 0 40 i1 _ 1 24 Try.underlying27 HK.out.1 HK.out.2.1 HK.out.2.2.1 HK.out.2.2.2 rfl (by omega) (.slice la nl lc) nl cs (show _ = _ from rfl) HOWN.out ⟨g7, 0, none⟩ 1 1 [.slice ra2 rn2 rc2] (show _ = _ from rfl) rfl (World.news_of_block HBK.out) (fun u hu => by rw [List.mem_singleton.1 hu]; rfl) (by omega) (by unfold maxLen; omega) (by omega) (Nat.zero_le _) ?_
           intro v8 w8 hown8 hgrow8 hat8
           have HST := Lib.hid (HFN.out _ _ hown8 hgrow8 (hat8.imp id (fun q => ⟨fun y hy => by rw [q.1] at hy; cases hy; exact Nat.le_refl _, fun la' lc' q' => by have := q.2 la' lc' q'; omega⟩)))
           clear hown8 hgrow8 hat8)
        | (refine wpl_bs1 ?hgd 27 (.tmp 155) ?hoq (.agg #[.slice ra2 rn2 rc2]) (.slice (some ⟨g7, 0, none⟩) 1 1) w7 ?hxq ?hrq ?_
           case hoq => rfl
           case hgd => rfl
           case hrq => exact hbs
           case hxq => (show _ = _; rfl)))
      go_ret
      exact HST.out
      -- PF>
      -- P6>
end Go.Proofs.Ytbpnmiedomchpaa.Fg
