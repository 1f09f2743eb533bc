/-
  zzMinLoc, zzCopyLocs, ZZnewCorner, ZZnewTracker4.
-/
import Derived.Test.YtmaljklijpoojaaDoorCg
namespace Go.Proofs.YtmaljklijpoojaaDoor.Co
open Go.ChangeShapes Go.WideShapes Go.ChangeAt Go.RowKit Rg Quad
set_option linter.unusedVariables false
set_option linter.unusedSimpArgs false
/-- an array of four indices -/
def i4 (ix : Nat → Nat) : List Value := [.int .i64 (ix 0 : Int), .int .i64 (ix 1 : Int), .int .i64 (ix 2 : Int), .int .i64 (ix 3 : Int)]
theorem i4_at (ix : Nat → Nat) {i : Nat} (h : i < 4) : (i4 ix)[i]? = some (.int .i64 (ix i : Int)) := by
  have : i = 0 ∨ i = 1 ∨ i = 2 ∨ i = 3 := by omega
  rcases this with rfl | rfl | rfl | rfl <;> rfl
def sn (ix : Nat → Nat) (i j : Nat) : Bool := (List.range j).any fun k => ix k == ix i
theorem sn_succ (ix : Nat → Nat) (i j : Nat) : sn ix i (j + 1) = (sn ix i j || (ix j == ix i)) := by simp [sn, List.range_succ, List.any_append]
def lz (ix : Nat → Nat) (lc : Nat → Int) (i : Nat) : Int := if sn ix i i then 0 else lc (ix i)
def mz (ix : Nat → Nat) (lc : Nat → Int) : Nat → Int
  | 0 => 0
  | i + 1 => if i = 0 ∨ lz ix lc i < mz ix lc i then lz ix lc i else mz ix lc i
def IS (ix : Nat → Nat) (g n : Nat) (al : Option Addr) (lc : Nat → Int) (w0 w : World) : Prop := (∀ i, i < 4 → w.cell? ⟨g, i, none⟩ = some (.int .i64 (ix i : Int))) ∧ Sl w al n (fun i => .int .i32 (lc i)) ∧ w0.heap.size ≤ w.heap.size ∧ Below w0.heap.size w0 w
theorem IS.keep {ix : Nat → Nat} {g n : Nat} {al : Option Addr} {lc : Nat → Int} {w0 w w' : World} (h : IS ix g n al lc w0 w) (hb : Below w.heap.size w w') : IS ix g n al lc w0 w' :=
  ⟨fun i hi => later hb (h.1 i hi), h.2.1.keep hb, Nat.le_trans h.2.2.1 hb.size, h.2.2.2.trans (hb.mono h.2.2.1)⟩
theorem IS.drewN {ix : Nat → Nat} {g n : Nat} {al : Option Addr} {lc : Nat → Int} {w0 w : World} (h : IS ix g n al lc w0 w) (k : Nat) : IS ix g n al lc w0 (w.drewN k) := h.keep ⟨rfl, rfl, rfl, Nat.le_refl _, fun _ _ => rfl⟩
set_option maxRecDepth 100000 in
set_option maxHeartbeats 4000000 in
theorem ml_any (ix : Nat → Nat) (al : Option Addr) (n c : Nat) (lc : Nat → Int) (w : World) (hx : ∀ i, i < 4 → ix i < n) (hl : Sl w al n (fun i => .int .i32 (lc i))) :
    Calls Tryd.prog 11 #[.agg (i4 ix).toArray, .slice al n c] w fun e w' => e = .returned (.int .i32 (mz ix lc 4)) ∧ Below w.heap.size w w' := by
  have HX := Lib.hid hx
  have hb : Below w.heap.size w (w.alloc (.cells (i4 ix).toArray 58)) := (Below.refl _ _).alloc (Nat.le_refl _) _
  have hr : (w.alloc (.cells (i4 ix).toArray 58)).rangeAt w.heap.size 0 (i4 ix) := rg_new w (i4 ix).toArray 58
  have hS : IS ix w.heap.size n al lc w (w.alloc (.cells (i4 ix).toArray 58)) := ⟨fun i hi => by have := hr i _ (i4_at ix hi); rwa [Nat.zero_add] at this, hl.keep hb, hb.size, hb⟩
  clear hx hl hr hb
  obtain ⟨g, hg⟩ : ∃ g, w.heap.size = g := ⟨_, rfl⟩
  rw [hg] at hS
  unfold i4 at hS
  have HS0 := Lib.hid hS
  clear hS
  unfold i4
  go_enter Tryd.func11, Tryd.ntmps11
  go_upto_block 0 with fail
  try rw [hg]
  generalize World.alloc w _ = w1 at *
  go_wp2_with fail
  go_loopw [5, 6] (fun mv iv wr => ∃ (i : Nat) (m : Int), i ≤ 4 ∧ iv = .int .i64 i ∧ mv = .int .i32 m ∧ Hid (m = mz ix lc i) ∧ Hid (IS ix g n al lc w wr)) (fun _ iv _ => 4 - (intOf iv).toNat)
  case atStart => exact ⟨0, 0, by omega, rfl, rfl, Lib.hid rfl, HS0⟩
  case round =>
    clear HS0
    obtain ⟨i, m, hi, rfl, rfl, HM, HS⟩ := hrel
    by_cases hlt : i < 4
    case neg =>
      obtain rfl : i = 4 := by omega
      go_wp2_with fail
      go_ret
      exact ⟨by rw [HM.out]; rfl, by first | exact HS.out.2.2.2 | (have := HS.out.2.2.2; rwa [hg] at this)⟩
    have q0 : (0 : Int) ≤ i := by omega
    have q1 : (i : Int) < 4 := by omega
    go_upto_block 2 with fail
    go_cut [8] (fun sv wc => sv = .bool (sn ix i i) ∧ Hid (IS ix g n al lc w wc))
    case first =>
      go_wp2_with fail
      go_loopw [8, 9] (fun sv jv wq => ∃ (j : Nat) (b : Bool), j ≤ i ∧ jv = .int .i64 j ∧ sv = .bool b ∧ Hid (b = sn ix i j) ∧ Hid (IS ix g n al lc w wq)) (fun _ jv _ => i - (intOf jv).toNat)
      case atStart => exact ⟨0, false, Nat.zero_le _, rfl, rfl, Lib.hid rfl, HS⟩
      case round =>
        clear HS
        obtain ⟨j, b, hj, rfl, rfl, HB, HS⟩ := hrel
        by_cases hlt2 : j < i
        case neg =>
          obtain rfl : j = i := by omega
          go_wp2_with fail
          go_meet
          exact ⟨by rw [HB.out], HS⟩
        have q2 : (0 : Int) ≤ j := by omega
        have q3 : (j : Int) < i := by omega
        have q4 : (j : Int) < 4 := by omega
        have cj := HS.out.1 j (by omega)
        have ci := HS.out.1 i hlt
        have hsn := sn_succ ix i j
        rw [← HB.out] at hsn
        clear HB
        go_upto_region 10 with fail
        go_quiet (fail)
        have HS2 := Lib.hid (HS.out.drewN nq)
        clear HS cj ci
        by_cases e : ix j = ix i
        · have e2 : ((ix j : Int) == (ix i : Int)) = true := by rw [beq_iff_eq]; omega
          have HN : Hid (true = sn ix i (j + 1)) := Lib.hid (by rw [hsn, beq_iff_eq.2 e, Bool.or_true])
          clear hsn e
          go_wp2_with fail
          exact ⟨⟨j + 1, true, by omega, by go_num, rfl, HN, HS2⟩, by simp [intOf]; omega⟩
        · have e2 : ((ix j : Int) == (ix i : Int)) = false := beq_eq_false_iff_ne.mpr (by omega)
          have HN : Hid (b = sn ix i (j + 1)) := Lib.hid (by rw [hsn, beq_eq_false_iff_ne.mpr e, Bool.or_false])
          clear hsn e
          go_wp2_with fail
          exact ⟨⟨j + 1, b, by omega, by go_num, rfl, HN, HS2⟩, by simp [intOf]; omega⟩
    case rest =>
      clear HS
      obtain ⟨rfl, HS⟩ := hcut
      have ci := HS.out.1 i hlt
      obtain ⟨ab, ao, rfl, cl⟩ := HS.out.2.1 (ix i) (HX.out i hlt)
      have q5 : (0 : Int) ≤ ix i := by omega
      have q6 : (ix i : Int) < n := by have := HX.out i hlt; omega
      have hmz : mz ix lc (i + 1) = if i = 0 ∨ lz ix lc i < m then lz ix lc i else m := by rw [HM.out]; rfl
      obtain ⟨l, hl⟩ : ∃ l, lz ix lc i = l := ⟨_, rfl⟩
      rw [hl] at hmz
      unfold lz at hl
      dsimp only at cl
      have HMZ := Lib.hid hmz
      clear hmz HM
      cases hb : sn ix i i with
      | true =>
        rw [hb, if_pos rfl] at hl
        subst hl
        clear hb cl ci
        by_cases h0 : i = 0
        · subst h0
          have HN : Hid ((0 : Int) = mz ix lc 1) := Lib.hid (by rw [HMZ.out, if_pos (Or.inl rfl)])
          clear HMZ
          go_wp2_with fail
          exact ⟨⟨1, 0, by omega, by go_num, rfl, HN, HS⟩, by simp [intOf]⟩
        · have h0b : ((i : Int) == 0) = false := beq_eq_false_iff_ne.mpr (by omega)
          by_cases hm : (0 : Int) < m
          · have HN : Hid ((0 : Int) = mz ix lc (i + 1)) := Lib.hid (by rw [HMZ.out, if_pos (Or.inr hm)])
            clear HMZ
            go_wp2_with fail
            exact ⟨⟨i + 1, 0, by omega, by go_num, rfl, HN, HS⟩, by simp [intOf]; omega⟩
          · have HN : Hid (m = mz ix lc (i + 1)) := Lib.hid (by rw [HMZ.out, if_neg (by omega)])
            clear HMZ
            go_wp2_with fail
            exact ⟨⟨i + 1, m, by omega, by go_num, rfl, HN, HS⟩, by simp [intOf]; omega⟩
      | false =>
        rw [hb, if_neg (by simp)] at hl
        rw [hl] at cl
        clear hb hl
        by_cases h0 : i = 0
        · subst h0
          have HN : Hid (l = mz ix lc 1) := Lib.hid (by rw [HMZ.out, if_pos (Or.inl rfl)])
          clear HMZ
          go_wp2_with fail
          exact ⟨⟨1, l, by omega, by go_num, rfl, HN, HS⟩, by simp [intOf]⟩
        · have h0b : ((i : Int) == 0) = false := beq_eq_false_iff_ne.mpr (by omega)
          by_cases hm : l < m
          · have HN : Hid (l = mz ix lc (i + 1)) := Lib.hid (by rw [HMZ.out, if_pos (Or.inr hm)])
            clear HMZ
            go_wp2_with fail
            exact ⟨⟨i + 1, l, by omega, by go_num, rfl, HN, HS⟩, by simp [intOf]; omega⟩
          · have HN : Hid (m = mz ix lc (i + 1)) := Lib.hid (by rw [HMZ.out, if_neg (by omega)])
            clear HMZ
            go_wp2_with fail
            exact ⟨⟨i + 1, m, by omega, by go_num, rfl, HN, HS⟩, by simp [intOf]; omega⟩
/-- a corner's cells -/
def cnR (m1 m2 : Int) (x : Nat) (sg : Bool) : List Value := tyR (m1, 0) ++ (tyR (m2, 0) ++ [.string ⟨#[]⟩, .int .u8 0, .int .u32 (x : Int), .bool sg])
theorem tyCn : ∃ d, Tryd.prog.underlying 66 = some d ∧ d.isRow = true := ⟨_, Tryd.underlying66, rfl⟩
theorem szCn : (Tryd.prog.info? 66).map (·.size) = some 18 := by kernel_rfl
def cnG (t1 t2 : ByteArray) (k1 k2 : Int) (x : Nat) (sg : Bool) : List Value := [.pointer none, .string t1, .int .i32 0, .int .u32 0, .int .u16 0, .int .u8 k1, .int .u8 0, .pointer none, .string t2, .int .i32 0, .int .u32 0, .int .u16 0, .int .u8 k2, .int .u8 0, .string ⟨#[]⟩, .int .u8 0, .int .u32 (x : Int), .bool sg]
theorem cnG_one (t1 t2 : ByteArray) (k1 k2 : Int) (x : Nat) (sg : Bool) : ((cnG t1 t2 k1 k2 x sg).toArray.all fun y => y.oneCell') = true := by simp [cnG, Value.oneCell']
theorem cnR_eq (m1 m2 : Int) (x : Nat) (sg : Bool) : cnR m1 m2 x sg = cnG (tT m1) (tT m2) (tK m1) (tK m2) x sg := by
  unfold cnR cnG tyR
  generalize tT m1 = a
  generalize tT m2 = b
  generalize tK m1 = c
  generalize tK m2 = d
  rfl
theorem bld43 (a : ByteArray) (b : Int) (W : World) : (Instr.build 64 #[(0, .string a), (1, .int .u8 b)]).run Tryd.prog W = .ok (.agg #[.string a, .int .u8 b]) W := run_build W _ _ _ (by kernel_rfl)
theorem bld45 (t1 t2 a : ByteArray) (k1 k2 b x : Int) (sg : Bool) (W : World) : (Instr.build 66 #[(0, .agg #[.pointer none, .string t1, .int .i32 0, .int .u32 0, .int .u16 0, .int .u8 k1, .int .u8 0]), (1, .agg #[.pointer none, .string t2, .int .i32 0, .int .u32 0, .int .u16 0, .int .u8 k2, .int .u8 0]), (2, .agg #[.string a, .int .u8 b]), (3, .int .u32 x), (4, .bool sg)]).run Tryd.prog W =
    .ok (.agg #[.pointer none, .string t1, .int .i32 0, .int .u32 0, .int .u16 0, .int .u8 k1, .int .u8 0, .pointer none, .string t2, .int .i32 0, .int .u32 0, .int .u16 0, .int .u8 k2, .int .u8 0, .string a, .int .u8 b, .int .u32 x, .bool sg]) W := run_build W _ _ _ (by kernel_rfl)
/-- the tracker's cells -/
def trR (q1 q2 : Nat → Int) (ix : Nat → Nat) (sg imp : Bool) : List Value := cnR (q1 0) (q2 0) (ix 0) sg ++ (cnR (q1 1) (q2 1) (ix 1) sg ++ (cnR (q1 2) (q2 2) (ix 2) sg ++ (cnR (q1 3) (q2 3) (ix 3) sg ++ [.bool imp])))
/-- the four corners' cells -/
def qdR (q1 q2 : Nat → Int) (ix : Nat → Nat) (sg : Bool) : List Value := cnR (q1 0) (q2 0) (ix 0) sg ++ (cnR (q1 1) (q2 1) (ix 1) sg ++ (cnR (q1 2) (q2 2) (ix 2) sg ++ cnR (q1 3) (q2 3) (ix 3) sg))
theorem wpl_build4 {P : Program} {ops : Array Oper} {rest : List Oper} {o : Oper} {a : Act} {w : World} {Q : Exit → Act → World → Prop} (hg : o.guard = none) (t : TypeId) (x0 x1 x2 x3 : Operand) (ho : o.op = .build t #[(0, x0), (1, x1), (2, x2), (3, x3)]) (v0 v1 v2 v3 r : Value) (h0 : a.eval x0 = v0) (h1 : a.eval x1 = v1) (h2 : a.eval x2 = v2) (h3 : a.eval x3 = v3) (hrun : (Instr.build t #[(0, v0), (1, v1), (2, v2), (3, v3)]).run P w = .ok r w) (h : wpList P ops Q rest (a.put o.dst r) w) : wpList P ops Q (o :: rest) a w := by
  refine wpList_plain hg fun _ hK => ?_
  unfold Oper.wp execOp
  simp only [ho, Sem.run_bind, List.map_toArray, List.map_cons, List.map_nil, h0, h1, h2, h3, hrun, Result.andThen_ok]
  exact hK _ _ h
theorem wpl_build2 {P : Program} {ops : Array Oper} {rest : List Oper} {o : Oper} {a : Act} {w : World} {Q : Exit → Act → World → Prop} (hg : o.guard = none) (t : TypeId) (x0 x1 : Operand) (ho : o.op = .build t #[(0, x0), (1, x1)]) (v0 v1 r : Value) (h0 : a.eval x0 = v0) (h1 : a.eval x1 = v1) (hrun : (Instr.build t #[(0, v0), (1, v1)]).run P w = .ok r w) (h : wpList P ops Q rest (a.put o.dst r) w) : wpList P ops Q (o :: rest) a w := by
  refine wpList_plain hg fun _ hK => ?_
  unfold Oper.wp execOp
  simp only [ho, Sem.run_bind, List.map_toArray, List.map_cons, List.map_nil, h0, h1, hrun, Result.andThen_ok]
  exact hK _ _ h
end Go.Proofs.YtmaljklijpoojaaDoor.Co
