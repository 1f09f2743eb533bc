/-
  zzBuildStops.
-/
import Derived.Test.YtfhfeimlikpbpaaDoorTc
import Derived.Test.YtfhfeimlikpbpaaDoorPn
import Derived.Deep.DeepCutAuto
import Derived.Deep.CutBlock
namespace Go.Proofs.YtfhfeimlikpbpaaDoor.Cs
open Go.ChangeShapes Go.WideShapes Go.ChangeAt Go.RowKit Rg
set_option linter.unusedVariables false
/-- the head of the loop over the stops -/
def BL (B k : Nat) (v : Value) (N : Nat → Nat) (C M : Nat → ByteArray) (w0 w : World) : Prop :=
  ∃ L : List Sp, SR w B v L ∧ L.map Sp.t = bld N C M k ∧ (∃ g c, v = .slice (some ⟨g, 0, none⟩) k c) ∧ Below B w0 w ∧ B ≤ w.heap.size
theorem BL.keep {B k : Nat} {v : Value} {N : Nat → Nat} {C M : Nat → ByteArray} {w0 w w' : World} (h : BL B k v N C M w0 w) (hb : Below w.heap.size w w') : BL B k v N C M w0 w' := by
  obtain ⟨L, h1, h2, h3, h4, h5⟩ := h
  exact ⟨L, h1.keep hb, h2, h3, h4.trans (hb.mono h5), Nat.le_trans h5 hb.size⟩
theorem BL.below {B k : Nat} {v : Value} {N : Nat → Nat} {C M : Nat → ByteArray} {w0 w : World} (h : BL B k v N C M w0 w) : Below B w0 w := by
  obtain ⟨L, h1, h2, h3, h4, h5⟩ := h
  exact h4
/-- what zzBuildStops answers -/
def BlP (n : Nat) (N : Nat → Nat) (C M : Nat → ByteArray) (w : World) (e : Ending) (w' : World) : Prop := ∃ v, e = .returned v ∧ BL w.heap.size n v N C M w w'
set_option maxRecDepth 100000 in
set_option maxHeartbeats 4000000 in
theorem bld_any (ac ap am : Option Addr) (lc lp lm cc cp cm n : Nat) (Z : Nat → Nat) (C M : Nat → ByteArray) (w : World) (hn : n ≤ 65536) (hc : n ≤ lc) (hp : n ≤ lp) (hm : n ≤ lm) (hlc : lc ≤ maxLen) (hlp : lp ≤ maxLen) (hlm : lm ≤ maxLen)
    (hz : ∀ i, Z i < 256) (h1 : Sl w ac lc (fun i => .string (C i))) (h2 : Sl w ap lp (fun i => .int .u8 (Z i : Nat))) (h3 : Sl w am lm (fun i => .string (M i))) :
    Calls Tryd.prog 9 #[.slice ac lc cc, .slice ap lp cp, .slice am lm cm, .int .i64 n, .int .u8 4, .int .u8 2] w (BlP n (fun i => Z i % 4) C M w) := by
  obtain ⟨i0, hi, hz0, hz1, hz2⟩ := info_parts infoSt
  obtain ⟨i1, ji, jz0, jz1, jz2⟩ := info_parts infoTok
  have hmk := fun W => run_make_rowN (P := Tryd.prog) 29 44 i0 _ (by kernel_rfl) hi hz0 .i64 .i64 0 n (Nat.zero_le _) (by rw [hz2]; omega) (by omega) W
  rw [hz1] at hmk
  have hmk0 : ∀ W : World, (Instr.makeSlice 29 (.int .i64 0) (.int .i64 n)).run Tryd.prog W = .ok (.slice (some ⟨W.heap.size, 0, none⟩) 0 n) (W.alloc (.cells (madeCells #[.slice none 0 0, .pointer none, .string ⟨#[]⟩, .int .i32 0, .int .u32 0, .int .u16 0, .int .u8 0, .int .u8 0, .pointer none, .string ⟨#[]⟩, .int .i32 0, .int .u32 0, .int .u16 0, .int .u8 0, .int .u8 0] (n * 15)) 44)) := hmk
  clear hmk
  have HI := Lib.hid (And.intro hi (And.intro hz0 (And.intro hz1 hz2)))
  have HJ := Lib.hid (And.intro ji (And.intro jz0 (And.intro jz1 jz2)))
  have HS := Lib.hid (And.intro h1 (And.intro h2 h3))
  have HL := Lib.hid (And.intro hlc (And.intro hlp (And.intro hlm (And.intro hc (And.intro hp hm)))))
  have HR0 := Lib.hid (show BL w.heap.size 0 (.slice (some ⟨w.heap.size, 0, none⟩) 0 n) (fun i => Z i % 4) C M w (w.alloc (.cells (madeCells #[.slice none 0 0, .pointer none, .string ⟨#[]⟩, .int .i32 0, .int .u32 0, .int .u16 0, .int .u8 0, .int .u8 0, .pointer none, .string ⟨#[]⟩, .int .i32 0, .int .u32 0, .int .u16 0, .int .u8 0, .int .u8 0] (n * 15)) 44)) from
    ⟨[], ⟨World.ownsRow_made w _ n (Nat.le_refl _) (by unfold maxLen; omega) (by simp [madeCells]), fun s hs => by cases hs⟩, rfl, ⟨_, _, rfl⟩, (Below.refl _ _).alloc (Nat.le_refl _) _, by simp⟩)
  clear hi hz0 hz1 hz2 h1 h2 h3 ji jz0 jz1 jz2 hlc hlp hlm hc hp hm
  go_enter Tryd.func9, Tryd.ntmps9
  go_wp2_with fail
  generalize (World.alloc _ _ : World) = wA at HR0 ⊢
  have HR : ∃ (k q : Nat) (v : Value), k = 0 ∧ q = 0 ∧ v = .slice (some ⟨w.heap.size, 0, none⟩) 0 n ∧ Hid (BL w.heap.size k v (fun i => Z i % 4) C M w wA) := ⟨0, 0, _, rfl, rfl, rfl, HR0⟩
  clear HR0 hmk0
  go_loopw [13, 14, 15] (fun v q i wr => ∃ (k : Nat), k ≤ n ∧ i = .int .i64 k ∧ q = .int .i64 (qs (fun i => Z i % 4) k : Nat) ∧ Hid (BL w.heap.size k v (fun i => Z i % 4) C M w wr)) (fun _ _ i _ => n - (intOf i).toNat)
  case atStart =>
    obtain ⟨k, q, v, rfl, rfl, rfl, HR⟩ := HR
    exact ⟨0, Nat.zero_le _, rfl, rfl, HR⟩
  case round =>
    clear HR
    obtain ⟨k, hk, rfl, rfl, HR⟩ := hrel
    by_cases hlt : k < n
    · have q0 : (0 : Int) ≤ k := by omega
      have q1 : (k : Int) < n := by omega
      have HQ := Lib.hid (qs_le (fun i => Z i % 4) (fun i => by omega) k)
      obtain ⟨Q, hQ⟩ : ∃ Q, Q = qs (fun i => Z i % 4) k := ⟨_, rfl⟩
      rw [← hQ] at HQ ⊢
      have HQE := Lib.hid hQ
      clear hQ
      obtain ⟨HLa, HLb, HLc, HLd, HLe, HLf⟩ := HL.out
      obtain ⟨cb, co, rfl, d0⟩ := (HS.out.1.keep HR.out.below) k (by omega)
      obtain ⟨pb, po, rfl, d1⟩ := (HS.out.2.1.keep HR.out.below) k (by omega)
      obtain ⟨mb, mo, rfl, d2⟩ := (HS.out.2.2.keep HR.out.below) k (by omega)
      have l1 : (k : Int) < lc := by omega
      have l2 : (k : Int) < lp := by omega
      have l3 : (k : Int) < lm := by omega
      clear HLa HLb HLc HLd HLe HLf
      have HD := Lib.hid (And.intro d0 (And.intro d2 (And.intro l1 l3)))
      clear d0 d2 l1 l3
      go_wp2_with fail
      clear d1 l2
      obtain ⟨N, hN⟩ : ∃ N, N = Z k % 4 := ⟨_, rfl⟩
      rw [show ((Z k : Nat) : Int) % 4 = (N : Int) by omega]
      have HN := Lib.hid hN
      have hN4 : N ≤ 3 := by omega
      clear hN
      rename World => w1
      go_loopw [14, 17, 18] (fun q v j wq => ∃ (i : Nat), i ≤ N ∧ j = .int .i64 i ∧ q = .int .i64 (Q + i : Nat) ∧ Hid (PR wq w1.heap.size v (List.range' Q i) ∧ Below w1.heap.size w1 wq)) (fun _ _ j _ => N - (intOf j).toNat)
      case atStart => exact ⟨0, Nat.zero_le _, rfl, rfl, Lib.hid ⟨World.ownsRow_nil _ _ _ _, Below.refl _ _⟩⟩
      case round =>
        obtain ⟨i, hi, rfl, rfl, HP⟩ := hrel
        by_cases hlt2 : i < N
        · clear HR HD
          have q2 : (0 : Int) ≤ i := by omega
          have q3 : (i : Int) < N := by omega
          have hqb : Q + i < 10000000000 := by have := HQ.out; omega
          have hqw : wrap64 ((Q : Int) + i + 1) = (Q + (i + 1) : Nat) := by have := HQ.out; unfold wrap64; omega
          go_wp2_with fail
          refine (pos_any (Q + i) hqb _).mono ?_
          rintro e w2 ⟨rfl, hb⟩
          have HO := Lib.hid ((own_keep HP.out.1 hb).alloc (.cells #[.pointer none, .string (ptx (Q + i)), .int .i32 0, .int .u32 0, .int .u16 0, .int .u8 34, .int .u8 2] 42))
          have HB := Lib.hid (show Below w1.heap.size w1 (w2.alloc (.cells #[.pointer none, .string (ptx (Q + i)), .int .i32 0, .int .u32 0, .int .u16 0, .int .u8 34, .int .u8 2] 42)) from (HP.out.2.trans (hb.mono HP.out.2.size)).alloc (Nat.le_trans HP.out.2.size hb.size) _)
          have HSZ := Lib.hid (Nat.le_trans HP.out.2.size hb.size)
          clear hb HP hqb
          go_wp2_with (first
            | (refine wpl_bs1 rfl 34 (.tmp 41) rfl _ _ _ (by rfl) (bs_tk 34 2 (ptx (Q + i)) w2) ?_)
            | (at_builtin
               refine wpList_append_lies _ rfl (.tmp 38) (.tmp 42) _ rfl w1.heap.size 42 i1 _ 7 40 Tryd.underlying34 HJ.out.1 HJ.out.2.1 HJ.out.2.2.1 HJ.out.2.2.2 rfl (by omega) u17 i ((List.range' Q i).flatMap pt) (by rfl) (by simpa using HO.out) ⟨w2.heap.size, 0, none⟩ 1 1 (pt (Q + i)) (by rfl) (by rfl) (World.news_of_block (heap_alloc_new w2 _)) (tk_one _ _ _) (by omega) (by unfold maxLen; omega) (by omega) (by have := HSZ.out; simp; omega) (w2.heap.size + 1) (by simp) ?_
               intro g2 cap w3 hown hgrow hat hlt3))
          have HN2 : Hid (PR w3 w1.heap.size (.slice (some ⟨g2, 0, none⟩) (i + 1) cap) (List.range' Q (i + 1)) ∧ Below w1.heap.size w1 w3) := by
            refine Lib.hid ⟨?_, HB.out.grown hgrow (by have := HSZ.out; simp; omega) (fun q hq => (HO.out.lt q hq).1)⟩
            have e : (List.range' Q (i + 1)).flatMap pt = (List.range' Q i).flatMap pt ++ pt (Q + i) := by
              rw [List.range'_concat, List.flatMap_append]; simp
            show World.ownsRow _ _ _ _ _ _ _
            rw [e, List.length_range']
            exact hown
          exact ⟨⟨i + 1, by omega, by go_num, by rw [hqw], HN2⟩, by simp [intOf]; omega⟩
        · obtain rfl : i = N := by omega
          have HBL := Lib.hid (HR.out.keep HP.out.2)
          have HW1 := Lib.hid HR.out.below.size
          obtain ⟨d0', d2', l1, l3⟩ := HD.out
          have d0 := later HP.out.2 d0'
          have d2 := later HP.out.2 d2'
          clear d0' d2' HD HR
          obtain ⟨pa, pc, hu⟩ := HP.out.1.slice
          subst hu
          have HPS := Lib.hid (And.intro HP.out.1 HW1.out)
          clear HP
          go_wp2_with fail
          rename World => w2
          have HS0 := Lib.hid (show w2.drew.cell? ⟨cb, co + k, none⟩ = some (.string (C k)) ∧ w2.drew.cell? ⟨mb, mo + k, none⟩ = some (.string (M k)) ∧ Below w2.heap.size w2 w2.drew from ⟨d0, d2, (Below.refl _ _).drew⟩)
          clear d0 d2
          refine Pl.wp_region_split (fun w' => w'.cell? ⟨cb, co + k, none⟩ = some (.string (C k)) ∧ w'.cell? ⟨mb, mo + k, none⟩ = some (.string (M k)) ∧ Below w2.heap.size w2 w') 14 (by kernel_rfl) (by kernel_rfl) ?_
          simp only [List.take_succ_cons, List.take_zero]
          have hHeld := HS0.out
          refine Pl.take_l (i := 0) (v := ?v1) rfl (by kernel_rfl) (by kernel_rfl) (by kernel_rfl) (fun _ _ _ h => h) rfl ?hy1 hHeld ?rest1
          case hy1 => (intro w hSw; (try dsimp only at hSw); (try obtain ⟨_, _, _⟩ := hSw); go_simp <;> (try with_reducible rfl))
          try simp only [Act.put, List.setIfInBounds_toArray, List.set_cons_zero, List.set_cons_succ]
          refine Pl.take_l (i := 1) (v := ?v2) rfl (by kernel_rfl) (by kernel_rfl) (by kernel_rfl) (fun _ _ _ h => h) rfl ?hy2 hHeld ?rest2
          case hy2 => (intro w hSw; (try dsimp only at hSw); (try obtain ⟨_, _, _⟩ := hSw); go_simp <;> (try with_reducible rfl))
          try simp only [Act.put, List.setIfInBounds_toArray, List.set_cons_zero, List.set_cons_succ]
          refine Pl.take_l (i := 2) (v := ?v3) rfl (by kernel_rfl) (by kernel_rfl) (by kernel_rfl) (fun _ _ _ h => h) rfl ?hy3 hHeld ?rest3
          case hy3 => (intro w hSw; (try dsimp only at hSw); (try obtain ⟨_, _, _⟩ := hSw); go_simp <;> (try with_reducible rfl))
          try simp only [Act.put, List.setIfInBounds_toArray, List.set_cons_zero, List.set_cons_succ]
          refine Pl.take_l (i := 3) (v := ?v4) rfl (by kernel_rfl) (by kernel_rfl) (by kernel_rfl) (fun _ _ _ h => h) rfl ?hy4 hHeld ?rest4
          case hy4 => (intro w hSw; (try dsimp only at hSw); (try obtain ⟨_, _, _⟩ := hSw); go_simp <;> (try with_reducible rfl))
          try simp only [Act.put, List.setIfInBounds_toArray, List.set_cons_zero, List.set_cons_succ]
          refine Pl.take_l (i := 4) (v := ?v5) rfl (by kernel_rfl) (by kernel_rfl) (by kernel_rfl) (fun _ _ _ h => h) rfl ?hy5 hHeld ?rest5
          case hy5 => (intro w hSw; (try dsimp only at hSw); (try obtain ⟨_, _, _⟩ := hSw); go_simp <;> (try with_reducible rfl))
          try simp only [Act.put, List.setIfInBounds_toArray, List.set_cons_zero, List.set_cons_succ]
          refine Pl.take_l (i := 6) (v := ?v6) rfl (by kernel_rfl) (by kernel_rfl) (by kernel_rfl) (fun _ _ _ h => h) rfl ?hy6 hHeld ?rest6
          case hy6 => (intro w hSw; (try dsimp only at hSw); (try obtain ⟨_, _, _⟩ := hSw); go_simp <;> (try with_reducible rfl))
          try simp only [Act.put, List.setIfInBounds_toArray, List.set_cons_zero, List.set_cons_succ]
          refine Pl.take_l (i := 7) (v := ?v7) rfl (by kernel_rfl) (by kernel_rfl) (by kernel_rfl) (fun _ _ _ h => h) rfl ?hy7 hHeld ?rest7
          case hy7 => (intro w hSw; (try dsimp only at hSw); (try obtain ⟨_, _, _⟩ := hSw); go_simp <;> (try with_reducible rfl))
          try simp only [Act.put, List.setIfInBounds_toArray, List.set_cons_zero, List.set_cons_succ]
          refine Pl.take_l (i := 8) (v := ?v8) rfl (by kernel_rfl) (by kernel_rfl) (by kernel_rfl) (fun _ _ _ h => h) rfl ?hy8 hHeld ?rest8
          case hy8 => (intro w hSw; (try dsimp only at hSw); (try obtain ⟨_, _, _⟩ := hSw); go_simp <;> (try with_reducible rfl))
          try simp only [Act.put, List.setIfInBounds_toArray, List.set_cons_zero, List.set_cons_succ]
          refine Pl.take_l (i := 9) (v := ?v9) rfl (by kernel_rfl) (by kernel_rfl) (by kernel_rfl) (fun _ _ _ h => h) rfl ?hy9 hHeld ?rest9
          case hy9 => (intro w hSw; (try dsimp only at hSw); (try obtain ⟨_, _, _⟩ := hSw); go_simp <;> (try with_reducible rfl))
          try simp only [Act.put, List.setIfInBounds_toArray, List.set_cons_zero, List.set_cons_succ]
          refine Pl.take_l (i := 10) (v := ?v10) rfl (by kernel_rfl) (by kernel_rfl) (by kernel_rfl) (fun _ _ _ h => h) rfl ?hy10 hHeld ?rest10
          case hy10 => (intro w hSw; (try dsimp only at hSw); (try obtain ⟨_, _, _⟩ := hSw); go_simp <;> (try with_reducible rfl))
          try simp only [Act.put, List.setIfInBounds_toArray, List.set_cons_zero, List.set_cons_succ]
          refine Pl.alone_l (i := 5) (by kernel_rfl) rfl (fun K hK => ?_)
          go_simp; refine (col_any (C k) _).mono ?_; rintro e w3 ⟨rfl, hb⟩; have HK3 := Lib.hid (show w3.cell? ⟨cb, co + k, none⟩ = some (.string (C k)) ∧ w3.cell? ⟨mb, mo + k, none⟩ = some (.string (M k)) ∧ Below w2.heap.size w2 w3 from ⟨later hb hHeld.1, later hb hHeld.2.1, hHeld.2.2.trans (hb.mono hHeld.2.2.size)⟩); clear hb; dsimp only
          refine hK.out _ _ HK3.out (fun hHeld2 => ?_)
          clear hK K hHeld
          have hHeld := hHeld2
          clear hHeld2
          try simp only [Act.put, List.setIfInBounds_toArray, List.set_cons_zero, List.set_cons_succ]
          refine Pl.alone_l (i := 11) (by kernel_rfl) rfl (fun K hK => ?_)
          go_simp; refine (mid_any (M k) _).mono ?_; rintro e w4 ⟨rfl, hb⟩; have HK4 := Lib.hid (show w4.cell? ⟨cb, co + k, none⟩ = some (.string (C k)) ∧ w4.cell? ⟨mb, mo + k, none⟩ = some (.string (M k)) ∧ Below w2.heap.size w2 w4 from ⟨later hb hHeld.1, later hb hHeld.2.1, hHeld.2.2.trans (hb.mono hHeld.2.2.size)⟩); clear hb; dsimp only
          refine hK.out _ _ HK4.out (fun hHeld2 => ?_)
          clear hK K hHeld
          have hHeld := hHeld2
          clear hHeld2
          try simp only [Act.put, List.setIfInBounds_toArray, List.set_cons_zero, List.set_cons_succ]
          refine Pl.alone_l (i := 12) (by kernel_rfl) rfl (fun K hK => ?_)
          go_simp; refine (new_any _ _ _ (C k) (M k) _ _).mono ?_; rintro e w5 ⟨rfl, hb⟩; have HK5 := Lib.hid (show w5.cell? ⟨cb, co + k, none⟩ = some (.string (C k)) ∧ w5.cell? ⟨mb, mo + k, none⟩ = some (.string (M k)) ∧ Below w2.heap.size w2 w5 from ⟨later hb hHeld.1, later hb hHeld.2.1, hHeld.2.2.trans (hb.mono hHeld.2.2.size)⟩); clear hb; dsimp only
          refine hK.out _ _ HK5.out (fun hHeld2 => ?_)
          clear hK K hHeld
          have hHeld := hHeld2
          clear hHeld2
          try simp only [Act.put, List.setIfInBounds_toArray, List.set_cons_zero, List.set_cons_succ]
          have hbs := bs_st pa i pc (C k) (M k) (mk (M k)) w5
          refine Pl.alone_l (i := 13) (by kernel_rfl) rfl (fun K hK => ?_)
          refine step_bs1 rfl 29 (.tmp 58) rfl _ _ _ (by rfl) hbs ?_; have HK6 := Lib.hid (show (w5.alloc (.cells #[.slice pa i pc, .pointer none, .string (C k), .int .i32 0, .int .u32 0, .int .u16 0, .int .u8 29, .int .u8 2, .pointer none, .string (M k), .int .i32 0, .int .u32 0, .int .u16 0, .int .u8 (mk (M k)), .int .u8 0] 44)).cell? ⟨cb, co + k, none⟩ = some (.string (C k)) ∧ (w5.alloc (.cells #[.slice pa i pc, .pointer none, .string (C k), .int .i32 0, .int .u32 0, .int .u16 0, .int .u8 29, .int .u8 2, .pointer none, .string (M k), .int .i32 0, .int .u32 0, .int .u16 0, .int .u8 (mk (M k)), .int .u8 0] 44)).cell? ⟨mb, mo + k, none⟩ = some (.string (M k)) ∧ Below w2.heap.size w2 (w5.alloc (.cells #[.slice pa i pc, .pointer none, .string (C k), .int .i32 0, .int .u32 0, .int .u16 0, .int .u8 29, .int .u8 2, .pointer none, .string (M k), .int .i32 0, .int .u32 0, .int .u16 0, .int .u8 (mk (M k)), .int .u8 0] 44)) from ⟨alloc_cell hHeld.1 _, alloc_cell hHeld.2.1 _, hHeld.2.2.alloc hHeld.2.2.size _⟩); dsimp only
          refine hK.out _ _ HK6.out (fun hHeld2 => ?_)
          clear hK K hHeld
          have hHeld := hHeld2
          clear hHeld2
          try simp only [Act.put, List.setIfInBounds_toArray, List.set_cons_zero, List.set_cons_succ]
          have HK7 := Lib.hid (show Below w2.heap.size w2 (w5.alloc (.cells #[.slice pa i pc, .pointer none, .string (C k), .int .i32 0, .int .u32 0, .int .u16 0, .int .u8 29, .int .u8 2, .pointer none, .string (M k), .int .i32 0, .int .u32 0, .int .u16 0, .int .u8 (mk (M k)), .int .u8 0] 44)) from HK6.out.2.2)
          have HB5 := Lib.hid HK5.out.2.2
          clear HK3 HK4 HK5 HK6
          refine wpAnyH_done (by kernel_rfl) ?_ _
          refine Pl.behind_normal (by decide) ?_
          simp only [List.drop_succ_cons, List.drop_zero]
          clear hHeld
          obtain ⟨L, hL1, hL2, ⟨g1, c1, hv1⟩, hL4, hL5⟩ := HBL.out
          have hLl : L.length = k := by have := congrArg List.length hL2; simpa [bld] using this
          have hBw := hL5
          have HO := Lib.hid (show World.ownsRow (w5.alloc (.cells #[.slice pa i pc, .pointer none, .string (C k), .int .i32 0, .int .u32 0, .int .u16 0, .int .u8 29, .int .u8 2, .pointer none, .string (M k), .int .i32 0, .int .u32 0, .int .u16 0, .int .u8 (mk (M k)), .int .u8 0] 44)) w.heap.size 44 15 u13 k (L.flatMap Sp.cells) from by have h := own_keep hL1.1 HK7.out; rw [hLl] at h; exact h)
          have HLL := Lib.hid (And.intro hL1 (And.intro hL2 (And.intro hL4 hL5)))
          have HSZ := Lib.hid (Nat.le_trans hL5 HB5.out.size)
          clear hL1 hL2 hv1 hL4 hL5 hBw HBL hbs
          go_wp2_with (first
            | (at_builtin
               refine wpList_append_lies _ rfl (.tmp 46) (.tmp 59) _ rfl w.heap.size 44 i0 _ 15 104 Tryd.underlying29 HI.out.1 HI.out.2.1 HI.out.2.2.1 HI.out.2.2.2 rfl (by omega) u13 k (L.flatMap Sp.cells) (by rfl) HO.out ⟨w5.heap.size, 0, none⟩ 1 1 (st (.slice pa i pc) (C k) (M k)) (by rfl) (by rfl) (World.news_of_block (heap_alloc_new w5 _)) (st_one _ _ _ _ _) (by omega) (by unfold maxLen; omega) (by omega) (by have := HSZ.out; simp; omega) (w5.heap.size + 1) (by simp) ?_
               intro g2 cap w6 hown hgrow hat hlt3))
          have hq : (Value.int IntKind.i64 ((Q : Int) + i)) = .int .i64 (qs (fun i => Z i % 4) (k + 1) : Nat) := by
            have h : qs (fun i => Z i % 4) (k + 1) = Q + i := by rw [qs, ← HQE.out, ← HN.out]
            rw [h]; rfl
          have HF : Hid (BL w.heap.size (k + 1) (.slice (some ⟨g2, 0, none⟩) (k + 1) cap) (fun i => Z i % 4) C M w w6) := by
            obtain ⟨hL1, hL2, hL4, hL5⟩ := HLL.out
            refine Lib.hid ⟨L ++ [⟨.slice pa i pc, List.range' Q i, C k, M k⟩], ⟨?_, ?_⟩, ?_, ⟨_, _, rfl⟩, ?_, ?_⟩
            · rw [List.length_append, hLl, List.flatMap_append]
              simpa [Sp.cells] using hown
            · intro s hs
              rcases List.mem_append.1 hs with h | h
              · exact PR.grown (own_keep (hL1.2 s h) HK7.out) HO.out hgrow
              · obtain rfl : s = ⟨.slice pa i pc, List.range' Q i, C k, M k⟩ := by simpa using h
                have h3 : PR w2 w1.heap.size (.slice pa i pc) (List.range' Q i) := by have h4 := HPS.out.1; simpa using h4
                exact PR.grown (own_keep (own_mono h3 (Nat.zero_le _)) HK7.out) HO.out hgrow
            · rw [List.map_append, hL2, bld_succ, ← HQE.out, ← HN.out]
              rfl
            · exact (hL4.trans (HK7.out.mono hL5)).grown hgrow (Nat.le_trans hL5 HK7.out.size) (fun q hq => (HO.out.lt q hq).1)
            · exact Nat.le_trans (Nat.le_trans hL5 HK7.out.size) hgrow.size
          exact ⟨⟨k + 1, by omega, by go_num, hq, HF⟩, by simp [intOf]; omega⟩
    · obtain rfl : k = n := by omega
      go_wp2_with fail
      go_ret
      exact ⟨_, rfl, HR.out⟩
end Go.Proofs.YtfhfeimlikpbpaaDoor.Cs
