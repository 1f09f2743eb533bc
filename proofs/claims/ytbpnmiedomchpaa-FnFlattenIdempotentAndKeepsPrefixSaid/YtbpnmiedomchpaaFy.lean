/-
  A compound as it is observed.
-/
import Derived.Test.YtbpnmiedomchpaaFx
namespace Go.Proofs.Ytbpnmiedomchpaa.Fg
open Go.ChangeShapes Go.WideShapes Go.ChangeAt Go.RowKit Rg
set_option linter.unusedVariables false
set_option linter.unusedSimpArgs false
theorem tyGrp : ∃ d, Try.prog.underlying 48 = some d ∧ d.isRow = true := ⟨_, Try.underlying48, rfl⟩
theorem szGrp : (Try.prog.info? 48).map (·.size) = some 5 := by kernel_rfl
theorem infoStr : (Try.prog.info? 9).map (fun i => (i.zero, i.size, i.bytes)) = some (some (.string ⟨#[]⟩), 1, 16) := by kernel_rfl
def grc (cb : Nat) (ty : ByteArray) (nl : Nat) (sv : Value) (we : Bool) : List Value := [.int .u8 (cb : Nat), .string ty, .int .i64 (nl : Nat), sv, .bool we]
def encV (su : Su) : Value := .string ⟨(encS su).toArray⟩
def tyS : Option ByteArray → ByteArray
  | none => ⟨#[]⟩
  | some t => t
theorem bs_str (t : ByteArray) (w : World) : (Instr.buildSlice 46 1 #[(0, .string t)]).run Try.prog w = .ok (.slice (some ⟨w.heap.size, 0, none⟩) 1 1) (w.alloc (.cells #[.string t] 9)) := by
  obtain ⟨i0, hi, hz0, hz1, hz2⟩ := info_parts infoStr
  exact run_buildSlice w 46 9 1 _ _ i0 _ Try.underlying46 hi hz0 (by rw [hz1]; decide) (by rw [hz1]; decide) (by rw [hz1]; kernel_rfl)
/-- the state of the observation -/
structure Ob (w : World) (cs : List Value) (b1 b2 b3 : Nat) (g : Value → List Value) (L : List Su) (k : Nat) (sv : Value) (W : World) : Prop where
  bel : Below w.heap.size w W
  r1 : W.rangeAt b1 0 cs
  t2 : W.there b2 0 5
  r3 : W.rangeAt b3 0 (g sv)
  t3 : W.there b3 0 5
  row : W.ownsRow w.heap.size 9 1 sv k ((L.take k).map encV)
  big : w.heap.size ≤ b1 ∧ w.heap.size ≤ b2 ∧ w.heap.size ≤ b3
  ne : ∀ y, sv.ownBlock = some y → y ≠ b1 ∧ y ≠ b2 ∧ y ≠ b3
  far : b1 ≠ b3 ∧ b2 ≠ b3 ∧ b1 < W.heap.size
theorem Ob.keep {w : World} {cs : List Value} {b1 b2 b3 : Nat} {g : Value → List Value} {L : List Su} {k : Nat} {sv : Value} {W W' : World} (h : Ob w cs b1 b2 b3 g L k sv W) (hb : Below W.heap.size W W') : Ob w cs b1 b2 b3 g L k sv W' :=
  ⟨h.bel.trans (hb.mono h.bel.size), rg_keep hb h.r1, th_keep hb h.t2, rg_keep hb h.r3, th_keep hb h.t3, own_keep h.row hb, h.big, h.ne, h.far.1, h.far.2.1, Nat.lt_of_lt_of_le h.far.2.2 hb.size⟩
/-- the next string -/
theorem Ob.push {w : World} {cs : List Value} {b1 b2 b3 cb nl : Nat} {ty : ByteArray} {we : Bool} {L : List Su} {k : Nat} {sv v' : Value} {W W' : World} (h : Ob w cs b1 b2 b3 (fun v => grc cb ty nl v we) L k sv W) (hk : k < L.length) (ho : W'.ownsRow w.heap.size 9 1 v' (k + 1) ((L.take k).map encV ++ [encV L[k]])) (hg : W.grownBy W' sv.ownBlock)
    (hv : v'.ownBlock = sv.ownBlock ∨ ∀ y, v'.ownBlock = some y → W.heap.size ≤ y) : Ob w cs b1 b2 b3 (fun v => grc cb ty nl v we) L (k + 1) v' (W'.setCell ⟨b3, 3, none⟩ v') := by
  have hb2 := th_lt h.t2 (by decide)
  have hb3 := th_lt h.t3 (by decide)
  have e1 := hg.block b1 h.far.2.2 (fun q => (h.ne b1 q.symm).1 rfl)
  have e2 := hg.block b2 hb2 (fun q => (h.ne b2 q.symm).2.1 rfl)
  have e3 := hg.block b3 hb3 (fun q => (h.ne b3 q.symm).2.2 rfl)
  have hne : ∀ y, v'.ownBlock = some y → y ≠ b1 ∧ y ≠ b2 ∧ y ≠ b3 := fun y hy => by
    rcases hv with hv | hv
    · exact h.ne y (by rw [← hv]; exact hy)
    · have := hv y hy; have := h.far.2.2; omega
  have hbw : Below w.heap.size w W' := h.bel.grown hg h.bel.size (fun k hk => (h.row.lt k hk).1)
  refine ⟨hbw.setCell (by show w.heap.size ≤ b3; exact h.big.2.2) _, rg_ag ((heap_set h.far.1).trans e1) h.r1, th_ag ((heap_set h.far.2.1).trans e2) h.t2, rg_set (k := 3) (n := 5) (rg_ag e3 h.r3) (by show 3 < 5; decide), th_set (th_ag e3 h.t3), ?_, h.big, hne, h.far.1, h.far.2.1, by rw [size_set]; exact Nat.lt_of_lt_of_le h.far.2.2 hg.size⟩
  have ho2 : W'.ownsRow w.heap.size 9 1 v' (k + 1) ((L.take (k + 1)).map encV) := by
    rw [List.take_succ_eq_append_getElem hk, List.map_append]
    exact ho
  exact own_ag ho2 (fun y hy => heap_set (hne y hy).2.2)
set_option maxRecDepth 100000 in
set_option maxHeartbeats 8000000 in
theorem obc_any (X : Nat → Prop) (pa sa la : Option Addr) (nS sc nl lc cb : Nat) (we : Bool) (c : Cp Su) (w : World) (hX : ∀ b, X b → b < w.heap.size) (h : CpV e1 X w ⟨.pointer pa, .slice sa nS sc, .slice la nl lc, cb, we⟩ c) (hq : ∀ s ∈ c.subs, QS s) (hl : nS ≤ 4398046511104) (hl2 : nl ≤ 4398046511104) :
    Calls Try.prog 22 #[.agg (Cv.cells ⟨.pointer pa, .slice sa nS sc, .slice la nl lc, cb, we⟩).toArray] w (fun e w' => ∃ va vc, e = .returned (.agg (grc cb (tyS c.tp) nl (.slice va nS vc) we).toArray) ∧ w'.ownsRow w.heap.size 9 1 (.slice va nS vc) nS (c.subs.map encV) ∧ Below w.heap.size w w') := by
  obtain ⟨tS, hS1, hS2⟩ := tySub
  obtain ⟨tG, hG, hG2⟩ := tyGrp
  have hnS : nS = c.subs.length := by
    obtain ⟨a, cc, hv⟩ := RW.slice h.2.1
    simp only [Value.slice.injEq] at hv
    exact hv.2.1
  obtain ⟨i0, hi, hz0, hz1, hz2⟩ := info_parts infoStr
  have HK := Lib.hid (And.intro hi (And.intro hz0 (And.intro hz1 hz2)))
  obtain ⟨ot, hot⟩ : ∃ t, t = c.tp := ⟨_, rfl⟩
  have hty := h.1
  dsimp only at hty
  rw [← hot] at hty ⊢
  have HTY := Lib.hid (And.intro hty hX)
  have HX := Lib.hid (And.intro h (And.intro hX (And.intro hq hnS)))
  clear h hX hq hnS hi hz0 hz1 hz2 hty hot
  go_enter Try.func22, Try.ntmps22
  go_upto_region 1 with fail
  have hb1 : Below w.heap.size w (w.alloc (.cells (Cv.cells ⟨.pointer pa, .slice sa nS sc, .slice la nl lc, cb, we⟩).toArray 37)) := (Below.refl _ _).alloc (Nat.le_refl _) _
  have hr1 := rg_new w (Cv.cells ⟨.pointer pa, .slice sa nS sc, .slice la nl lc, cb, we⟩).toArray 37
  have hs1 : (w.alloc (.cells (Cv.cells ⟨.pointer pa, .slice sa nS sc, .slice la nl lc, cb, we⟩).toArray 37)).heap.size = w.heap.size + 1 := World.size_alloc _ _
  generalize w.alloc _ = w1 at *
  have hb2 : Below w1.heap.size w1 (w1.alloc (.cells #[.int .u8 0, .string ⟨#[]⟩, .int .i64 0, .slice none 0 0, .bool false] 48)) := (Below.refl _ _).alloc (Nat.le_refl _) _
  have ht2 := th_new w1 #[.int .u8 0, .string ⟨#[]⟩, .int .i64 0, .slice none 0 0, .bool false] 48 (n := 5) rfl
  have hs2 : (w1.alloc (.cells #[.int .u8 0, .string ⟨#[]⟩, .int .i64 0, .slice none 0 0, .bool false] 48)).heap.size = w1.heap.size + 1 := World.size_alloc _ _
  generalize w1.alloc _ = w2 at *
  obtain ⟨b1, hq1⟩ : ∃ b, b = w.heap.size := ⟨_, rfl⟩
  rw [hs1] at ht2 hs2
  rw [← hq1] at hr1 ht2 hs2 ⊢
  obtain ⟨b2, hq2⟩ : ∃ b, b = b1 + 1 := ⟨_, rfl⟩
  rw [← hq2] at ht2 hs2 ⊢
  have hr2 := rg_keep hb2 hr1
  have l0 := hr2 0 _ rfl
  have l2 := hr2 2 _ rfl
  have l4 := hr2 4 _ rfl
  have l5 := hr2 5 _ rfl
  simp only [Nat.zero_add] at l0 l2 l4 l5
  have HW2 := Lib.hid (And.intro (hb1.trans (hb2.mono hb1.size)) (And.intro hr2 (And.intro ht2 (And.intro hs2 (And.intro hq1 hq2)))))
  have HGA := Lib.hid (show (grc cb ⟨#[]⟩ nl (.slice none 0 0) we).toArray.all (·.oneCell') = true from all_oneCell_toArray (fun u hu => by
    simp only [grc, List.mem_cons, List.not_mem_nil, or_false] at hu
    rcases hu with rfl | rfl | rfl | rfl | rfl <;> rfl))
  clear hb1 hr1 hs1 hb2 ht2 hs2 hr2 hq1 hq2
  go_upto_region 2 with (refine wpList_store_mid ?hgd 48 (.tmp 3) (.tmp 13) ?hoq w2.heap.size 0 (grc cb ⟨#[]⟩ nl (.slice none 0 0) we).toArray ?hpa ?hxq ?hrq szGrp ?hlq ?_
                         case hoq => rfl
                         case hgd => rfl
                         case hpa => rfl
                         case hxq => rfl
                         case hrq => exact th_new w2 _ _ rfl
                         case hlq => exact HGA.out)
  have hbS : Below w2.heap.size w2 ((w2.alloc (.cells #[.int .u8 0, .string ⟨#[]⟩, .int .i64 0, .slice none 0 0, .bool false] 48)).setCells w2.heap.size 0 (grc cb ⟨#[]⟩ nl (.slice none 0 0) we)) := below_setCells (Nat.le_refl _) _ _ ((Below.refl _ _).alloc (Nat.le_refl _) _)
  have hrS : ((w2.alloc (.cells #[.int .u8 0, .string ⟨#[]⟩, .int .i64 0, .slice none 0 0, .bool false] 48)).setCells w2.heap.size 0 (grc cb ⟨#[]⟩ nl (.slice none 0 0) we)).rangeAt w2.heap.size 0 (grc cb ⟨#[]⟩ nl (.slice none 0 0) we) := World.rangeAt_setCells_same _ _ _ _ (th_new w2 _ _ rfl)
  have htS : ((w2.alloc (.cells #[.int .u8 0, .string ⟨#[]⟩, .int .i64 0, .slice none 0 0, .bool false] 48)).setCells w2.heap.size 0 (grc cb ⟨#[]⟩ nl (.slice none 0 0) we)).there w2.heap.size 0 5 := World.there_setCells (th_new w2 _ _ rfl) _ 0 _
  have hzS : ((w2.alloc (.cells #[.int .u8 0, .string ⟨#[]⟩, .int .i64 0, .slice none 0 0, .bool false] 48)).setCells w2.heap.size 0 (grc cb ⟨#[]⟩ nl (.slice none 0 0) we)).heap.size = w2.heap.size + 1 := by rw [size_setCells, World.size_alloc]
  generalize World.setCells _ _ _ _ = w3 at *
  obtain ⟨b3, hq3⟩ : ∃ b, b = w2.heap.size := ⟨_, rfl⟩
  rw [← hq3] at hrS htS hzS ⊢
  have HO := Lib.hid (show Ob w (Cv.cells ⟨.pointer pa, .slice sa nS sc, .slice la nl lc, cb, we⟩) b1 b2 b3 (fun v => grc cb ⟨#[]⟩ nl v we) c.subs 0 (.slice none 0 0) w3 from
    ⟨HW2.out.1.trans (hbS.mono HW2.out.1.size), rg_keep hbS HW2.out.2.1, th_keep hbS HW2.out.2.2.1, hrS, htS, World.ownsRow_nil _ _ _ _, by have := HW2.out.2.2.2; omega, fun y hy => (by cases hy), by have := HW2.out.2.2.2; omega⟩)
  clear hbS hrS htS hzS hq3 HW2 HGA l0 l2 l4 l5
  as_aux_lemma =>
  have l0 := HO.out.r1 0 _ rfl
  simp only [Nat.zero_add] at l0
  go_upto_if 16 with fail
  go_cut [] (fun wx => Hid (Ob w (Cv.cells ⟨.pointer pa, .slice sa nS sc, .slice la nl lc, cb, we⟩) b1 b2 b3 (fun v => grc cb (tyS ot) nl v we) c.subs 0 (.slice none 0 0) wx))
  case first =>
    have hty := HTY.out.1
    have HX2 := Lib.hid HTY.out.2
    clear HX HTY
    cases ot with
    | none =>
      as_aux_lemma =>
      have htv : Value.pointer pa = .pointer none := hty
      simp only [Value.pointer.injEq] at htv
      subst htv
      go_wp2_with fail
      go_meet
      exact Lib.hid HO.out
    | some t =>
      as_aux_lemma =>
      obtain ⟨p, htv, hXp, hrp⟩ := hty
      have htv2 : Value.pointer pa = .pointer (some ⟨p, 0, none⟩) := htv
      simp only [Value.pointer.injEq] at htv2
      subst htv2
      have hrp2 := rg_ag (HO.out.bel.block p (HX2.out p hXp)) hrp
      have n0 := hrp2 0 _ rfl
      have n1 := hrp2 1 _ rfl
      have m1 := HO.out.r3 1 _ rfl
      have z1 := (HO.out.t3 1 (by decide)).2
      simp only [Nat.zero_add] at n0 n1 m1 z1
      have hpl := HX2.out p hXp
      have n0' : (w3.setCell ⟨b3, 1, none⟩ (.string t)).cell? ⟨p, 0, none⟩ = some (.pointer none) := cell_ag (heap_set (by have := HO.out.big.2.2; omega)) n0
      have l0' : (w3.setCell ⟨b3, 1, none⟩ (.string t)).cell? ⟨b1, 0, none⟩ = some (.pointer (some ⟨p, 0, none⟩)) := cell_ag (heap_set HO.out.far.1) l0
      have HN := Lib.hid (show Ob w (Cv.cells ⟨.pointer (some ⟨p, 0, none⟩), .slice sa nS sc, .slice la nl lc, cb, we⟩) b1 b2 b3 (fun v => grc cb t nl v we) c.subs 0 (.slice none 0 0) (w3.setCell ⟨b3, 1, none⟩ (.string t)) from
        ⟨HO.out.bel.setCell (by show w.heap.size ≤ b3; exact HO.out.big.2.2) _, rg_ag (heap_set HO.out.far.1) HO.out.r1, th_ag (heap_set HO.out.far.2.1) HO.out.t2, rg_set (k := 1) (n := 5) HO.out.r3 (by show 1 < 5; decide), th_set HO.out.t3, World.ownsRow_nil _ _ _ _, HO.out.big, HO.out.ne, HO.out.far.1, HO.out.far.2.1, by rw [size_set]; exact HO.out.far.2.2⟩)
      clear hrp hrp2 hXp htv hpl HO
      go_wp2_with fail
      go_meet
      exact Lib.hid HN.out
  case rest =>
  clear HO l0
  have HO := hcut
  clear hcut
  as_aux_lemma =>
  have l1 := HO.out.r1 1 _ rfl
  simp only [Nat.zero_add] at l1
  go_upto_block 0 with fail
  clear l1
  refine wp_block ?_
  go_loopw [4] (fun iv wr => ∃ (k : Nat) (va : Option Addr) (vc : Nat), k ≤ nS ∧ iv = .int .i64 k ∧ Hid (Ob w (Cv.cells ⟨.pointer pa, .slice sa nS sc, .slice la nl lc, cb, we⟩) b1 b2 b3 (fun v => grc cb (tyS ot) nl v we) c.subs k (.slice va k vc) wr)) (fun iv _ => nS - (intOf iv).toNat)
  case atStart => exact ⟨0, none, 0, Nat.zero_le _, rfl, HO⟩
  case round =>
    clear HO
    obtain ⟨k, va, vc, hk, rfl, HR⟩ := hrel
    have l1 := HR.out.r1 1 _ rfl
    simp only [Nat.zero_add] at l1
    by_cases hlt : k < nS
    · skip
      -- <KA
      as_aux_lemma =>
      have q0 : (0 : Int) ≤ k := by omega
      have q1 : (k : Int) < nS := by omega
      have kL : k < c.subs.length := by have := HX.out.2.2.2; omega
      obtain ⟨g, o, c4, ye, hve, hXg, hrg, hel⟩ := RW.at HX.out.1.2.1 kL
      simp only [Value.slice.injEq] at hve
      obtain ⟨rfl, hz, rfl⟩ := hve
      clear hz
      have HD : Below wr.heap.size wr wr.drew := (Below.refl _ _).drew
      have HRD := Lib.hid (HR.out.keep HD)
      have hrg2 := rg_ag (HRD.out.bel.block g (HX.out.2.1 g hXg)) hrg
      have d3 := HRD.out.r3 3 _ rfl
      have d1 := HRD.out.r1 1 _ rfl
      simp only [Nat.zero_add] at d1 d3
      have HS0 := Lib.hid (And.intro d3 (And.intro d1 hrg2))
      have HEL := Lib.hid (And.intro hel (HX.out.2.2.1 _ (List.getElem_mem kL)))
      clear hel hXg hrg hrg2 d1 d3 HD
      go_upto_region 9 with fail
      clear l1
      refine Pl.wp_region_split (fun w' => w'.cell? ⟨b3, 3, none⟩ = some (.slice va k vc) ∧ w'.cell? ⟨b1, 1, none⟩ = some (.slice (some ⟨g, o, none⟩) nS sc) ∧ w'.rangeAt g (o + k * 3) (sbc ye)) 9 (by kernel_rfl) (by kernel_rfl) ?_
      simp only [List.take_succ_cons, List.take_zero]
      have hHeld := HS0.out
      refine Pl.take_l (i := 0) (v := ?v1049) rfl (by kernel_rfl) (by kernel_rfl) (by kernel_rfl) (fun _ _ _ h => h) rfl ?hy1049 hHeld ?rest1049
      case hy1049 => (intro w hSw; (try dsimp only at hSw); (obtain ⟨_, _, _⟩ := hSw); go_simp <;> (try with_reducible rfl))
      try simp only [Act.put, List.setIfInBounds_toArray, List.set_cons_zero, List.set_cons_succ]
      refine Pl.take_l (i := 1) (v := ?v1050) rfl (by kernel_rfl) (by kernel_rfl) (by kernel_rfl) (fun _ _ _ h => h) rfl ?hy1050 hHeld ?rest1050
      case hy1050 => (intro w hSw; (try dsimp only at hSw); (obtain ⟨_, _, _⟩ := hSw); go_simp <;> (try with_reducible rfl))
      try simp only [Act.put, List.setIfInBounds_toArray, List.set_cons_zero, List.set_cons_succ]
      refine Pl.take_l (i := 2) (v := ?v1051) rfl (by kernel_rfl) (by kernel_rfl) (by kernel_rfl) (fun _ _ _ h => h) rfl ?hy1051 hHeld ?rest1051
      case hy1051 => (intro w hSw; (try dsimp only at hSw); (obtain ⟨_, _, _⟩ := hSw); go_simp <;> (try with_reducible rfl))
      try simp only [Act.put, List.setIfInBounds_toArray, List.set_cons_zero, List.set_cons_succ]
      refine Pl.take_l (i := 3) (v := ?v1052) rfl (by kernel_rfl) (by kernel_rfl) (by kernel_rfl) (fun _ _ _ h => h) rfl ?hy1052 hHeld ?rest1052
      case hy1052 => (intro w hSw; (try dsimp only at hSw); (obtain ⟨_, _, _⟩ := hSw); go_simp <;> (try with_reducible rfl))
      try simp only [Act.put, List.setIfInBounds_toArray, List.set_cons_zero, List.set_cons_succ]
      refine Pl.take_l (i := 4) (v := ?v1053) rfl (by kernel_rfl) (by kernel_rfl) (by kernel_rfl) (fun _ _ _ h => h) rfl ?hy1053 hHeld ?rest1053
      case hy1053 => (intro w hSw; (try dsimp only at hSw); (obtain ⟨_, _, _⟩ := hSw); go_simp <;> (try with_reducible rfl))
      try simp only [Act.put, List.setIfInBounds_toArray, List.set_cons_zero, List.set_cons_succ]
      refine Pl.take_l (i := 5) (v := ?v1054) rfl (by kernel_rfl) (by kernel_rfl) (by kernel_rfl) (fun _ _ _ h => h) rfl ?hy1054 hHeld ?rest1054
      case hy1054 => (intro w hSw; (try dsimp only at hSw); (obtain ⟨_, _, _⟩ := hSw); go_simp <;> (try with_reducible rfl))
      try simp only [Act.put, List.setIfInBounds_toArray, List.set_cons_zero, List.set_cons_succ]
      refine Pl.take_l (i := 6) (v := .agg #[ye, .int .i32 0, .int .i32 0]) rfl (by kernel_rfl) (by kernel_rfl) (by kernel_rfl) (fun _ _ _ h => h) rfl (fun w hSw => ex_load 119 (.tmp 46) rfl g (o + k * 3) rfl (sbc ye) tS (hSw.2.2) hS1 hS2 szSub) hHeld ?_
      try simp only [Act.put, List.setIfInBounds_toArray, List.set_cons_zero, List.set_cons_succ]
      generalize World.drew _ = wd at *
      have hX9 : ∀ b, X b → b < wd.heap.size := fun b h => Nat.lt_of_lt_of_le (HX.out.2.1 b h) HRD.out.bel.size
      have HES := Lib.hid (esb_any X ye c.subs[k] wd hX9 (loc1 _ _ _ _ _ _ (To.below HX.out.2.1 HRD.out.bel) HEL.out.1) HEL.out.2)
      obtain ⟨es, hes⟩ : ∃ z : ByteArray, z = ⟨(encS c.subs[k]).toArray⟩ := ⟨_, rfl⟩
      rw [← hes] at HES
      have HEV := Lib.hid (show encV c.subs[k] = .string es by rw [hes]; rfl)
      clear hX9 hes
      refine Pl.alone_l (i := 7) (by kernel_rfl) rfl (fun K hK => ?_)
      go_simp; refine HES.out.mono ?_; rintro e w6 ⟨rfl, hb6⟩; have HQ := Lib.hid hb6; clear hb6; dsimp only
      refine hK.out _ _ (⟨later HQ.out HS0.out.1, later HQ.out HS0.out.2.1, rg_keep HQ.out HS0.out.2.2⟩) (fun hHeld2 => ?_)
      clear hK K hHeld
      have hHeld := hHeld2
      clear hHeld2
      try simp only [Act.put, List.setIfInBounds_toArray, List.set_cons_zero, List.set_cons_succ]
      have hal8 : Below w6.heap.size w6 (w6.alloc (.cells #[.string es] 9)) := (Below.refl _ _).alloc (Nat.le_refl _) _
      have hblk8 := heap_alloc_new w6 (.cells #[.string es] 9)
      have hbs := bs_str es w6
      obtain ⟨w8, hw8⟩ : ∃ x, x = w6.alloc (.cells #[.string es] 9) := ⟨_, rfl⟩
      rw [← hw8] at hal8 hblk8 hbs
      obtain ⟨g8, hg8⟩ : ∃ x, x = w6.heap.size := ⟨_, rfl⟩
      have hb8 : Below wd.heap.size wd w8 := HQ.out.trans (by rw [← hg8] at hal8; exact hal8.mono (by rw [hg8]; exact HQ.out.size))
      rw [← hg8] at hblk8 hbs
      have HR8 := Lib.hid (HRD.out.keep hb8)
      have HBK := Lib.hid hblk8
      clear hw8 hal8 hblk8 hg8
      refine Pl.alone_l (i := 8) (by kernel_rfl) rfl (fun K hK => ?_)
      refine step_bs1 rfl 46 (.tmp 48) rfl _ _ _ ?hx hbs ?_; case hx => (show _ = _; rfl)
      refine hK.out _ _ (⟨later hb8 HS0.out.1, later hb8 HS0.out.2.1, rg_keep hb8 HS0.out.2.2⟩) (fun hHeld2 => ?_)
      clear hK K hHeld
      have hHeld := hHeld2
      clear hHeld2
      try simp only [Act.put, List.setIfInBounds_toArray, List.set_cons_zero, List.set_cons_succ]
      refine wpAnyH_done (by kernel_rfl) ?_ _
      refine Pl.behind_normal (by decide) ?_
      simp only [List.drop_succ_cons, List.drop_zero]
      clear hHeld
      clear hb8 hbs HES HRD HS0 HQ
      go_wp2_with (at_builtin
                   refine wpl_appR rfl (.tmp 42) (.tmp 49) _ rfl w.heap.size 9 i0 (.string ⟨#[]⟩) 1 16 Try.underlying46 HK.out.1 HK.out.2.1 HK.out.2.2.1 HK.out.2.2.2 rfl (by omega) (.slice va k vc) k ((c.subs.take k).map encV) (show _ = _ from rfl) HR8.out.row (some ⟨g8, 0, none⟩) 1 1 [.string es] (show _ = _ from rfl) rfl (fun h => by cases h) (fun aa haa => by cases haa; exact World.news_of_block HBK.out) (fun u hu => by rw [List.mem_singleton.1 hu]; rfl) (by unfold maxLen; omega) (by omega) HR8.out.bel.size ?_
                   intro v9 w9 hown9 hgrow9 hat9
                   obtain ⟨sa9, sc9, rfl⟩ := own_slice hown9
                   have hbb := hgrow9.block b3 (th_lt HR8.out.t3 (by decide)) (fun q => (HR8.out.ne b3 q.symm).2.2 rfl)
                   have c9 := rg_ag hbb HR8.out.r3 3 _ rfl
                   have f9 := (th_ag hbb HR8.out.t3 3 (by decide)).2
                   simp only [Nat.zero_add] at c9 f9
                   have HNX := Lib.hid (HR8.out.push kL (by rw [HEV.out]; exact hown9) hgrow9 (hat9.imp id (fun q y hy => by rw [q] at hy; cases hy; exact Nat.le_refl _)))
                   clear hown9 hgrow9 hat9 hbb)
      exact ⟨⟨k + 1, _, _, by omega, by go_num, HNX⟩, by simp [intOf]; omega⟩
      -- KA>
    · as_aux_lemma =>
      obtain rfl : k = nS := by omega
      have HRG := Lib.hid HR.out.r3
      have HB2 := Lib.hid (World.rangeAt_setCells_same wr b2 0 (grc cb (tyS ot) nl (.slice va k vc) we) HR.out.t2)
      have HGA := Lib.hid (show (grc cb (tyS ot) nl (.slice va k vc) we).toArray.all (·.oneCell') = true from all_oneCell_toArray (fun u hu => by
        simp only [grc, List.mem_cons, List.not_mem_nil, or_false] at hu
        rcases hu with rfl | rfl | rfl | rfl | rfl <;> rfl))
      have HF := Lib.hid (show (wr.setCells b2 0 (grc cb (tyS ot) nl (.slice va k vc) we)).ownsRow w.heap.size 9 1 (.slice va k vc) k (c.subs.map encV) ∧ Below w.heap.size w (wr.setCells b2 0 (grc cb (tyS ot) nl (.slice va k vc) we)) from by
        refine ⟨?_, below_setCells HR.out.big.2.1 _ _ HR.out.bel⟩
        have h := HR.out.row
        rw [List.take_of_length_le (by have := HX.out.2.2.2; omega)] at h
        exact own_ag h (fun y hy => hso b2 _ 0 wr (HR.out.ne y hy).2.1))
      go_wp2_with (first
        | (refine wpList_load_mid ?hgd 48 (.tmp 3) ?hoq b3 0 ?hpa (grc cb (tyS ot) nl (.slice va k vc) we) tG ?hrq hG hG2 szGrp ?_
           case hoq => rfl
           case hgd => rfl
           case hpa => rfl
           case hrq => exact HRG.out)
        | (refine wpList_store_mid ?hgd 48 (.tmp 2) (.tmp 52) ?hoq b2 0 (grc cb (tyS ot) nl (.slice va k vc) we).toArray ?hpa ?hxq ?hrq szGrp ?hlq ?_
           case hoq => rfl
           case hgd => rfl
           case hpa => rfl
           case hxq => rfl
           case hrq => exact HR.out.t2
           case hlq => exact HGA.out))
      exact bodyPost_ret (results_cell_mid rfl _ _ b2 0 (grc cb (tyS ot) nl (.slice va k vc) we) tG rfl HB2.out hG hG2 szGrp) rfl ⟨va, vc, rfl, HF.out.1, HF.out.2⟩
end Go.Proofs.Ytbpnmiedomchpaa.Fg
