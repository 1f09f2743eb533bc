/-
  The law's small functions.
-/
import Derived.Test.YthokeojpmbdbmaaDx
import Derived.Carry
namespace Go.Proofs.Ythokeojpmbdbmaa.Dr
open Go.ChangeShapes Go.WideShapes Go.ChangeAt Go.RowKit Rg
set_option linter.unusedVariables false
set_option linter.unusedSimpArgs false
def ZB (Q : Prop) (w : World) (e : Ending) (w' : World) : Prop := (∃ r : Bool, e = .returned (.bool r) ∧ (r = true → Q)) ∧ w = w'
set_option maxRecDepth 100000 in
set_option maxHeartbeats 2000000 in
theorem zb5 (a0 : Option Addr) (n0 c0 : Nat) (a1 : Option Addr) (n1 c1 : Nat) (a2 : Option Addr) (n2 c2 : Nat) (a3 : Option Addr) (n3 c3 : Nat) (a4 : Option Addr) (n4 c4 : Nat) (w : World) (hn0 : (n0 : Int) ≤ 9223372036854775807) (hn1 : (n1 : Int) ≤ 9223372036854775807) (hn2 : (n2 : Int) ≤ 9223372036854775807) (hn3 : (n3 : Int) ≤ 9223372036854775807) (hn4 : (n4 : Int) ≤ 9223372036854775807) :
    Calls Try.prog 4 #[.slice a0 n0 c0, .slice a1 n1 c1, .slice a2 n2 c2, .slice a3 n3 c3, .slice a4 n4 c4] w (ZB ((n0 : Int) + (n1 : Int) + (n2 : Int) + (n3 : Int) + (n4 : Int) ≤ 1048576) w) := by
  go_enter Try.func4, Try.ntmps4
  by_cases g1 : (1048576 : Int) < (n0 : Int)
  · go_wp2_with fail
    go_ret
    exact ⟨⟨false, rfl, fun h => by cases h⟩, rfl⟩
  by_cases g2 : (1048576 : Int) < (n1 : Int)
  · go_wp2_with fail
    go_ret
    exact ⟨⟨false, rfl, fun h => by cases h⟩, rfl⟩
  by_cases k2 : (1048576 : Int) < (n0 : Int) + (n1 : Int)
  · go_wp2_with fail
    go_ret
    exact ⟨⟨false, rfl, fun h => by cases h⟩, rfl⟩
  by_cases g3 : (1048576 : Int) < (n2 : Int)
  · go_wp2_with fail
    go_ret
    exact ⟨⟨false, rfl, fun h => by cases h⟩, rfl⟩
  by_cases k3 : (1048576 : Int) < (n0 : Int) + (n1 : Int) + (n2 : Int)
  · go_wp2_with fail
    go_ret
    exact ⟨⟨false, rfl, fun h => by cases h⟩, rfl⟩
  by_cases g4 : (1048576 : Int) < (n3 : Int)
  · go_wp2_with fail
    go_ret
    exact ⟨⟨false, rfl, fun h => by cases h⟩, rfl⟩
  by_cases k4 : (1048576 : Int) < (n0 : Int) + (n1 : Int) + (n2 : Int) + (n3 : Int)
  · go_wp2_with fail
    go_ret
    exact ⟨⟨false, rfl, fun h => by cases h⟩, rfl⟩
  by_cases g5 : (1048576 : Int) < (n4 : Int)
  · go_wp2_with fail
    go_ret
    exact ⟨⟨false, rfl, fun h => by cases h⟩, rfl⟩
  by_cases k5 : (1048576 : Int) < (n0 : Int) + (n1 : Int) + (n2 : Int) + (n3 : Int) + (n4 : Int)
  · go_wp2_with fail
    go_ret
    exact ⟨⟨false, rfl, fun h => by cases h⟩, rfl⟩
  go_wp2_with fail
  go_ret
  exact ⟨⟨true, rfl, fun _ => trivial⟩, rfl⟩
theorem tySym : ∃ d, Try.prog.underlying 36 = some d ∧ d.isRow = true := ⟨_, Try.underlying36, rfl⟩
theorem szSym : (Try.prog.info? 36).map (·.size) = some 1 := by kernel_rfl
theorem tyDrr : ∃ d, Try.prog.underlying 41 = some d ∧ d.isRow = true := ⟨_, Try.underlying41, rfl⟩
theorem szDrr : (Try.prog.info? 41).map (·.size) = some 7 := by kernel_rfl
def drc (bm : Nat) : List Value := [.map (some bm), .slice none 0 0, .slice none 0 0, .slice none 0 0, .slice none 0 0, .int .u32 0, .int .u32 0]
def MkP (w : World) (e : Ending) (w' : World) : Prop := ∃ bm, e = .returned (.agg (drc bm).toArray) ∧ w'.heap[bm]? = some (.map #[] 0) ∧ w.heap.size ≤ bm ∧ bm < w'.heap.size ∧ Below w.heap.size w w'
def BgP (n0 : Nat) (w : World) (e : Ending) (w' : World) : Prop := (∃ r, e = .returned (.bool r) ∧ (r = false → n0 ≤ 4096)) ∧ w = w'
set_option maxRecDepth 100000 in
set_option maxHeartbeats 4000000 in
theorem big5 (a0 : Option Addr) (n0 c0 : Nat) (a1 : Option Addr) (n1 c1 : Nat) (a2 : Option Addr) (n2 c2 : Nat) (a3 : Option Addr) (n3 c3 : Nat) (a4 : Option Addr) (n4 c4 : Nat) (w : World) (h : (n0 : Int) + n1 + n2 + n3 + n4 ≤ 1048576) :
    Calls Try.prog 5 #[.slice a0 n0 c0, .slice a1 n1 c1, .slice a2 n2 c2, .slice a3 n3 c3, .slice a4 n4 c4] w (BgP n0 w) := by
  have h0 : ¬ (1048576 : Int) < n0 + n1 + n2 + n3 + n4 := by omega
  go_enter Try.func5, Try.ntmps5
  by_cases g0 : (4096 : Int) < n0
  · go_wp2_with fail
    go_ret
    exact ⟨⟨true, rfl, fun h => by cases h⟩, rfl⟩
  by_cases g1 : (65536 : Int) < n1
  · go_wp2_with fail
    go_ret
    exact ⟨⟨true, rfl, fun h => by cases h⟩, rfl⟩
  by_cases g2 : (65536 : Int) < n2
  · go_wp2_with fail
    go_ret
    exact ⟨⟨true, rfl, fun h => by cases h⟩, rfl⟩
  by_cases g3 : (65536 : Int) < n3
  · go_wp2_with fail
    go_ret
    exact ⟨⟨true, rfl, fun h => by cases h⟩, rfl⟩
  by_cases g4 : (65536 : Int) < n4
  · go_wp2_with fail
    go_ret
    exact ⟨⟨true, rfl, fun h => by cases h⟩, rfl⟩
  go_wp2_with fail
  go_ret
  exact ⟨⟨false, rfl, fun _ => by omega⟩, rfl⟩
set_option maxRecDepth 100000 in
set_option maxHeartbeats 4000000 in
theorem mk8 (w : World) : Calls Try.prog 8 #[.agg #[.slice none 0 0]] w (MkP w) := by
  have hmm := @run_makeMap Try.prog
  go_enter Try.func8, Try.ntmps8
  go_upto_region 1 with fail
  obtain ⟨w2, hw2⟩ : ∃ x, x = (w.alloc (.cells #[.slice none 0 0] 36)).alloc (.cells #[.map none, .slice none 0 0, .slice none 0 0, .slice none 0 0, .slice none 0 0, .int .u32 0, .int .u32 0] 41) := ⟨_, rfl⟩
  have hz1 : (w.alloc (.cells #[.slice none 0 0] 36)).heap.size = w.heap.size + 1 := World.size_alloc _ _
  have hz2 : w2.heap.size = w.heap.size + 2 := by rw [hw2, World.size_alloc, hz1]
  have hb1 : Below w.heap.size w (w.alloc (.cells #[.slice none 0 0] 36)) := (Below.refl _ _).alloc (Nat.le_refl _) _
  have hb2 : Below w.heap.size w w2 := by rw [hw2]; exact hb1.alloc (by omega) _
  have hr1 : w2.rangeAt w.heap.size 0 [.slice none 0 0] := by
    rw [hw2]
    exact rg_keep ((Below.refl _ _).alloc (Nat.le_refl _) _) (rg_new w #[.slice none 0 0] 36)
  have ht2 : w2.there (w.heap.size + 1) 0 7 := by
    rw [hw2, ← hz1]
    exact th_new _ _ _ rfl
  rw [← hw2]
  clear hw2 hb1
  have hb3 : Below w2.heap.size w2 (w2.alloc (.map #[] 0)) := (Below.refl _ _).alloc (Nat.le_refl _) _
  have hm3 : (w2.alloc (.map #[] 0)).heap[w2.heap.size]? = some (.map #[] 0) := (MapKept.heap_alloc w2 _).1
  have hz3 : (w2.alloc (.map #[] 0)).heap.size = w2.heap.size + 1 := by rw [World.size_alloc]
  obtain ⟨b1, hb1⟩ : ∃ x, x = w.heap.size := ⟨_, rfl⟩
  obtain ⟨b2, hb2e⟩ : ∃ x, x = b1 + 1 := ⟨_, rfl⟩
  rw [← hb1] at hr1 ht2 ⊢
  rw [← hb2e] at ht2 ⊢
  have HR := Lib.hid (rg_keep hb3 hr1)
  have HT := Lib.hid (th_keep hb3 ht2)
  have HF := Lib.hid (And.intro hm3 (And.intro hz3 (And.intro (hb2.trans (hb3.mono (by omega))) (And.intro hb1 (And.intro hb2e (by omega : w2.heap.size = b2 + 1))))))
  obtain ⟨tS, hS, hS2⟩ := tySym
  obtain ⟨tD, hD, hD2⟩ := tyDrr
  clear hr1 ht2 hm3 hz3 hb2 hb3 hb1 hb2e hz1 hz2
  have hone : (drc w2.heap.size).toArray.all (·.oneCell') = true := by simp [drc, Value.oneCell']
  go_wp2_with (first
    | (refine wpList_load_mid rfl 36 _ rfl b1 0 rfl [.slice none 0 0] tS HR.out hS hS2 szSym ?_)
    | (refine wpList_store_mid rfl 41 _ _ rfl b2 0 (drc w2.heap.size).toArray ?ha ?hv HT.out szDrr hone ?_; (case ha => exact rfl); (case hv => exact rfl)))
  have hres := World.rangeAt_setCells_same (w2.alloc (.map #[] 0)) b2 0 (drc w2.heap.size) HT.out
  have hfin : Below w.heap.size w ((w2.alloc (.map #[] 0)).setCells b2 0 (drc w2.heap.size)) := below_setCells (by have := HF.out.2.2.2; omega) _ _ HF.out.2.2.1
  change bodyPost _ _ _ _ _ ((w2.alloc (.map #[] 0)).setCells b2 0 (drc w2.heap.size))
  refine bodyPost_ret (results_cell_mid rfl _ _ b2 0 (drc w2.heap.size) tD rfl hres hD hD2 szDrr) rfl ⟨w2.heap.size, rfl, ?_, by have := HF.out.2.2.2; omega, ?_, hfin⟩
  · exact (heap_setCells _ _ _ _ _ (by have := HF.out.2.2.2; omega)).trans HF.out.1
  · rw [size_setCells, HF.out.2.1]
    omega
set_option maxRecDepth 100000 in
set_option maxHeartbeats 4000000 in
theorem loc10 (K : List Nat) (P : Nat → Nat) (a : Option Addr) (cp : Nat) (ka : Option Addr) (kc D : Nat) (w : World) (hK : K.length ≤ 4096) (hb : ∀ r ∈ K, r ≤ 4096) (hk : KRow D w (.slice ka K.length kc) K)
    (ho : ∀ t (h : t < K.length), ∃ g o, a = some ⟨g, o, none⟩ ∧ w.rangeAt g (o + t * 2) (ruc (P K[t]) (K[t] : Nat))) :
    Calls Try.prog 10 #[.slice a K.length cp, .slice ka K.length kc] w (fun e w' => e = .returned (.bool true) ∧ Below w.heap.size w w') := by
  obtain ⟨l, hl⟩ : ∃ l, l = K.length := ⟨_, rfl⟩
  rw [← hl] at hK ⊢
  have hk2 : ∀ t (h : t < K.length), ∃ g, ka = some ⟨g, 0, none⟩ ∧ w.cell? ⟨g, t, none⟩ = some (.int .i64 (K[t] : Nat)) := fun t ht => by
    obtain ⟨g, c, hv, -, -⟩ := World.ownsRow.form hk (by omega)
    simp only [Value.slice.injEq] at hv
    obtain ⟨rfl, -, rfl⟩ := hv
    refine ⟨g, rfl, ?_⟩
    have h1 := hk.cellAt t (by omega)
    rw [h1]
    simp [ki, ht]
  have HO := Lib.hid (And.intro ho (And.intro hk2 (And.intro hb hl)))
  clear ho hk2 hb hl hk
  go_enter Try.func10, Try.ntmps10
  go_upto_block 0 with fail
  have HST := Lib.hid (Below.refl w.heap.size w)
  refine wp_block ?_
  go_loopw [5] (fun i wr => ∃ (k : Nat), k ≤ l ∧ i = .int .i64 k ∧ Hid (Below w.heap.size w wr)) (fun i _ => l - (intOf i).toNat)
  case atStart => exact ⟨0, Nat.zero_le _, rfl, HST⟩
  case round =>
    clear HST
    obtain ⟨k, hk, rfl, HW⟩ := hrel
    by_cases hlt : k < l
    · as_aux_lemma =>
      have q0 : (0 : Int) ≤ k := by omega
      have q1 : (k : Int) < l := by omega
      have kL : k < K.length := by have := HO.out.2.2.2; omega
      obtain ⟨g, o, rfl, hr⟩ := HO.out.1 k kL
      obtain ⟨g2, rfl, hc⟩ := HO.out.2.1 k kL
      obtain ⟨r, hrr⟩ : ∃ r, r = K[k] := ⟨_, rfl⟩
      have hr4 := HO.out.2.2.1 _ (List.getElem_mem kL)
      rw [← hrr] at hr hc hr4
      have hi32 : IntKind.i32.wrap (r : Int) = (r : Int) := by
        simp [IntKind.wrap, IntKind.bits, IntKind.signed]
        omega
      have hD : Below w.heap.size w wr.drew := HW.out.drew
      have x1 := rg_keep hD hr 1 _ rfl
      have x2 := later hD hc
      have HS0 := Lib.hid (And.intro x1 x2)
      have HB := Lib.hid hD
      clear x1 x2 hr hc hrr hr4 hD HW
      go_upto_region 6 with fail
      refine wp_region_held_drew (S := fun w' => w'.cell? ⟨g, o + k * 2 + 1, none⟩ = some (.int .i32 (r : Nat)) ∧ w'.cell? ⟨g2, k, none⟩ = some (.int .i64 (r : Nat))) (by kernel_rfl) HS0.out (fun hHeld => ?_)
      show wpAnyH _ _ _ _ _ 12 (Array.replicate 12 false) _ _
      refine Pl.take_l (i := 0) (v := ?v1) rfl (by kernel_rfl) (by kernel_rfl) (by kernel_rfl) (fun _ _ _ h => h) rfl ?hy1 hHeld ?rest1
      case hy1 => (intro w hSw; (try dsimp only at hSw); (try obtain ⟨_, _⟩ := hSw); go_simp <;> (try with_reducible rfl))
      try simp only [Act.put, List.setIfInBounds_toArray, List.set_cons_zero, List.set_cons_succ]
      refine Pl.take_l (i := 1) (v := ?v2) rfl (by kernel_rfl) (by kernel_rfl) (by kernel_rfl) (fun _ _ _ h => h) rfl ?hy2 hHeld ?rest2
      case hy2 => (intro w hSw; (try dsimp only at hSw); (try obtain ⟨_, _⟩ := hSw); go_simp <;> (try with_reducible rfl))
      try simp only [Act.put, List.setIfInBounds_toArray, List.set_cons_zero, List.set_cons_succ]
      refine Pl.take_l (i := 2) (v := ?v3) rfl (by kernel_rfl) (by kernel_rfl) (by kernel_rfl) (fun _ _ _ h => h) rfl ?hy3 hHeld ?rest3
      case hy3 => (intro w hSw; (try dsimp only at hSw); (try obtain ⟨_, _⟩ := hSw); go_simp <;> (try with_reducible rfl))
      try simp only [Act.put, List.setIfInBounds_toArray, List.set_cons_zero, List.set_cons_succ]
      refine Pl.take_l (i := 3) (v := ?v4) rfl (by kernel_rfl) (by kernel_rfl) (by kernel_rfl) (fun _ _ _ h => h) rfl ?hy4 hHeld ?rest4
      case hy4 => (intro w hSw; (try dsimp only at hSw); (try obtain ⟨_, _⟩ := hSw); go_simp <;> (try with_reducible rfl))
      try simp only [Act.put, List.setIfInBounds_toArray, List.set_cons_zero, List.set_cons_succ]
      refine Pl.take_l (i := 4) (v := ?v5) rfl (by kernel_rfl) (by kernel_rfl) (by kernel_rfl) (fun _ _ _ h => h) rfl ?hy5 hHeld ?rest5
      case hy5 => (intro w hSw; (try dsimp only at hSw); (try obtain ⟨_, _⟩ := hSw); go_simp <;> (try with_reducible rfl))
      try simp only [Act.put, List.setIfInBounds_toArray, List.set_cons_zero, List.set_cons_succ]
      refine Pl.take_l (i := 5) (v := ?v6) rfl (by kernel_rfl) (by kernel_rfl) (by kernel_rfl) (fun _ _ _ h => h) rfl ?hy6 hHeld ?rest6
      case hy6 => (intro w hSw; (try dsimp only at hSw); (try obtain ⟨_, _⟩ := hSw); go_simp <;> (try with_reducible rfl))
      try simp only [Act.put, List.setIfInBounds_toArray, List.set_cons_zero, List.set_cons_succ]
      refine Pl.take_l (i := 6) (v := ?v7) rfl (by kernel_rfl) (by kernel_rfl) (by kernel_rfl) (fun _ _ _ h => h) rfl ?hy7 hHeld ?rest7
      case hy7 => (intro w hSw; (try dsimp only at hSw); (try obtain ⟨_, _⟩ := hSw); go_simp <;> (try with_reducible rfl))
      try simp only [Act.put, List.setIfInBounds_toArray, List.set_cons_zero, List.set_cons_succ]
      refine Pl.take_l (i := 7) (v := ?v8) rfl (by kernel_rfl) (by kernel_rfl) (by kernel_rfl) (fun _ _ _ h => h) rfl ?hy8 hHeld ?rest8
      case hy8 => (intro w hSw; (try dsimp only at hSw); (try obtain ⟨_, _⟩ := hSw); go_simp <;> (try with_reducible rfl))
      try simp only [Act.put, List.setIfInBounds_toArray, List.set_cons_zero, List.set_cons_succ]
      refine Pl.take_l (i := 8) (v := ?v9) rfl (by kernel_rfl) (by kernel_rfl) (by kernel_rfl) (fun _ _ _ h => h) rfl ?hy9 hHeld ?rest9
      case hy9 => (intro w hSw; (try dsimp only at hSw); (try obtain ⟨_, _⟩ := hSw); go_simp <;> (try with_reducible rfl))
      try simp only [Act.put, List.setIfInBounds_toArray, List.set_cons_zero, List.set_cons_succ]
      refine Pl.take_l (i := 9) (v := ?v10) rfl (by kernel_rfl) (by kernel_rfl) (by kernel_rfl) (fun _ _ _ h => h) rfl ?hy10 hHeld ?rest10
      case hy10 => (intro w hSw; (try dsimp only at hSw); (try obtain ⟨_, _⟩ := hSw); go_simp <;> (try with_reducible rfl))
      try simp only [Act.put, List.setIfInBounds_toArray, List.set_cons_zero, List.set_cons_succ]
      refine Pl.take_l (i := 10) (v := ?v11) rfl (by kernel_rfl) (by kernel_rfl) (by kernel_rfl) (fun _ _ _ h => h) rfl ?hy11 hHeld ?rest11
      case hy11 => (intro w hSw; (try dsimp only at hSw); (try obtain ⟨_, _⟩ := hSw); go_simp <;> (try with_reducible rfl))
      try simp only [Act.put, List.setIfInBounds_toArray, List.set_cons_zero, List.set_cons_succ]
      refine Pl.take_l (i := 11) (v := ?v12) rfl (by kernel_rfl) (by kernel_rfl) (by kernel_rfl) (fun _ _ _ h => h) rfl ?hy12 hHeld ?rest12
      case hy12 => (intro w hSw; (try dsimp only at hSw); (try obtain ⟨_, _⟩ := hSw); go_simp <;> (try with_reducible rfl))
      try simp only [Act.put, List.setIfInBounds_toArray, List.set_cons_zero, List.set_cons_succ]
      refine wpAnyH_done (by kernel_rfl) ?_ _
      clear hHeld
      go_wp2_with fail
      exact ⟨⟨k + 1, by omega, by go_num, HB⟩, by simp [intOf]; omega⟩
    · as_aux_lemma =>
      obtain rfl : k = l := by omega
      go_wp2_with fail
      go_ret
      exact ⟨rfl, HW.out⟩
end Go.Proofs.Ythokeojpmbdbmaa.Dr
