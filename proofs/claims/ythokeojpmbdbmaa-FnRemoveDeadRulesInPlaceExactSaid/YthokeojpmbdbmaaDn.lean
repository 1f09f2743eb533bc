/-
  Complex selectors are compared.
-/
import Derived.Test.YthokeojpmbdbmaaDm
namespace Go.Proofs.Ythokeojpmbdbmaa.Dr
open Go.ChangeShapes Go.WideShapes Go.ChangeAt Go.RowKit Rg
set_option linter.unusedVariables false
set_option linter.unusedSimpArgs false
theorem take_ne {α : Type} {a b : List α} {k : Nat} (hk : k < a.length) (hk' : k < b.length) (h : ¬ a[k] = b[k]) : ¬ a = b := fun e => h (by subst e; rfl)
theorem take_more {α : Type} {a b : List α} {k : Nat} (hk : k < a.length) (hk' : k < b.length) (ht : a.take k = b.take k) (h : a[k] = b[k]) : a.take (k + 1) = b.take (k + 1) := by
  rw [List.take_succ_eq_append_getElem hk, List.take_succ_eq_append_getElem hk', ht, h]
theorem take_done {α : Type} {a b : List α} {n : Nat} (h : n = a.length) (h' : n = b.length) (ht : a.take n = b.take n) : a = b := by
  rw [List.take_of_length_le (by omega), List.take_of_length_le (by omega)] at ht
  exact ht
theorem len_ne {α : Type} {a b : List α} {n n' : Nat} (h : n = a.length) (h' : n' = b.length) (hne : ¬ n = n') : ¬ a = b := fun e => hne (by subst e; omega)
theorem cmc_all (a : Option Addr) (n c : Nat) : (cmc (.slice a n c)).toArray.all (·.oneCell') = true := by simp [cmc, Value.oneCell']
theorem sbc_all (T p : Nat) : (sbc (.iface T (.pointer (some ⟨p, 0, none⟩)))).toArray.all (·.oneCell') = true := by simp [sbc, Value.oneCell']
theorem cmc_at {w : World} {b : Nat} {v : Value} (h : w.rangeAt b 0 (cmc v)) : w.cell? ⟨b, 0, none⟩ = some (.pointer none) ∧ w.cell? ⟨b, 1, none⟩ = some v ∧ w.cell? ⟨b, 2, none⟩ = some (.slice none 0 0) ∧ w.cell? ⟨b, 3, none⟩ = some (.int .i32 0) ∧ w.cell? ⟨b, 4, none⟩ = some (.int .u8 0) := by
  have h0 := h 0 _ rfl
  have h1 := h 1 _ rfl
  have h2 := h 2 _ rfl
  have h3 := h 3 _ rfl
  have h4 := h 4 _ rfl
  simp only [Nat.zero_add] at h0 h1 h2 h3 h4
  exact ⟨h0, h1, h2, h3, h4⟩
def Sm (a : Cx) : Prop := a.length ≤ 4096 ∧ ∀ c ∈ a, c.length ≤ 4096
theorem bel2 (w : World) (o1 o2 : Obj) : Below w.heap.size w ((w.alloc o1).alloc o2) := by
  have h : Below w.heap.size w (w.alloc o1) := (Below.refl _ _).alloc (Nat.le_refl _) _
  exact h.alloc h.size _
/-- the two boxes -/
def CB (b3 b4 : Nat) (v v' : Value) (w w' : World) : Prop := w'.cell? ⟨b3, 0, none⟩ = some v ∧ w'.cell? ⟨b4, 0, none⟩ = some v' ∧ Below w.heap.size w w'
theorem CB.start {b3 b4 : Nat} {v v' : Value} {w : World} {t : TypeId} (h3 : b3 = w.heap.size) (h4 : b4 = b3 + 1) : CB b3 b4 v v' w ((w.alloc (.cells #[v] t)).alloc (.cells #[v'] t)) := by
  have s1 : (w.alloc (.cells #[v] t)).heap.size = b4 := by rw [World.size_alloc]; omega
  refine ⟨?_, ?_, bel2 _ _ _⟩
  · rw [h3]
    exact alloc_cell (rg_new w #[v] t 0 _ rfl) _
  · rw [← s1]
    exact rg_new (w.alloc (.cells #[v] t)) #[v'] t 0 _ rfl
theorem CB.keep {b3 b4 : Nat} {v v' : Value} {w w1 w2 : World} (h : CB b3 b4 v v' w w1) (hb : Below w1.heap.size w1 w2) : CB b3 b4 v v' w w2 := ⟨later hb h.1, later hb h.2.1, h.2.2.trans (hb.mono h.2.2.size)⟩
def CC (b3 b4 b8 b9 : Nat) (v v' x x' : Value) (w w' : World) : Prop := CB b3 b4 v v' w w' ∧ w'.rangeAt b8 0 (cmc x) ∧ w'.rangeAt b9 0 (cmc x')
theorem CC.keep {b3 b4 b8 b9 : Nat} {v v' x x' : Value} {w w1 w2 : World} (h : CC b3 b4 b8 b9 v v' x x' w w1) (hb : Below w1.heap.size w1 w2) : CC b3 b4 b8 b9 v v' x x' w w2 := ⟨h.1.keep hb, rg_keep hb h.2.1, rg_keep hb h.2.2⟩
/-- the subclass selectors' own comparison -/
def EqS (S : SbP) : Prop := ∀ (X : Nat → Prop) (w : World) (x y : Value) (c c' : Nat), (∀ b, X b → b < w.heap.size) → S X w x c → S X w y c' →
  ∃ (T p F : Nat), x = .iface T (.pointer (some ⟨p, 0, none⟩)) ∧ (∀ W, (method 305 T (.pointer (some ⟨p, 0, none⟩)) "Equal").run Try.prog W = .ok (F, .pointer (some ⟨p, 0, none⟩)) W) ∧ (∀ A W, (callFunc F A).run Try.prog W = .ok (.enter F A) W) ∧ (∃ T' p', y = .iface T' (.pointer (some ⟨p', 0, none⟩))) ∧
    ∀ w1, Below w.heap.size w w1 → Calls Try.prog F #[.pointer (some ⟨p, 0, none⟩), y, .pointer none] w1 (fun e w' => e = .returned (.bool (decide (c = c'))) ∧ Below w1.heap.size w1 w')
set_option maxRecDepth 100000 in
set_option maxHeartbeats 8000000 in
theorem c40 (S : SbP) (hL : Loc S) (hE : EqS S) (X : Nat → Prop) (v v' : Value) (a a' : Cx) (w : World) (hX : ∀ b, X b → b < w.heap.size) (h : CxV S X w v a) (h' : CxV S X w v' a') (hs : Sm a) :
    Calls Try.prog 40 #[.agg #[v], .agg #[v'], .pointer none] w (fun e w' => e = .returned (.bool (decide (a = a'))) ∧ Below w.heap.size w w') := by
  obtain ⟨pa, pc, hv⟩ := RowV.slice h
  obtain ⟨pa', pc', hv'⟩ := RowV.slice h'
  obtain ⟨n, hn⟩ : ∃ n, n = a.length := ⟨_, rfl⟩
  obtain ⟨n', hn'⟩ : ∃ n, n = a'.length := ⟨_, rfl⟩
  rw [← hn] at hv
  rw [← hn'] at hv'
  subst hv hv'
  have hn4 : n ≤ 4096 := by rw [hn]; exact hs.1
  have HO := Lib.hid (And.intro h (And.intro h' (And.intro hX (And.intro hs (And.intro hn hn')))))
  have HLE := Lib.hid (And.intro hL hE)
  obtain ⟨dC, hC, hC2⟩ := tyCmp
  obtain ⟨dS, hS, hS2⟩ := tySub
  clear h h' hX hs hn hn' hL hE
  by_cases hln : n = n'
  · subst hln
    go_enter Try.func40, Try.ntmps40
    go_upto_block 0 with fail
    obtain ⟨b3, hb3⟩ : ∃ b, b = w.heap.size := ⟨_, rfl⟩
    obtain ⟨b4, hb4⟩ : ∃ b, b = b3 + 1 := ⟨_, rfl⟩
    have HST : Hid (CB b3 b4 (.slice pa n pc) (.slice pa' n pc') w ((w.alloc (.cells #[.slice pa n pc] 48)).alloc (.cells #[.slice pa' n pc'] 48))) := CB.start hb3 hb4
    rw [← hb3, ← hb4]
    generalize (World.alloc (World.alloc _ _) _ : World) = w4 at HST ⊢
    clear hb3 hb4
    refine wp_block ?_
    go_loopw [24] (fun i wr => ∃ (k : Nat), k ≤ n ∧ i = .int .i64 k ∧ Hid (a.take k = a'.take k) ∧ Hid (CB b3 b4 (.slice pa n pc) (.slice pa' n pc') w wr)) (fun i _ => n - (intOf i).toNat)
    case atStart => exact ⟨0, Nat.zero_le _, rfl, Lib.hid rfl, HST⟩
    case round =>
      clear HST
      obtain ⟨k, hk, rfl, HT, HW⟩ := hrel
      by_cases hlt : k < n
      · as_aux_lemma =>
        have q0 : (0 : Int) ≤ k := by omega
        have q1 : (k : Int) < n := by omega
        have kL : k < a.length := by have := HO.out.2.2.2.2.1; omega
        have kL' : k < a'.length := by have := HO.out.2.2.2.2.2; omega
        obtain ⟨g, c, x, hve, hXg, hr, hx⟩ := RowV.at HO.out.1 (fun _ => rfl) kL
        obtain ⟨g', c', x', hve', hXg', hr', hx'⟩ := RowV.at HO.out.2.1 (fun _ => rfl) kL'
        simp only [Value.slice.injEq] at hve hve'
        obtain ⟨rfl, hz, rfl⟩ := hve
        clear hz
        obtain ⟨rfl, hz, rfl⟩ := hve'
        clear hz
        obtain ⟨xa, xc, hxe⟩ := RowV.slice hx
        obtain ⟨xa', xc', hxe'⟩ := RowV.slice hx'
        obtain ⟨m, hm⟩ : ∃ m, m = (a[k]).length := ⟨_, rfl⟩
        obtain ⟨m', hm'⟩ : ∃ m, m = (a'[k]).length := ⟨_, rfl⟩
        rw [← hm] at hxe
        rw [← hm'] at hxe'
        subst hxe hxe'
        have hm4 : m ≤ 4096 := by rw [hm]; exact HO.out.2.2.2.1.2 _ (List.getElem_mem kL)
        have HXK := Lib.hid (And.intro hx (And.intro hx' (And.intro hm hm')))
        have HR := Lib.hid (And.intro (rg_keep HW.out.2.2 hr) (rg_keep HW.out.2.2 hr'))
        have c3 := HW.out.1
        have c4 := HW.out.2.1
        clear hx hx' hm hm' hr hr' hXg hXg'
        go_upto_region 6 with (first
          | (refine wpList_load_mid rfl 83 _ rfl g (k * 6) rfl (cmc (.slice xa m xc)) dC HR.out.1 hC hC2 szCmp ?_)
          | (refine wpList_store_mid rfl 83 _ _ rfl wr.heap.size 0 (cmc (.slice xa m xc)).toArray rfl rfl (th_new wr _ _ rfl) szCmp (cmc_all _ _ _) ?_))
        have hbS : Below wr.heap.size wr ((wr.alloc (.cells #[.pointer none, .slice none 0 0, .slice none 0 0, .int .i32 0, .int .u8 0, .bool false] 83)).setCells wr.heap.size 0 (cmc (.slice xa m xc))) := below_setCells (Nat.le_refl _) _ _ ((Below.refl _ _).alloc (Nat.le_refl _) _)
        have hrS : ((wr.alloc (.cells #[.pointer none, .slice none 0 0, .slice none 0 0, .int .i32 0, .int .u8 0, .bool false] 83)).setCells wr.heap.size 0 (cmc (.slice xa m xc))).rangeAt wr.heap.size 0 (cmc (.slice xa m xc)) := World.rangeAt_setCells_same _ _ _ _ (th_new wr _ _ rfl)
        generalize World.setCells _ _ _ _ = w5 at *
        have HW5 := Lib.hid (HW.out.keep hbS)
        have HR5 := Lib.hid (rg_keep hbS HR.out.2)
        have HM5 := Lib.hid (And.intro hbS hrS)
        have c45 := HW5.out.2.1
        clear hbS hrS c3 c4
        generalize wr.heap.size = b8 at *
        as_aux_lemma =>
        go_upto_region 7 with (first
          | (refine wpList_load_mid rfl 83 _ rfl g' (k * 6) rfl (cmc (.slice xa' m' xc')) dC HR5.out hC hC2 szCmp ?_)
          | (refine wpList_store_mid rfl 83 _ _ rfl w5.heap.size 0 (cmc (.slice xa' m' xc')).toArray rfl rfl (th_new w5 _ _ rfl) szCmp (cmc_all _ _ _) ?_))
        have hbS : Below w5.heap.size w5 ((w5.alloc (.cells #[.pointer none, .slice none 0 0, .slice none 0 0, .int .i32 0, .int .u8 0, .bool false] 83)).setCells w5.heap.size 0 (cmc (.slice xa' m' xc'))) := below_setCells (Nat.le_refl _) _ _ ((Below.refl _ _).alloc (Nat.le_refl _) _)
        have hrS : ((w5.alloc (.cells #[.pointer none, .slice none 0 0, .slice none 0 0, .int .i32 0, .int .u8 0, .bool false] 83)).setCells w5.heap.size 0 (cmc (.slice xa' m' xc'))).rangeAt w5.heap.size 0 (cmc (.slice xa' m' xc')) := World.rangeAt_setCells_same _ _ _ _ (th_new w5 _ _ rfl)
        generalize World.setCells _ _ _ _ = w6 at *
        have HD := Lib.hid (And.intro (HW5.out.keep hbS) (And.intro (rg_keep hbS HM5.out.2) hrS))
        clear hbS hrS c45 HW5 HM5
        generalize w5.heap.size = b9 at *
        as_aux_lemma =>
        obtain ⟨d0, d1, d2, d3, d4⟩ := cmc_at HD.out.2.1
        obtain ⟨e0, e1, e2, e3, e4⟩ := cmc_at HD.out.2.2
        go_upto_region 9 with fail
        have HS0 := Lib.hid (show w6.drew.cell? ⟨b8, 0, none⟩ = some (.pointer none) ∧ w6.drew.cell? ⟨b9, 0, none⟩ = some (.pointer none) from ⟨later ((Below.refl _ _).drew) d0, later ((Below.refl _ _).drew) e0⟩)
        clear d0 d1 d2 d3 d4 e0 e1 e2 e3 e4
        refine wp_region_held_drew (S := fun w' => w'.cell? ⟨b8, 0, none⟩ = some (.pointer none) ∧ w'.cell? ⟨b9, 0, none⟩ = some (.pointer none)) (by kernel_rfl) HS0.out (fun hHeld => ?_)
        show wpAnyH _ _ _ _ _ 6 (Array.replicate 6 false) _ _
        refine Pl.take_l (i := 0) (v := ?v1) rfl (by kernel_rfl) (by kernel_rfl) (by kernel_rfl) (fun _ _ _ h => h) rfl ?hy1 hHeld ?rest1
        case hy1 => (intro w hSw; (try dsimp only at hSw); (try obtain ⟨_, _⟩ := hSw); go_simp <;> (try with_reducible rfl))
        try simp only [Act.put, List.setIfInBounds_toArray, List.set_cons_zero, List.set_cons_succ]
        refine Pl.take_l (i := 1) (v := ?v2) rfl (by kernel_rfl) (by kernel_rfl) (by kernel_rfl) (fun _ _ _ h => h) rfl ?hy2 hHeld ?rest2
        case hy2 => (intro w hSw; (try dsimp only at hSw); (try obtain ⟨_, _⟩ := hSw); go_simp <;> (try with_reducible rfl))
        try simp only [Act.put, List.setIfInBounds_toArray, List.set_cons_zero, List.set_cons_succ]
        refine Pl.take_l (i := 2) (v := ?v3) rfl (by kernel_rfl) (by kernel_rfl) (by kernel_rfl) (fun _ _ _ h => h) rfl ?hy3 hHeld ?rest3
        case hy3 => (intro w hSw; (try dsimp only at hSw); (try obtain ⟨_, _⟩ := hSw); go_simp <;> (try with_reducible rfl))
        try simp only [Act.put, List.setIfInBounds_toArray, List.set_cons_zero, List.set_cons_succ]
        refine Pl.take_l (i := 3) (v := ?v4) rfl (by kernel_rfl) (by kernel_rfl) (by kernel_rfl) (fun _ _ _ h => h) rfl ?hy4 hHeld ?rest4
        case hy4 => (intro w hSw; (try dsimp only at hSw); (try obtain ⟨_, _⟩ := hSw); go_simp <;> (try with_reducible rfl))
        try simp only [Act.put, List.setIfInBounds_toArray, List.set_cons_zero, List.set_cons_succ]
        refine Pl.take_l (i := 4) (v := ?v5) rfl (by kernel_rfl) (by kernel_rfl) (by kernel_rfl) (fun _ _ _ h => h) rfl ?hy5 hHeld ?rest5
        case hy5 => (intro w hSw; (try dsimp only at hSw); (try obtain ⟨_, _⟩ := hSw); go_simp <;> (try with_reducible rfl))
        try simp only [Act.put, List.setIfInBounds_toArray, List.set_cons_zero, List.set_cons_succ]
        refine Pl.take_l (i := 5) (v := ?v6) rfl (by kernel_rfl) (by kernel_rfl) (by kernel_rfl) (fun _ _ _ h => h) rfl ?hy6 hHeld ?rest6
        case hy6 => (intro w hSw; (try dsimp only at hSw); (try obtain ⟨_, _⟩ := hSw); go_simp <;> (try with_reducible rfl))
        try simp only [Act.put, List.setIfInBounds_toArray, List.set_cons_zero, List.set_cons_succ]
        refine wpAnyH_done (by kernel_rfl) ?_ _
        clear hHeld
        go_upto_region 12 with fail
        refine wp_region_held_drew (S := fun _ => True) (by kernel_rfl) trivial (fun hHeld => ?_)
        show wpAnyH _ _ _ _ _ 16 (Array.replicate 16 false) _ _
        refine Pl.take_l (i := 0) (v := ?v7) rfl (by kernel_rfl) (by kernel_rfl) (by kernel_rfl) (fun _ _ _ h => h) rfl ?hy7 hHeld ?rest7
        case hy7 => (intro w hSw; (try dsimp only at hSw); (try obtain ⟨_, _⟩ := hSw); go_simp <;> (try with_reducible rfl))
        try simp only [Act.put, List.setIfInBounds_toArray, List.set_cons_zero, List.set_cons_succ]
        refine Pl.take_l (i := 1) (v := ?v8) rfl (by kernel_rfl) (by kernel_rfl) (by kernel_rfl) (fun _ _ _ h => h) rfl ?hy8 hHeld ?rest8
        case hy8 => (intro w hSw; (try dsimp only at hSw); (try obtain ⟨_, _⟩ := hSw); go_simp <;> (try with_reducible rfl))
        try simp only [Act.put, List.setIfInBounds_toArray, List.set_cons_zero, List.set_cons_succ]
        refine Pl.take_l (i := 2) (v := ?v9) rfl (by kernel_rfl) (by kernel_rfl) (by kernel_rfl) (fun _ _ _ h => h) rfl ?hy9 hHeld ?rest9
        case hy9 => (intro w hSw; (try dsimp only at hSw); (try obtain ⟨_, _⟩ := hSw); go_simp <;> (try with_reducible rfl))
        try simp only [Act.put, List.setIfInBounds_toArray, List.set_cons_zero, List.set_cons_succ]
        refine Pl.take_n (i := 3) rfl (by kernel_rfl) (by kernel_rfl) (by kernel_rfl) (fun _ _ _ h => h) (by rfl) hHeld ?_
        try simp only [Act.put, List.setIfInBounds_toArray, List.set_cons_zero, List.set_cons_succ]
        refine Pl.take_n (i := 4) rfl (by kernel_rfl) (by kernel_rfl) (by kernel_rfl) (fun _ _ _ h => h) (by rfl) hHeld ?_
        try simp only [Act.put, List.setIfInBounds_toArray, List.set_cons_zero, List.set_cons_succ]
        refine Pl.take_l (i := 5) (v := ?v10) rfl (by kernel_rfl) (by kernel_rfl) (by kernel_rfl) (fun _ _ _ h => h) rfl ?hy10 hHeld ?rest10
        case hy10 => (intro w hSw; (try dsimp only at hSw); (try obtain ⟨_, _⟩ := hSw); go_simp <;> (try with_reducible rfl))
        try simp only [Act.put, List.setIfInBounds_toArray, List.set_cons_zero, List.set_cons_succ]
        refine Pl.take_l (i := 6) (v := ?v11) rfl (by kernel_rfl) (by kernel_rfl) (by kernel_rfl) (fun _ _ _ h => h) rfl ?hy11 hHeld ?rest11
        case hy11 => (intro w hSw; (try dsimp only at hSw); (try obtain ⟨_, _⟩ := hSw); go_simp <;> (try with_reducible rfl))
        try simp only [Act.put, List.setIfInBounds_toArray, List.set_cons_zero, List.set_cons_succ]
        refine Pl.take_n (i := 7) rfl (by kernel_rfl) (by kernel_rfl) (by kernel_rfl) (fun _ _ _ h => h) (by rfl) hHeld ?_
        try simp only [Act.put, List.setIfInBounds_toArray, List.set_cons_zero, List.set_cons_succ]
        refine Pl.take_n (i := 8) rfl (by kernel_rfl) (by kernel_rfl) (by kernel_rfl) (fun _ _ _ h => h) (by rfl) hHeld ?_
        try simp only [Act.put, List.setIfInBounds_toArray, List.set_cons_zero, List.set_cons_succ]
        refine Pl.take_n (i := 9) rfl (by kernel_rfl) (by kernel_rfl) (by kernel_rfl) (fun _ _ _ h => h) (by rfl) hHeld ?_
        try simp only [Act.put, List.setIfInBounds_toArray, List.set_cons_zero, List.set_cons_succ]
        refine Pl.take_n (i := 10) rfl (by kernel_rfl) (by kernel_rfl) (by kernel_rfl) (fun _ _ _ h => h) (by rfl) hHeld ?_
        try simp only [Act.put, List.setIfInBounds_toArray, List.set_cons_zero, List.set_cons_succ]
        refine Pl.take_n (i := 11) rfl (by kernel_rfl) (by kernel_rfl) (by kernel_rfl) (fun _ _ _ h => h) (by rfl) hHeld ?_
        try simp only [Act.put, List.setIfInBounds_toArray, List.set_cons_zero, List.set_cons_succ]
        refine Pl.take_n (i := 12) rfl (by kernel_rfl) (by kernel_rfl) (by kernel_rfl) (fun _ _ _ h => h) (by rfl) hHeld ?_
        try simp only [Act.put, List.setIfInBounds_toArray, List.set_cons_zero, List.set_cons_succ]
        refine Pl.take_n (i := 13) rfl (by kernel_rfl) (by kernel_rfl) (by kernel_rfl) (fun _ _ _ h => h) (by rfl) hHeld ?_
        try simp only [Act.put, List.setIfInBounds_toArray, List.set_cons_zero, List.set_cons_succ]
        refine Pl.take_n (i := 14) rfl (by kernel_rfl) (by kernel_rfl) (by kernel_rfl) (fun _ _ _ h => h) (by rfl) hHeld ?_
        try simp only [Act.put, List.setIfInBounds_toArray, List.set_cons_zero, List.set_cons_succ]
        refine Pl.take_l (i := 15) (v := ?v12) rfl (by kernel_rfl) (by kernel_rfl) (by kernel_rfl) (fun _ _ _ h => h) rfl ?hy12 hHeld ?rest12
        case hy12 => (intro w hSw; (try dsimp only at hSw); (try obtain ⟨_, _⟩ := hSw); go_simp <;> (try with_reducible rfl))
        try simp only [Act.put, List.setIfInBounds_toArray, List.set_cons_zero, List.set_cons_succ]
        refine wpAnyH_done (by kernel_rfl) ?_ _
        clear hHeld
        have hbD : Below w6.heap.size w6 w6.drew.drew := ((Below.refl _ _).drew).drew
        have HE2 := Lib.hid (And.intro (HD.out.1.keep hbD) (And.intro (rg_keep hbD HD.out.2.1) (rg_keep hbD HD.out.2.2)))
        generalize w6.drew.drew = w7 at *
        clear hbD HS0 HD
        as_aux_lemma =>
        obtain ⟨d0, d1, d2, d3, d4⟩ := cmc_at HE2.out.2.1
        obtain ⟨e0, e1, e2, e3, e4⟩ := cmc_at HE2.out.2.2
        by_cases hmm : m = m'
        · subst hmm
          go_upto_block 2 with fail
          have HST := Lib.hid (show CC b3 b4 b8 b9 (.slice (some ⟨g, 0, none⟩) n pc) (.slice (some ⟨g', 0, none⟩) n pc') (.slice xa m xc) (.slice xa' m xc') w w7 from HE2.out)
          clear d0 d1 d2 d3 d4 e0 e1 e2 e3 e4 HE2
          refine wp_block ?_
          go_loopw [85] (fun i wr => ∃ (q : Nat), q ≤ m ∧ i = .int .i64 q ∧ Hid ((a[k]).take q = (a'[k]).take q) ∧ Hid (CC b3 b4 b8 b9 (.slice (some ⟨g, 0, none⟩) n pc) (.slice (some ⟨g', 0, none⟩) n pc') (.slice xa m xc) (.slice xa' m xc') w wr)) (fun i _ => m - (intOf i).toNat)
          case atStart => exact ⟨0, Nat.zero_le _, rfl, Lib.hid rfl, HST⟩
          case round =>
            clear HST
            obtain ⟨q, hq, rfl, HU, HV⟩ := hrel
            by_cases hlq : q < m
            · as_aux_lemma =>
              have z0 : (0 : Int) ≤ q := by omega
              have z1 : (q : Int) < m := by omega
              have qL : q < (a[k]).length := by have := HXK.out.2.2.1; omega
              have qL' : q < (a'[k]).length := by have := HXK.out.2.2.2; omega
              obtain ⟨h, c, y, hve, -, hr, hy⟩ := RowV.at HXK.out.1 (fun _ => rfl) qL
              obtain ⟨h', c', y', hve', -, hr', hy'⟩ := RowV.at HXK.out.2.1 (fun _ => rfl) qL'
              simp only [Value.slice.injEq] at hve hve'
              obtain ⟨rfl, hz, rfl⟩ := hve
              clear hz
              obtain ⟨rfl, hz, rfl⟩ := hve'
              clear hz
              obtain ⟨T, p, F, rfl, hmet, hcf, ⟨T', p', rfl⟩, hcall⟩ := HLE.out.2 X w y y' _ _ HO.out.2.2.1 hy hy'
              have HC := Lib.hid hcall
              have HR := Lib.hid (And.intro (rg_keep HV.out.1.2.2 hr) (rg_keep HV.out.1.2.2 hr'))
              clear hcall hr hr' hy hy'
              go_upto_region 19 with (first
                | (refine wpList_load_mid rfl 94 _ rfl h (q * 3) rfl (sbc (.iface T (.pointer (some ⟨p, 0, none⟩)))) dS HR.out.1 hS hS2 szSub ?_)
                | (refine wpList_store_mid rfl 94 _ _ rfl wr.heap.size 0 (sbc (.iface T (.pointer (some ⟨p, 0, none⟩)))).toArray rfl rfl (th_new wr _ _ rfl) szSub (sbc_all _ _) ?_))
              have hbS : Below wr.heap.size wr ((wr.alloc (.cells #[.nilIface, .int .i32 0, .int .i32 0] 94)).setCells wr.heap.size 0 (sbc (.iface T (.pointer (some ⟨p, 0, none⟩))))) := below_setCells (Nat.le_refl _) _ _ ((Below.refl _ _).alloc (Nat.le_refl _) _)
              have hrS : ((wr.alloc (.cells #[.nilIface, .int .i32 0, .int .i32 0] 94)).setCells wr.heap.size 0 (sbc (.iface T (.pointer (some ⟨p, 0, none⟩))))).rangeAt wr.heap.size 0 (sbc (.iface T (.pointer (some ⟨p, 0, none⟩)))) := World.rangeAt_setCells_same _ _ _ _ (th_new wr _ _ rfl)
              generalize World.setCells _ _ _ _ = w8 at *
              have hb8 : Below w8.heap.size w8 w8.drew := (Below.refl _ _).drew
              have HV8 := Lib.hid ((HV.out.keep hbS).keep hb8)
              have y0 := rg_keep hb8 hrS 0 _ rfl
              have y1 := rg_keep hb8 (rg_keep hbS HR.out.2) 0 _ rfl
              have y2 := HV8.out.2.2 1 _ rfl
              simp only [Nat.zero_add, Nat.add_zero] at y0 y1 y2
              clear hbS hrS hb8 HR HV
              generalize wr.heap.size = b13 at *
              as_aux_lemma =>
              have HS1 := Lib.hid (And.intro y0 (And.intro y2 y1))
              have HM := Lib.hid (And.intro hmet hcf)
              clear y0 y1 y2 hmet hcf
              refine wp_region_held_drew (S := fun w' => w'.cell? ⟨b13, 0, none⟩ = some (.iface T (.pointer (some ⟨p, 0, none⟩))) ∧ w'.cell? ⟨b9, 1, none⟩ = some (.slice (some ⟨h', 0, none⟩) m xc') ∧ w'.cell? ⟨h', q * 3, none⟩ = some (.iface T' (.pointer (some ⟨p', 0, none⟩)))) (by kernel_rfl) HS1.out (fun hHeld => ?_)
              show wpAnyH _ _ _ _ _ 13 (Array.replicate 13 false) _ _
              refine Pl.take_l (i := 0) (v := ?v1001) rfl (by kernel_rfl) (by kernel_rfl) (by kernel_rfl) (fun _ _ _ h => h) rfl ?hy1001 hHeld ?rest1001
              case hy1001 => (intro w hSw; (try dsimp only at hSw); (obtain ⟨_, _, _⟩ := hSw); go_simp <;> (try with_reducible rfl))
              try simp only [Act.put, List.setIfInBounds_toArray, List.set_cons_zero, List.set_cons_succ]
              refine Pl.take_l (i := 1) (v := ?v1002) rfl (by kernel_rfl) (by kernel_rfl) (by kernel_rfl) (fun _ _ _ h => h) rfl ?hy1002 hHeld ?rest1002
              case hy1002 => (intro w hSw; (try dsimp only at hSw); (obtain ⟨_, _, _⟩ := hSw); go_simp <;> (try with_reducible rfl))
              try simp only [Act.put, List.setIfInBounds_toArray, List.set_cons_zero, List.set_cons_succ]
              refine Pl.take_l (i := 2) (v := ?v1003) rfl (by kernel_rfl) (by kernel_rfl) (by kernel_rfl) (fun _ _ _ h => h) rfl ?hy1003 hHeld ?rest1003
              case hy1003 => (intro w hSw; (try dsimp only at hSw); (obtain ⟨_, _, _⟩ := hSw); go_simp <;> (try with_reducible rfl))
              try simp only [Act.put, List.setIfInBounds_toArray, List.set_cons_zero, List.set_cons_succ]
              refine Pl.take_l (i := 3) (v := ?v1004) rfl (by kernel_rfl) (by kernel_rfl) (by kernel_rfl) (fun _ _ _ h => h) rfl ?hy1004 hHeld ?rest1004
              case hy1004 => (intro w hSw; (try dsimp only at hSw); (obtain ⟨_, _, _⟩ := hSw); go_simp <;> (try with_reducible rfl))
              try simp only [Act.put, List.setIfInBounds_toArray, List.set_cons_zero, List.set_cons_succ]
              refine Pl.take_l (i := 4) (v := ?v1005) rfl (by kernel_rfl) (by kernel_rfl) (by kernel_rfl) (fun _ _ _ h => h) rfl ?hy1005 hHeld ?rest1005
              case hy1005 => (intro w hSw; (try dsimp only at hSw); (obtain ⟨_, _, _⟩ := hSw); go_simp <;> (try with_reducible rfl))
              try simp only [Act.put, List.setIfInBounds_toArray, List.set_cons_zero, List.set_cons_succ]
              refine Pl.take_l (i := 5) (v := ?v1006) rfl (by kernel_rfl) (by kernel_rfl) (by kernel_rfl) (fun _ _ _ h => h) rfl ?hy1006 hHeld ?rest1006
              case hy1006 => (intro w hSw; (try dsimp only at hSw); (obtain ⟨_, _, _⟩ := hSw); go_simp <;> (try with_reducible rfl))
              try simp only [Act.put, List.setIfInBounds_toArray, List.set_cons_zero, List.set_cons_succ]
              refine Pl.take_l (i := 6) (v := ?v1007) rfl (by kernel_rfl) (by kernel_rfl) (by kernel_rfl) (fun _ _ _ h => h) rfl ?hy1007 hHeld ?rest1007
              case hy1007 => (intro w hSw; (try dsimp only at hSw); (obtain ⟨_, _, _⟩ := hSw); go_simp <;> (try with_reducible rfl))
              try simp only [Act.put, List.setIfInBounds_toArray, List.set_cons_zero, List.set_cons_succ]
              refine Pl.take_l (i := 7) (v := ?v1008) rfl (by kernel_rfl) (by kernel_rfl) (by kernel_rfl) (fun _ _ _ h => h) rfl ?hy1008 hHeld ?rest1008
              case hy1008 => (intro w hSw; (try dsimp only at hSw); (obtain ⟨_, _, _⟩ := hSw); go_simp <;> (try with_reducible rfl))
              try simp only [Act.put, List.setIfInBounds_toArray, List.set_cons_zero, List.set_cons_succ]
              refine Pl.take_l (i := 8) (v := ?v1009) rfl (by kernel_rfl) (by kernel_rfl) (by kernel_rfl) (fun _ _ _ h => h) rfl ?hy1009 hHeld ?rest1009
              case hy1009 => (intro w hSw; (try dsimp only at hSw); (obtain ⟨_, _, _⟩ := hSw); go_simp <;> (try with_reducible rfl))
              try simp only [Act.put, List.setIfInBounds_toArray, List.set_cons_zero, List.set_cons_succ]
              refine Pl.take_l (i := 9) (v := ?v1010) rfl (by kernel_rfl) (by kernel_rfl) (by kernel_rfl) (fun _ _ _ h => h) rfl ?hy1010 hHeld ?rest1010
              case hy1010 => (intro w hSw; (try dsimp only at hSw); (obtain ⟨_, _, _⟩ := hSw); go_simp <;> (try with_reducible rfl))
              try simp only [Act.put, List.setIfInBounds_toArray, List.set_cons_zero, List.set_cons_succ]
              refine Pl.take_l (i := 10) (v := ?v1011) rfl (by kernel_rfl) (by kernel_rfl) (by kernel_rfl) (fun _ _ _ h => h) rfl ?hy1011 hHeld ?rest1011
              case hy1011 => (intro w hSw; (try dsimp only at hSw); (obtain ⟨_, _, _⟩ := hSw); go_simp <;> (try with_reducible rfl))
              try simp only [Act.put, List.setIfInBounds_toArray, List.set_cons_zero, List.set_cons_succ]
              generalize World.drew _ = wd at *
              have hmt := HM.out.1
              have hct := HM.out.2
              refine Pl.alone_l (i := 11) (by kernel_rfl) rfl (fun K hK => ?_)
              go_simp; refine (HC.out wd HV8.out.1.2.2).mono ?_; rintro e w9 ⟨rfl, hf⟩; have HF := Lib.hid hf; clear hf; dsimp only
              refine hK.out _ _ (⟨later HF.out HS1.out.1, later HF.out HS1.out.2.1, later HF.out HS1.out.2.2⟩) (fun hHeld2 => ?_)
              clear hK K hHeld
              have hHeld := hHeld2
              clear hHeld2
              try simp only [Act.put, List.setIfInBounds_toArray, List.set_cons_zero, List.set_cons_succ]
              refine Pl.take_l (i := 12) (v := ?v1012) rfl (by kernel_rfl) (by kernel_rfl) (by kernel_rfl) (fun _ _ _ h => h) rfl ?hy1012 hHeld ?rest1012
              case hy1012 => (intro w hSw; (try dsimp only at hSw); (obtain ⟨_, _, _⟩ := hSw); go_simp <;> (try with_reducible rfl))
              try simp only [Act.put, List.setIfInBounds_toArray, List.set_cons_zero, List.set_cons_succ]
              refine wpAnyH_done (by kernel_rfl) ?_ _
              clear hHeld
              have HV9 := Lib.hid (HV8.out.keep HF.out)
              clear HV8 HS1 HF hmt hct
              obtain ⟨dd, hdd⟩ : ∃ d, d = decide ((a[k])[q] = (a'[k])[q]) := ⟨_, rfl⟩
              rw [← hdd]
              have HDD := Lib.hid hdd
              clear hdd
              cases dd with
              | true =>
                have HEQ := Lib.hid (take_more qL qL' HU.out (of_decide_eq_true HDD.out.symm))
                go_wp2_with fail
                exact ⟨⟨q + 1, by omega, by go_num, HEQ, HV9⟩, by simp [intOf]; omega⟩
              | false =>
                have HNE := Lib.hid (take_ne kL kL' (take_ne qL qL' (of_decide_eq_false HDD.out.symm)))
                go_wp2_with fail
                go_ret
                exact ⟨by rw [decide_eq_false HNE.out]; rfl, HV9.out.1.2.2⟩
            · as_aux_lemma =>
              obtain rfl : q = m := by omega
              have HEQ := Lib.hid (take_more kL kL' HT.out (take_done HXK.out.2.2.1 HXK.out.2.2.2 HU.out))
              have HB := Lib.hid HV.out.1
              go_wp2_with fail
              exact ⟨⟨k + 1, by omega, by go_num, HEQ, HB⟩, by simp [intOf]; omega⟩
        · have HNE := Lib.hid (take_ne kL kL' (len_ne HXK.out.2.2.1 HXK.out.2.2.2 hmm))
          have q : ¬ ((m : Nat) : Int) = (m' : Nat) := by omega
          have q2 : (((m : Nat) : Int) == (m' : Nat)) = false := beq_eq_false_iff_ne.2 q
          clear hmm
          go_wp2_with fail
          go_ret
          exact ⟨by rw [decide_eq_false HNE.out]; rfl, HE2.out.1.2.2⟩
      · as_aux_lemma =>
        obtain rfl : k = n := by omega
        have HEQ := Lib.hid (take_done HO.out.2.2.2.2.1 HO.out.2.2.2.2.2 HT.out)
        have HB := Lib.hid HW.out.2.2
        go_wp2_with fail
        go_ret
        exact ⟨by rw [decide_eq_true HEQ.out]; rfl, HB.out⟩
  · have HNE := Lib.hid (len_ne HO.out.2.2.2.2.1 HO.out.2.2.2.2.2 hln)
    have q : ¬ ((n : Nat) : Int) = (n' : Nat) := by omega
    have q2 : (((n : Nat) : Int) == (n' : Nat)) = false := beq_eq_false_iff_ne.2 q
    clear hln
    go_enter Try.func40, Try.ntmps40
    go_wp2_with fail
    go_ret
    exact ⟨by
      rw [decide_eq_false HNE.out]; rfl, bel2 _ _ _⟩
end Go.Proofs.Ythokeojpmbdbmaa.Dr
