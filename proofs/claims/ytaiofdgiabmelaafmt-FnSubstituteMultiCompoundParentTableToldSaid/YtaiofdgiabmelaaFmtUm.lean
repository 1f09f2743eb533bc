/-
  namesAt.
-/
import Derived.Test.YtaiofdgiabmelaaFmtUl
namespace Go.Proofs.YtaiofdgiabmelaaFmt.Sb
open Go.ChangeShapes Go.WideShapes Go.ChangeAt Go.RowKit Rg
set_option linter.unusedVariables false
set_option linter.unusedSimpArgs false
/-- from 'fr' on the row holds plain pseudo-classes with these names -/
def SubsAt (w : World) (sa : Option Addr) (fr : Nat) (N : List ByteArray) : Prop :=
  ∀ i (h : i < N.length), ∃ sg p, sa = some ⟨sg, 0, none⟩ ∧ w.rangeAt sg ((fr + i) * 3) (sbc p) ∧ w.rangeAt p 0 (psc N[i])
theorem rg_blk {w : World} {g o : Nat} {c : Value} {cs : List Value} (h : w.rangeAt g o (c :: cs)) : g < w.heap.size := World.block_lt_of_cell? w _ (h 0 c rfl)
theorem SubsAt.keep {w w' : World} {sa : Option Addr} {fr : Nat} {N : List ByteArray} (h : SubsAt w sa fr N) (hb : Below w.heap.size w w') : SubsAt w' sa fr N := fun i hi => by
  obtain ⟨sg, p, e, h1, h2⟩ := h i hi
  exact ⟨sg, p, e, rg_keep hb h1, rg_keep hb h2⟩
set_option maxRecDepth 100000 in
set_option maxHeartbeats 4000000 in
theorem na_any (X : Nat → Prop) (sa : Option Addr) (ln sc fr : Nat) (u : Value) (N : List ByteArray) (w : World) (hln : fr + N.length ≤ ln) (hl : ln ≤ 4194304) (hX : ∀ b, X b → b < w.heap.size) (hu : NmV X w u N) (hs : SubsAt w sa fr N) :
    Calls Tryf.prog 12 #[.slice sa ln sc, .int .i64 (fr : Nat), u] w (fun e w' => e = .returned (.bool true) ∧ Below w.heap.size w w') := by
  obtain ⟨a, c, rfl, hn⟩ := hu
  obtain ⟨n, hnn⟩ : ∃ n, n = N.length := ⟨_, rfl⟩
  have HU := Lib.hid (And.intro hn (And.intro hX (And.intro hs hnn)))
  rw [← hnn] at hln ⊢
  clear hn hX hs hnn
  have p0 : ¬ ((fr : Int) < 0) := by omega
  have p1 : ¬ ((ln : Int) < fr) := by omega
  have p2 : ¬ ((ln : Int) - fr < n) := by omega
  have hw1 : IntKind.i64.wrap ((ln : Int) - (fr : Int)) = (ln : Int) - fr := by
    simp [IntKind.wrap, IntKind.bits, IntKind.signed]
    omega
  go_enter Tryf.func12, Tryf.ntmps12
  go_upto_block 0 with fail
  clear p0 p1 p2 hw1
  refine wp_block ?_
  go_loopw [7] (fun i wr => ∃ (k : Nat), k ≤ n ∧ i = .int .i64 (k : Nat) ∧ Hid (Below w.heap.size w wr)) (fun i _ => n - (intOf i).toNat)
  case atStart => exact ⟨0, Nat.zero_le _, rfl, Lib.hid (Below.refl _ _)⟩
  case round =>
    obtain ⟨k, hk, rfl, HV⟩ := hrel
    by_cases hlt : k < n
    · as_aux_lemma =>
      have q0 : (0 : Int) ≤ k := by omega
      have q1 : (k : Int) < (n : Nat) := by omega
      have kN : k < N.length := by have := HU.out.2.2.2; omega
      obtain ⟨sg, p, rfl, hr1, hr2⟩ := HU.out.2.2.1 k kN
      obtain ⟨g, o, rfl, hXg, hcell⟩ := HU.out.1 k kN
      obtain ⟨nm, hnm⟩ : ∃ x, x = N[k] := ⟨_, rfl⟩
      rw [← hnm] at hr2 hcell
      obtain ⟨j, hj⟩ : ∃ j, j = fr + k := ⟨_, rfl⟩
      rw [← hj] at hr1
      have e1 : (fr : Int) + (k : Int) = (j : Nat) := by omega
      have q2 : (0 : Int) ≤ j := by omega
      have q3 : (j : Int) < (ln : Nat) := by omega
      have hw2 : IntKind.i64.wrap (j : Int) = (j : Int) := by
        simp [IntKind.wrap, IntKind.bits, IntKind.signed]
        omega
      obtain ⟨dS, hS, hS2⟩ := tySub
      have HR := Lib.hid (show wr.rangeAt sg (j * 3) (sbc p) ∧ wr.rangeAt p 0 (psc nm) ∧ wr.cell? ⟨g, o + k, none⟩ = some (.string nm) from ⟨rg_keep HV.out hr1, rg_keep HV.out hr2, later HV.out hcell⟩)
      clear hr1 hr2 hcell hXg hnm hj
      go_upto_region 6 with fail
      go_wp2_with (first
        | (refine wpList_load_mid rfl 56 _ rfl sg (j * 3) rfl (sbc p) dS HR.out.1 hS hS2 szSub ?_))
      refine (kind0 p wr).mono ?_
      rintro e w4 ⟨rfl, hb4⟩
      have hbD := hb4.drew
      have HR4 := Lib.hid (show w4.drew.rangeAt sg (j * 3) (sbc p) ∧ w4.drew.rangeAt p 0 (psc nm) ∧ w4.drew.cell? ⟨g, o + k, none⟩ = some (.string nm) ∧ Below w.heap.size w w4.drew from ⟨rg_keep hbD HR.out.1, rg_keep hbD HR.out.2.1, later hbD HR.out.2.2, HV.out.trans (hbD.mono HV.out.size)⟩)
      clear hb4 hbD HR
      have HS0 := Lib.hid (show w4.drew.rangeAt sg (j * 3) (sbc p) ∧ w4.drew.cell? ⟨g, o + k, none⟩ = some (.string nm) from ⟨HR4.out.1, HR4.out.2.2.1⟩)
      go_upto_region 8 with fail
      refine Pl.wp_region_split (fun w' => w'.rangeAt sg (j * 3) (sbc p) ∧ w'.cell? ⟨g, o + k, none⟩ = some (.string nm)) 11 (by kernel_rfl) (by kernel_rfl) ?_
      simp only [List.take_succ_cons, List.take_zero]
      have hHeld := HS0.out
      refine Pl.take_l (i := 0) (v := ?v1) rfl (by kernel_rfl) (by kernel_rfl) (by kernel_rfl) (fun _ _ _ h => h) rfl ?hy1 hHeld ?rest1
      case hy1 => (intro w hSw; (try dsimp only at hSw); (try obtain ⟨_, _⟩ := hSw); go_simp <;> (try with_reducible rfl))
      try simp only [Act.put, List.setIfInBounds_toArray, List.set_cons_zero, List.set_cons_succ]
      refine Pl.take_l (i := 1) (v := ?v2) rfl (by kernel_rfl) (by kernel_rfl) (by kernel_rfl) (fun _ _ _ h => h) rfl ?hy2 hHeld ?rest2
      case hy2 => (intro w hSw; (try dsimp only at hSw); (try obtain ⟨_, _⟩ := hSw); go_simp <;> (try with_reducible rfl))
      try simp only [Act.put, List.setIfInBounds_toArray, List.set_cons_zero, List.set_cons_succ]
      refine Pl.take_l (i := 2) (v := ?v3) rfl (by kernel_rfl) (by kernel_rfl) (by kernel_rfl) (fun _ _ _ h => h) rfl ?hy3 hHeld ?rest3
      case hy3 => (intro w hSw; (try dsimp only at hSw); (try obtain ⟨_, _⟩ := hSw); go_simp <;> (try with_reducible rfl))
      try simp only [Act.put, List.setIfInBounds_toArray, List.set_cons_zero, List.set_cons_succ]
      refine Pl.take_l (i := 3) (v := ?v4) rfl (by kernel_rfl) (by kernel_rfl) (by kernel_rfl) (fun _ _ _ h => h) rfl ?hy4 hHeld ?rest4
      case hy4 => (intro w hSw; (try dsimp only at hSw); (try obtain ⟨_, _⟩ := hSw); go_simp <;> (try with_reducible rfl))
      try simp only [Act.put, List.setIfInBounds_toArray, List.set_cons_zero, List.set_cons_succ]
      refine Pl.take_l (i := 4) (v := ?v5) rfl (by kernel_rfl) (by kernel_rfl) (by kernel_rfl) (fun _ _ _ h => h) rfl ?hy5 hHeld ?rest5
      case hy5 => (intro w hSw; (try dsimp only at hSw); (try obtain ⟨_, _⟩ := hSw); go_simp <;> (try with_reducible rfl))
      try simp only [Act.put, List.setIfInBounds_toArray, List.set_cons_zero, List.set_cons_succ]
      refine Pl.take_l (i := 5) (v := .agg #[.iface 124 (.pointer (some ⟨p, 0, none⟩)), .int .i32 0, .int .i32 0]) rfl (by kernel_rfl) (by kernel_rfl) (by kernel_rfl) (fun _ _ _ h => h) rfl (fun w hSw => ex_load 56 (.tmp 43) rfl sg (j * 3) rfl (sbc p) dS (hSw.1) hS hS2 szSub) hHeld ?_
      try simp only [Act.put, List.setIfInBounds_toArray, List.set_cons_zero, List.set_cons_succ]
      refine Pl.take_l (i := 7) (v := ?v6) rfl (by kernel_rfl) (by kernel_rfl) (by kernel_rfl) (fun _ _ _ h => h) rfl ?hy6 hHeld ?rest6
      case hy6 => (intro w hSw; (try dsimp only at hSw); (try obtain ⟨_, _⟩ := hSw); go_simp <;> (try with_reducible rfl))
      try simp only [Act.put, List.setIfInBounds_toArray, List.set_cons_zero, List.set_cons_succ]
      refine Pl.take_l (i := 8) (v := ?v7) rfl (by kernel_rfl) (by kernel_rfl) (by kernel_rfl) (fun _ _ _ h => h) rfl ?hy7 hHeld ?rest7
      case hy7 => (intro w hSw; (try dsimp only at hSw); (try obtain ⟨_, _⟩ := hSw); go_simp <;> (try with_reducible rfl))
      try simp only [Act.put, List.setIfInBounds_toArray, List.set_cons_zero, List.set_cons_succ]
      refine Pl.take_l (i := 9) (v := ?v8) rfl (by kernel_rfl) (by kernel_rfl) (by kernel_rfl) (fun _ _ _ h => h) rfl ?hy8 hHeld ?rest8
      case hy8 => (intro w hSw; (try dsimp only at hSw); (try obtain ⟨_, _⟩ := hSw); go_simp <;> (try with_reducible rfl))
      try simp only [Act.put, List.setIfInBounds_toArray, List.set_cons_zero, List.set_cons_succ]
      refine Pl.take_l (i := 10) (v := ?v9) rfl (by kernel_rfl) (by kernel_rfl) (by kernel_rfl) (fun _ _ _ h => h) rfl ?hy9 hHeld ?rest9
      case hy9 => (intro w hSw; (try dsimp only at hSw); (try obtain ⟨_, _⟩ := hSw); go_simp <;> (try with_reducible rfl))
      try simp only [Act.put, List.setIfInBounds_toArray, List.set_cons_zero, List.set_cons_succ]
      generalize World.drew _ = wd at *
      refine Pl.alone_l (i := 6) (by kernel_rfl) rfl (fun K hK => ?_)
      go_simp; refine (pname p nm wd HR4.out.2.1).mono ?_; rintro e w6 ⟨rfl, hf⟩; have HF := Lib.hid hf; clear hf; dsimp only
      refine hK.out _ _ (⟨rg_keep HF.out HR4.out.1, later HF.out HR4.out.2.2.1⟩) (fun hHeld2 => ?_)
      clear hK K hHeld
      have hHeld := hHeld2
      clear hHeld2
      try simp only [Act.put, List.setIfInBounds_toArray, List.set_cons_zero, List.set_cons_succ]
      refine wpAnyH_done (by kernel_rfl) ?_ _
      refine Pl.behind_normal (by decide) ?_
      simp only [List.drop_succ_cons, List.drop_zero]
      clear hHeld
      go_wp2_with fail
      exact ⟨⟨k + 1, by omega, by go_num, Lib.hid (HR4.out.2.2.2.trans (HF.out.mono HR4.out.2.2.2.size))⟩, by simp [intOf]; omega⟩
    · as_aux_lemma =>
      have hkn : n = k := by omega
      subst hkn
      go_wp2_with fail
      go_ret
      exact ⟨rfl, HV.out⟩
/-- a compound in memory against what is wanted -/
def CeV (X : Nat → Prop) (w : World) (sa : Option Addr) (u : Value) (N : List ByteArray) : Prop := SubsAt w sa 0 N ∧ NmV X w u N
set_option maxRecDepth 100000 in
set_option maxHeartbeats 4000000 in
theorem ce_any (X : Nat → Prop) (sa an : Option Addr) (sc am cn : Nat) (cb : Int) (u : Value) (N : List ByteArray) (w : World) (ham : am ≤ 255) (hl : N.length ≤ 1048576) (hX : ∀ b, X b → b < w.heap.size) (hc : CeV X w sa u N) :
    Calls Tryf.prog 11 #[.agg #[.pointer none, .slice sa N.length sc, .slice an am cn, .int .i32 0, .int .u8 cb, .bool false], .agg #[.int .u8 cb, .int .u8 (am : Nat), u]] w (fun e w' => e = .returned (.bool true) ∧ Below w.heap.size w w') := by
  obtain ⟨hs, hu⟩ := hc
  obtain ⟨ua, uc, hue, -⟩ := id hu
  subst hue
  obtain ⟨n, hnn⟩ : ∃ n, n = N.length := ⟨_, rfl⟩
  have HU := Lib.hid (And.intro hu (And.intro hs (And.intro hX (And.intro hnn hl))))
  rw [← hnn]
  have hwr := u8_i64 am ham
  clear hu hs hX hnn hl
  go_enter Tryf.func11, Tryf.ntmps11
  go_upto_region 1 with fail
  have h1 : Below w.heap.size w (w.alloc (.cells #[.pointer none, .slice sa n sc, .slice an am cn, .int .i32 0, .int .u8 cb, .bool false] 41)) := (Below.refl _ _).alloc (Nat.le_refl _) _
  have r1 := rg_new w #[.pointer none, .slice sa n sc, .slice an am cn, .int .i32 0, .int .u8 cb, .bool false] 41
  have s1 : (w.alloc (.cells #[.pointer none, .slice sa n sc, .slice an am cn, .int .i32 0, .int .u8 cb, .bool false] 41)).heap.size = w.heap.size + 1 := World.size_alloc _ _
  generalize w.alloc _ = x1 at *
  have h2 : Below x1.heap.size x1 (x1.alloc (.cells #[.int .u8 cb, .int .u8 (am : Nat), .slice ua n uc] 24)) := (Below.refl _ _).alloc (Nat.le_refl _) _
  have r2 := rg_new x1 #[.int .u8 cb, .int .u8 (am : Nat), .slice ua n uc] 24
  rw [s1] at r2
  have r1' := rg_keep h2 r1
  have h12 := h1.trans (h2.mono h1.size)
  generalize x1.alloc _ = x2 at *
  obtain ⟨b1, hb1⟩ : ∃ b, b = w.heap.size := ⟨_, rfl⟩
  obtain ⟨b2, hb2⟩ : ∃ b, b = b1 + 1 := ⟨_, rfl⟩
  rw [← hb1, ← hb2]
  rw [← hb1] at r2 r1'
  rw [← hb2] at r2
  have H2 := Lib.hid h12
  have a0 := r1' 0 _ rfl
  have a1 := r1' 1 _ rfl
  have a2 := r1' 2 _ rfl
  have a4 := r1' 4 _ rfl
  have e0 := r2 0 _ rfl
  have e1 := r2 1 _ rfl
  have e2 := r2 2 _ rfl
  simp only [Nat.zero_add] at a0 a1 a2 a4 e0 e1 e2
  clear h1 r1 s1 h2 h12 hb1 hb2 r2 r1'
  go_wp2_with fail
  refine (na_any X sa n sc 0 (.slice ua n uc) N x2 (by have := HU.out.2.2.2.1; omega) (by have := HU.out.2.2.2; omega) (fun b h => Nat.lt_of_lt_of_le (HU.out.2.2.1 b h) H2.out.size) (by have h := HU.out.1.ag (ag_below HU.out.2.2.1 H2.out); rw [← HU.out.2.2.2.1] at h; exact h) (HU.out.2.1.keep H2.out)).mono ?_
  rintro e w5 ⟨rfl, hb⟩
  have HF := Lib.hid hb
  clear hb
  go_wp2_with fail
  go_ret
  exact ⟨rfl, H2.out.trans (HF.out.mono H2.out.size)⟩
end Go.Proofs.YtaiofdgiabmelaaFmt.Sb
