/-
  The premise; the sum of all lengths.
-/
import Derived.Test.YtaiofdgiabmelaaFmtUq
namespace Go.Proofs.YtaiofdgiabmelaaFmt.Sb
open Go.ChangeShapes Go.WideShapes Go.ChangeAt Go.RowKit Rg
set_option linter.unusedVariables false
set_option linter.unusedSimpArgs false
theorem infoCx : (Tryf.prog.info? 27).map (fun i => (i.zero, i.size, i.bytes)) = some (some (.agg #[.slice none 0 0]), 1, 24) := by kernel_rfl
theorem bs_cx (a : Option Addr) (n cp : Nat) (w : World) : (Instr.buildSlice 57 1 #[(0, .agg #[.slice a n cp])]).run Tryf.prog w = .ok (.slice (some ⟨w.heap.size, 0, none⟩) 1 1) (w.alloc (.cells #[.slice a n cp] 27)) := by
  obtain ⟨i0, hi, hz0, hz1, hz2⟩ := info_parts infoCx
  exact run_buildSlice w 57 27 1 _ _ i0 _ Tryf.underlying57 hi hz0 (by rw [hz1]; decide) (by rw [hz1]; decide) (fill_cpl a n cp i0.size hz1)
/-- what the premise says -/
def PrP (am : Nat) (L : List Cm) (w : World) (e : Ending) (w' : World) : Prop := ∃ b, e = .returned (.bool b) ∧ (b = true → am = 1 ∧ 2 ≤ L.length ∧ ∀ c ∈ L, c.am = 0) ∧ Below w.heap.size w w'
set_option maxRecDepth 100000 in
set_option maxHeartbeats 4000000 in
theorem prm_any (X : Nat → Prop) (cb : Int) (am : Nat) (us u : Value) (L : List Cm) (w : World) (hL : L.length ≤ 1048576) (hX : ∀ b, X b → b < w.heap.size) (hu : CmV X w u L) (hus : ∃ a n c, us = .slice a n c) :
    Calls Tryf.prog 6 #[.agg #[.int .u8 cb, .int .u8 (am : Nat), us], .agg #[u]] w (PrP am L w) := by
  obtain ⟨sa, sn, sc, rfl⟩ := hus
  obtain ⟨ua, uc, hue, -⟩ := id hu
  subst hue
  obtain ⟨n, hnn⟩ : ∃ n, n = L.length := ⟨_, rfl⟩
  have HU := Lib.hid (And.intro hu (And.intro hX (And.intro hnn hL)))
  rw [← hnn] at hL ⊢
  clear hu hX hnn
  go_enter Tryf.func6, Tryf.ntmps6
  go_upto_region 1 with fail
  have h1 : Below w.heap.size w (w.alloc (.cells #[.int .u8 cb, .int .u8 (am : Nat), .slice sa sn sc] 24)) := (Below.refl _ _).alloc (Nat.le_refl _) _
  have r1 := rg_new w #[.int .u8 cb, .int .u8 (am : Nat), .slice sa sn sc] 24 1 _ rfl
  have s1 : (w.alloc (.cells #[.int .u8 cb, .int .u8 (am : Nat), .slice sa sn sc] 24)).heap.size = w.heap.size + 1 := World.size_alloc _ _
  generalize w.alloc _ = x1 at *
  have h2 : Below x1.heap.size x1 (x1.alloc (.cells #[.slice ua n uc] 27)) := (Below.refl _ _).alloc (Nat.le_refl _) _
  have r2 := rg_new x1 #[.slice ua n uc] 27 0 _ rfl
  rw [s1, Nat.zero_add] at r2
  rw [Nat.zero_add] at r1
  have r1' := later h2 r1
  have h12 := h1.trans (h2.mono h1.size)
  generalize x1.alloc _ = x2 at *
  obtain ⟨b1, hb1⟩ : ∃ b, b = w.heap.size := ⟨_, rfl⟩
  obtain ⟨b2, hb2⟩ : ∃ b, b = b1 + 1 := ⟨_, rfl⟩
  rw [← hb1, ← hb2]
  rw [← hb1] at r2 r1'
  rw [← hb2] at r2
  have H2 := Lib.hid h12
  clear h1 r1 s1 h2 h12 hb1 hb2
  by_cases ha : am = 1
  · subst ha
    by_cases hl : 2 ≤ n
    · have hl2 : ¬ ((n : Int) < 2) := by omega
      have HL2 := Lib.hid hl
      clear hl
      go_upto_region 3 with fail
      go_wp2_with (first
        | (refine wpl_bs1 rfl 57 (.tmp 14) rfl _ _ _ ?hx (bs_cx ua n uc x2) ?_; case hx => (show _ = _; rfl)))
      have hal : Below x2.heap.size x2 (x2.alloc (.cells #[.slice ua n uc] 27)) := (Below.refl _ _).alloc (Nat.le_refl _) _
      have hc := rg_new x2 #[.slice ua n uc] 27 0 _ rfl
      rw [Nat.zero_add] at hc
      have H3 := Lib.hid (And.intro (H2.out.trans (hal.mono H2.out.size)) hc)
      clear hal hc
      generalize x2.alloc _ = x3 at *
      refine (noa_any X x2.heap.size 1 (.slice ua n uc) L x3 HU.out.2.2.2 (fun b h => Nat.lt_of_lt_of_le (HU.out.2.1 b h) H3.out.1.size) (by have h := HU.out.1.ag (ag_below HU.out.2.1 H3.out.1); rw [← HU.out.2.2.1] at h; exact h) H3.out.2).mono ?_
      rintro e x4 ⟨b, rfl, hb, rfl⟩
      have HB := Lib.hid hb
      clear hb
      go_wp2_with fail
      go_ret
      exact ⟨b, rfl, fun h => ⟨rfl, by rw [← HU.out.2.2.1]; exact HL2.out, HB.out h⟩, H3.out.1⟩
    · have hl2 : ((n : Int) < 2) := by omega
      clear hl
      go_wp2_with fail
      go_ret
      exact ⟨false, rfl, (fun h => absurd h (by decide)), H2.out⟩
  · have ha2 : ¬ ((am : Int) = 1) := by omega
    clear ha
    go_wp2_with fail
    go_ret
    exact ⟨false, rfl, (fun h => absurd h (by decide)), H2.out⟩
end Go.Proofs.YtaiofdgiabmelaaFmt.Sb
