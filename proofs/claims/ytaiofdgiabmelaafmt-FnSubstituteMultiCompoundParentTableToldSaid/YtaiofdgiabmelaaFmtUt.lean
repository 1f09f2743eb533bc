/-
  The bound on the total length.
-/
import Derived.Test.YtaiofdgiabmelaaFmtUs
namespace Go.Proofs.YtaiofdgiabmelaaFmt.Sb
open Go.ChangeShapes Go.WideShapes Go.ChangeAt Go.RowKit Rg
set_option linter.unusedVariables false
set_option linter.unusedSimpArgs false
/-- what a bound that holds says of the lengths -/
def ZbQ (N : List ByteArray) (L Z : List Cm) : Prop := N.length ≤ 1048576 ∧ (L.length ≤ 1048576 ∧ ∀ c ∈ L, c.N.length ≤ 1048576) ∧ (Z.length ≤ 1048576 ∧ ∀ c ∈ Z, c.N.length ≤ 1048576)
def ZbP (N : List ByteArray) (L Z : List Cm) (w : World) (e : Ending) (w' : World) : Prop := ∃ b, e = .returned (.bool b) ∧ (b = true → ZbQ N L Z) ∧ Below w.heap.size w w'
/-- the first k compounds have short lists of names -/
def Shorts (L : List Cm) (k : Nat) : Prop := ∀ i (h : i < L.length), i < k → (L[i]).N.length ≤ 1048576
theorem Shorts.all {L : List Cm} {k : Nat} (h : Shorts L k) (hk : L.length ≤ k) : ∀ c ∈ L, c.N.length ≤ 1048576 := fun c hc => by
  obtain ⟨i, hi, rfl⟩ := List.getElem_of_mem hc
  exact h i hi (by omega)
theorem Shorts.succ {L : List Cm} {k : Nat} (h : Shorts L k) (hk : k < L.length) (hn : (L[k]).N.length ≤ 1048576) : Shorts L (k + 1) := fun i hi hlt => by
  by_cases e : i = k
  · subst e; exact hn
  · exact h i hi (by omega)
set_option maxRecDepth 100000 in
set_option maxHeartbeats 8000000 in
theorem zbb_any (X : Nat → Prop) (cb : Int) (am : Nat) (us u ur : Value) (st : Bool) (N : List ByteArray) (L Z : List Cm) (w : World) (hX : ∀ b, X b → b < w.heap.size) (hs : NmV X w us N) (hu : CmV X w u L) (hr : CmV X w ur Z) :
    Calls Tryf.prog 4 #[.agg #[.int .u8 cb, .int .u8 (am : Nat), us], .agg #[u], ur, .bool st] w (ZbP N L Z w) := by
  obtain ⟨sa, sc, rfl, hsn⟩ := hs
  obtain ⟨ua, uc, rfl, hun⟩ := hu
  obtain ⟨ra, rc, rfl, hrn⟩ := hr
  obtain ⟨n, hnn⟩ : ∃ n, n = N.length := ⟨_, rfl⟩
  obtain ⟨l, hll⟩ : ∃ n, n = L.length := ⟨_, rfl⟩
  obtain ⟨z, hzz⟩ : ∃ n, n = Z.length := ⟨_, rfl⟩
  rw [← hnn, ← hll, ← hzz]
  have HU := Lib.hid (And.intro hX (And.intro hsn (And.intro hun hrn)))
  have HL := Lib.hid (And.intro hnn (And.intro hll hzz))
  clear hX hsn hun hrn hnn hll hzz
  go_enter Tryf.func4, Tryf.ntmps4
  go_upto_region 1 with fail
  have h1 : Below w.heap.size w (w.alloc (.cells #[.int .u8 cb, .int .u8 (am : Nat), .slice sa n sc] 24)) := (Below.refl _ _).alloc (Nat.le_refl _) _
  have r1 := rg_new w #[.int .u8 cb, .int .u8 (am : Nat), .slice sa n sc] 24 2 _ rfl
  have s1 : (w.alloc (.cells #[.int .u8 cb, .int .u8 (am : Nat), .slice sa n sc] 24)).heap.size = w.heap.size + 1 := World.size_alloc _ _
  rw [Nat.zero_add] at r1
  generalize w.alloc _ = x1 at *
  have h2 : Below x1.heap.size x1 (x1.alloc (.cells #[.slice ua l uc] 27)) := (Below.refl _ _).alloc (Nat.le_refl _) _
  have r2 := rg_new x1 #[.slice ua l uc] 27 0 _ rfl
  rw [s1, Nat.zero_add] at r2
  have r1' := later h2 r1
  have h12 := h1.trans (h2.mono h1.size)
  generalize x1.alloc _ = x2 at *
  obtain ⟨b1, hb1⟩ : ∃ b, b = w.heap.size := ⟨_, rfl⟩
  obtain ⟨b2, hb2⟩ : ∃ b, b = b1 + 1 := ⟨_, rfl⟩
  rw [← hb1, ← hb2]
  rw [← hb1] at r2 r1'
  rw [← hb2] at r2
  have H2 := Lib.hid h12
  clear h1 r1 s1 h2 h12 hb1 hb2
  have hno : ∃ b, Ending.returned (.bool false) = .returned (.bool b) ∧ (b = true → ZbQ N L Z) ∧ Below w.heap.size w x2 := ⟨false, rfl, (fun h => absurd h (by decide)), H2.out⟩
  by_cases g1 : (1048576 : Int) < n
  · as_aux_lemma =>
    go_wp2_with fail
    go_ret
    exact hno
  have HN := Lib.hid (show N.length ≤ 1048576 by have := HL.out.1; omega)
  go_upto_block 0 with fail
  refine wp_block ?_
  go_loopw [9, 10] (fun s i wr => ∃ (k : Nat) (r : Int), k ≤ n ∧ i = .int .i64 (k : Nat) ∧ s = .int .i64 r ∧ 0 ≤ r ∧ r ≤ 1048576 ∧ wr = x2) (fun _ i _ => n - (intOf i).toNat)
  case atStart => exact ⟨0, n, Nat.zero_le _, rfl, (by simp), by omega, by omega, rfl⟩
  case round =>
  obtain ⟨k, r, hk, rfl, rfl, hr0, hr1, hwr⟩ := hrel
  replace hwr := hwr.symm; subst hwr
  by_cases hlt : k < n
  · as_aux_lemma =>
    have q0 : (0 : Int) ≤ k := by omega
    have q1 : (k : Int) < (n : Nat) := by omega
    have kN : k < N.length := by have := HL.out.1; omega
    obtain ⟨g, o, rfl, hXg, hcell⟩ := HU.out.2.1 k kN
    have c1 := later H2.out hcell
    generalize N[k] = nm at *
    clear hcell hXg
    by_cases p2 : (1048576 : Int) < nm.size
    · go_wp2_with fail
      go_ret
      exact hno
    by_cases p3 : (1048576 : Int) < r + nm.size
    · go_wp2_with fail
      go_ret
      exact hno
    go_wp2_with fail
    exact ⟨⟨k + 1, r + nm.size, by omega, by go_num, rfl, by omega, by omega, trivial⟩, by simp [intOf]; omega⟩
  obtain rfl : n = k := by omega
  clear hlt hk
  as_aux_lemma =>
  by_cases g2 : (1048576 : Int) < l
  · as_aux_lemma =>
    go_wp2_with fail
    go_ret
    exact hno
  by_cases g3 : (1048576 : Int) < r + l
  · as_aux_lemma =>
    go_wp2_with fail
    go_ret
    exact hno
  have HLL := Lib.hid (show L.length ≤ 1048576 by have := HL.out.2.1; omega)
  go_upto_block 2 with fail
  refine wp_block ?_
  go_loopw [9, 11] (fun s i wr => ∃ (k : Nat) (r : Int), k ≤ l ∧ i = .int .i64 (k : Nat) ∧ s = .int .i64 r ∧ 0 ≤ r ∧ r ≤ 1048576 ∧ Hid (Shorts L k) ∧ wr = x2) (fun _ i _ => l - (intOf i).toNat)
  case atStart => exact ⟨0, r + l, Nat.zero_le _, rfl, rfl, by omega, by omega, Lib.hid (fun i h hlt => absurd hlt (Nat.not_lt_zero _)), rfl⟩
  case round =>
  have hl20 : (l : Int) ≤ 1048576 := by omega
  clear g1 g2 g3 hr0 hr1
  obtain ⟨k, r, hk, rfl, rfl, hr0, hr1, HSh, hwr⟩ := hrel
  replace hwr := hwr.symm; subst hwr
  by_cases hlt : k < l
  · as_aux_lemma =>
    have q0 : (0 : Int) ≤ k := by omega
    have q1 : (k : Int) < (l : Nat) := by omega
    have kL : k < L.length := by have := HL.out.2.1; omega
    obtain ⟨g, o, u, rfl, hXg, hrg, hnm⟩ := HU.out.2.2.1 k kL
    have c2 := later H2.out (hrg 2 _ rfl)
    have HLk := Lib.hid (show ∀ h : (L[k]).N.length ≤ 1048576, Shorts L (k + 1) from fun h => HSh.out.succ kL h)
    generalize (L[k]).N = M at *
    obtain ⟨va, vc, rfl, hvn⟩ := hnm
    have HV := Lib.hid hvn
    obtain ⟨m, hm⟩ : ∃ m, m = M.length := ⟨_, rfl⟩
    have HM := Lib.hid hm
    rw [← hm] at c2
    clear hvn hrg hXg hm
    by_cases g4 : (1048576 : Int) < m
    · as_aux_lemma =>
      go_wp2_with fail
      go_ret
      exact hno
    by_cases g5 : (1048576 : Int) < r + m
    · as_aux_lemma =>
      go_wp2_with fail
      go_ret
      exact hno
    go_upto_block 4 with fail
    refine wp_block ?_
    go_loopw [9, 12] (fun s i wr => ∃ (j : Nat) (r : Int), j ≤ m ∧ i = .int .i64 (j : Nat) ∧ s = .int .i64 r ∧ 0 ≤ r ∧ r ≤ 1048576 ∧ wr = x2) (fun _ i _ => m - (intOf i).toNat)
    case atStart => exact ⟨0, r + m, Nat.zero_le _, rfl, rfl, by omega, by omega, rfl⟩
    case round =>
    have hm20 : (m : Int) ≤ 1048576 := by omega
    clear g4 g5 hr0 hr1
    obtain ⟨j, r, hj, rfl, rfl, hr0, hr1, hwr⟩ := hrel
    replace hwr := hwr.symm; subst hwr
    by_cases hlt : j < m
    · as_aux_lemma =>
      have q2 : (0 : Int) ≤ j := by omega
      have q3 : (j : Int) < (m : Nat) := by omega
      have jM : j < M.length := by have := HM.out; omega
      obtain ⟨g', o', rfl, hXg, hcell⟩ := HV.out j jM
      have c1 := later H2.out hcell
      generalize M[j] = nm at *
      clear hcell hXg
      by_cases p2 : (1048576 : Int) < nm.size
      · go_wp2_with fail
        go_ret
        exact hno
      by_cases p3 : (1048576 : Int) < r + nm.size
      · go_wp2_with fail
        go_ret
        exact hno
      go_wp2_with fail
      exact ⟨⟨j + 1, r + nm.size, by omega, by go_num, rfl, by omega, by omega, trivial⟩, by simp [intOf]; omega⟩
    · as_aux_lemma =>
      obtain rfl : m = j := by omega
      go_wp2_with fail
      exact ⟨⟨k + 1, r, by omega, by go_num, rfl, by omega, by omega, Lib.hid (HLk.out (by have := HM.out; omega)), trivial⟩, by simp [intOf]; omega⟩
  obtain rfl : l = k := by omega
  clear hlt hk
  as_aux_lemma =>
  by_cases g2 : (1048576 : Int) < z
  · as_aux_lemma =>
    go_wp2_with fail
    go_ret
    exact hno
  by_cases g3 : (1048576 : Int) < r + z
  · as_aux_lemma =>
    go_wp2_with fail
    go_ret
    exact hno
  have HZZ := Lib.hid (show Z.length ≤ 1048576 by have := HL.out.2.2; omega)
  have HSL := HSh
  clear HSh
  go_upto_block 6 with fail
  refine wp_block ?_
  go_loopw [9, 13] (fun s i wr => ∃ (k : Nat) (r : Int), k ≤ z ∧ i = .int .i64 (k : Nat) ∧ s = .int .i64 r ∧ 0 ≤ r ∧ r ≤ 1048576 ∧ Hid (Shorts Z k) ∧ wr = x2) (fun _ i _ => z - (intOf i).toNat)
  case atStart => exact ⟨0, r + z, Nat.zero_le _, rfl, rfl, by omega, by omega, Lib.hid (fun i h hlt => absurd hlt (Nat.not_lt_zero _)), rfl⟩
  case round =>
  have hz20 : (z : Int) ≤ 1048576 := by omega
  clear g2 g3 hr0 hr1
  obtain ⟨k, r, hk, rfl, rfl, hr0, hr1, HSh, hwr⟩ := hrel
  replace hwr := hwr.symm; subst hwr
  by_cases hlt : k < z
  · as_aux_lemma =>
    have q0 : (0 : Int) ≤ k := by omega
    have q1 : (k : Int) < (z : Nat) := by omega
    have kL : k < Z.length := by have := HL.out.2.2; omega
    obtain ⟨g, o, u, rfl, hXg, hrg, hnm⟩ := HU.out.2.2.2 k kL
    have c2 := later H2.out (hrg 2 _ rfl)
    have HLk := Lib.hid (show ∀ h : (Z[k]).N.length ≤ 1048576, Shorts Z (k + 1) from fun h => HSh.out.succ kL h)
    generalize (Z[k]).N = M at *
    obtain ⟨va, vc, rfl, hvn⟩ := hnm
    have HV := Lib.hid hvn
    obtain ⟨m, hm⟩ : ∃ m, m = M.length := ⟨_, rfl⟩
    have HM := Lib.hid hm
    rw [← hm] at c2
    clear hvn hrg hXg hm
    by_cases g4 : (1048576 : Int) < m
    · as_aux_lemma =>
      go_wp2_with fail
      go_ret
      exact hno
    by_cases g5 : (1048576 : Int) < r + m
    · as_aux_lemma =>
      go_wp2_with fail
      go_ret
      exact hno
    go_upto_block 8 with fail
    refine wp_block ?_
    go_loopw [9, 14] (fun s i wr => ∃ (j : Nat) (r : Int), j ≤ m ∧ i = .int .i64 (j : Nat) ∧ s = .int .i64 r ∧ 0 ≤ r ∧ r ≤ 1048576 ∧ wr = x2) (fun _ i _ => m - (intOf i).toNat)
    case atStart => exact ⟨0, r + m, Nat.zero_le _, rfl, rfl, by omega, by omega, rfl⟩
    case round =>
    have hm20 : (m : Int) ≤ 1048576 := by omega
    clear g4 g5 hr0 hr1
    obtain ⟨j, r, hj, rfl, rfl, hr0, hr1, hwr⟩ := hrel
    replace hwr := hwr.symm; subst hwr
    by_cases hlt : j < m
    · as_aux_lemma =>
      have q2 : (0 : Int) ≤ j := by omega
      have q3 : (j : Int) < (m : Nat) := by omega
      have jM : j < M.length := by have := HM.out; omega
      obtain ⟨g', o', rfl, hXg, hcell⟩ := HV.out j jM
      have c1 := later H2.out hcell
      generalize M[j] = nm at *
      clear hcell hXg
      by_cases p2 : (1048576 : Int) < nm.size
      · go_wp2_with fail
        go_ret
        exact hno
      by_cases p3 : (1048576 : Int) < r + nm.size
      · go_wp2_with fail
        go_ret
        exact hno
      go_wp2_with fail
      exact ⟨⟨j + 1, r + nm.size, by omega, by go_num, rfl, by omega, by omega, trivial⟩, by simp [intOf]; omega⟩
    · as_aux_lemma =>
      obtain rfl : m = j := by omega
      go_wp2_with fail
      exact ⟨⟨k + 1, r, by omega, by go_num, rfl, by omega, by omega, Lib.hid (HLk.out (by have := HM.out; omega)), trivial⟩, by simp [intOf]; omega⟩
  obtain rfl : z = k := by omega
  go_wp2_with fail
  go_ret
  exact ⟨true, rfl, fun _ => ⟨HN.out, ⟨HLL.out, HSL.out.all (by have := HL.out.2.1; omega)⟩, HZZ.out, HSh.out.all (by have := HL.out.2.2; omega)⟩, H2.out⟩
end Go.Proofs.YtaiofdgiabmelaaFmt.Sb
