/-
  The bound on the total length.
-/
import Derived.Test.YtbpnmiedomchpaaFb
namespace Go.Proofs.Ytbpnmiedomchpaa.Fg
open Go.ChangeShapes Go.WideShapes Go.ChangeAt Go.RowKit Rg
set_option linter.unusedVariables false
set_option linter.unusedSimpArgs false
def ZB (Q : Prop) (w : World) (e : Ending) (w' : World) : Prop := (∃ r : Bool, e = .returned (.bool r) ∧ (r = true → Q)) ∧ w = w'
theorem zb_no {Q : Prop} {w : World} : ZB Q w (.returned (.bool false)) w := ⟨⟨false, rfl, fun h => by cases h⟩, rfl⟩
/-- what was counted ahead of the k-th -/
def sC (p : Nat) (C : List Co) (k : Nat) : Nat := p + C.length + ((C.take k).map fun c => wS c.S).sum
def sS (p : Nat) (S : List Sj) (k : Nat) : Nat := p + S.length + ((S.take k).map fun s => s.nm.size + wI s.I).sum
def sI (p : Nat) (I : List In) (k : Nat) : Nat := p + I.length + ((I.take k).map fun i => wN i.N).sum
def sN (p : Nat) (N : List ByteArray) (k : Nat) : Nat := p + N.length + ((N.take k).map (·.size)).sum
theorem sN_all (p : Nat) (N : List ByteArray) : sN p N N.length = p + wN N := by unfold sN wN; rw [sum_all _ _ _ rfl]; omega
theorem sI_all (p : Nat) (I : List In) : sI p I I.length = p + wI I := by unfold sI wI; rw [sum_all _ _ _ rfl]; omega
theorem sS_all (p : Nat) (S : List Sj) : sS p S S.length = p + wS S := by unfold sS wS; rw [sum_all _ _ _ rfl]; omega
theorem sC_all (p : Nat) (C : List Co) : sC p C C.length = p + wC C := by unfold sC wC; rw [sum_all _ _ _ rfl]; omega
theorem sN_more {p : Nat} {N : List ByteArray} {k : Nat} (h : k < N.length) : sN p N (k + 1) = sN p N k + N[k].size := by unfold sN; rw [sum_take _ _ _ h]; omega
theorem sI_more {p : Nat} {I : List In} {k : Nat} (h : k < I.length) : sI p I (k + 1) = sI p I k + wN I[k].N := by unfold sI; rw [sum_take _ _ _ h]; omega
theorem sS_more {p : Nat} {S : List Sj} {k : Nat} (h : k < S.length) : sS p S (k + 1) = sS p S k + S[k].nm.size + wI S[k].I := by unfold sS; rw [sum_take _ _ _ h]; omega
theorem sC_more {p : Nat} {C : List Co} {k : Nat} (h : k < C.length) : sC p C (k + 1) = sC p C k + wS C[k].S := by unfold sC; rw [sum_take _ _ _ h]; omega
set_option maxRecDepth 100000 in
set_option maxHeartbeats 8000000 in
theorem zb57 (a : Option Addr) (n c md : Nat) (X : Nat → Prop) (v : Value) (C : List Co) (w : World) (hv : CoV X w v C) :
    Calls Try.prog 4 #[.slice a n c, v, .int .u8 (md : Nat)] w (ZB (n + wC C ≤ 1048576) w) := by
  obtain ⟨va, vc, hve⟩ := RW.slice hv
  obtain ⟨m, hm⟩ : ∃ m, m = C.length := ⟨_, rfl⟩
  rw [← hm] at hve
  subst hve
  have HC := Lib.hid (And.intro hv hm)
  clear hv hm
  go_enter Try.func4, Try.ntmps4
  by_cases g1 : (1048576 : Int) < n
  · go_wp2_with fail
    go_ret
    exact zb_no
  by_cases g2 : (1048576 : Int) < m
  · go_wp2_with fail
    go_ret
    exact zb_no
  by_cases g3 : (1048576 : Int) < (n : Int) + m
  · go_wp2_with fail
    go_ret
    exact zb_no
  go_wp2_with fail
  go_loop [7, 8] (fun t i => ∃ (k s : Nat), k ≤ m ∧ i = .int .i64 k ∧ t = .int .i64 s ∧ s ≤ 1048576 ∧ Hid (s = sC n C k)) (fun _ i => m - (intOf i).toNat)
  case atStart => exact ⟨0, n + m, Nat.zero_le _, rfl, by go_num, by omega, Lib.hid (by have := HC.out.2; simp [sC]; omega)⟩
  case round =>
    obtain ⟨k, s, hk, rfl, rfl, hs1, HS⟩ := hrel
    by_cases hlt : k < m
    · as_aux_lemma =>
      have q0 : (0 : Int) ≤ k := by omega
      have q1 : (k : Int) < m := by omega
      have kL : k < C.length := by have := HC.out.2; omega
      obtain ⟨g, o, cc, x, hve, -, hr, hx, -, -, -, hxv⟩ := RW.at HC.out.1 kL
      simp only [Value.slice.injEq] at hve
      obtain ⟨rfl, hz, rfl⟩ := hve
      clear hz
      obtain ⟨a2, c2, hx2⟩ := RW.slice hxv
      obtain ⟨m2, hm2⟩ : ∃ m, m = C[k].S.length := ⟨_, rfl⟩
      rw [← hm2] at hx2
      have d3 := hr 3 _ rfl
      rw [hx2] at d3 hxv
      have H2 := Lib.hid (And.intro hxv hm2)
      clear hr hx hxv hm2 hx2
      by_cases g4 : (1048576 : Int) < m2
      · as_aux_lemma =>
        go_wp2_with fail
        go_ret
        exact zb_no
      by_cases g5 : (1048576 : Int) < (s : Int) + m2
      · as_aux_lemma =>
        go_wp2_with fail
        go_ret
        exact zb_no
      go_wp2_with fail
      go_loop [7, 9] (fun t i => ∃ (k2 s2 : Nat), k2 ≤ m2 ∧ i = .int .i64 k2 ∧ t = .int .i64 s2 ∧ s2 ≤ 1048576 ∧ Hid (s2 = sS s C[k].S k2)) (fun _ i => m2 - (intOf i).toNat)
      case atStart => exact ⟨0, s + m2, Nat.zero_le _, rfl, by go_num, by omega, Lib.hid (by have := H2.out.2; simp [sS]; omega)⟩
      case round =>
        obtain ⟨k2, s2, hk2, rfl, rfl, hs2, HS2⟩ := hrel
        by_cases hlt2 : k2 < m2
        · as_aux_lemma =>
          have r0 : (0 : Int) ≤ k2 := by omega
          have r1 : (k2 : Int) < m2 := by omega
          have kL2 : k2 < C[k].S.length := by have := H2.out.2; omega
          obtain ⟨g2, o2, cc2, y, hve, -, hr, hy, -, hyv⟩ := RW.at H2.out.1 kL2
          simp only [Value.slice.injEq] at hve
          obtain ⟨rfl, hz, rfl⟩ := hve
          clear hz
          obtain ⟨a3, c3, hy2⟩ := RW.slice hyv
          obtain ⟨m3, hm3⟩ : ∃ m, m = (C[k].S[k2]).I.length := ⟨_, rfl⟩
          obtain ⟨nm, hnm⟩ : ∃ nm, nm = (C[k].S[k2]).nm := ⟨_, rfl⟩
          rw [← hm3] at hy2
          have f2 := hr 2 _ rfl
          have f3 := hr 3 _ rfl
          rw [hy2] at f3 hyv
          rw [hy, ← hnm] at f2
          have H3 := Lib.hid (And.intro hyv (And.intro hm3 hnm))
          clear hr hy hyv hm3 hy2 hnm
          by_cases g6 : (1048576 : Int) < nm.size
          · as_aux_lemma =>
            go_wp2_with fail
            go_ret
            exact zb_no
          by_cases g7 : (1048576 : Int) < (s2 : Int) + nm.size
          · as_aux_lemma =>
            go_wp2_with fail
            go_ret
            exact zb_no
          by_cases g8 : (1048576 : Int) < m3
          · as_aux_lemma =>
            go_wp2_with fail
            go_ret
            exact zb_no
          by_cases g9 : (1048576 : Int) < (s2 : Int) + nm.size + m3
          · as_aux_lemma =>
            go_wp2_with fail
            go_ret
            exact zb_no
          go_wp2_with fail
          go_loop [7, 10] (fun t i => ∃ (k3 s3 : Nat), k3 ≤ m3 ∧ i = .int .i64 k3 ∧ t = .int .i64 s3 ∧ s3 ≤ 1048576 ∧ Hid (s3 = sI (s2 + nm.size) (C[k].S[k2]).I k3)) (fun _ i => m3 - (intOf i).toNat)
          case atStart => exact ⟨0, s2 + nm.size + m3, Nat.zero_le _, rfl, by go_num, by omega, Lib.hid (by have := H3.out.2.1; simp [sI]; omega)⟩
          case round =>
            obtain ⟨k3, s3, hk3, rfl, rfl, hs3, HS3⟩ := hrel
            by_cases hlt3 : k3 < m3
            · as_aux_lemma =>
              have u0 : (0 : Int) ≤ k3 := by omega
              have u1 : (k3 : Int) < m3 := by omega
              have kL3 : k3 < (C[k].S[k2]).I.length := by have := H3.out.2.1; omega
              obtain ⟨g3, o3, cc3, z, hve, -, hr, hz2, -, -, -, hzv⟩ := RW.at H3.out.1 kL3
              simp only [Value.slice.injEq] at hve
              obtain ⟨rfl, hz, rfl⟩ := hve
              clear hz
              obtain ⟨a4, c4, hz3⟩ := RW.slice hzv
              obtain ⟨m4, hm4⟩ : ∃ m, m = ((C[k].S[k2]).I[k3]).N.length := ⟨_, rfl⟩
              rw [← hm4] at hz3
              have h3 := hr 3 _ rfl
              rw [hz3] at h3 hzv
              have H4 := Lib.hid (And.intro hzv hm4)
              clear hr hz2 hzv hm4 hz3
              by_cases gA : (1048576 : Int) < m4
              · as_aux_lemma =>
                go_wp2_with fail
                go_ret
                exact zb_no
              by_cases gB : (1048576 : Int) < (s3 : Int) + m4
              · as_aux_lemma =>
                go_wp2_with fail
                go_ret
                exact zb_no
              go_wp2_with fail
              go_loop [7, 11] (fun t i => ∃ (k4 s4 : Nat), k4 ≤ m4 ∧ i = .int .i64 k4 ∧ t = .int .i64 s4 ∧ s4 ≤ 1048576 ∧ Hid (s4 = sN s3 ((C[k].S[k2]).I[k3]).N k4)) (fun _ i => m4 - (intOf i).toNat)
              case atStart => exact ⟨0, s3 + m4, Nat.zero_le _, rfl, by go_num, by omega, Lib.hid (by have := H4.out.2; simp [sN]; omega)⟩
              case round =>
                obtain ⟨k4, s4, hk4, rfl, rfl, hs4, HS4⟩ := hrel
                by_cases hlt4 : k4 < m4
                · as_aux_lemma =>
                  have x0 : (0 : Int) ≤ k4 := by omega
                  have x1 : (k4 : Int) < m4 := by omega
                  have kL4 : k4 < ((C[k].S[k2]).I[k3]).N.length := by have := H4.out.2; omega
                  obtain ⟨g4', o4, cc4, st, hve, -, hr, hst⟩ := RW.at H4.out.1 kL4
                  simp only [Value.slice.injEq] at hve
                  obtain ⟨rfl, hz, rfl⟩ := hve
                  clear hz
                  have j0 := hr 0 _ rfl
                  simp only [Nat.mul_one, Nat.add_zero] at j0
                  have HST := Lib.hid hst
                  clear hr hst
                  by_cases gC : (1048576 : Int) < st.size
                  · as_aux_lemma =>
                    go_wp2_with fail
                    go_ret
                    exact zb_no
                  by_cases gD : (1048576 : Int) < (s4 : Int) + st.size
                  · as_aux_lemma =>
                    go_wp2_with fail
                    go_ret
                    exact zb_no
                  have HN : Hid (s4 + st.size = sN s3 ((C[k].S[k2]).I[k3]).N (k4 + 1)) := Lib.hid (by rw [sN_more kL4, ← HS4.out, HST.out])
                  go_wp2_with fail
                  go_round
                  case rel => exact ⟨k4 + 1, s4 + st.size, by omega, by go_num, by go_num, by omega, HN⟩
                  case measure => simp [intOf]; omega
                · as_aux_lemma =>
                  obtain rfl : k4 = m4 := by omega
                  have HN : Hid (s4 = sI (s2 + nm.size) (C[k].S[k2]).I (k3 + 1)) := Lib.hid (by rw [sI_more kL3, ← HS3.out, HS4.out, H4.out.2, sN_all])
                  go_wp2_with fail
                  go_round
                  case rel => exact ⟨k3 + 1, s4, by omega, by go_num, rfl, by omega, HN⟩
                  case measure => simp [intOf]; omega
            · as_aux_lemma =>
              obtain rfl : k3 = m3 := by omega
              have HN : Hid (s3 = sS s C[k].S (k2 + 1)) := Lib.hid (by rw [sS_more kL2, ← HS2.out, HS3.out, H3.out.2.1, sI_all, H3.out.2.2])
              go_wp2_with fail
              go_round
              case rel => exact ⟨k2 + 1, s3, by omega, by go_num, rfl, by omega, HN⟩
              case measure => simp [intOf]; omega
        · as_aux_lemma =>
          obtain rfl : k2 = m2 := by omega
          have HN : Hid (s2 = sC n C (k + 1)) := Lib.hid (by rw [sC_more kL, ← HS.out, HS2.out, H2.out.2, sS_all])
          go_wp2_with fail
          go_round
          case rel => exact ⟨k + 1, s2, by omega, by go_num, rfl, by omega, HN⟩
          case measure => simp [intOf]; omega
    · as_aux_lemma =>
      obtain rfl : k = m := by omega
      have HN : Hid (n + wC C ≤ 1048576) := Lib.hid (by rw [← sC_all, ← HC.out.2, ← HS.out]; exact hs1)
      go_wp2_with fail
      go_ret
      exact ⟨⟨true, rfl, fun _ => HN.out⟩, rfl⟩
end Go.Proofs.Ytbpnmiedomchpaa.Fg
