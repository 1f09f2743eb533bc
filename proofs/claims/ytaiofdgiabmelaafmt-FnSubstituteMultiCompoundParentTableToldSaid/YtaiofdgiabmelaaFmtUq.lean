/-
  noAmps.
-/
import Derived.Test.YtaiofdgiabmelaaFmtUp
namespace Go.Proofs.YtaiofdgiabmelaaFmt.Sb
open Go.ChangeShapes Go.WideShapes Go.ChangeAt Go.RowKit Rg
set_option linter.unusedVariables false
set_option linter.unusedSimpArgs false
set_option maxRecDepth 100000 in
set_option maxHeartbeats 4000000 in
theorem noa_any (X : Nat → Prop) (h hc : Nat) (u : Value) (L : List Cm) (w : World) (hL : L.length ≤ 1048576) (hX : ∀ b, X b → b < w.heap.size) (hu : CmV X w u L) (hh : w.cell? ⟨h, 0, none⟩ = some u) :
    Calls Tryf.prog 16 #[.slice (some ⟨h, 0, none⟩) 1 hc] w (fun e w' => ∃ b, e = .returned (.bool b) ∧ (b = true → ∀ c ∈ L, c.am = 0) ∧ w' = w) := by
  obtain ⟨a, c, rfl, hn⟩ := hu
  obtain ⟨n, hnn⟩ : ∃ n, n = L.length := ⟨_, rfl⟩
  have HU := Lib.hid (And.intro hn (And.intro hX hnn))
  rw [← hnn] at hL hh
  clear hn hX hnn
  go_enter Tryf.func16, Tryf.ntmps16
  go_upto_block 0 with fail
  refine wp_block ?_
  refine wp_loop_rounds 2 ?_
  rw [rounds_succ]
  go_upto_block 2 with fail
  refine wp_block ?_
  go_loopw [4] (fun i wr => ∃ (k : Nat), k ≤ n ∧ i = .int .i64 (k : Nat) ∧ Hid (∀ j (hj : j < L.length), j < k → L[j].am = 0) ∧ wr = w) (fun i _ => n - (intOf i).toNat)
  case atStart => exact ⟨0, Nat.zero_le _, rfl, Lib.hid (fun j _ h => absurd h (Nat.not_lt_zero _)), rfl⟩
  case round =>
    obtain ⟨k, hk, rfl, HV, hwr⟩ := hrel
    subst hwr
    by_cases hlt : k < n
    · as_aux_lemma =>
      have q0 : (0 : Int) ≤ k := by omega
      have q1 : (k : Int) < (n : Nat) := by omega
      have kL : k < L.length := by have := HU.out.2.2; omega
      obtain ⟨g, o, u, rfl, hXg, hrg, -⟩ := HU.out.1 k kL
      obtain ⟨am, ham⟩ : ∃ m, m = (L[k]).am := ⟨_, rfl⟩
      have c1 := hrg 1 _ rfl
      rw [← ham] at c1
      have HA := Lib.hid ham
      clear hrg hXg ham
      by_cases hz : am = 0
      · subst hz
        go_wp2_with fail
        have hN := Lib.hid (show ∀ j (hj : j < L.length), j < k + 1 → L[j].am = 0 from fun j hj hjk => by
          rcases Nat.lt_or_ge j k with h | h
          · exact HV.out j hj h
          · obtain rfl : j = k := by omega
            exact HA.out.symm)
        exact ⟨⟨k + 1, by omega, by go_num, hN, trivial⟩, by simp [intOf]; omega⟩
      · have hne : ¬ ((am : Int) = 0) := by omega
        clear hz
        go_wp2_with fail
        go_ret
        exact ⟨false, rfl, (fun h => absurd h (by decide)), rfl⟩
    · as_aux_lemma =>
      have hkn : n = k := by omega
      subst hkn
      go_wp2_with fail
      rw [rounds_succ]
      go_wp2_with fail
      go_ret
      refine ⟨true, rfl, fun _ c hc => ?_, rfl⟩
      obtain ⟨j, hj, rfl⟩ := List.getElem_of_mem hc
      exact HV.out j hj (by have := HU.out.2.2; omega)
end Go.Proofs.YtaiofdgiabmelaaFmt.Sb
