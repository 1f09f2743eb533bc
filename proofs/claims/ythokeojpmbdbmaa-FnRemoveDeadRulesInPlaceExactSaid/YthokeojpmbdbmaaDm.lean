/-
  Pseudo-classes are compared.
-/
import Derived.Test.YthokeojpmbdbmaaDl
namespace Go.Proofs.Ythokeojpmbdbmaa.Dr
open Go.ChangeShapes Go.WideShapes Go.ChangeAt Go.RowKit Rg
set_option linter.unusedVariables false
set_option linter.unusedSimpArgs false
theorem ta_pp (p : Nat) (w : World) : (Instr.typeAssert (ifP p) 90 105 true).run Try.prog w = .ok (.tuple #[.pointer (some ⟨p, 0, none⟩), .bool true]) w := by kernel_rfl
theorem ta_pl (p : Nat) (w : World) : (Instr.typeAssert (ifL p) 90 105 true).run Try.prog w = .ok (.tuple #[.pointer none, .bool false]) w := by kernel_rfl
theorem ta_lp (p : Nat) (w : World) : (Instr.typeAssert (ifP p) 90 96 true).run Try.prog w = .ok (.tuple #[.pointer none, .bool false]) w := by kernel_rfl
theorem ta_ll (p : Nat) (w : World) : (Instr.typeAssert (ifL p) 90 96 true).run Try.prog w = .ok (.tuple #[.pointer (some ⟨p, 0, none⟩), .bool true]) w := by kernel_rfl
set_option maxRecDepth 100000 in
set_option maxHeartbeats 1000000 in
theorem teq_nil (w : World) : Calls Try.prog 63 #[.slice none 0 0, .slice none 0 0, .pointer none] w (fun e w' => e = .returned (.bool true) ∧ w = w') := by
  go_enter Try.func63, Try.ntmps63
  go_upto_block 0 with fail
  refine wp_block ?_
  refine wp_loop_rounds 1 ?_
  rw [rounds_succ]
  go_wp2_with fail
  go_ret
  exact ⟨rfl, rfl⟩
set_option maxRecDepth 100000 in
set_option maxHeartbeats 1000000 in
theorem req_nil (w : World) : Calls Try.prog 46 #[.slice none 0 0, .slice none 0 0, .pointer none] w (fun e w' => e = .returned (.bool true) ∧ w = w') := by
  go_enter Try.func46, Try.ntmps46
  go_upto_block 0 with fail
  refine wp_block ?_
  refine wp_loop_rounds 1 ?_
  rw [rounds_succ]
  go_wp2_with fail
  go_ret
  exact ⟨rfl, rfl⟩
set_option maxRecDepth 100000 in
set_option maxHeartbeats 2000000 in
theorem peq_pl (p q : Nat) (w : World) : Calls Try.prog 61 #[.pointer (some ⟨p, 0, none⟩), ifL q, .pointer none] w (fun e w' => e = .returned (.bool false) ∧ Below w.heap.size w w') := by
  have h1 := fun W => ta_pl q W
  go_enter Try.func61, Try.ntmps61
  go_upto_region 2 with fail
  refine wp_region_held_drew (S := fun _ => True) (by kernel_rfl) trivial (fun hHeld => ?_)
  show wpAnyH _ _ _ _ _ 36 (Array.replicate 36 false) _ _
  refine Pl.take_l (i := 0) (v := ?v1) rfl (by kernel_rfl) (by kernel_rfl) (by kernel_rfl) (fun _ _ _ h => h) rfl ?hy1 hHeld ?rest1
  case hy1 => (intro w hSw; (try dsimp only at hSw); (try obtain ⟨_, _⟩ := hSw); go_simp <;> (try with_reducible rfl))
  try simp only [Act.put, List.setIfInBounds_toArray, List.set_cons_zero, List.set_cons_succ]
  refine Pl.take_l (i := 1) (v := ?v2) rfl (by kernel_rfl) (by kernel_rfl) (by kernel_rfl) (fun _ _ _ h => h) rfl ?hy2 hHeld ?rest2
  case hy2 => (intro w hSw; (try dsimp only at hSw); (try obtain ⟨_, _⟩ := hSw); go_simp <;> (try with_reducible rfl))
  try simp only [Act.put, List.setIfInBounds_toArray, List.set_cons_zero, List.set_cons_succ]
  refine Pl.take_n (i := 2) rfl (by kernel_rfl) (by kernel_rfl) (by kernel_rfl) (fun _ _ _ h => h) (by rfl) hHeld ?_
  try simp only [Act.put, List.setIfInBounds_toArray, List.set_cons_zero, List.set_cons_succ]
  refine Pl.take_n (i := 3) rfl (by kernel_rfl) (by kernel_rfl) (by kernel_rfl) (fun _ _ _ h => h) (by rfl) hHeld ?_
  try simp only [Act.put, List.setIfInBounds_toArray, List.set_cons_zero, List.set_cons_succ]
  refine Pl.take_n (i := 4) rfl (by kernel_rfl) (by kernel_rfl) (by kernel_rfl) (fun _ _ _ h => h) (by rfl) hHeld ?_
  try simp only [Act.put, List.setIfInBounds_toArray, List.set_cons_zero, List.set_cons_succ]
  refine Pl.take_n (i := 5) rfl (by kernel_rfl) (by kernel_rfl) (by kernel_rfl) (fun _ _ _ h => h) (by rfl) hHeld ?_
  try simp only [Act.put, List.setIfInBounds_toArray, List.set_cons_zero, List.set_cons_succ]
  refine Pl.take_n (i := 6) rfl (by kernel_rfl) (by kernel_rfl) (by kernel_rfl) (fun _ _ _ h => h) (by rfl) hHeld ?_
  try simp only [Act.put, List.setIfInBounds_toArray, List.set_cons_zero, List.set_cons_succ]
  refine Pl.take_n (i := 7) rfl (by kernel_rfl) (by kernel_rfl) (by kernel_rfl) (fun _ _ _ h => h) (by rfl) hHeld ?_
  try simp only [Act.put, List.setIfInBounds_toArray, List.set_cons_zero, List.set_cons_succ]
  refine Pl.take_n (i := 8) rfl (by kernel_rfl) (by kernel_rfl) (by kernel_rfl) (fun _ _ _ h => h) (by rfl) hHeld ?_
  try simp only [Act.put, List.setIfInBounds_toArray, List.set_cons_zero, List.set_cons_succ]
  refine Pl.take_n (i := 9) rfl (by kernel_rfl) (by kernel_rfl) (by kernel_rfl) (fun _ _ _ h => h) (by rfl) hHeld ?_
  try simp only [Act.put, List.setIfInBounds_toArray, List.set_cons_zero, List.set_cons_succ]
  refine Pl.take_n (i := 10) rfl (by kernel_rfl) (by kernel_rfl) (by kernel_rfl) (fun _ _ _ h => h) (by rfl) hHeld ?_
  try simp only [Act.put, List.setIfInBounds_toArray, List.set_cons_zero, List.set_cons_succ]
  refine Pl.take_l (i := 11) (v := ?v3) rfl (by kernel_rfl) (by kernel_rfl) (by kernel_rfl) (fun _ _ _ h => h) rfl ?hy3 hHeld ?rest3
  case hy3 => (intro w hSw; (try dsimp only at hSw); (try obtain ⟨_, _⟩ := hSw); go_simp <;> (try with_reducible rfl))
  try simp only [Act.put, List.setIfInBounds_toArray, List.set_cons_zero, List.set_cons_succ]
  refine Pl.take_l (i := 12) (v := ?v4) rfl (by kernel_rfl) (by kernel_rfl) (by kernel_rfl) (fun _ _ _ h => h) rfl ?hy4 hHeld ?rest4
  case hy4 => (intro w hSw; (try dsimp only at hSw); (try obtain ⟨_, _⟩ := hSw); go_simp <;> (try with_reducible rfl))
  try simp only [Act.put, List.setIfInBounds_toArray, List.set_cons_zero, List.set_cons_succ]
  refine Pl.take_n (i := 13) rfl (by kernel_rfl) (by kernel_rfl) (by kernel_rfl) (fun _ _ _ h => h) (by rfl) hHeld ?_
  try simp only [Act.put, List.setIfInBounds_toArray, List.set_cons_zero, List.set_cons_succ]
  refine Pl.take_n (i := 14) rfl (by kernel_rfl) (by kernel_rfl) (by kernel_rfl) (fun _ _ _ h => h) (by rfl) hHeld ?_
  try simp only [Act.put, List.setIfInBounds_toArray, List.set_cons_zero, List.set_cons_succ]
  refine Pl.take_n (i := 15) rfl (by kernel_rfl) (by kernel_rfl) (by kernel_rfl) (fun _ _ _ h => h) (by rfl) hHeld ?_
  try simp only [Act.put, List.setIfInBounds_toArray, List.set_cons_zero, List.set_cons_succ]
  refine Pl.take_n (i := 16) rfl (by kernel_rfl) (by kernel_rfl) (by kernel_rfl) (fun _ _ _ h => h) (by rfl) hHeld ?_
  try simp only [Act.put, List.setIfInBounds_toArray, List.set_cons_zero, List.set_cons_succ]
  refine Pl.take_n (i := 17) rfl (by kernel_rfl) (by kernel_rfl) (by kernel_rfl) (fun _ _ _ h => h) (by rfl) hHeld ?_
  try simp only [Act.put, List.setIfInBounds_toArray, List.set_cons_zero, List.set_cons_succ]
  refine Pl.take_n (i := 18) rfl (by kernel_rfl) (by kernel_rfl) (by kernel_rfl) (fun _ _ _ h => h) (by rfl) hHeld ?_
  try simp only [Act.put, List.setIfInBounds_toArray, List.set_cons_zero, List.set_cons_succ]
  refine Pl.take_n (i := 19) rfl (by kernel_rfl) (by kernel_rfl) (by kernel_rfl) (fun _ _ _ h => h) (by rfl) hHeld ?_
  try simp only [Act.put, List.setIfInBounds_toArray, List.set_cons_zero, List.set_cons_succ]
  refine Pl.take_n (i := 20) rfl (by kernel_rfl) (by kernel_rfl) (by kernel_rfl) (fun _ _ _ h => h) (by rfl) hHeld ?_
  try simp only [Act.put, List.setIfInBounds_toArray, List.set_cons_zero, List.set_cons_succ]
  refine Pl.take_n (i := 21) rfl (by kernel_rfl) (by kernel_rfl) (by kernel_rfl) (fun _ _ _ h => h) (by rfl) hHeld ?_
  try simp only [Act.put, List.setIfInBounds_toArray, List.set_cons_zero, List.set_cons_succ]
  refine Pl.take_n (i := 22) rfl (by kernel_rfl) (by kernel_rfl) (by kernel_rfl) (fun _ _ _ h => h) (by rfl) hHeld ?_
  try simp only [Act.put, List.setIfInBounds_toArray, List.set_cons_zero, List.set_cons_succ]
  refine Pl.take_l (i := 23) (v := ?v5) rfl (by kernel_rfl) (by kernel_rfl) (by kernel_rfl) (fun _ _ _ h => h) rfl ?hy5 hHeld ?rest5
  case hy5 => (intro w hSw; (try dsimp only at hSw); (try obtain ⟨_, _⟩ := hSw); go_simp <;> (try with_reducible rfl))
  try simp only [Act.put, List.setIfInBounds_toArray, List.set_cons_zero, List.set_cons_succ]
  refine Pl.take_l (i := 24) (v := ?v6) rfl (by kernel_rfl) (by kernel_rfl) (by kernel_rfl) (fun _ _ _ h => h) rfl ?hy6 hHeld ?rest6
  case hy6 => (intro w hSw; (try dsimp only at hSw); (try obtain ⟨_, _⟩ := hSw); go_simp <;> (try with_reducible rfl))
  try simp only [Act.put, List.setIfInBounds_toArray, List.set_cons_zero, List.set_cons_succ]
  refine Pl.take_n (i := 25) rfl (by kernel_rfl) (by kernel_rfl) (by kernel_rfl) (fun _ _ _ h => h) (by rfl) hHeld ?_
  try simp only [Act.put, List.setIfInBounds_toArray, List.set_cons_zero, List.set_cons_succ]
  refine Pl.take_n (i := 26) rfl (by kernel_rfl) (by kernel_rfl) (by kernel_rfl) (fun _ _ _ h => h) (by rfl) hHeld ?_
  try simp only [Act.put, List.setIfInBounds_toArray, List.set_cons_zero, List.set_cons_succ]
  refine Pl.take_n (i := 27) rfl (by kernel_rfl) (by kernel_rfl) (by kernel_rfl) (fun _ _ _ h => h) (by rfl) hHeld ?_
  try simp only [Act.put, List.setIfInBounds_toArray, List.set_cons_zero, List.set_cons_succ]
  refine Pl.take_n (i := 28) rfl (by kernel_rfl) (by kernel_rfl) (by kernel_rfl) (fun _ _ _ h => h) (by rfl) hHeld ?_
  try simp only [Act.put, List.setIfInBounds_toArray, List.set_cons_zero, List.set_cons_succ]
  refine Pl.take_n (i := 29) rfl (by kernel_rfl) (by kernel_rfl) (by kernel_rfl) (fun _ _ _ h => h) (by rfl) hHeld ?_
  try simp only [Act.put, List.setIfInBounds_toArray, List.set_cons_zero, List.set_cons_succ]
  refine Pl.take_n (i := 30) rfl (by kernel_rfl) (by kernel_rfl) (by kernel_rfl) (fun _ _ _ h => h) (by rfl) hHeld ?_
  try simp only [Act.put, List.setIfInBounds_toArray, List.set_cons_zero, List.set_cons_succ]
  refine Pl.take_n (i := 31) rfl (by kernel_rfl) (by kernel_rfl) (by kernel_rfl) (fun _ _ _ h => h) (by rfl) hHeld ?_
  try simp only [Act.put, List.setIfInBounds_toArray, List.set_cons_zero, List.set_cons_succ]
  refine Pl.take_n (i := 32) rfl (by kernel_rfl) (by kernel_rfl) (by kernel_rfl) (fun _ _ _ h => h) (by rfl) hHeld ?_
  try simp only [Act.put, List.setIfInBounds_toArray, List.set_cons_zero, List.set_cons_succ]
  refine Pl.take_n (i := 33) rfl (by kernel_rfl) (by kernel_rfl) (by kernel_rfl) (fun _ _ _ h => h) (by rfl) hHeld ?_
  try simp only [Act.put, List.setIfInBounds_toArray, List.set_cons_zero, List.set_cons_succ]
  refine Pl.take_l (i := 34) (v := ?v7) rfl (by kernel_rfl) (by kernel_rfl) (by kernel_rfl) (fun _ _ _ h => h) rfl ?hy7 hHeld ?rest7
  case hy7 => (intro w hSw; (try dsimp only at hSw); (try obtain ⟨_, _⟩ := hSw); go_simp <;> (try with_reducible rfl))
  try simp only [Act.put, List.setIfInBounds_toArray, List.set_cons_zero, List.set_cons_succ]
  refine Pl.take_l (i := 35) (v := ?v8) rfl (by kernel_rfl) (by kernel_rfl) (by kernel_rfl) (fun _ _ _ h => h) rfl ?hy8 hHeld ?rest8
  case hy8 => (intro w hSw; (try dsimp only at hSw); (try obtain ⟨_, _⟩ := hSw); go_simp <;> (try with_reducible rfl))
  try simp only [Act.put, List.setIfInBounds_toArray, List.set_cons_zero, List.set_cons_succ]
  refine wpAnyH_done (by kernel_rfl) ?_ _
  clear hHeld
  go_wp2_with fail
  go_ret
  exact ⟨rfl, (Below.refl _ _).drew⟩
set_option maxRecDepth 100000 in
set_option maxHeartbeats 4000000 in
theorem peq_pp (p q : Nat) (w : World) (hp : w.rangeAt p 0 pcl) (hq : w.rangeAt q 0 pcl) : Calls Try.prog 61 #[.pointer (some ⟨p, 0, none⟩), ifP q, .pointer none] w (fun e w' => e = .returned (.bool true) ∧ Below w.heap.size w w') := by
  have h1 := fun W => ta_pp q W
  have hD : Below w.heap.size w w.drew := (Below.refl _ _).drew
  have a0 := later hD (hp 0 _ rfl)
  have a1 := later hD (hp 1 _ rfl)
  have a2 := later hD (hp 2 _ rfl)
  have e0 := later hD (hq 0 _ rfl)
  have e1 := later hD (hq 1 _ rfl)
  have e2 := later hD (hq 2 _ rfl)
  simp only [Nat.zero_add] at a0 a1 a2 e0 e1 e2
  have HS0 := Lib.hid (And.intro a0 (And.intro a1 (And.intro a2 (And.intro e0 (And.intro e1 e2)))))
  have HD := Lib.hid hD
  clear hp hq hD a0 a1 a2 e0 e1 e2
  go_enter Try.func61, Try.ntmps61
  go_upto_region 2 with fail
  refine wp_region_held_drew (S := fun w' => w'.cell? ⟨p, 0, none⟩ = some (.string ⟨#[104, 111, 118, 101, 114]⟩) ∧ w'.cell? ⟨p, 1, none⟩ = some (.slice none 0 0) ∧ w'.cell? ⟨p, 2, none⟩ = some (.bool false) ∧ w'.cell? ⟨q, 0, none⟩ = some (.string ⟨#[104, 111, 118, 101, 114]⟩) ∧ w'.cell? ⟨q, 1, none⟩ = some (.slice none 0 0) ∧ w'.cell? ⟨q, 2, none⟩ = some (.bool false)) (by kernel_rfl) HS0.out (fun hHeld => ?_)
  show wpAnyH _ _ _ _ _ 36 (Array.replicate 36 false) _ _
  refine Pl.take_l (i := 0) (v := ?v1001) rfl (by kernel_rfl) (by kernel_rfl) (by kernel_rfl) (fun _ _ _ h => h) rfl ?hy1001 hHeld ?rest1001
  case hy1001 => (intro w hSw; (try dsimp only at hSw); (obtain ⟨_, _, _, _, _, _⟩ := hSw); go_simp <;> (try with_reducible rfl))
  try simp only [Act.put, List.setIfInBounds_toArray, List.set_cons_zero, List.set_cons_succ]
  refine Pl.take_l (i := 1) (v := ?v1002) rfl (by kernel_rfl) (by kernel_rfl) (by kernel_rfl) (fun _ _ _ h => h) rfl ?hy1002 hHeld ?rest1002
  case hy1002 => (intro w hSw; (try dsimp only at hSw); (obtain ⟨_, _, _, _, _, _⟩ := hSw); go_simp <;> (try with_reducible rfl))
  try simp only [Act.put, List.setIfInBounds_toArray, List.set_cons_zero, List.set_cons_succ]
  refine Pl.take_g (i := 2) (v := ?v1009) rfl (by kernel_rfl) (by kernel_rfl) (by kernel_rfl) (fun _ _ _ h => h) (by rfl) ?hy1009 hHeld ?rest1009
  case hy1009 => (intro w hSw; (try dsimp only at hSw); (obtain ⟨_, _, _, _, _, _⟩ := hSw); go_simp <;> (try with_reducible rfl))
  try simp only [Act.put, List.setIfInBounds_toArray, List.set_cons_zero, List.set_cons_succ]
  refine Pl.take_g (i := 3) (v := ?v1010) rfl (by kernel_rfl) (by kernel_rfl) (by kernel_rfl) (fun _ _ _ h => h) (by rfl) ?hy1010 hHeld ?rest1010
  case hy1010 => (intro w hSw; (try dsimp only at hSw); (obtain ⟨_, _, _, _, _, _⟩ := hSw); go_simp <;> (try with_reducible rfl))
  try simp only [Act.put, List.setIfInBounds_toArray, List.set_cons_zero, List.set_cons_succ]
  refine Pl.take_g (i := 4) (v := ?v1011) rfl (by kernel_rfl) (by kernel_rfl) (by kernel_rfl) (fun _ _ _ h => h) (by rfl) ?hy1011 hHeld ?rest1011
  case hy1011 => (intro w hSw; (try dsimp only at hSw); (obtain ⟨_, _, _, _, _, _⟩ := hSw); go_simp <;> (try with_reducible rfl))
  try simp only [Act.put, List.setIfInBounds_toArray, List.set_cons_zero, List.set_cons_succ]
  refine Pl.take_g (i := 5) (v := ?v1012) rfl (by kernel_rfl) (by kernel_rfl) (by kernel_rfl) (fun _ _ _ h => h) (by rfl) ?hy1012 hHeld ?rest1012
  case hy1012 => (intro w hSw; (try dsimp only at hSw); (obtain ⟨_, _, _, _, _, _⟩ := hSw); go_simp <;> (try with_reducible rfl))
  try simp only [Act.put, List.setIfInBounds_toArray, List.set_cons_zero, List.set_cons_succ]
  refine Pl.take_g (i := 6) (v := ?v1013) rfl (by kernel_rfl) (by kernel_rfl) (by kernel_rfl) (fun _ _ _ h => h) (by rfl) ?hy1013 hHeld ?rest1013
  case hy1013 => (intro w hSw; (try dsimp only at hSw); (obtain ⟨_, _, _, _, _, _⟩ := hSw); go_simp <;> (try with_reducible rfl))
  try simp only [Act.put, List.setIfInBounds_toArray, List.set_cons_zero, List.set_cons_succ]
  refine Pl.take_g (i := 7) (v := ?v1014) rfl (by kernel_rfl) (by kernel_rfl) (by kernel_rfl) (fun _ _ _ h => h) (by rfl) ?hy1014 hHeld ?rest1014
  case hy1014 => (intro w hSw; (try dsimp only at hSw); (obtain ⟨_, _, _, _, _, _⟩ := hSw); go_simp <;> (try with_reducible rfl))
  try simp only [Act.put, List.setIfInBounds_toArray, List.set_cons_zero, List.set_cons_succ]
  refine Pl.take_g (i := 8) (v := ?v1015) rfl (by kernel_rfl) (by kernel_rfl) (by kernel_rfl) (fun _ _ _ h => h) (by rfl) ?hy1015 hHeld ?rest1015
  case hy1015 => (intro w hSw; (try dsimp only at hSw); (obtain ⟨_, _, _, _, _, _⟩ := hSw); go_simp <;> (try with_reducible rfl))
  try simp only [Act.put, List.setIfInBounds_toArray, List.set_cons_zero, List.set_cons_succ]
  refine Pl.take_g (i := 9) (v := ?v1016) rfl (by kernel_rfl) (by kernel_rfl) (by kernel_rfl) (fun _ _ _ h => h) (by rfl) ?hy1016 hHeld ?rest1016
  case hy1016 => (intro w hSw; (try dsimp only at hSw); (obtain ⟨_, _, _, _, _, _⟩ := hSw); go_simp <;> (try with_reducible rfl))
  try simp only [Act.put, List.setIfInBounds_toArray, List.set_cons_zero, List.set_cons_succ]
  refine Pl.take_g (i := 10) (v := ?v1017) rfl (by kernel_rfl) (by kernel_rfl) (by kernel_rfl) (fun _ _ _ h => h) (by rfl) ?hy1017 hHeld ?rest1017
  case hy1017 => (intro w hSw; (try dsimp only at hSw); (obtain ⟨_, _, _, _, _, _⟩ := hSw); go_simp <;> (try with_reducible rfl))
  try simp only [Act.put, List.setIfInBounds_toArray, List.set_cons_zero, List.set_cons_succ]
  refine Pl.take_l (i := 11) (v := ?v1003) rfl (by kernel_rfl) (by kernel_rfl) (by kernel_rfl) (fun _ _ _ h => h) rfl ?hy1003 hHeld ?rest1003
  case hy1003 => (intro w hSw; (try dsimp only at hSw); (obtain ⟨_, _, _, _, _, _⟩ := hSw); go_simp <;> (try with_reducible rfl))
  try simp only [Act.put, List.setIfInBounds_toArray, List.set_cons_zero, List.set_cons_succ]
  refine Pl.take_l (i := 12) (v := ?v1004) rfl (by kernel_rfl) (by kernel_rfl) (by kernel_rfl) (fun _ _ _ h => h) rfl ?hy1004 hHeld ?rest1004
  case hy1004 => (intro w hSw; (try dsimp only at hSw); (obtain ⟨_, _, _, _, _, _⟩ := hSw); go_simp <;> (try with_reducible rfl))
  try simp only [Act.put, List.setIfInBounds_toArray, List.set_cons_zero, List.set_cons_succ]
  refine Pl.take_g (i := 13) (v := ?v1018) rfl (by kernel_rfl) (by kernel_rfl) (by kernel_rfl) (fun _ _ _ h => h) (by rfl) ?hy1018 hHeld ?rest1018
  case hy1018 => (intro w hSw; (try dsimp only at hSw); (obtain ⟨_, _, _, _, _, _⟩ := hSw); go_simp <;> (try with_reducible rfl))
  try simp only [Act.put, List.setIfInBounds_toArray, List.set_cons_zero, List.set_cons_succ]
  refine Pl.take_g (i := 14) (v := ?v1019) rfl (by kernel_rfl) (by kernel_rfl) (by kernel_rfl) (fun _ _ _ h => h) (by rfl) ?hy1019 hHeld ?rest1019
  case hy1019 => (intro w hSw; (try dsimp only at hSw); (obtain ⟨_, _, _, _, _, _⟩ := hSw); go_simp <;> (try with_reducible rfl))
  try simp only [Act.put, List.setIfInBounds_toArray, List.set_cons_zero, List.set_cons_succ]
  refine Pl.take_g (i := 15) (v := ?v1020) rfl (by kernel_rfl) (by kernel_rfl) (by kernel_rfl) (fun _ _ _ h => h) (by rfl) ?hy1020 hHeld ?rest1020
  case hy1020 => (intro w hSw; (try dsimp only at hSw); (obtain ⟨_, _, _, _, _, _⟩ := hSw); go_simp <;> (try with_reducible rfl))
  try simp only [Act.put, List.setIfInBounds_toArray, List.set_cons_zero, List.set_cons_succ]
  refine Pl.take_g (i := 16) (v := ?v1021) rfl (by kernel_rfl) (by kernel_rfl) (by kernel_rfl) (fun _ _ _ h => h) (by rfl) ?hy1021 hHeld ?rest1021
  case hy1021 => (intro w hSw; (try dsimp only at hSw); (obtain ⟨_, _, _, _, _, _⟩ := hSw); go_simp <;> (try with_reducible rfl))
  try simp only [Act.put, List.setIfInBounds_toArray, List.set_cons_zero, List.set_cons_succ]
  refine Pl.take_g (i := 17) (v := ?v1022) rfl (by kernel_rfl) (by kernel_rfl) (by kernel_rfl) (fun _ _ _ h => h) (by rfl) ?hy1022 hHeld ?rest1022
  case hy1022 => (intro w hSw; (try dsimp only at hSw); (obtain ⟨_, _, _, _, _, _⟩ := hSw); go_simp <;> (try with_reducible rfl))
  try simp only [Act.put, List.setIfInBounds_toArray, List.set_cons_zero, List.set_cons_succ]
  refine Pl.take_g (i := 18) (v := ?v1023) rfl (by kernel_rfl) (by kernel_rfl) (by kernel_rfl) (fun _ _ _ h => h) (by rfl) ?hy1023 hHeld ?rest1023
  case hy1023 => (intro w hSw; (try dsimp only at hSw); (obtain ⟨_, _, _, _, _, _⟩ := hSw); go_simp <;> (try with_reducible rfl))
  try simp only [Act.put, List.setIfInBounds_toArray, List.set_cons_zero, List.set_cons_succ]
  refine Pl.take_g (i := 19) (v := ?v1024) rfl (by kernel_rfl) (by kernel_rfl) (by kernel_rfl) (fun _ _ _ h => h) (by rfl) ?hy1024 hHeld ?rest1024
  case hy1024 => (intro w hSw; (try dsimp only at hSw); (obtain ⟨_, _, _, _, _, _⟩ := hSw); go_simp <;> (try with_reducible rfl))
  try simp only [Act.put, List.setIfInBounds_toArray, List.set_cons_zero, List.set_cons_succ]
  refine Pl.take_g (i := 20) (v := ?v1025) rfl (by kernel_rfl) (by kernel_rfl) (by kernel_rfl) (fun _ _ _ h => h) (by rfl) ?hy1025 hHeld ?rest1025
  case hy1025 => (intro w hSw; (try dsimp only at hSw); (obtain ⟨_, _, _, _, _, _⟩ := hSw); go_simp <;> (try with_reducible rfl))
  try simp only [Act.put, List.setIfInBounds_toArray, List.set_cons_zero, List.set_cons_succ]
  refine Pl.take_g (i := 21) (v := ?v1026) rfl (by kernel_rfl) (by kernel_rfl) (by kernel_rfl) (fun _ _ _ h => h) (by rfl) ?hy1026 hHeld ?rest1026
  case hy1026 => (intro w hSw; (try dsimp only at hSw); (obtain ⟨_, _, _, _, _, _⟩ := hSw); go_simp <;> (try with_reducible rfl))
  try simp only [Act.put, List.setIfInBounds_toArray, List.set_cons_zero, List.set_cons_succ]
  generalize World.drew _ = wd at *
  refine Pl.alone_l (i := 22) (by kernel_rfl) rfl (fun K hK => ?_)
  rw [if_pos (by rfl)]; go_simp; refine (teq_nil wd).mono ?_; rintro e w6 ⟨rfl, hf⟩; rw [← hf]; clear hf; dsimp only
  refine hK.out _ _ HS0.out (fun hHeld2 => ?_)
  clear hK K hHeld
  have hHeld := hHeld2
  clear hHeld2
  try simp only [Act.put, List.setIfInBounds_toArray, List.set_cons_zero, List.set_cons_succ]
  refine Pl.take_l (i := 23) (v := ?v1005) rfl (by kernel_rfl) (by kernel_rfl) (by kernel_rfl) (fun _ _ _ h => h) rfl ?hy1005 hHeld ?rest1005
  case hy1005 => (intro w hSw; (try dsimp only at hSw); (obtain ⟨_, _, _, _, _, _⟩ := hSw); go_simp <;> (try with_reducible rfl))
  try simp only [Act.put, List.setIfInBounds_toArray, List.set_cons_zero, List.set_cons_succ]
  refine Pl.take_l (i := 24) (v := ?v1006) rfl (by kernel_rfl) (by kernel_rfl) (by kernel_rfl) (fun _ _ _ h => h) rfl ?hy1006 hHeld ?rest1006
  case hy1006 => (intro w hSw; (try dsimp only at hSw); (obtain ⟨_, _, _, _, _, _⟩ := hSw); go_simp <;> (try with_reducible rfl))
  try simp only [Act.put, List.setIfInBounds_toArray, List.set_cons_zero, List.set_cons_succ]
  refine Pl.take_g (i := 25) (v := ?v1027) rfl (by kernel_rfl) (by kernel_rfl) (by kernel_rfl) (fun _ _ _ h => h) (by rfl) ?hy1027 hHeld ?rest1027
  case hy1027 => (intro w hSw; (try dsimp only at hSw); (obtain ⟨_, _, _, _, _, _⟩ := hSw); go_simp <;> (try with_reducible rfl))
  try simp only [Act.put, List.setIfInBounds_toArray, List.set_cons_zero, List.set_cons_succ]
  refine Pl.take_g (i := 26) (v := ?v1028) rfl (by kernel_rfl) (by kernel_rfl) (by kernel_rfl) (fun _ _ _ h => h) (by rfl) ?hy1028 hHeld ?rest1028
  case hy1028 => (intro w hSw; (try dsimp only at hSw); (obtain ⟨_, _, _, _, _, _⟩ := hSw); go_simp <;> (try with_reducible rfl))
  try simp only [Act.put, List.setIfInBounds_toArray, List.set_cons_zero, List.set_cons_succ]
  refine Pl.take_g (i := 27) (v := ?v1029) rfl (by kernel_rfl) (by kernel_rfl) (by kernel_rfl) (fun _ _ _ h => h) (by rfl) ?hy1029 hHeld ?rest1029
  case hy1029 => (intro w hSw; (try dsimp only at hSw); (obtain ⟨_, _, _, _, _, _⟩ := hSw); go_simp <;> (try with_reducible rfl))
  try simp only [Act.put, List.setIfInBounds_toArray, List.set_cons_zero, List.set_cons_succ]
  refine Pl.take_g (i := 28) (v := ?v1030) rfl (by kernel_rfl) (by kernel_rfl) (by kernel_rfl) (fun _ _ _ h => h) (by rfl) ?hy1030 hHeld ?rest1030
  case hy1030 => (intro w hSw; (try dsimp only at hSw); (obtain ⟨_, _, _, _, _, _⟩ := hSw); go_simp <;> (try with_reducible rfl))
  try simp only [Act.put, List.setIfInBounds_toArray, List.set_cons_zero, List.set_cons_succ]
  refine Pl.take_g (i := 29) (v := ?v1031) rfl (by kernel_rfl) (by kernel_rfl) (by kernel_rfl) (fun _ _ _ h => h) (by rfl) ?hy1031 hHeld ?rest1031
  case hy1031 => (intro w hSw; (try dsimp only at hSw); (obtain ⟨_, _, _, _, _, _⟩ := hSw); go_simp <;> (try with_reducible rfl))
  try simp only [Act.put, List.setIfInBounds_toArray, List.set_cons_zero, List.set_cons_succ]
  refine Pl.take_g (i := 30) (v := ?v1032) rfl (by kernel_rfl) (by kernel_rfl) (by kernel_rfl) (fun _ _ _ h => h) (by rfl) ?hy1032 hHeld ?rest1032
  case hy1032 => (intro w hSw; (try dsimp only at hSw); (obtain ⟨_, _, _, _, _, _⟩ := hSw); go_simp <;> (try with_reducible rfl))
  try simp only [Act.put, List.setIfInBounds_toArray, List.set_cons_zero, List.set_cons_succ]
  refine Pl.take_g (i := 31) (v := ?v1033) rfl (by kernel_rfl) (by kernel_rfl) (by kernel_rfl) (fun _ _ _ h => h) (by rfl) ?hy1033 hHeld ?rest1033
  case hy1033 => (intro w hSw; (try dsimp only at hSw); (obtain ⟨_, _, _, _, _, _⟩ := hSw); go_simp <;> (try with_reducible rfl))
  try simp only [Act.put, List.setIfInBounds_toArray, List.set_cons_zero, List.set_cons_succ]
  refine Pl.take_g (i := 32) (v := ?v1034) rfl (by kernel_rfl) (by kernel_rfl) (by kernel_rfl) (fun _ _ _ h => h) (by rfl) ?hy1034 hHeld ?rest1034
  case hy1034 => (intro w hSw; (try dsimp only at hSw); (obtain ⟨_, _, _, _, _, _⟩ := hSw); go_simp <;> (try with_reducible rfl))
  try simp only [Act.put, List.setIfInBounds_toArray, List.set_cons_zero, List.set_cons_succ]
  refine Pl.take_g (i := 33) (v := ?v1035) rfl (by kernel_rfl) (by kernel_rfl) (by kernel_rfl) (fun _ _ _ h => h) (by rfl) ?hy1035 hHeld ?rest1035
  case hy1035 => (intro w hSw; (try dsimp only at hSw); (obtain ⟨_, _, _, _, _, _⟩ := hSw); go_simp <;> (try with_reducible rfl))
  try simp only [Act.put, List.setIfInBounds_toArray, List.set_cons_zero, List.set_cons_succ]
  refine Pl.take_l (i := 34) (v := ?v1007) rfl (by kernel_rfl) (by kernel_rfl) (by kernel_rfl) (fun _ _ _ h => h) rfl ?hy1007 hHeld ?rest1007
  case hy1007 => (intro w hSw; (try dsimp only at hSw); (obtain ⟨_, _, _, _, _, _⟩ := hSw); go_simp <;> (try with_reducible rfl))
  try simp only [Act.put, List.setIfInBounds_toArray, List.set_cons_zero, List.set_cons_succ]
  refine Pl.take_l (i := 35) (v := ?v1008) rfl (by kernel_rfl) (by kernel_rfl) (by kernel_rfl) (fun _ _ _ h => h) rfl ?hy1008 hHeld ?rest1008
  case hy1008 => (intro w hSw; (try dsimp only at hSw); (obtain ⟨_, _, _, _, _, _⟩ := hSw); go_simp <;> (try with_reducible rfl))
  try simp only [Act.put, List.setIfInBounds_toArray, List.set_cons_zero, List.set_cons_succ]
  refine wpAnyH_done (by kernel_rfl) ?_ _
  clear hHeld
  go_wp2_with fail
  go_ret
  exact ⟨rfl, HD.out⟩
end Go.Proofs.Ythokeojpmbdbmaa.Dr
