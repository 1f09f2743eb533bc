/-
  Subclass selectors and rules are compared.
-/
import Derived.Test.YthokeojpmbdbmaaDp
namespace Go.Proofs.Ythokeojpmbdbmaa.Dr
open Go.ChangeShapes Go.WideShapes Go.ChangeAt Go.RowKit Rg
set_option linter.unusedVariables false
set_option linter.unusedSimpArgs false
theorem met_p (v : Value) (w : World) : (method 305 105 v "Equal").run Try.prog w = .ok (61, v) w := by kernel_rfl
theorem met_l (v : Value) (w : World) : (method 305 96 v "Equal").run Try.prog w = .ok (56, v) w := by kernel_rfl
theorem met_r (v : Value) (w : World) : (method 305 62 v "Equal").run Try.prog w = .ok (43, v) w := by kernel_rfl
theorem cf_p (A : Array Value) (w : World) : (callFunc 61 A).run Try.prog w = .ok (.enter 61 A) w := by kernel_rfl
theorem cf_l (A : Array Value) (w : World) : (callFunc 56 A).run Try.prog w = .ok (.enter 56 A) w := by kernel_rfl
theorem eq0 : EqS Sb0 := by
  intro X w x y c c' hX hx hy
  obtain ⟨rfl, p, rfl, hpX, hp⟩ := hx
  obtain ⟨rfl, q, rfl, hqX, hq⟩ := hy
  refine ⟨_, p, _, rfl, fun W => met_p _ W, fun A W => cf_p A W, ⟨_, q, rfl⟩, fun w1 hb => (peq_pp p q w1 (rg_keep hb hp) (rg_keep hb hq)).mono ?_⟩
  rintro e w2 ⟨rfl, h⟩
  exact ⟨by simp, h⟩
theorem sm0 {c k : Nat} {M0 : Md} (h : (c = 256 + k ∧ M0 = []) ∨ (c = 512 + k ∧ M0 = [[[0]]])) : SmM M0 := by
  rcases h with ⟨-, rfl⟩ | ⟨-, rfl⟩ <;> simp [SmM, Sm]
theorem eq1 : EqS Sb1 := by
  intro X w x y c c' hX hx hy
  rcases hx with hx | ⟨p, v, M0, k, rfl, hpX, hp, hk, hM, hc⟩
  · rcases hy with hy | ⟨q, v', M0', k', rfl, hqX, hq, hk', hM', hc'⟩
    · exact eq0 X w x y c c' hX hx hy
    · obtain ⟨rfl, p, rfl, hpX, hp⟩ := hx
      refine ⟨_, p, _, rfl, fun W => met_p _ W, fun A W => cf_p A W, ⟨_, q, rfl⟩, fun w1 hb => (peq_pl p q w1).mono ?_⟩
      rintro e w2 ⟨rfl, h⟩
      exact ⟨by rw [decide_eq_false (by omega)], h⟩
  · rcases hy with ⟨rfl, q, rfl, hqX, hq⟩ | ⟨q, v', M0', k', rfl, hqX, hq, hk', hM', hc'⟩
    · refine ⟨_, p, _, rfl, fun W => met_l _ W, fun A W => cf_l A W, ⟨_, q, rfl⟩, fun w1 hb => (leq_lp p q w1).mono ?_⟩
      rintro e w2 ⟨rfl, h⟩
      exact ⟨by rw [decide_eq_false (by omega)], h⟩
    · refine ⟨_, p, _, rfl, fun W => met_l _ W, fun A W => cf_l A W, ⟨_, q, rfl⟩, fun w1 hb => ?_⟩
      have hto := To.below hX hb
      by_cases hkk : k = k'
      · subst hkk
        refine (leq_eq X p q v v' k M0 M0' w1 (fun b h => Nat.lt_of_lt_of_le (hX b h) hb.size) (rg_keep hb hp) (rg_keep hb hq) eq0 (MdV.to loc0 hM hto) (MdV.to loc0 hM' hto) (sm0 hc)).mono ?_
        rintro e w2 ⟨rfl, h⟩
        refine ⟨?_, h⟩
        rcases hc with ⟨rfl, rfl⟩ | ⟨rfl, rfl⟩ <;> rcases hc' with ⟨rfl, rfl⟩ | ⟨rfl, rfl⟩ <;> simp <;> omega
      · refine (leq_ne p q v v' k k' w1 (rg_keep hb hp) (rg_keep hb hq) hkk).mono ?_
        rintro e w2 ⟨rfl, h⟩
        exact ⟨by rw [decide_eq_false (by omega)], h⟩
theorem ta_rr (p : Nat) (w : World) : (Instr.typeAssert (ifR p) 52 62 true).run Try.prog w = .ok (.tuple #[.pointer (some ⟨p, 0, none⟩), .bool true]) w := by kernel_rfl
/-- a rule in memory -/
def RuV (S : SbP) (X : Nat → Prop) (w : World) (p : Nat) (M : Md) : Prop := ∃ v, X p ∧ w.cell? ⟨p, 0, none⟩ = some v ∧ w.cell? ⟨p, 1, none⟩ = some (.slice none 0 0) ∧ MdV S X w v M
theorem RuV.to {S : SbP} (hS : Loc S) {X Y : Nat → Prop} {w w' : World} {p : Nat} {M : Md} (h : RuV S X w p M) (ht : To X w Y w') : RuV S Y w' p M := by
  obtain ⟨v, h1, h2, h3, h4⟩ := h
  exact ⟨v, (ht p h1).1, cell_ag (ht p h1).2 h2, cell_ag (ht p h1).2 h3, MdV.to hS h4 ht⟩
set_option maxRecDepth 100000 in
set_option maxHeartbeats 4000000 in
theorem c43 (S : SbP) (hL : Loc S) (hE : EqS S) (X : Nat → Prop) (p q : Nat) (M M' : Md) (w : World) (hX : ∀ b, X b → b < w.heap.size) (hp : RuV S X w p M) (hq : RuV S X w q M') (hs : SmM M) : Calls Try.prog 43 #[.pointer (some ⟨p, 0, none⟩), ifR q, .pointer none] w (fun e w' => e = .returned (.bool (decide (M = M'))) ∧ Below w.heap.size w w') := by
  have hD : Below w.heap.size w w.drew := (Below.refl _ _).drew
  have hto := To.below hX hD
  obtain ⟨v, hpX, a0, a1, hm⟩ := hp
  obtain ⟨v', hqX, e0, e1, hm'⟩ := hq
  obtain ⟨va, vc, hva⟩ := RowV.slice hm
  obtain ⟨va', vc', hva'⟩ := RowV.slice hm'
  obtain ⟨vn, hvn⟩ : ∃ n, n = M.length := ⟨_, rfl⟩
  obtain ⟨vn', hvn'⟩ : ∃ n, n = M'.length := ⟨_, rfl⟩
  rw [← hvn] at hva
  rw [← hvn'] at hva'
  subst hva hva'
  clear hvn hvn'
  have h1 := fun W => ta_rr q W
  have HS0 := Lib.hid (And.intro (later hD a0) (And.intro (later hD a1) (And.intro (later hD e0) (later hD e1))))
  have HC := Lib.hid (c45 S hL hE X _ _ _ _ w.drew (fun b h => Nat.lt_of_lt_of_le (hX b h) hD.size) (MdV.to hL hm hto) (MdV.to hL hm' hto) hs)
  have HD := Lib.hid hD
  clear hto hD a0 a1 e0 e1 hm hm' hX hpX hqX
  go_enter Try.func43, Try.ntmps43
  go_upto_region 2 with fail
  refine wp_region_held_drew (S := fun w' => w'.cell? ⟨p, 0, none⟩ = some (.slice va vn vc) ∧ w'.cell? ⟨p, 1, none⟩ = some (.slice none 0 0) ∧ w'.cell? ⟨q, 0, none⟩ = some (.slice va' vn' vc') ∧ w'.cell? ⟨q, 1, none⟩ = some (.slice none 0 0)) (by kernel_rfl) HS0.out (fun hHeld => ?_)
  show wpAnyH _ _ _ _ _ 26 (Array.replicate 26 false) _ _
  refine Pl.take_l (i := 0) (v := ?v1001) rfl (by kernel_rfl) (by kernel_rfl) (by kernel_rfl) (fun _ _ _ h => h) rfl ?hy1001 hHeld ?rest1001
  case hy1001 => (intro w hSw; (try dsimp only at hSw); (obtain ⟨_, _, _, _⟩ := hSw); go_simp <;> (try with_reducible rfl))
  try simp only [Act.put, List.setIfInBounds_toArray, List.set_cons_zero, List.set_cons_succ]
  refine Pl.take_l (i := 1) (v := ?v1002) rfl (by kernel_rfl) (by kernel_rfl) (by kernel_rfl) (fun _ _ _ h => h) rfl ?hy1002 hHeld ?rest1002
  case hy1002 => (intro w hSw; (try dsimp only at hSw); (obtain ⟨_, _, _, _⟩ := hSw); go_simp <;> (try with_reducible rfl))
  try simp only [Act.put, List.setIfInBounds_toArray, List.set_cons_zero, List.set_cons_succ]
  refine Pl.take_g (i := 2) (v := ?v1011) rfl (by kernel_rfl) (by kernel_rfl) (by kernel_rfl) (fun _ _ _ h => h) (by rfl) ?hy1011 hHeld ?rest1011
  case hy1011 => (intro w hSw; (try dsimp only at hSw); (obtain ⟨_, _, _, _⟩ := hSw); go_simp <;> (try with_reducible rfl))
  try simp only [Act.put, List.setIfInBounds_toArray, List.set_cons_zero, List.set_cons_succ]
  refine Pl.take_g (i := 3) (v := ?v1012) rfl (by kernel_rfl) (by kernel_rfl) (by kernel_rfl) (fun _ _ _ h => h) (by rfl) ?hy1012 hHeld ?rest1012
  case hy1012 => (intro w hSw; (try dsimp only at hSw); (obtain ⟨_, _, _, _⟩ := hSw); go_simp <;> (try with_reducible rfl))
  try simp only [Act.put, List.setIfInBounds_toArray, List.set_cons_zero, List.set_cons_succ]
  refine Pl.take_g (i := 4) (v := ?v1013) rfl (by kernel_rfl) (by kernel_rfl) (by kernel_rfl) (fun _ _ _ h => h) (by rfl) ?hy1013 hHeld ?rest1013
  case hy1013 => (intro w hSw; (try dsimp only at hSw); (obtain ⟨_, _, _, _⟩ := hSw); go_simp <;> (try with_reducible rfl))
  try simp only [Act.put, List.setIfInBounds_toArray, List.set_cons_zero, List.set_cons_succ]
  refine Pl.take_g (i := 5) (v := ?v1014) rfl (by kernel_rfl) (by kernel_rfl) (by kernel_rfl) (fun _ _ _ h => h) (by rfl) ?hy1014 hHeld ?rest1014
  case hy1014 => (intro w hSw; (try dsimp only at hSw); (obtain ⟨_, _, _, _⟩ := hSw); go_simp <;> (try with_reducible rfl))
  try simp only [Act.put, List.setIfInBounds_toArray, List.set_cons_zero, List.set_cons_succ]
  refine Pl.take_g (i := 6) (v := ?v1015) rfl (by kernel_rfl) (by kernel_rfl) (by kernel_rfl) (fun _ _ _ h => h) (by rfl) ?hy1015 hHeld ?rest1015
  case hy1015 => (intro w hSw; (try dsimp only at hSw); (obtain ⟨_, _, _, _⟩ := hSw); go_simp <;> (try with_reducible rfl))
  try simp only [Act.put, List.setIfInBounds_toArray, List.set_cons_zero, List.set_cons_succ]
  refine Pl.take_g (i := 7) (v := ?v1016) rfl (by kernel_rfl) (by kernel_rfl) (by kernel_rfl) (fun _ _ _ h => h) (by rfl) ?hy1016 hHeld ?rest1016
  case hy1016 => (intro w hSw; (try dsimp only at hSw); (obtain ⟨_, _, _, _⟩ := hSw); go_simp <;> (try with_reducible rfl))
  try simp only [Act.put, List.setIfInBounds_toArray, List.set_cons_zero, List.set_cons_succ]
  refine Pl.take_g (i := 8) (v := ?v1017) rfl (by kernel_rfl) (by kernel_rfl) (by kernel_rfl) (fun _ _ _ h => h) (by rfl) ?hy1017 hHeld ?rest1017
  case hy1017 => (intro w hSw; (try dsimp only at hSw); (obtain ⟨_, _, _, _⟩ := hSw); go_simp <;> (try with_reducible rfl))
  try simp only [Act.put, List.setIfInBounds_toArray, List.set_cons_zero, List.set_cons_succ]
  refine Pl.take_g (i := 9) (v := ?v1018) rfl (by kernel_rfl) (by kernel_rfl) (by kernel_rfl) (fun _ _ _ h => h) (by rfl) ?hy1018 hHeld ?rest1018
  case hy1018 => (intro w hSw; (try dsimp only at hSw); (obtain ⟨_, _, _, _⟩ := hSw); go_simp <;> (try with_reducible rfl))
  try simp only [Act.put, List.setIfInBounds_toArray, List.set_cons_zero, List.set_cons_succ]
  refine Pl.take_g (i := 10) (v := ?v1019) rfl (by kernel_rfl) (by kernel_rfl) (by kernel_rfl) (fun _ _ _ h => h) (by rfl) ?hy1019 hHeld ?rest1019
  case hy1019 => (intro w hSw; (try dsimp only at hSw); (obtain ⟨_, _, _, _⟩ := hSw); go_simp <;> (try with_reducible rfl))
  try simp only [Act.put, List.setIfInBounds_toArray, List.set_cons_zero, List.set_cons_succ]
  generalize World.drew _ = wd at *
  refine Pl.alone_l (i := 11) (by kernel_rfl) rfl (fun K hK => ?_)
  rw [if_pos (by rfl)]; go_simp; refine HC.out.mono ?_; rintro e w6 ⟨rfl, hf⟩; have HF := Lib.hid hf; clear hf; dsimp only
  refine hK.out _ _ (⟨later HF.out HS0.out.1, later HF.out HS0.out.2.1, later HF.out HS0.out.2.2.1, later HF.out HS0.out.2.2.2⟩) (fun hHeld2 => ?_)
  clear hK K hHeld
  have hHeld := hHeld2
  clear hHeld2
  try simp only [Act.put, List.setIfInBounds_toArray, List.set_cons_zero, List.set_cons_succ]
  have HW6 := Lib.hid (HD.out.trans (HF.out.mono HD.out.size))
  obtain ⟨dd, hdd⟩ : ∃ d, d = decide (M = M') := ⟨_, rfl⟩
  rw [← hdd]
  have HDD := Lib.hid hdd
  clear hdd HD
  cases dd with
  | false =>
    refine Pl.take_l (i := 12) (v := ?v1003) rfl (by kernel_rfl) (by kernel_rfl) (by kernel_rfl) (fun _ _ _ h => h) rfl ?hy1003 hHeld ?rest1003
    case hy1003 => (intro w hSw; (try dsimp only at hSw); (obtain ⟨_, _, _, _⟩ := hSw); go_simp <;> (try with_reducible rfl))
    try simp only [Act.put, List.setIfInBounds_toArray, List.set_cons_zero, List.set_cons_succ]
    refine Pl.take_l (i := 13) (v := ?v1004) rfl (by kernel_rfl) (by kernel_rfl) (by kernel_rfl) (fun _ _ _ h => h) rfl ?hy1004 hHeld ?rest1004
    case hy1004 => (intro w hSw; (try dsimp only at hSw); (obtain ⟨_, _, _, _⟩ := hSw); go_simp <;> (try with_reducible rfl))
    try simp only [Act.put, List.setIfInBounds_toArray, List.set_cons_zero, List.set_cons_succ]
    refine Pl.take_n (i := 14) rfl (by kernel_rfl) (by kernel_rfl) (by kernel_rfl) (fun _ _ _ h => h) (by rfl) hHeld ?_
    try simp only [Act.put, List.setIfInBounds_toArray, List.set_cons_zero, List.set_cons_succ]
    refine Pl.take_n (i := 15) rfl (by kernel_rfl) (by kernel_rfl) (by kernel_rfl) (fun _ _ _ h => h) (by rfl) hHeld ?_
    try simp only [Act.put, List.setIfInBounds_toArray, List.set_cons_zero, List.set_cons_succ]
    refine Pl.take_n (i := 16) rfl (by kernel_rfl) (by kernel_rfl) (by kernel_rfl) (fun _ _ _ h => h) (by rfl) hHeld ?_
    try simp only [Act.put, List.setIfInBounds_toArray, List.set_cons_zero, List.set_cons_succ]
    refine Pl.take_n (i := 17) rfl (by kernel_rfl) (by kernel_rfl) (by kernel_rfl) (fun _ _ _ h => h) (by rfl) hHeld ?_
    try simp only [Act.put, List.setIfInBounds_toArray, List.set_cons_zero, List.set_cons_succ]
    refine Pl.take_n (i := 18) rfl (by kernel_rfl) (by kernel_rfl) (by kernel_rfl) (fun _ _ _ h => h) (by rfl) hHeld ?_
    try simp only [Act.put, List.setIfInBounds_toArray, List.set_cons_zero, List.set_cons_succ]
    refine Pl.take_n (i := 19) rfl (by kernel_rfl) (by kernel_rfl) (by kernel_rfl) (fun _ _ _ h => h) (by rfl) hHeld ?_
    try simp only [Act.put, List.setIfInBounds_toArray, List.set_cons_zero, List.set_cons_succ]
    refine Pl.take_n (i := 20) rfl (by kernel_rfl) (by kernel_rfl) (by kernel_rfl) (fun _ _ _ h => h) (by rfl) hHeld ?_
    try simp only [Act.put, List.setIfInBounds_toArray, List.set_cons_zero, List.set_cons_succ]
    refine Pl.take_n (i := 21) rfl (by kernel_rfl) (by kernel_rfl) (by kernel_rfl) (fun _ _ _ h => h) (by rfl) hHeld ?_
    try simp only [Act.put, List.setIfInBounds_toArray, List.set_cons_zero, List.set_cons_succ]
    refine Pl.take_n (i := 22) rfl (by kernel_rfl) (by kernel_rfl) (by kernel_rfl) (fun _ _ _ h => h) (by rfl) hHeld ?_
    try simp only [Act.put, List.setIfInBounds_toArray, List.set_cons_zero, List.set_cons_succ]
    refine Pl.take_n (i := 23) rfl (by kernel_rfl) (by kernel_rfl) (by kernel_rfl) (fun _ _ _ h => h) (by rfl) hHeld ?_
    try simp only [Act.put, List.setIfInBounds_toArray, List.set_cons_zero, List.set_cons_succ]
    refine Pl.take_l (i := 24) (v := ?v1005) rfl (by kernel_rfl) (by kernel_rfl) (by kernel_rfl) (fun _ _ _ h => h) rfl ?hy1005 hHeld ?rest1005
    case hy1005 => (intro w hSw; (try dsimp only at hSw); (obtain ⟨_, _, _, _⟩ := hSw); go_simp <;> (try with_reducible rfl))
    try simp only [Act.put, List.setIfInBounds_toArray, List.set_cons_zero, List.set_cons_succ]
    refine Pl.take_l (i := 25) (v := ?v1006) rfl (by kernel_rfl) (by kernel_rfl) (by kernel_rfl) (fun _ _ _ h => h) rfl ?hy1006 hHeld ?rest1006
    case hy1006 => (intro w hSw; (try dsimp only at hSw); (obtain ⟨_, _, _, _⟩ := hSw); go_simp <;> (try with_reducible rfl))
    try simp only [Act.put, List.setIfInBounds_toArray, List.set_cons_zero, List.set_cons_succ]
    refine wpAnyH_done (by kernel_rfl) ?_ _
    clear hHeld
    go_wp2_with fail
    go_ret
    exact ⟨by rw [← HDD.out]; rfl, HW6.out⟩
  | true =>
    refine Pl.take_l (i := 12) (v := ?v1007) rfl (by kernel_rfl) (by kernel_rfl) (by kernel_rfl) (fun _ _ _ h => h) rfl ?hy1007 hHeld ?rest1007
    case hy1007 => (intro w hSw; (try dsimp only at hSw); (obtain ⟨_, _, _, _⟩ := hSw); go_simp <;> (try with_reducible rfl))
    try simp only [Act.put, List.setIfInBounds_toArray, List.set_cons_zero, List.set_cons_succ]
    refine Pl.take_l (i := 13) (v := ?v1008) rfl (by kernel_rfl) (by kernel_rfl) (by kernel_rfl) (fun _ _ _ h => h) rfl ?hy1008 hHeld ?rest1008
    case hy1008 => (intro w hSw; (try dsimp only at hSw); (obtain ⟨_, _, _, _⟩ := hSw); go_simp <;> (try with_reducible rfl))
    try simp only [Act.put, List.setIfInBounds_toArray, List.set_cons_zero, List.set_cons_succ]
    refine Pl.take_g (i := 14) (v := ?v1020) rfl (by kernel_rfl) (by kernel_rfl) (by kernel_rfl) (fun _ _ _ h => h) (by rfl) ?hy1020 hHeld ?rest1020
    case hy1020 => (intro w hSw; (try dsimp only at hSw); (obtain ⟨_, _, _, _⟩ := hSw); go_simp <;> (try with_reducible rfl))
    try simp only [Act.put, List.setIfInBounds_toArray, List.set_cons_zero, List.set_cons_succ]
    refine Pl.take_g (i := 15) (v := ?v1021) rfl (by kernel_rfl) (by kernel_rfl) (by kernel_rfl) (fun _ _ _ h => h) (by rfl) ?hy1021 hHeld ?rest1021
    case hy1021 => (intro w hSw; (try dsimp only at hSw); (obtain ⟨_, _, _, _⟩ := hSw); go_simp <;> (try with_reducible rfl))
    try simp only [Act.put, List.setIfInBounds_toArray, List.set_cons_zero, List.set_cons_succ]
    refine Pl.take_g (i := 16) (v := ?v1022) rfl (by kernel_rfl) (by kernel_rfl) (by kernel_rfl) (fun _ _ _ h => h) (by rfl) ?hy1022 hHeld ?rest1022
    case hy1022 => (intro w hSw; (try dsimp only at hSw); (obtain ⟨_, _, _, _⟩ := hSw); go_simp <;> (try with_reducible rfl))
    try simp only [Act.put, List.setIfInBounds_toArray, List.set_cons_zero, List.set_cons_succ]
    refine Pl.take_g (i := 17) (v := ?v1023) rfl (by kernel_rfl) (by kernel_rfl) (by kernel_rfl) (fun _ _ _ h => h) (by rfl) ?hy1023 hHeld ?rest1023
    case hy1023 => (intro w hSw; (try dsimp only at hSw); (obtain ⟨_, _, _, _⟩ := hSw); go_simp <;> (try with_reducible rfl))
    try simp only [Act.put, List.setIfInBounds_toArray, List.set_cons_zero, List.set_cons_succ]
    refine Pl.take_g (i := 18) (v := ?v1024) rfl (by kernel_rfl) (by kernel_rfl) (by kernel_rfl) (fun _ _ _ h => h) (by rfl) ?hy1024 hHeld ?rest1024
    case hy1024 => (intro w hSw; (try dsimp only at hSw); (obtain ⟨_, _, _, _⟩ := hSw); go_simp <;> (try with_reducible rfl))
    try simp only [Act.put, List.setIfInBounds_toArray, List.set_cons_zero, List.set_cons_succ]
    refine Pl.take_g (i := 19) (v := ?v1025) rfl (by kernel_rfl) (by kernel_rfl) (by kernel_rfl) (fun _ _ _ h => h) (by rfl) ?hy1025 hHeld ?rest1025
    case hy1025 => (intro w hSw; (try dsimp only at hSw); (obtain ⟨_, _, _, _⟩ := hSw); go_simp <;> (try with_reducible rfl))
    try simp only [Act.put, List.setIfInBounds_toArray, List.set_cons_zero, List.set_cons_succ]
    refine Pl.take_g (i := 20) (v := ?v1026) rfl (by kernel_rfl) (by kernel_rfl) (by kernel_rfl) (fun _ _ _ h => h) (by rfl) ?hy1026 hHeld ?rest1026
    case hy1026 => (intro w hSw; (try dsimp only at hSw); (obtain ⟨_, _, _, _⟩ := hSw); go_simp <;> (try with_reducible rfl))
    try simp only [Act.put, List.setIfInBounds_toArray, List.set_cons_zero, List.set_cons_succ]
    refine Pl.take_g (i := 21) (v := ?v1027) rfl (by kernel_rfl) (by kernel_rfl) (by kernel_rfl) (fun _ _ _ h => h) (by rfl) ?hy1027 hHeld ?rest1027
    case hy1027 => (intro w hSw; (try dsimp only at hSw); (obtain ⟨_, _, _, _⟩ := hSw); go_simp <;> (try with_reducible rfl))
    try simp only [Act.put, List.setIfInBounds_toArray, List.set_cons_zero, List.set_cons_succ]
    refine Pl.take_g (i := 22) (v := ?v1028) rfl (by kernel_rfl) (by kernel_rfl) (by kernel_rfl) (fun _ _ _ h => h) (by rfl) ?hy1028 hHeld ?rest1028
    case hy1028 => (intro w hSw; (try dsimp only at hSw); (obtain ⟨_, _, _, _⟩ := hSw); go_simp <;> (try with_reducible rfl))
    try simp only [Act.put, List.setIfInBounds_toArray, List.set_cons_zero, List.set_cons_succ]
    refine Pl.alone_l (i := 23) (by kernel_rfl) rfl (fun K hK => ?_)
    rw [if_pos (by rfl)]; go_simp; refine (req_nil w6).mono ?_; rintro e w7 ⟨rfl, hf⟩; rw [← hf]; clear hf; dsimp only
    refine hK.out _ _ (⟨later HF.out HS0.out.1, later HF.out HS0.out.2.1, later HF.out HS0.out.2.2.1, later HF.out HS0.out.2.2.2⟩) (fun hHeld2 => ?_)
    clear hK K hHeld
    have hHeld := hHeld2
    clear hHeld2
    try simp only [Act.put, List.setIfInBounds_toArray, List.set_cons_zero, List.set_cons_succ]
    refine Pl.take_l (i := 24) (v := ?v1009) rfl (by kernel_rfl) (by kernel_rfl) (by kernel_rfl) (fun _ _ _ h => h) rfl ?hy1009 hHeld ?rest1009
    case hy1009 => (intro w hSw; (try dsimp only at hSw); (obtain ⟨_, _, _, _⟩ := hSw); go_simp <;> (try with_reducible rfl))
    try simp only [Act.put, List.setIfInBounds_toArray, List.set_cons_zero, List.set_cons_succ]
    refine Pl.take_l (i := 25) (v := ?v1010) rfl (by kernel_rfl) (by kernel_rfl) (by kernel_rfl) (fun _ _ _ h => h) rfl ?hy1010 hHeld ?rest1010
    case hy1010 => (intro w hSw; (try dsimp only at hSw); (obtain ⟨_, _, _, _⟩ := hSw); go_simp <;> (try with_reducible rfl))
    try simp only [Act.put, List.setIfInBounds_toArray, List.set_cons_zero, List.set_cons_succ]
    refine wpAnyH_done (by kernel_rfl) ?_ _
    clear hHeld
    go_wp2_with fail
    go_ret
    exact ⟨by rw [← HDD.out]; rfl, HW6.out⟩
end Go.Proofs.Ythokeojpmbdbmaa.Dr
