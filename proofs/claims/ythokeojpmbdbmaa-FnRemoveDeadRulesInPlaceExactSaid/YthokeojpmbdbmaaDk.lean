/-
  Keys are compared.
-/
import Derived.Test.YthokeojpmbdbmaaDj
namespace Go.Proofs.Ythokeojpmbdbmaa.Dr
open Go.ChangeShapes Go.WideShapes Go.ChangeAt Go.RowKit Rg
set_option linter.unusedVariables false
set_option linter.unusedSimpArgs false
/-- a list of numbers that can be read -/
def KeyV (w : World) (a : Option Addr) (ks : List Nat) : Prop := ∀ i (h : i < ks.length), ∃ g, a = some ⟨g, 0, none⟩ ∧ w.cell? ⟨g, i, none⟩ = some (ki ks[i])
theorem KeyV.keep {w w' : World} {a : Option Addr} {ks : List Nat} (h : KeyV w a ks) (hb : Below w.heap.size w w') : KeyV w' a ks := fun i hi => by
  obtain ⟨g, e, hc⟩ := h i hi
  exact ⟨g, e, later hb hc⟩
theorem KeE.key {g : Gv} {X : Nat → Prop} {w : World} {v : Value} {i : Nat} (h : KeE g X w v i) : ∃ a c, v = .slice a (kR (md g i)).length c ∧ KeyV w a (kR (md g i)) := by
  obtain ⟨a, c, rfl⟩ := RowV.slice h
  refine ⟨a, c, rfl, fun j hj => ?_⟩
  obtain ⟨b, c', x, e, -, hc, hx⟩ := RowV.at h (fun _ => rfl) hj
  simp only [Value.slice.injEq] at e
  have h0 := hc 0 _ rfl
  rw [Nat.mul_one, Nat.add_zero] at h0
  exact ⟨b, e.1, by rw [h0, hx]⟩
theorem take_eq {a b : List Nat} (hl : a.length = b.length) (h : ∀ i (h1 : i < a.length) (h2 : i < b.length), a[i] = b[i]) : a = b := List.ext_getElem hl (fun i h1 h2 => h i h1 h2)
set_option maxRecDepth 100000 in
set_option maxHeartbeats 4000000 in
theorem keq_any (a1 : Option Addr) (n1 c1 : Nat) (a2 : Option Addr) (n2 c2 : Nat) (k1 k2 : List Nat) (w : World) (e1 : n1 = k1.length) (e2 : n2 = k2.length) (h1 : KeyV w a1 k1) (h2 : KeyV w a2 k2) (hl : k1.length ≤ 1000000) :
    Calls Try.prog 13 #[.slice a1 n1 c1, .slice a2 n2 c2] w (fun e w' => e = .returned (.bool (decide (k1 = k2))) ∧ Below w.heap.size w w') := by
  have HE := Lib.hid (And.intro e1 (And.intro e2 hl))
  have HK := Lib.hid (And.intro h1 h2)
  obtain ⟨d, hd⟩ : ∃ d, d = decide (k1 = k2) := ⟨_, rfl⟩
  rw [← hd]
  have HD := Lib.hid hd
  clear h1 h2 hd
  by_cases hn : n1 = n2
  case neg =>
    have q0 : ¬ ((n1 : Int) = n2) := by omega
    have HF := Lib.hid (show d = false by rw [HD.out]; exact decide_eq_false (fun h => hn (by rw [e1, e2, h])))
    clear e1 e2 hn hl
    go_enter Try.func13, Try.ntmps13
    go_wp2_with fail
    go_ret
    exact ⟨by rw [HF.out]; rfl, Below.refl _ _⟩
  subst hn
  have hnb : n1 ≤ 1000000 := by omega
  clear e1 e2 hl
  go_enter Try.func13, Try.ntmps13
  go_upto_block 0 with fail
  refine wp_block ?_
  go_loopw [5] (fun i wr => ∃ (k : Nat), k ≤ n1 ∧ i = .int .i64 (k : Nat) ∧ Hid (∀ j (a : j < k1.length) (b : j < k2.length), j < k → k1[j] = k2[j]) ∧ Hid (Below w.heap.size w wr)) (fun i _ => n1 - (intOf i).toNat)
  case atStart => exact ⟨0, Nat.zero_le _, rfl, Lib.hid (fun j _ _ h => absurd h (Nat.not_lt_zero _)), Lib.hid (Below.refl _ _)⟩
  case round =>
    obtain ⟨k, hk, rfl, HP, HB⟩ := hrel
    by_cases hlt : k < n1
    · as_aux_lemma =>
      have q0 : (0 : Int) ≤ k := by omega
      have q1 : (k : Int) < (n1 : Nat) := by omega
      have l1 : k < k1.length := by have := HE.out.1; omega
      have l2 : k < k2.length := by have := HE.out.2.1; omega
      obtain ⟨g1, rfl, hc1⟩ := HK.out.1 k l1
      obtain ⟨g2, rfl, hc2⟩ := HK.out.2 k l2
      have HP2 := Lib.hid (show ∀ (h : k1[k] = k2[k]), ∀ j (a : j < k1.length) (b : j < k2.length), j < k + 1 → k1[j] = k2[j] from fun h j a b hj => by
        by_cases e : j = k
        · subst e; exact h
        · exact HP.out j a b (by omega))
      have HNE := Lib.hid (show ∀ (h : k1[k] ≠ k2[k]), d = false from fun h => by rw [HD.out]; exact decide_eq_false (fun e => h (by subst e; rfl)))
      generalize k1[k] = x at *
      generalize k2[k] = y at *
      have hbD : Below wr.heap.size wr wr.drew := (Below.refl _ _).drew
      have HBD := Lib.hid (HB.out.trans (hbD.mono HB.out.size))
      have HS0 := Lib.hid (show wr.drew.cell? ⟨g1, k, none⟩ = some (.int .i64 (x : Nat)) ∧ wr.drew.cell? ⟨g2, k, none⟩ = some (.int .i64 (y : Nat)) from ⟨later hbD (later HB.out hc1), later hbD (later HB.out hc2)⟩)
      clear hc1 hc2 hbD l1 l2
      go_upto_region 6 with fail
      refine Pl.wp_region_split (fun w' => w'.cell? ⟨g1, k, none⟩ = some (.int .i64 (x : Nat)) ∧ w'.cell? ⟨g2, k, none⟩ = some (.int .i64 (y : Nat))) 9 (by kernel_rfl) (by kernel_rfl) ?_
      simp only [List.take_succ_cons, List.take_zero]
      have hHeld := HS0.out
      refine Pl.take_l (i := 0) (v := ?v1) rfl (by kernel_rfl) (by kernel_rfl) (by kernel_rfl) (fun _ _ _ h => h) rfl ?hy1 hHeld ?rest1
      case hy1 => (intro w hSw; (try dsimp only at hSw); (try obtain ⟨_, _⟩ := hSw); go_simp <;> (try with_reducible rfl))
      try simp only [Act.put, List.setIfInBounds_toArray, List.set_cons_zero, List.set_cons_succ]
      refine Pl.take_l (i := 1) (v := ?v2) rfl (by kernel_rfl) (by kernel_rfl) (by kernel_rfl) (fun _ _ _ h => h) rfl ?hy2 hHeld ?rest2
      case hy2 => (intro w hSw; (try dsimp only at hSw); (try obtain ⟨_, _⟩ := hSw); go_simp <;> (try with_reducible rfl))
      try simp only [Act.put, List.setIfInBounds_toArray, List.set_cons_zero, List.set_cons_succ]
      refine Pl.take_l (i := 2) (v := ?v3) rfl (by kernel_rfl) (by kernel_rfl) (by kernel_rfl) (fun _ _ _ h => h) rfl ?hy3 hHeld ?rest3
      case hy3 => (intro w hSw; (try dsimp only at hSw); (try obtain ⟨_, _⟩ := hSw); go_simp <;> (try with_reducible rfl))
      try simp only [Act.put, List.setIfInBounds_toArray, List.set_cons_zero, List.set_cons_succ]
      refine Pl.take_l (i := 3) (v := ?v4) rfl (by kernel_rfl) (by kernel_rfl) (by kernel_rfl) (fun _ _ _ h => h) rfl ?hy4 hHeld ?rest4
      case hy4 => (intro w hSw; (try dsimp only at hSw); (try obtain ⟨_, _⟩ := hSw); go_simp <;> (try with_reducible rfl))
      try simp only [Act.put, List.setIfInBounds_toArray, List.set_cons_zero, List.set_cons_succ]
      refine Pl.take_l (i := 4) (v := ?v5) rfl (by kernel_rfl) (by kernel_rfl) (by kernel_rfl) (fun _ _ _ h => h) rfl ?hy5 hHeld ?rest5
      case hy5 => (intro w hSw; (try dsimp only at hSw); (try obtain ⟨_, _⟩ := hSw); go_simp <;> (try with_reducible rfl))
      try simp only [Act.put, List.setIfInBounds_toArray, List.set_cons_zero, List.set_cons_succ]
      refine Pl.take_l (i := 5) (v := ?v6) rfl (by kernel_rfl) (by kernel_rfl) (by kernel_rfl) (fun _ _ _ h => h) rfl ?hy6 hHeld ?rest6
      case hy6 => (intro w hSw; (try dsimp only at hSw); (try obtain ⟨_, _⟩ := hSw); go_simp <;> (try with_reducible rfl))
      try simp only [Act.put, List.setIfInBounds_toArray, List.set_cons_zero, List.set_cons_succ]
      refine Pl.take_l (i := 6) (v := ?v7) rfl (by kernel_rfl) (by kernel_rfl) (by kernel_rfl) (fun _ _ _ h => h) rfl ?hy7 hHeld ?rest7
      case hy7 => (intro w hSw; (try dsimp only at hSw); (try obtain ⟨_, _⟩ := hSw); go_simp <;> (try with_reducible rfl))
      try simp only [Act.put, List.setIfInBounds_toArray, List.set_cons_zero, List.set_cons_succ]
      refine Pl.take_l (i := 7) (v := ?v8) rfl (by kernel_rfl) (by kernel_rfl) (by kernel_rfl) (fun _ _ _ h => h) rfl ?hy8 hHeld ?rest8
      case hy8 => (intro w hSw; (try dsimp only at hSw); (try obtain ⟨_, _⟩ := hSw); go_simp <;> (try with_reducible rfl))
      try simp only [Act.put, List.setIfInBounds_toArray, List.set_cons_zero, List.set_cons_succ]
      refine Pl.take_l (i := 8) (v := ?v9) rfl (by kernel_rfl) (by kernel_rfl) (by kernel_rfl) (fun _ _ _ h => h) rfl ?hy9 hHeld ?rest9
      case hy9 => (intro w hSw; (try dsimp only at hSw); (try obtain ⟨_, _⟩ := hSw); go_simp <;> (try with_reducible rfl))
      try simp only [Act.put, List.setIfInBounds_toArray, List.set_cons_zero, List.set_cons_succ]
      refine wpAnyH_done (by kernel_rfl) ?_ _
      refine Pl.behind_normal (by decide) ?_
      simp only [List.drop_succ_cons, List.drop_zero]
      clear hHeld
      generalize World.drew _ = wd at *
      by_cases hxy : x = y
      · have q2 : (x : Int) = y := by omega
        have HX := Lib.hid (HP2.out hxy)
        subst hxy
        clear HP2 HNE
        go_wp2_with fail
        exact ⟨⟨k + 1, by omega, by go_num, HX, HBD⟩, by simp [intOf]; omega⟩
      · have q2 : ¬ ((x : Int) = y) := by omega
        have HF := Lib.hid (HNE.out hxy)
        clear hxy HP2 HNE
        go_wp2_with fail
        go_ret
        exact ⟨by rw [HF.out]; rfl, HBD.out⟩
    · as_aux_lemma =>
      have hkn : n1 = k := by omega
      have HT := Lib.hid (show d = true by
        rw [HD.out]
        exact decide_eq_true (take_eq (by rw [← HE.out.1, ← HE.out.2.1]) (fun j a b => HP.out j a b (by have := HE.out.1; omega))))
      subst hkn
      go_wp2_with fail
      go_ret
      exact ⟨by rw [HT.out]; rfl, HB.out⟩
end Go.Proofs.Ythokeojpmbdbmaa.Dr
