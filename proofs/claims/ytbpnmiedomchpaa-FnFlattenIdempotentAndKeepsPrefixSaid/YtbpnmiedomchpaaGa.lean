/-
  Two rows of groups that read the same are the same.
-/
import Derived.Test.YtbpnmiedomchpaaFz
import Derived.Deep.RegionHeld
namespace Pl
open Go
set_option linter.unusedVariables false
section
variable {P : Program} {Q : Exit → Act → World → Prop} {S : World → Prop}
theorem take_g {md : Region.Mode} {l : List Oper} {i : Nat} {oi : Oper} {v : Value} {fuel : Nat} {listed : Array Bool} {a : Act} {w : World} (hi : l[i]? = some oi)
    (hs : Region.noSelect l.toArray = true) (hf : Region.free md l.toArray listed i = true) (hr : (Region.ready md l.toArray listed).contains i = true)
    (hQ : ∀ c a w, Q (.panic c) (a.put oi.dst v) w → Q (.panic c) a w) (hw : Region.wanted oi (yielded l.toArray a.tmps) = true) (hy : ∀ w, S w → (execOp a.eval oi).run P w = .ok (.value v) w) (hS : S w)
    (h : wpAnyH P md l.toArray Q S fuel (listed.setIfInBounds i true) (a.put oi.dst v) w) : wpAnyH P md l.toArray Q S (fuel + 1) listed a w :=
  wpAnyH_take (by simpa using hi) hs hf hr hQ (.inl ⟨hw, hy⟩) hS h
theorem take_n {md : Region.Mode} {l : List Oper} {i : Nat} {oi : Oper} {fuel : Nat} {listed : Array Bool} {a : Act} {w : World} (hi : l[i]? = some oi)
    (hs : Region.noSelect l.toArray = true) (hf : Region.free md l.toArray listed i = true) (hr : (Region.ready md l.toArray listed).contains i = true)
    (hQ : ∀ c a w, Q (.panic c) (a.put oi.dst undef) w → Q (.panic c) a w) (hw : Region.wanted oi (yielded l.toArray a.tmps) = false) (hS : S w)
    (h : wpAnyH P md l.toArray Q S fuel (listed.setIfInBounds i true) (a.put oi.dst undef) w) : wpAnyH P md l.toArray Q S (fuel + 1) listed a w :=
  wpAnyH_take (by simpa using hi) hs hf hr hQ (.inr ⟨hw, rfl⟩) hS h
end
end Pl
namespace Go.Proofs.Ytbpnmiedomchpaa.Fg
open Go.ChangeShapes Go.WideShapes Go.ChangeAt Go.RowKit Rg
set_option linter.unusedVariables false
set_option linter.unusedSimpArgs false
set_option maxRecDepth 100000 in
set_option maxHeartbeats 16000000 in
theorem smg_any (X : Nat → Prop) (v v' : Value) (M : List (Cp Su)) (w : World) (hX : ∀ b, X b → b < w.heap.size) (h : GsV X w v M) (h' : GsV X w v' M) (hM : ObM M) :
    Calls Try.prog 13 #[v, v'] w (fun e w' => e = .returned (.bool true) ∧ Below w.heap.size w w') := by
  obtain ⟨va, vc, hve⟩ := RW.slice h
  obtain ⟨va', vc', hve'⟩ := RW.slice h'
  obtain ⟨n, hn⟩ : ∃ n, n = M.length := ⟨_, rfl⟩
  rw [← hn] at hve hve'
  subst hve hve'
  have hn4 : n ≤ 4194305 := by rw [hn]; exact hM.1
  have HX := Lib.hid (And.intro h (And.intro h' (And.intro hX (And.intro hM hn))))
  clear h h' hX hM hn
  go_enter Try.func13, Try.ntmps13
  go_upto_block 0 with fail
  refine wp_block ?_
  have HST := Lib.hid (Below.refl w.heap.size w)
  go_loopw [5] (fun iv wr => ∃ (i : Nat), i ≤ n ∧ iv = .int .i64 i ∧ Hid (Below w.heap.size w wr)) (fun iv _ => n - (intOf iv).toNat)
  case atStart => exact ⟨0, Nat.zero_le _, rfl, HST⟩
  case round =>
    clear HST
    obtain ⟨i, hi, rfl, HW⟩ := hrel
    by_cases hlt : i < n
    · as_aux_lemma =>
      have q0 : (0 : Int) ≤ i := by omega
      have q1 : (i : Int) < n := by omega
      have iL : i < M.length := by have := HX.out.2.2.2.2; omega
      obtain ⟨g, o, c, x, hve, hXg, hr, hx⟩ := RW.at HX.out.1 iL
      obtain ⟨g', o', c', x', hve', hXg', hr', hx'⟩ := RW.at HX.out.2.1 iL
      simp only [Value.slice.injEq] at hve hve'
      obtain ⟨rfl, hz, rfl⟩ := hve
      obtain ⟨rfl, hz', rfl⟩ := hve'
      clear hz hz'
      obtain ⟨cb, ty, nl, sv, we⟩ := x
      obtain ⟨cb', ty', nl', sv', we'⟩ := x'
      obtain ⟨a1, a2, a3, a4, a5⟩ := hx
      obtain ⟨b1, b2, b3, b4, b5⟩ := hx'
      dsimp only at a1 a2 a3 a4 a5 b1 b2 b3 b4 b5
      obtain rfl : cb' = cb := b1.trans a1.symm
      obtain rfl : ty' = ty := b2.trans a2.symm
      obtain rfl : nl' = nl := b3.trans a3.symm
      obtain rfl : we' = we := b4.trans a4.symm
      obtain ⟨sa, sc, hs⟩ := RW.slice a5
      obtain ⟨sa', sc', hs'⟩ := RW.slice b5
      obtain ⟨m, hm⟩ : ∃ m, m = M[i].subs.length := ⟨_, rfl⟩
      rw [← hm] at hs hs'
      subst hs hs'
      have hm4 : m ≤ 4398046511104 := by rw [hm]; exact (HX.out.2.2.2.1.2 _ (List.getElem_mem iL)).2.1
      have hbD : Below w.heap.size w wr.drew := HW.out.trans (((Below.refl wr.heap.size wr).drew).mono HW.out.size)
      have hcell : ∀ W, Below w.heap.size w W → W.rangeAt g (o + i * 5) (grc cb' ty' nl' (.slice sa m sc) we') ∧ W.rangeAt g' (o' + i * 5) (grc cb' ty' nl' (.slice sa' m sc') we') := fun W hb =>
        ⟨rg_ag (hb.block g (HX.out.2.2.1 g hXg)) hr, rg_ag (hb.block g' (HX.out.2.2.1 g' hXg')) hr'⟩
      have HRR := Lib.hid hcell
      have k0 := (hcell _ hbD).1 0 _ rfl
      have k1 := (hcell _ hbD).1 1 _ rfl
      have k2 := (hcell _ hbD).1 2 _ rfl
      have k3 := (hcell _ hbD).1 3 _ rfl
      have k4 := (hcell _ hbD).1 4 _ rfl
      have j0 := (hcell _ hbD).2 0 _ rfl
      have j1 := (hcell _ hbD).2 1 _ rfl
      have j2 := (hcell _ hbD).2 2 _ rfl
      have j3 := (hcell _ hbD).2 3 _ rfl
      have j4 := (hcell _ hbD).2 4 _ rfl
      simp only [Nat.add_zero] at k0 j0
      have HS0 := Lib.hid (And.intro k0 (And.intro k1 (And.intro k2 (And.intro k3 (And.intro k4 (And.intro j0 (And.intro j1 (And.intro j2 (And.intro j3 j4)))))))))
      have HWD := Lib.hid hbD
      have HEL := Lib.hid (And.intro a5 (And.intro b5 hm))
      clear k0 k1 k2 k3 k4 j0 j1 j2 j3 j4 hbD hcell hr hr' hXg hXg' a1 a2 a3 a4 a5 b1 b2 b3 b4 b5 hm
      go_upto_region 6 with fail
      refine wp_region_held_drew (S := fun w' => w'.cell? ⟨g, o + i * 5, none⟩ = some (.int .u8 (cb' : Nat)) ∧ w'.cell? ⟨g, o + i * 5 + 1, none⟩ = some (.string ty') ∧ w'.cell? ⟨g, o + i * 5 + 2, none⟩ = some (.int .i64 (nl' : Nat)) ∧ w'.cell? ⟨g, o + i * 5 + 3, none⟩ = some (.slice sa m sc) ∧ w'.cell? ⟨g, o + i * 5 + 4, none⟩ = some (.bool we')
        ∧ w'.cell? ⟨g', o' + i * 5, none⟩ = some (.int .u8 (cb' : Nat)) ∧ w'.cell? ⟨g', o' + i * 5 + 1, none⟩ = some (.string ty') ∧ w'.cell? ⟨g', o' + i * 5 + 2, none⟩ = some (.int .i64 (nl' : Nat)) ∧ w'.cell? ⟨g', o' + i * 5 + 3, none⟩ = some (.slice sa' m sc') ∧ w'.cell? ⟨g', o' + i * 5 + 4, none⟩ = some (.bool we')) (by kernel_rfl) HS0.out (fun hHeld => ?_)
      show wpAnyH _ _ _ _ _ 65 (Array.replicate 65 false) _ _
      refine Pl.take_l (i := 0) (v := ?v1055) rfl (by kernel_rfl) (by kernel_rfl) (by kernel_rfl) (fun _ _ _ h => h) rfl ?hy1055 hHeld ?rest1055
      case hy1055 => (intro w hSw; (try dsimp only at hSw); (obtain ⟨_, _, _, _, _, _, _, _, _, _⟩ := hSw); go_simp <;> (try with_reducible rfl))
      try simp only [Act.put, List.setIfInBounds_toArray, List.set_cons_zero, List.set_cons_succ]
      refine Pl.take_l (i := 1) (v := ?v1056) rfl (by kernel_rfl) (by kernel_rfl) (by kernel_rfl) (fun _ _ _ h => h) rfl ?hy1056 hHeld ?rest1056
      case hy1056 => (intro w hSw; (try dsimp only at hSw); (obtain ⟨_, _, _, _, _, _, _, _, _, _⟩ := hSw); go_simp <;> (try with_reducible rfl))
      try simp only [Act.put, List.setIfInBounds_toArray, List.set_cons_zero, List.set_cons_succ]
      refine Pl.take_l (i := 2) (v := ?v1057) rfl (by kernel_rfl) (by kernel_rfl) (by kernel_rfl) (fun _ _ _ h => h) rfl ?hy1057 hHeld ?rest1057
      case hy1057 => (intro w hSw; (try dsimp only at hSw); (obtain ⟨_, _, _, _, _, _, _, _, _, _⟩ := hSw); go_simp <;> (try with_reducible rfl))
      try simp only [Act.put, List.setIfInBounds_toArray, List.set_cons_zero, List.set_cons_succ]
      refine Pl.take_l (i := 3) (v := ?v1058) rfl (by kernel_rfl) (by kernel_rfl) (by kernel_rfl) (fun _ _ _ h => h) rfl ?hy1058 hHeld ?rest1058
      case hy1058 => (intro w hSw; (try dsimp only at hSw); (obtain ⟨_, _, _, _, _, _, _, _, _, _⟩ := hSw); go_simp <;> (try with_reducible rfl))
      try simp only [Act.put, List.setIfInBounds_toArray, List.set_cons_zero, List.set_cons_succ]
      refine Pl.take_l (i := 4) (v := ?v1059) rfl (by kernel_rfl) (by kernel_rfl) (by kernel_rfl) (fun _ _ _ h => h) rfl ?hy1059 hHeld ?rest1059
      case hy1059 => (intro w hSw; (try dsimp only at hSw); (obtain ⟨_, _, _, _, _, _, _, _, _, _⟩ := hSw); go_simp <;> (try with_reducible rfl))
      try simp only [Act.put, List.setIfInBounds_toArray, List.set_cons_zero, List.set_cons_succ]
      refine Pl.take_l (i := 5) (v := ?v1060) rfl (by kernel_rfl) (by kernel_rfl) (by kernel_rfl) (fun _ _ _ h => h) rfl ?hy1060 hHeld ?rest1060
      case hy1060 => (intro w hSw; (try dsimp only at hSw); (obtain ⟨_, _, _, _, _, _, _, _, _, _⟩ := hSw); go_simp <;> (try with_reducible rfl))
      try simp only [Act.put, List.setIfInBounds_toArray, List.set_cons_zero, List.set_cons_succ]
      refine Pl.take_l (i := 6) (v := ?v1061) rfl (by kernel_rfl) (by kernel_rfl) (by kernel_rfl) (fun _ _ _ h => h) rfl ?hy1061 hHeld ?rest1061
      case hy1061 => (intro w hSw; (try dsimp only at hSw); (obtain ⟨_, _, _, _, _, _, _, _, _, _⟩ := hSw); go_simp <;> (try with_reducible rfl))
      try simp only [Act.put, List.setIfInBounds_toArray, List.set_cons_zero, List.set_cons_succ]
      refine Pl.take_l (i := 7) (v := ?v1062) rfl (by kernel_rfl) (by kernel_rfl) (by kernel_rfl) (fun _ _ _ h => h) rfl ?hy1062 hHeld ?rest1062
      case hy1062 => (intro w hSw; (try dsimp only at hSw); (obtain ⟨_, _, _, _, _, _, _, _, _, _⟩ := hSw); go_simp <;> (try with_reducible rfl))
      try simp only [Act.put, List.setIfInBounds_toArray, List.set_cons_zero, List.set_cons_succ]
      refine Pl.take_l (i := 8) (v := ?v1063) rfl (by kernel_rfl) (by kernel_rfl) (by kernel_rfl) (fun _ _ _ h => h) rfl ?hy1063 hHeld ?rest1063
      case hy1063 => (intro w hSw; (try dsimp only at hSw); (obtain ⟨_, _, _, _, _, _, _, _, _, _⟩ := hSw); go_simp <;> (try with_reducible rfl))
      try simp only [Act.put, List.setIfInBounds_toArray, List.set_cons_zero, List.set_cons_succ]
      refine Pl.take_l (i := 9) (v := ?v1064) rfl (by kernel_rfl) (by kernel_rfl) (by kernel_rfl) (fun _ _ _ h => h) rfl ?hy1064 hHeld ?rest1064
      case hy1064 => (intro w hSw; (try dsimp only at hSw); (obtain ⟨_, _, _, _, _, _, _, _, _, _⟩ := hSw); go_simp <;> (try with_reducible rfl))
      try simp only [Act.put, List.setIfInBounds_toArray, List.set_cons_zero, List.set_cons_succ]
      refine Pl.take_l (i := 10) (v := ?v1065) rfl (by kernel_rfl) (by kernel_rfl) (by kernel_rfl) (fun _ _ _ h => h) rfl ?hy1065 hHeld ?rest1065
      case hy1065 => (intro w hSw; (try dsimp only at hSw); (obtain ⟨_, _, _, _, _, _, _, _, _, _⟩ := hSw); go_simp <;> (try with_reducible rfl))
      try simp only [Act.put, List.setIfInBounds_toArray, List.set_cons_zero, List.set_cons_succ]
      refine Pl.take_l (i := 11) (v := ?v1066) rfl (by kernel_rfl) (by kernel_rfl) (by kernel_rfl) (fun _ _ _ h => h) rfl ?hy1066 hHeld ?rest1066
      case hy1066 => (intro w hSw; (try dsimp only at hSw); (obtain ⟨_, _, _, _, _, _, _, _, _, _⟩ := hSw); go_simp <;> (try with_reducible rfl))
      try simp only [Act.put, List.setIfInBounds_toArray, List.set_cons_zero, List.set_cons_succ]
      refine Pl.take_g (i := 12) (v := ?v1091) rfl (by kernel_rfl) (by kernel_rfl) (by kernel_rfl) (fun _ _ _ h => h) (by rfl) ?hy1091 hHeld ?rest1091
      case hy1091 => (intro w hSw; (try dsimp only at hSw); (obtain ⟨_, _, _, _, _, _, _, _, _, _⟩ := hSw); go_simp <;> (try with_reducible rfl))
      try simp only [Act.put, List.setIfInBounds_toArray, List.set_cons_zero, List.set_cons_succ]
      refine Pl.take_g (i := 13) (v := ?v1092) rfl (by kernel_rfl) (by kernel_rfl) (by kernel_rfl) (fun _ _ _ h => h) (by rfl) ?hy1092 hHeld ?rest1092
      case hy1092 => (intro w hSw; (try dsimp only at hSw); (obtain ⟨_, _, _, _, _, _, _, _, _, _⟩ := hSw); go_simp <;> (try with_reducible rfl))
      try simp only [Act.put, List.setIfInBounds_toArray, List.set_cons_zero, List.set_cons_succ]
      refine Pl.take_g (i := 14) (v := ?v1093) rfl (by kernel_rfl) (by kernel_rfl) (by kernel_rfl) (fun _ _ _ h => h) (by rfl) ?hy1093 hHeld ?rest1093
      case hy1093 => (intro w hSw; (try dsimp only at hSw); (obtain ⟨_, _, _, _, _, _, _, _, _, _⟩ := hSw); go_simp <;> (try with_reducible rfl))
      try simp only [Act.put, List.setIfInBounds_toArray, List.set_cons_zero, List.set_cons_succ]
      refine Pl.take_g (i := 15) (v := ?v1094) rfl (by kernel_rfl) (by kernel_rfl) (by kernel_rfl) (fun _ _ _ h => h) (by rfl) ?hy1094 hHeld ?rest1094
      case hy1094 => (intro w hSw; (try dsimp only at hSw); (obtain ⟨_, _, _, _, _, _, _, _, _, _⟩ := hSw); go_simp <;> (try with_reducible rfl))
      try simp only [Act.put, List.setIfInBounds_toArray, List.set_cons_zero, List.set_cons_succ]
      refine Pl.take_g (i := 16) (v := ?v1095) rfl (by kernel_rfl) (by kernel_rfl) (by kernel_rfl) (fun _ _ _ h => h) (by rfl) ?hy1095 hHeld ?rest1095
      case hy1095 => (intro w hSw; (try dsimp only at hSw); (obtain ⟨_, _, _, _, _, _, _, _, _, _⟩ := hSw); go_simp <;> (try with_reducible rfl))
      try simp only [Act.put, List.setIfInBounds_toArray, List.set_cons_zero, List.set_cons_succ]
      refine Pl.take_g (i := 17) (v := ?v1096) rfl (by kernel_rfl) (by kernel_rfl) (by kernel_rfl) (fun _ _ _ h => h) (by rfl) ?hy1096 hHeld ?rest1096
      case hy1096 => (intro w hSw; (try dsimp only at hSw); (obtain ⟨_, _, _, _, _, _, _, _, _, _⟩ := hSw); go_simp <;> (try with_reducible rfl))
      try simp only [Act.put, List.setIfInBounds_toArray, List.set_cons_zero, List.set_cons_succ]
      refine Pl.take_g (i := 18) (v := ?v1097) rfl (by kernel_rfl) (by kernel_rfl) (by kernel_rfl) (fun _ _ _ h => h) (by rfl) ?hy1097 hHeld ?rest1097
      case hy1097 => (intro w hSw; (try dsimp only at hSw); (obtain ⟨_, _, _, _, _, _, _, _, _, _⟩ := hSw); go_simp <;> (try with_reducible rfl))
      try simp only [Act.put, List.setIfInBounds_toArray, List.set_cons_zero, List.set_cons_succ]
      refine Pl.take_g (i := 19) (v := ?v1098) rfl (by kernel_rfl) (by kernel_rfl) (by kernel_rfl) (fun _ _ _ h => h) (by rfl) ?hy1098 hHeld ?rest1098
      case hy1098 => (intro w hSw; (try dsimp only at hSw); (obtain ⟨_, _, _, _, _, _, _, _, _, _⟩ := hSw); go_simp <;> (try with_reducible rfl))
      try simp only [Act.put, List.setIfInBounds_toArray, List.set_cons_zero, List.set_cons_succ]
      refine Pl.take_g (i := 20) (v := ?v1099) rfl (by kernel_rfl) (by kernel_rfl) (by kernel_rfl) (fun _ _ _ h => h) (by rfl) ?hy1099 hHeld ?rest1099
      case hy1099 => (intro w hSw; (try dsimp only at hSw); (obtain ⟨_, _, _, _, _, _, _, _, _, _⟩ := hSw); go_simp <;> (try with_reducible rfl))
      try simp only [Act.put, List.setIfInBounds_toArray, List.set_cons_zero, List.set_cons_succ]
      refine Pl.take_g (i := 21) (v := ?v1100) rfl (by kernel_rfl) (by kernel_rfl) (by kernel_rfl) (fun _ _ _ h => h) (by rfl) ?hy1100 hHeld ?rest1100
      case hy1100 => (intro w hSw; (try dsimp only at hSw); (obtain ⟨_, _, _, _, _, _, _, _, _, _⟩ := hSw); go_simp <;> (try with_reducible rfl))
      try simp only [Act.put, List.setIfInBounds_toArray, List.set_cons_zero, List.set_cons_succ]
      refine Pl.take_g (i := 22) (v := ?v1101) rfl (by kernel_rfl) (by kernel_rfl) (by kernel_rfl) (fun _ _ _ h => h) (by rfl) ?hy1101 hHeld ?rest1101
      case hy1101 => (intro w hSw; (try dsimp only at hSw); (obtain ⟨_, _, _, _, _, _, _, _, _, _⟩ := hSw); go_simp <;> (try with_reducible rfl))
      try simp only [Act.put, List.setIfInBounds_toArray, List.set_cons_zero, List.set_cons_succ]
      refine Pl.take_l (i := 23) (v := ?v1067) rfl (by kernel_rfl) (by kernel_rfl) (by kernel_rfl) (fun _ _ _ h => h) rfl ?hy1067 hHeld ?rest1067
      case hy1067 => (intro w hSw; (try dsimp only at hSw); (obtain ⟨_, _, _, _, _, _, _, _, _, _⟩ := hSw); go_simp <;> (try with_reducible rfl))
      try simp only [Act.put, List.setIfInBounds_toArray, List.set_cons_zero, List.set_cons_succ]
      refine Pl.take_l (i := 24) (v := ?v1068) rfl (by kernel_rfl) (by kernel_rfl) (by kernel_rfl) (fun _ _ _ h => h) rfl ?hy1068 hHeld ?rest1068
      case hy1068 => (intro w hSw; (try dsimp only at hSw); (obtain ⟨_, _, _, _, _, _, _, _, _, _⟩ := hSw); go_simp <;> (try with_reducible rfl))
      try simp only [Act.put, List.setIfInBounds_toArray, List.set_cons_zero, List.set_cons_succ]
      refine Pl.take_g (i := 25) (v := ?v1102) rfl (by kernel_rfl) (by kernel_rfl) (by kernel_rfl) (fun _ _ _ h => h) (by rfl) ?hy1102 hHeld ?rest1102
      case hy1102 => (intro w hSw; (try dsimp only at hSw); (obtain ⟨_, _, _, _, _, _, _, _, _, _⟩ := hSw); go_simp <;> (try with_reducible rfl))
      try simp only [Act.put, List.setIfInBounds_toArray, List.set_cons_zero, List.set_cons_succ]
      refine Pl.take_g (i := 26) (v := ?v1103) rfl (by kernel_rfl) (by kernel_rfl) (by kernel_rfl) (fun _ _ _ h => h) (by rfl) ?hy1103 hHeld ?rest1103
      case hy1103 => (intro w hSw; (try dsimp only at hSw); (obtain ⟨_, _, _, _, _, _, _, _, _, _⟩ := hSw); go_simp <;> (try with_reducible rfl))
      try simp only [Act.put, List.setIfInBounds_toArray, List.set_cons_zero, List.set_cons_succ]
      refine Pl.take_g (i := 27) (v := ?v1104) rfl (by kernel_rfl) (by kernel_rfl) (by kernel_rfl) (fun _ _ _ h => h) (by rfl) ?hy1104 hHeld ?rest1104
      case hy1104 => (intro w hSw; (try dsimp only at hSw); (obtain ⟨_, _, _, _, _, _, _, _, _, _⟩ := hSw); go_simp <;> (try with_reducible rfl))
      try simp only [Act.put, List.setIfInBounds_toArray, List.set_cons_zero, List.set_cons_succ]
      refine Pl.take_g (i := 28) (v := ?v1105) rfl (by kernel_rfl) (by kernel_rfl) (by kernel_rfl) (fun _ _ _ h => h) (by rfl) ?hy1105 hHeld ?rest1105
      case hy1105 => (intro w hSw; (try dsimp only at hSw); (obtain ⟨_, _, _, _, _, _, _, _, _, _⟩ := hSw); go_simp <;> (try with_reducible rfl))
      try simp only [Act.put, List.setIfInBounds_toArray, List.set_cons_zero, List.set_cons_succ]
      refine Pl.take_g (i := 29) (v := ?v1106) rfl (by kernel_rfl) (by kernel_rfl) (by kernel_rfl) (fun _ _ _ h => h) (by rfl) ?hy1106 hHeld ?rest1106
      case hy1106 => (intro w hSw; (try dsimp only at hSw); (obtain ⟨_, _, _, _, _, _, _, _, _, _⟩ := hSw); go_simp <;> (try with_reducible rfl))
      try simp only [Act.put, List.setIfInBounds_toArray, List.set_cons_zero, List.set_cons_succ]
      refine Pl.take_g (i := 30) (v := ?v1107) rfl (by kernel_rfl) (by kernel_rfl) (by kernel_rfl) (fun _ _ _ h => h) (by rfl) ?hy1107 hHeld ?rest1107
      case hy1107 => (intro w hSw; (try dsimp only at hSw); (obtain ⟨_, _, _, _, _, _, _, _, _, _⟩ := hSw); go_simp <;> (try with_reducible rfl))
      try simp only [Act.put, List.setIfInBounds_toArray, List.set_cons_zero, List.set_cons_succ]
      refine Pl.take_g (i := 31) (v := ?v1108) rfl (by kernel_rfl) (by kernel_rfl) (by kernel_rfl) (fun _ _ _ h => h) (by rfl) ?hy1108 hHeld ?rest1108
      case hy1108 => (intro w hSw; (try dsimp only at hSw); (obtain ⟨_, _, _, _, _, _, _, _, _, _⟩ := hSw); go_simp <;> (try with_reducible rfl))
      try simp only [Act.put, List.setIfInBounds_toArray, List.set_cons_zero, List.set_cons_succ]
      refine Pl.take_g (i := 32) (v := ?v1109) rfl (by kernel_rfl) (by kernel_rfl) (by kernel_rfl) (fun _ _ _ h => h) (by rfl) ?hy1109 hHeld ?rest1109
      case hy1109 => (intro w hSw; (try dsimp only at hSw); (obtain ⟨_, _, _, _, _, _, _, _, _, _⟩ := hSw); go_simp <;> (try with_reducible rfl))
      try simp only [Act.put, List.setIfInBounds_toArray, List.set_cons_zero, List.set_cons_succ]
      refine Pl.take_g (i := 33) (v := ?v1110) rfl (by kernel_rfl) (by kernel_rfl) (by kernel_rfl) (fun _ _ _ h => h) (by rfl) ?hy1110 hHeld ?rest1110
      case hy1110 => (intro w hSw; (try dsimp only at hSw); (obtain ⟨_, _, _, _, _, _, _, _, _, _⟩ := hSw); go_simp <;> (try with_reducible rfl))
      try simp only [Act.put, List.setIfInBounds_toArray, List.set_cons_zero, List.set_cons_succ]
      refine Pl.take_g (i := 34) (v := ?v1111) rfl (by kernel_rfl) (by kernel_rfl) (by kernel_rfl) (fun _ _ _ h => h) (by rfl) ?hy1111 hHeld ?rest1111
      case hy1111 => (intro w hSw; (try dsimp only at hSw); (obtain ⟨_, _, _, _, _, _, _, _, _, _⟩ := hSw); go_simp <;> (try with_reducible rfl))
      try simp only [Act.put, List.setIfInBounds_toArray, List.set_cons_zero, List.set_cons_succ]
      refine Pl.take_g (i := 35) (v := ?v1112) rfl (by kernel_rfl) (by kernel_rfl) (by kernel_rfl) (fun _ _ _ h => h) (by rfl) ?hy1112 hHeld ?rest1112
      case hy1112 => (intro w hSw; (try dsimp only at hSw); (obtain ⟨_, _, _, _, _, _, _, _, _, _⟩ := hSw); go_simp <;> (try with_reducible rfl))
      try simp only [Act.put, List.setIfInBounds_toArray, List.set_cons_zero, List.set_cons_succ]
      refine Pl.take_l (i := 36) (v := ?v1069) rfl (by kernel_rfl) (by kernel_rfl) (by kernel_rfl) (fun _ _ _ h => h) rfl ?hy1069 hHeld ?rest1069
      case hy1069 => (intro w hSw; (try dsimp only at hSw); (obtain ⟨_, _, _, _, _, _, _, _, _, _⟩ := hSw); go_simp <;> (try with_reducible rfl))
      try simp only [Act.put, List.setIfInBounds_toArray, List.set_cons_zero, List.set_cons_succ]
      refine Pl.take_l (i := 37) (v := ?v1070) rfl (by kernel_rfl) (by kernel_rfl) (by kernel_rfl) (fun _ _ _ h => h) rfl ?hy1070 hHeld ?rest1070
      case hy1070 => (intro w hSw; (try dsimp only at hSw); (obtain ⟨_, _, _, _, _, _, _, _, _, _⟩ := hSw); go_simp <;> (try with_reducible rfl))
      try simp only [Act.put, List.setIfInBounds_toArray, List.set_cons_zero, List.set_cons_succ]
      refine Pl.take_g (i := 38) (v := ?v1113) rfl (by kernel_rfl) (by kernel_rfl) (by kernel_rfl) (fun _ _ _ h => h) (by rfl) ?hy1113 hHeld ?rest1113
      case hy1113 => (intro w hSw; (try dsimp only at hSw); (obtain ⟨_, _, _, _, _, _, _, _, _, _⟩ := hSw); go_simp <;> (try with_reducible rfl))
      try simp only [Act.put, List.setIfInBounds_toArray, List.set_cons_zero, List.set_cons_succ]
      refine Pl.take_g (i := 39) (v := ?v1114) rfl (by kernel_rfl) (by kernel_rfl) (by kernel_rfl) (fun _ _ _ h => h) (by rfl) ?hy1114 hHeld ?rest1114
      case hy1114 => (intro w hSw; (try dsimp only at hSw); (obtain ⟨_, _, _, _, _, _, _, _, _, _⟩ := hSw); go_simp <;> (try with_reducible rfl))
      try simp only [Act.put, List.setIfInBounds_toArray, List.set_cons_zero, List.set_cons_succ]
      refine Pl.take_g (i := 40) (v := ?v1115) rfl (by kernel_rfl) (by kernel_rfl) (by kernel_rfl) (fun _ _ _ h => h) (by rfl) ?hy1115 hHeld ?rest1115
      case hy1115 => (intro w hSw; (try dsimp only at hSw); (obtain ⟨_, _, _, _, _, _, _, _, _, _⟩ := hSw); go_simp <;> (try with_reducible rfl))
      try simp only [Act.put, List.setIfInBounds_toArray, List.set_cons_zero, List.set_cons_succ]
      refine Pl.take_g (i := 41) (v := ?v1116) rfl (by kernel_rfl) (by kernel_rfl) (by kernel_rfl) (fun _ _ _ h => h) (by rfl) ?hy1116 hHeld ?rest1116
      case hy1116 => (intro w hSw; (try dsimp only at hSw); (obtain ⟨_, _, _, _, _, _, _, _, _, _⟩ := hSw); go_simp <;> (try with_reducible rfl))
      try simp only [Act.put, List.setIfInBounds_toArray, List.set_cons_zero, List.set_cons_succ]
      refine Pl.take_g (i := 42) (v := ?v1117) rfl (by kernel_rfl) (by kernel_rfl) (by kernel_rfl) (fun _ _ _ h => h) (by rfl) ?hy1117 hHeld ?rest1117
      case hy1117 => (intro w hSw; (try dsimp only at hSw); (obtain ⟨_, _, _, _, _, _, _, _, _, _⟩ := hSw); go_simp <;> (try with_reducible rfl))
      try simp only [Act.put, List.setIfInBounds_toArray, List.set_cons_zero, List.set_cons_succ]
      refine Pl.take_g (i := 43) (v := ?v1118) rfl (by kernel_rfl) (by kernel_rfl) (by kernel_rfl) (fun _ _ _ h => h) (by rfl) ?hy1118 hHeld ?rest1118
      case hy1118 => (intro w hSw; (try dsimp only at hSw); (obtain ⟨_, _, _, _, _, _, _, _, _, _⟩ := hSw); go_simp <;> (try with_reducible rfl))
      try simp only [Act.put, List.setIfInBounds_toArray, List.set_cons_zero, List.set_cons_succ]
      refine Pl.take_g (i := 44) (v := ?v1119) rfl (by kernel_rfl) (by kernel_rfl) (by kernel_rfl) (fun _ _ _ h => h) (by rfl) ?hy1119 hHeld ?rest1119
      case hy1119 => (intro w hSw; (try dsimp only at hSw); (obtain ⟨_, _, _, _, _, _, _, _, _, _⟩ := hSw); go_simp <;> (try with_reducible rfl))
      try simp only [Act.put, List.setIfInBounds_toArray, List.set_cons_zero, List.set_cons_succ]
      refine Pl.take_g (i := 45) (v := ?v1120) rfl (by kernel_rfl) (by kernel_rfl) (by kernel_rfl) (fun _ _ _ h => h) (by rfl) ?hy1120 hHeld ?rest1120
      case hy1120 => (intro w hSw; (try dsimp only at hSw); (obtain ⟨_, _, _, _, _, _, _, _, _, _⟩ := hSw); go_simp <;> (try with_reducible rfl))
      try simp only [Act.put, List.setIfInBounds_toArray, List.set_cons_zero, List.set_cons_succ]
      refine Pl.take_g (i := 46) (v := ?v1121) rfl (by kernel_rfl) (by kernel_rfl) (by kernel_rfl) (fun _ _ _ h => h) (by rfl) ?hy1121 hHeld ?rest1121
      case hy1121 => (intro w hSw; (try dsimp only at hSw); (obtain ⟨_, _, _, _, _, _, _, _, _, _⟩ := hSw); go_simp <;> (try with_reducible rfl))
      try simp only [Act.put, List.setIfInBounds_toArray, List.set_cons_zero, List.set_cons_succ]
      refine Pl.take_g (i := 47) (v := ?v1122) rfl (by kernel_rfl) (by kernel_rfl) (by kernel_rfl) (fun _ _ _ h => h) (by rfl) ?hy1122 hHeld ?rest1122
      case hy1122 => (intro w hSw; (try dsimp only at hSw); (obtain ⟨_, _, _, _, _, _, _, _, _, _⟩ := hSw); go_simp <;> (try with_reducible rfl))
      try simp only [Act.put, List.setIfInBounds_toArray, List.set_cons_zero, List.set_cons_succ]
      refine Pl.take_g (i := 48) (v := ?v1123) rfl (by kernel_rfl) (by kernel_rfl) (by kernel_rfl) (fun _ _ _ h => h) (by rfl) ?hy1123 hHeld ?rest1123
      case hy1123 => (intro w hSw; (try dsimp only at hSw); (obtain ⟨_, _, _, _, _, _, _, _, _, _⟩ := hSw); go_simp <;> (try with_reducible rfl))
      try simp only [Act.put, List.setIfInBounds_toArray, List.set_cons_zero, List.set_cons_succ]
      refine Pl.take_l (i := 49) (v := ?v1071) rfl (by kernel_rfl) (by kernel_rfl) (by kernel_rfl) (fun _ _ _ h => h) rfl ?hy1071 hHeld ?rest1071
      case hy1071 => (intro w hSw; (try dsimp only at hSw); (obtain ⟨_, _, _, _, _, _, _, _, _, _⟩ := hSw); go_simp <;> (try with_reducible rfl))
      try simp only [Act.put, List.setIfInBounds_toArray, List.set_cons_zero, List.set_cons_succ]
      refine Pl.take_l (i := 50) (v := ?v1072) rfl (by kernel_rfl) (by kernel_rfl) (by kernel_rfl) (fun _ _ _ h => h) rfl ?hy1072 hHeld ?rest1072
      case hy1072 => (intro w hSw; (try dsimp only at hSw); (obtain ⟨_, _, _, _, _, _, _, _, _, _⟩ := hSw); go_simp <;> (try with_reducible rfl))
      try simp only [Act.put, List.setIfInBounds_toArray, List.set_cons_zero, List.set_cons_succ]
      refine Pl.take_g (i := 51) (v := ?v1124) rfl (by kernel_rfl) (by kernel_rfl) (by kernel_rfl) (fun _ _ _ h => h) (by rfl) ?hy1124 hHeld ?rest1124
      case hy1124 => (intro w hSw; (try dsimp only at hSw); (obtain ⟨_, _, _, _, _, _, _, _, _, _⟩ := hSw); go_simp <;> (try with_reducible rfl))
      try simp only [Act.put, List.setIfInBounds_toArray, List.set_cons_zero, List.set_cons_succ]
      refine Pl.take_g (i := 52) (v := ?v1125) rfl (by kernel_rfl) (by kernel_rfl) (by kernel_rfl) (fun _ _ _ h => h) (by rfl) ?hy1125 hHeld ?rest1125
      case hy1125 => (intro w hSw; (try dsimp only at hSw); (obtain ⟨_, _, _, _, _, _, _, _, _, _⟩ := hSw); go_simp <;> (try with_reducible rfl))
      try simp only [Act.put, List.setIfInBounds_toArray, List.set_cons_zero, List.set_cons_succ]
      refine Pl.take_g (i := 53) (v := ?v1126) rfl (by kernel_rfl) (by kernel_rfl) (by kernel_rfl) (fun _ _ _ h => h) (by rfl) ?hy1126 hHeld ?rest1126
      case hy1126 => (intro w hSw; (try dsimp only at hSw); (obtain ⟨_, _, _, _, _, _, _, _, _, _⟩ := hSw); go_simp <;> (try with_reducible rfl))
      try simp only [Act.put, List.setIfInBounds_toArray, List.set_cons_zero, List.set_cons_succ]
      refine Pl.take_g (i := 54) (v := ?v1127) rfl (by kernel_rfl) (by kernel_rfl) (by kernel_rfl) (fun _ _ _ h => h) (by rfl) ?hy1127 hHeld ?rest1127
      case hy1127 => (intro w hSw; (try dsimp only at hSw); (obtain ⟨_, _, _, _, _, _, _, _, _, _⟩ := hSw); go_simp <;> (try with_reducible rfl))
      try simp only [Act.put, List.setIfInBounds_toArray, List.set_cons_zero, List.set_cons_succ]
      refine Pl.take_g (i := 55) (v := ?v1128) rfl (by kernel_rfl) (by kernel_rfl) (by kernel_rfl) (fun _ _ _ h => h) (by rfl) ?hy1128 hHeld ?rest1128
      case hy1128 => (intro w hSw; (try dsimp only at hSw); (obtain ⟨_, _, _, _, _, _, _, _, _, _⟩ := hSw); go_simp <;> (try with_reducible rfl))
      try simp only [Act.put, List.setIfInBounds_toArray, List.set_cons_zero, List.set_cons_succ]
      refine Pl.take_g (i := 56) (v := ?v1129) rfl (by kernel_rfl) (by kernel_rfl) (by kernel_rfl) (fun _ _ _ h => h) (by rfl) ?hy1129 hHeld ?rest1129
      case hy1129 => (intro w hSw; (try dsimp only at hSw); (obtain ⟨_, _, _, _, _, _, _, _, _, _⟩ := hSw); go_simp <;> (try with_reducible rfl))
      try simp only [Act.put, List.setIfInBounds_toArray, List.set_cons_zero, List.set_cons_succ]
      refine Pl.take_g (i := 57) (v := ?v1130) rfl (by kernel_rfl) (by kernel_rfl) (by kernel_rfl) (fun _ _ _ h => h) (by rfl) ?hy1130 hHeld ?rest1130
      case hy1130 => (intro w hSw; (try dsimp only at hSw); (obtain ⟨_, _, _, _, _, _, _, _, _, _⟩ := hSw); go_simp <;> (try with_reducible rfl))
      try simp only [Act.put, List.setIfInBounds_toArray, List.set_cons_zero, List.set_cons_succ]
      refine Pl.take_g (i := 58) (v := ?v1131) rfl (by kernel_rfl) (by kernel_rfl) (by kernel_rfl) (fun _ _ _ h => h) (by rfl) ?hy1131 hHeld ?rest1131
      case hy1131 => (intro w hSw; (try dsimp only at hSw); (obtain ⟨_, _, _, _, _, _, _, _, _, _⟩ := hSw); go_simp <;> (try with_reducible rfl))
      try simp only [Act.put, List.setIfInBounds_toArray, List.set_cons_zero, List.set_cons_succ]
      refine Pl.take_g (i := 59) (v := ?v1132) rfl (by kernel_rfl) (by kernel_rfl) (by kernel_rfl) (fun _ _ _ h => h) (by rfl) ?hy1132 hHeld ?rest1132
      case hy1132 => (intro w hSw; (try dsimp only at hSw); (obtain ⟨_, _, _, _, _, _, _, _, _, _⟩ := hSw); go_simp <;> (try with_reducible rfl))
      try simp only [Act.put, List.setIfInBounds_toArray, List.set_cons_zero, List.set_cons_succ]
      refine Pl.take_g (i := 60) (v := ?v1133) rfl (by kernel_rfl) (by kernel_rfl) (by kernel_rfl) (fun _ _ _ h => h) (by rfl) ?hy1133 hHeld ?rest1133
      case hy1133 => (intro w hSw; (try dsimp only at hSw); (obtain ⟨_, _, _, _, _, _, _, _, _, _⟩ := hSw); go_simp <;> (try with_reducible rfl))
      try simp only [Act.put, List.setIfInBounds_toArray, List.set_cons_zero, List.set_cons_succ]
      refine Pl.take_g (i := 61) (v := ?v1134) rfl (by kernel_rfl) (by kernel_rfl) (by kernel_rfl) (fun _ _ _ h => h) (by rfl) ?hy1134 hHeld ?rest1134
      case hy1134 => (intro w hSw; (try dsimp only at hSw); (obtain ⟨_, _, _, _, _, _, _, _, _, _⟩ := hSw); go_simp <;> (try with_reducible rfl))
      try simp only [Act.put, List.setIfInBounds_toArray, List.set_cons_zero, List.set_cons_succ]
      refine Pl.take_g (i := 62) (v := ?v1135) rfl (by kernel_rfl) (by kernel_rfl) (by kernel_rfl) (fun _ _ _ h => h) (by rfl) ?hy1135 hHeld ?rest1135
      case hy1135 => (intro w hSw; (try dsimp only at hSw); (obtain ⟨_, _, _, _, _, _, _, _, _, _⟩ := hSw); go_simp <;> (try with_reducible rfl))
      try simp only [Act.put, List.setIfInBounds_toArray, List.set_cons_zero, List.set_cons_succ]
      refine Pl.take_g (i := 63) (v := ?v1136) rfl (by kernel_rfl) (by kernel_rfl) (by kernel_rfl) (fun _ _ _ h => h) (by rfl) ?hy1136 hHeld ?rest1136
      case hy1136 => (intro w hSw; (try dsimp only at hSw); (obtain ⟨_, _, _, _, _, _, _, _, _, _⟩ := hSw); go_simp <;> (try with_reducible rfl))
      try simp only [Act.put, List.setIfInBounds_toArray, List.set_cons_zero, List.set_cons_succ]
      refine Pl.take_l (i := 64) (v := ?v1073) rfl (by kernel_rfl) (by kernel_rfl) (by kernel_rfl) (fun _ _ _ h => h) rfl ?hy1073 hHeld ?rest1073
      case hy1073 => (intro w hSw; (try dsimp only at hSw); (obtain ⟨_, _, _, _, _, _, _, _, _, _⟩ := hSw); go_simp <;> (try with_reducible rfl))
      try simp only [Act.put, List.setIfInBounds_toArray, List.set_cons_zero, List.set_cons_succ]
      refine wpAnyH_done (by kernel_rfl) ?_ _
      clear hHeld HS0 HW
      generalize World.drew _ = wd at *
      have e3 := (HRR.out wd HWD.out).1 3 _ rfl
      as_aux_lemma =>
      go_upto_block 2 with fail
      clear e3
      refine wp_block ?_
      go_loopw [6] (fun jv wr => ∃ (j : Nat), j ≤ m ∧ jv = .int .i64 j ∧ Hid (Below w.heap.size w wr)) (fun jv _ => m - (intOf jv).toNat)
      case atStart => exact ⟨0, Nat.zero_le _, rfl, HWD⟩
      case round =>
        clear HWD
        obtain ⟨j, hj, rfl, HV⟩ := hrel
        have e3 := (HRR.out _ HV.out).1 3 _ rfl
        by_cases hlj : j < m
        · as_aux_lemma =>
          have z0 : (0 : Int) ≤ j := by omega
          have z1 : (j : Int) < m := by omega
          have jL : j < M[i].subs.length := by have := HEL.out.2.2; omega
          obtain ⟨p1, s1, d1, y, hve, hXp, hr, hy⟩ := RW.at HEL.out.1 jL
          obtain ⟨p2, s2, d2, y', hve', hXp', hr', hy'⟩ := RW.at HEL.out.2.1 jL
          simp only [Value.slice.injEq] at hve hve'
          obtain ⟨rfl, hz, rfl⟩ := hve
          obtain ⟨rfl, hz', rfl⟩ := hve'
          clear hz hz'
          obtain ⟨es, hes⟩ : ∃ z : ByteArray, z = ⟨(encS M[i].subs[j]).toArray⟩ := ⟨_, rfl⟩
          have hys : y = .string es := by rw [hy, hes]; rfl
          have hys' : y' = .string es := by rw [hy', hes]; rfl
          subst hys hys'
          have hbD : Below w.heap.size w (World.drew _) := HV.out.trans (((Below.refl _ _).drew).mono HV.out.size)
          have k1 := rg_ag (hbD.block p1 (HX.out.2.2.1 p1 hXp)) hr 0 _ rfl
          have k2 := rg_ag (hbD.block p2 (HX.out.2.2.1 p2 hXp')) hr' 0 _ rfl
          simp only [Nat.mul_one, Nat.add_zero] at k1 k2
          have k3 := (HRR.out _ hbD).1 3 _ rfl
          have k4 := (HRR.out _ hbD).2 3 _ rfl
          have HS0 := Lib.hid (And.intro k3 (And.intro k4 (And.intro k1 k2)))
          have HWD := Lib.hid hbD
          clear k1 k2 k3 k4 hbD hr hr' hy hy' hes hXp hXp'
          go_upto_region 11 with fail
          clear e3
          refine wp_region_held_drew (S := fun w' => w'.cell? ⟨g, o + i * 5 + 3, none⟩ = some (.slice (some ⟨p1, s1, none⟩) m sc) ∧ w'.cell? ⟨g', o' + i * 5 + 3, none⟩ = some (.slice (some ⟨p2, s2, none⟩) m sc')
            ∧ w'.cell? ⟨p1, s1 + j, none⟩ = some (.string es) ∧ w'.cell? ⟨p2, s2 + j, none⟩ = some (.string es)) (by kernel_rfl) HS0.out (fun hHeld => ?_)
          show wpAnyH _ _ _ _ _ 17 (Array.replicate 17 false) _ _
          refine Pl.take_l (i := 0) (v := ?v1074) rfl (by kernel_rfl) (by kernel_rfl) (by kernel_rfl) (fun _ _ _ h => h) rfl ?hy1074 hHeld ?rest1074
          case hy1074 => (intro w hSw; (try dsimp only at hSw); (obtain ⟨_, _, _, _⟩ := hSw); go_simp <;> (try with_reducible rfl))
          try simp only [Act.put, List.setIfInBounds_toArray, List.set_cons_zero, List.set_cons_succ]
          refine Pl.take_l (i := 1) (v := ?v1075) rfl (by kernel_rfl) (by kernel_rfl) (by kernel_rfl) (fun _ _ _ h => h) rfl ?hy1075 hHeld ?rest1075
          case hy1075 => (intro w hSw; (try dsimp only at hSw); (obtain ⟨_, _, _, _⟩ := hSw); go_simp <;> (try with_reducible rfl))
          try simp only [Act.put, List.setIfInBounds_toArray, List.set_cons_zero, List.set_cons_succ]
          refine Pl.take_l (i := 2) (v := ?v1076) rfl (by kernel_rfl) (by kernel_rfl) (by kernel_rfl) (fun _ _ _ h => h) rfl ?hy1076 hHeld ?rest1076
          case hy1076 => (intro w hSw; (try dsimp only at hSw); (obtain ⟨_, _, _, _⟩ := hSw); go_simp <;> (try with_reducible rfl))
          try simp only [Act.put, List.setIfInBounds_toArray, List.set_cons_zero, List.set_cons_succ]
          refine Pl.take_l (i := 3) (v := ?v1077) rfl (by kernel_rfl) (by kernel_rfl) (by kernel_rfl) (fun _ _ _ h => h) rfl ?hy1077 hHeld ?rest1077
          case hy1077 => (intro w hSw; (try dsimp only at hSw); (obtain ⟨_, _, _, _⟩ := hSw); go_simp <;> (try with_reducible rfl))
          try simp only [Act.put, List.setIfInBounds_toArray, List.set_cons_zero, List.set_cons_succ]
          refine Pl.take_l (i := 4) (v := ?v1078) rfl (by kernel_rfl) (by kernel_rfl) (by kernel_rfl) (fun _ _ _ h => h) rfl ?hy1078 hHeld ?rest1078
          case hy1078 => (intro w hSw; (try dsimp only at hSw); (obtain ⟨_, _, _, _⟩ := hSw); go_simp <;> (try with_reducible rfl))
          try simp only [Act.put, List.setIfInBounds_toArray, List.set_cons_zero, List.set_cons_succ]
          refine Pl.take_l (i := 5) (v := ?v1079) rfl (by kernel_rfl) (by kernel_rfl) (by kernel_rfl) (fun _ _ _ h => h) rfl ?hy1079 hHeld ?rest1079
          case hy1079 => (intro w hSw; (try dsimp only at hSw); (obtain ⟨_, _, _, _⟩ := hSw); go_simp <;> (try with_reducible rfl))
          try simp only [Act.put, List.setIfInBounds_toArray, List.set_cons_zero, List.set_cons_succ]
          refine Pl.take_l (i := 6) (v := ?v1080) rfl (by kernel_rfl) (by kernel_rfl) (by kernel_rfl) (fun _ _ _ h => h) rfl ?hy1080 hHeld ?rest1080
          case hy1080 => (intro w hSw; (try dsimp only at hSw); (obtain ⟨_, _, _, _⟩ := hSw); go_simp <;> (try with_reducible rfl))
          try simp only [Act.put, List.setIfInBounds_toArray, List.set_cons_zero, List.set_cons_succ]
          refine Pl.take_l (i := 7) (v := ?v1081) rfl (by kernel_rfl) (by kernel_rfl) (by kernel_rfl) (fun _ _ _ h => h) rfl ?hy1081 hHeld ?rest1081
          case hy1081 => (intro w hSw; (try dsimp only at hSw); (obtain ⟨_, _, _, _⟩ := hSw); go_simp <;> (try with_reducible rfl))
          try simp only [Act.put, List.setIfInBounds_toArray, List.set_cons_zero, List.set_cons_succ]
          refine Pl.take_l (i := 8) (v := ?v1082) rfl (by kernel_rfl) (by kernel_rfl) (by kernel_rfl) (fun _ _ _ h => h) rfl ?hy1082 hHeld ?rest1082
          case hy1082 => (intro w hSw; (try dsimp only at hSw); (obtain ⟨_, _, _, _⟩ := hSw); go_simp <;> (try with_reducible rfl))
          try simp only [Act.put, List.setIfInBounds_toArray, List.set_cons_zero, List.set_cons_succ]
          refine Pl.take_l (i := 9) (v := ?v1083) rfl (by kernel_rfl) (by kernel_rfl) (by kernel_rfl) (fun _ _ _ h => h) rfl ?hy1083 hHeld ?rest1083
          case hy1083 => (intro w hSw; (try dsimp only at hSw); (obtain ⟨_, _, _, _⟩ := hSw); go_simp <;> (try with_reducible rfl))
          try simp only [Act.put, List.setIfInBounds_toArray, List.set_cons_zero, List.set_cons_succ]
          refine Pl.take_l (i := 10) (v := ?v1084) rfl (by kernel_rfl) (by kernel_rfl) (by kernel_rfl) (fun _ _ _ h => h) rfl ?hy1084 hHeld ?rest1084
          case hy1084 => (intro w hSw; (try dsimp only at hSw); (obtain ⟨_, _, _, _⟩ := hSw); go_simp <;> (try with_reducible rfl))
          try simp only [Act.put, List.setIfInBounds_toArray, List.set_cons_zero, List.set_cons_succ]
          refine Pl.take_l (i := 11) (v := ?v1085) rfl (by kernel_rfl) (by kernel_rfl) (by kernel_rfl) (fun _ _ _ h => h) rfl ?hy1085 hHeld ?rest1085
          case hy1085 => (intro w hSw; (try dsimp only at hSw); (obtain ⟨_, _, _, _⟩ := hSw); go_simp <;> (try with_reducible rfl))
          try simp only [Act.put, List.setIfInBounds_toArray, List.set_cons_zero, List.set_cons_succ]
          refine Pl.take_l (i := 12) (v := ?v1086) rfl (by kernel_rfl) (by kernel_rfl) (by kernel_rfl) (fun _ _ _ h => h) rfl ?hy1086 hHeld ?rest1086
          case hy1086 => (intro w hSw; (try dsimp only at hSw); (obtain ⟨_, _, _, _⟩ := hSw); go_simp <;> (try with_reducible rfl))
          try simp only [Act.put, List.setIfInBounds_toArray, List.set_cons_zero, List.set_cons_succ]
          refine Pl.take_l (i := 13) (v := ?v1087) rfl (by kernel_rfl) (by kernel_rfl) (by kernel_rfl) (fun _ _ _ h => h) rfl ?hy1087 hHeld ?rest1087
          case hy1087 => (intro w hSw; (try dsimp only at hSw); (obtain ⟨_, _, _, _⟩ := hSw); go_simp <;> (try with_reducible rfl))
          try simp only [Act.put, List.setIfInBounds_toArray, List.set_cons_zero, List.set_cons_succ]
          refine Pl.take_l (i := 14) (v := ?v1088) rfl (by kernel_rfl) (by kernel_rfl) (by kernel_rfl) (fun _ _ _ h => h) rfl ?hy1088 hHeld ?rest1088
          case hy1088 => (intro w hSw; (try dsimp only at hSw); (obtain ⟨_, _, _, _⟩ := hSw); go_simp <;> (try with_reducible rfl))
          try simp only [Act.put, List.setIfInBounds_toArray, List.set_cons_zero, List.set_cons_succ]
          refine Pl.take_l (i := 15) (v := ?v1089) rfl (by kernel_rfl) (by kernel_rfl) (by kernel_rfl) (fun _ _ _ h => h) rfl ?hy1089 hHeld ?rest1089
          case hy1089 => (intro w hSw; (try dsimp only at hSw); (obtain ⟨_, _, _, _⟩ := hSw); go_simp <;> (try with_reducible rfl))
          try simp only [Act.put, List.setIfInBounds_toArray, List.set_cons_zero, List.set_cons_succ]
          refine Pl.take_l (i := 16) (v := ?v1090) rfl (by kernel_rfl) (by kernel_rfl) (by kernel_rfl) (fun _ _ _ h => h) rfl ?hy1090 hHeld ?rest1090
          case hy1090 => (intro w hSw; (try dsimp only at hSw); (obtain ⟨_, _, _, _⟩ := hSw); go_simp <;> (try with_reducible rfl))
          try simp only [Act.put, List.setIfInBounds_toArray, List.set_cons_zero, List.set_cons_succ]
          refine wpAnyH_done (by kernel_rfl) ?_ _
          clear hHeld HS0 HV
          generalize World.drew _ = wd at *
          go_wp2_with fail
          exact ⟨⟨j + 1, by omega, by go_num, HWD⟩, by simp [intOf]; omega⟩
        · as_aux_lemma =>
          obtain rfl : j = m := by omega
          go_wp2_with fail
          exact ⟨⟨i + 1, by omega, by go_num, HV⟩, by simp [intOf]; omega⟩
    · as_aux_lemma =>
      obtain rfl : i = n := by omega
      go_wp2_with fail
      go_ret
      exact ⟨rfl, HW.out⟩
end Go.Proofs.Ytbpnmiedomchpaa.Fg
