/-
  What the model keeps.
-/
import Derived.Test.YthokeojpmbdbmaaDk
import Derived.Deep.RegionHeld
namespace Pl
open Go
set_option linter.unusedVariables false
section
variable {P : Program} {Q : Exit → Act → World → Prop} {S : World → Prop}
theorem take_g {md : Region.Mode} {l : List Oper} {i : Nat} {oi : Oper} {v : Value} {fuel : Nat} {listed : Array Bool} {a : Act} {w : World} (hi : l[i]? = some oi)
    (hs : Region.noSelect l.toArray = true) (hf : Region.free md l.toArray listed i = true) (hr : (Region.ready md l.toArray listed).contains i = true)
    (hQ : ∀ c a w, Q (.panic c) (a.put oi.dst v) w → Q (.panic c) a w) (hw : Region.wanted oi (yielded l.toArray a.tmps) = true) (hy : ∀ w, S w → (execOp a.eval oi).run P w = .ok (.value v) w) (hS : S w)
    (h : wpAnyH P md l.toArray Q S fuel (listed.setIfInBounds i true) (a.put oi.dst v) w) : wpAnyH P md l.toArray Q S (fuel + 1) listed a w :=
  wpAnyH_take (by simpa using hi) hs hf hr hQ (.inl ⟨hw, hy⟩) hS h
theorem take_n {md : Region.Mode} {l : List Oper} {i : Nat} {oi : Oper} {fuel : Nat} {listed : Array Bool} {a : Act} {w : World} (hi : l[i]? = some oi)
    (hs : Region.noSelect l.toArray = true) (hf : Region.free md l.toArray listed i = true) (hr : (Region.ready md l.toArray listed).contains i = true)
    (hQ : ∀ c a w, Q (.panic c) (a.put oi.dst undef) w → Q (.panic c) a w) (hw : Region.wanted oi (yielded l.toArray a.tmps) = false) (hS : S w)
    (h : wpAnyH P md l.toArray Q S fuel (listed.setIfInBounds i true) (a.put oi.dst undef) w) : wpAnyH P md l.toArray Q S (fuel + 1) listed a w :=
  wpAnyH_take (by simpa using hi) hs hf hr hQ (.inr ⟨hw, rfl⟩) hS h
end
end Pl
namespace Go.Proofs.Ythokeojpmbdbmaa.Dr
open Go.ChangeShapes Go.WideShapes Go.ChangeAt Go.RowKit Rg
set_option linter.unusedVariables false
set_option linter.unusedSimpArgs false
/-- is there a living one like r between r and k? -/
def dup (m : Nat → Md) (r k : Nat) : Bool := (List.range k).any fun r2 => decide (r < r2) && (!dR (m r2) && decide (m r = m r2))
theorem dup_succ (m : Nat → Md) {r k : Nat} (h : r < k) : dup m r (k + 1) = (dup m r k || (!dR (m k) && decide (m r = m k))) := by
  unfold dup
  rw [List.range_succ, List.any_append]
  simp [h]
theorem dup_start (m : Nat → Md) (r : Nat) : dup m r (r + 1) = false := by
  unfold dup
  rw [List.any_eq_false]
  intro x hx
  have : x < r + 1 := by simpa using hx
  have h : ¬ r < x := by omega
  simp [h]
theorem dup_more (m : Nat → Md) {r k n : Nat} (h : dup m r k = true) (hk : k ≤ n) : dup m r n = true := by
  unfold dup at h ⊢
  rw [List.any_eq_true] at h ⊢
  obtain ⟨x, hx, hp⟩ := h
  exact ⟨x, by simp at hx ⊢; omega, hp⟩
theorem kp_dup (n : Nat) (m : Nat → Md) (r : Nat) : kpB n m r = (!dR (m r) && !dup m r n) := by
  unfold kpB dup
  rw [List.not_any_eq_all_not]
def kept (n : Nat) (m : Nat → Md) (r : Nat) : List Nat := (List.range r).filter (kpB n m)
theorem kept_succ (n : Nat) (m : Nat → Md) (r : Nat) : kept n m (r + 1) = kept n m r ++ (if kpB n m r then [r] else []) := by
  unfold kept
  rw [List.range_succ, List.filter_append]
  by_cases h : kpB n m r <;> simp [h]
theorem kept_len (n : Nat) (m : Nat → Md) (r : Nat) : (kept n m r).length ≤ r := by
  unfold kept
  refine Nat.le_trans (List.length_filter_le _ _) ?_
  simp
/-- the two lists that are read -/
def KD (g : Gv) (n : Nat) (a2 a3 : Option Addr) (w : World) : Prop :=
  ∀ i, i < n → (∃ g2 a c, a2 = some ⟨g2, 0, none⟩ ∧ w.cell? ⟨g2, i, none⟩ = some (.slice a (kR (md g i)).length c) ∧ KeyV w a (kR (md g i))) ∧ ∃ g3, a3 = some ⟨g3, 0, none⟩ ∧ w.cell? ⟨g3, i, none⟩ = some (.bool (dR (md g i)))
theorem KD.keep {g : Gv} {n : Nat} {a2 a3 : Option Addr} {w w' : World} (h : KD g n a2 a3 w) (hb : Below w.heap.size w w') : KD g n a2 a3 w' := fun i hi => by
  obtain ⟨⟨g2, a, c, e2, h2, h3⟩, g3, e3, h4⟩ := h i hi
  exact ⟨⟨g2, a, c, e2, later hb h2, h3.keep hb⟩, g3, e3, later hb h4⟩
theorem kR_len (g : Gv) (i : Nat) : (kR (md g i)).length ≤ 40 := by
  have h1 : g.R i % 4 < 4 := Nat.mod_lt _ (by omega)
  have h2 := kXs_len g (sr g i) (g.R i % 4)
  unfold kR md
  rw [List.length_cons]
  omega
theorem kR_dec (g : Gv) (i j : Nat) : decide (kR (md g i) = kR (md g j)) = decide (md g i = md g j) := by
  by_cases h : md g i = md g j
  · rw [h]; simp
  · rw [decide_eq_false h, decide_eq_false (fun e => h (kR_inj e))]
set_option maxRecDepth 100000 in
set_option maxHeartbeats 8000000 in
theorem kept_any (g : Gv) (n : Nat) (a2 : Option Addr) (c2 : Nat) (a3 : Option Addr) (c3 : Nat) (w : World) (hn : n ≤ 4096) (h : KD g n a2 a3 w) :
    Calls Try.prog 7 #[.slice a2 n c2, .slice a3 n c3, .slice none 0 0] w (fun e w' => ∃ a c, e = .returned (.slice a (kept n (md g) n).length c) ∧ KRow w.heap.size w' (.slice a (kept n (md g) n).length c) (kept n (md g) n) ∧ Below w.heap.size w w') := by
  have HK := Lib.hid h
  clear h
  obtain ⟨i0, hi, hz0, hz1, hz2⟩ := info_parts infoInt
  have HI := Lib.hid (And.intro hi (And.intro hz0 (And.intro hz1 hz2)))
  clear hi hz0 hz1 hz2
  go_enter Try.func7, Try.ntmps7
  go_upto_block 0 with fail
  have HV0 := Lib.hid (show KRow w.heap.size (w.alloc (.cells #[] 3)) (.slice (some ⟨w.heap.size, 0, none⟩) (kept n (md g) 0).length 0) (kept n (md g) 0) ∧ Below w.heap.size w (w.alloc (.cells #[] 3)) from
    ⟨World.ownsRow_lit w #[] 0 (Nat.le_refl _) (by unfold maxLen; omega) rfl, (Below.refl _ _).alloc (Nat.le_refl _) _⟩)
  generalize w.alloc _ = x1 at *
  obtain ⟨gK, hgK⟩ : ∃ x, x = w.heap.size := ⟨_, rfl⟩
  rw [← hgK]
  have HV0' := Lib.hid (show KRow w.heap.size x1 (.slice (some ⟨gK, 0, none⟩) (kept n (md g) 0).length 0) (kept n (md g) 0) ∧ Below w.heap.size w x1 by rw [hgK]; exact HV0.out)
  clear HV0 hgK
  refine wp_block ?_
  go_loopw [7, 8] (fun kv rv wr => ∃ (r : Nat) (ka : Option Addr) (kl kc : Nat), r ≤ n ∧ kv = .slice ka kl kc ∧ rv = .int .i64 (r : Nat) ∧ Hid (kl = (kept n (md g) r).length) ∧ Hid (KRow w.heap.size wr (.slice ka kl kc) (kept n (md g) r) ∧ Below w.heap.size w wr)) (fun _ rv _ => n - (intOf rv).toNat)
  case atStart => exact ⟨0, some ⟨gK, 0, none⟩, _, 0, Nat.zero_le _, rfl, rfl, Lib.hid rfl, HV0'⟩
  case round =>
    clear HV0'
    obtain ⟨r, ka, kl, kc, hr, rfl, rfl, HKL, HV⟩ := hrel
    by_cases hlt : r < n
    · as_aux_lemma =>
      have q0 : (0 : Int) ≤ r := by omega
      have q1 : (r : Int) < (n : Nat) := by omega
      obtain ⟨⟨g2, ra, rc, rfl, hr2, hr3⟩, g3, rfl, hr4⟩ := HK.out r hlt
      have HRR := Lib.hid (And.intro hr2 hr3)
      have hc4 := later HV.out.2 hr4
      have hkb := kept_len n (md g) r
      have hklb : kl ≤ 4096 := by have := HKL.out; omega
      clear hr2 hr3 hr4 hkb
      cases hdr : dR (md g r) with
      | true =>
        as_aux_lemma =>
        rw [hdr] at hc4
        have HN := Lib.hid (show kept n (md g) (r + 1) = kept n (md g) r by
          have h1 := kp_dup n (md g) r
          rw [hdr] at h1
          rw [kept_succ, h1]
          simp)
        clear hdr
        go_wp2_with fail
        exact ⟨⟨r + 1, ka, kl, kc, by omega, rfl, by go_num, Lib.hid (by rw [HN.out]; exact HKL.out), Lib.hid (by rw [HN.out]; exact HV.out)⟩, by simp [intOf]; omega⟩
      | false =>
      rw [hdr] at hc4
      have HDR := Lib.hid hdr
      clear hdr
      obtain ⟨wo, hwo⟩ : ∃ x, x = wr := ⟨_, rfl⟩
      subst hwo
      go_upto_block 2 with fail
      clear hc4
      refine wp_block ?_
      go_loopw [9, 10] (fun dv kv wr => ∃ (k : Nat) (b : Bool), k ≤ n ∧ dv = .bool b ∧ kv = .int .i64 (k : Nat) ∧ Hid (r < k ∧ b = dup (md g) r k) ∧ Hid (Below wo.heap.size wo wr)) (fun _ kv _ => n - (intOf kv).toNat)
      case atStart => exact ⟨r + 1, false, by omega, rfl, by go_num, Lib.hid ⟨by omega, (dup_start _ _).symm⟩, Lib.hid (Below.refl _ _)⟩
      case round =>
        obtain ⟨k, b, hk, rfl, rfl, HB, HW⟩ := hrel
        have p0 : (0 : Int) ≤ k := by omega
        by_cases hgo : k < n ∧ b = false
        · as_aux_lemma =>
          obtain ⟨hkn, rfl⟩ := hgo
          have p1 : (k : Int) < (n : Nat) := by omega
          obtain ⟨⟨g2', rb, rbc, e2, hk2, hk3⟩, g3', e3, hk4⟩ := HK.out k hkn
          simp only [Option.some.injEq, Addr.mk.injEq, and_true] at e2 e3
          subst e2 e3
          have hww : Below w.heap.size w wr.drew := HV.out.2.trans ((HW.out.drew).mono HV.out.2.size)
          have HWW := Lib.hid (And.intro hww HW.out.drew)
          have HKA := Lib.hid (And.intro (HRR.out.2.keep hww) (And.intro (hk3.keep hww) (And.intro (kR_len g r) (kR_dec g r k))))
          have HLR := Lib.hid (And.intro HB.out.1 HB.out.2)
          obtain ⟨lr, hlr⟩ : ∃ x, x = (kR (md g r)).length := ⟨_, rfl⟩
          obtain ⟨lk, hlk⟩ : ∃ x, x = (kR (md g k)).length := ⟨_, rfl⟩
          have HLL := Lib.hid (And.intro hlr hlk)
          have hr2 := HRR.out.1
          rw [← hlr] at hr2
          rw [← hlk] at hk2
          obtain ⟨dk, hdk⟩ : ∃ x, x = dR (md g k) := ⟨_, rfl⟩
          rw [← hdk] at hk4
          have HDK := Lib.hid hdk
          have HS0 := Lib.hid (show wr.drew.cell? ⟨g3, k, none⟩ = some (.bool dk) ∧ wr.drew.cell? ⟨g2, r, none⟩ = some (.slice ra lr rc) ∧ wr.drew.cell? ⟨g2, k, none⟩ = some (.slice rb lk rbc) from ⟨later hww hk4, later hww hr2, later hww hk2⟩)
          clear hww hlr hlk hr2 hk2 hk3 hk4 hdk HB
          cases dk with
          | true =>
            as_aux_lemma =>
            go_upto_region 10 with fail
            refine wp_region_held_drew (S := fun w' => w'.cell? ⟨g3, k, none⟩ = some (.bool true) ∧ w'.cell? ⟨g2, r, none⟩ = some (.slice ra lr rc) ∧ w'.cell? ⟨g2, k, none⟩ = some (.slice rb lk rbc)) (by kernel_rfl) HS0.out (fun hHeld => ?_)
            show wpAnyH _ _ _ _ _ 16 (Array.replicate 16 false) _ _
            refine Pl.take_l (i := 0) (v := ?v1001) rfl (by kernel_rfl) (by kernel_rfl) (by kernel_rfl) (fun _ _ _ h => h) rfl ?hy1001 hHeld ?rest1001
            case hy1001 => (intro w hSw; (try dsimp only at hSw); (obtain ⟨_, _, _⟩ := hSw); go_simp <;> (try with_reducible rfl))
            try simp only [Act.put, List.setIfInBounds_toArray, List.set_cons_zero, List.set_cons_succ]
            refine Pl.take_l (i := 1) (v := ?v1002) rfl (by kernel_rfl) (by kernel_rfl) (by kernel_rfl) (fun _ _ _ h => h) rfl ?hy1002 hHeld ?rest1002
            case hy1002 => (intro w hSw; (try dsimp only at hSw); (obtain ⟨_, _, _⟩ := hSw); go_simp <;> (try with_reducible rfl))
            try simp only [Act.put, List.setIfInBounds_toArray, List.set_cons_zero, List.set_cons_succ]
            refine Pl.take_l (i := 2) (v := ?v1003) rfl (by kernel_rfl) (by kernel_rfl) (by kernel_rfl) (fun _ _ _ h => h) rfl ?hy1003 hHeld ?rest1003
            case hy1003 => (intro w hSw; (try dsimp only at hSw); (obtain ⟨_, _, _⟩ := hSw); go_simp <;> (try with_reducible rfl))
            try simp only [Act.put, List.setIfInBounds_toArray, List.set_cons_zero, List.set_cons_succ]
            refine Pl.take_l (i := 3) (v := ?v1004) rfl (by kernel_rfl) (by kernel_rfl) (by kernel_rfl) (fun _ _ _ h => h) rfl ?hy1004 hHeld ?rest1004
            case hy1004 => (intro w hSw; (try dsimp only at hSw); (obtain ⟨_, _, _⟩ := hSw); go_simp <;> (try with_reducible rfl))
            try simp only [Act.put, List.setIfInBounds_toArray, List.set_cons_zero, List.set_cons_succ]
            refine Pl.take_l (i := 4) (v := ?v1005) rfl (by kernel_rfl) (by kernel_rfl) (by kernel_rfl) (fun _ _ _ h => h) rfl ?hy1005 hHeld ?rest1005
            case hy1005 => (intro w hSw; (try dsimp only at hSw); (obtain ⟨_, _, _⟩ := hSw); go_simp <;> (try with_reducible rfl))
            try simp only [Act.put, List.setIfInBounds_toArray, List.set_cons_zero, List.set_cons_succ]
            refine Pl.take_l (i := 5) (v := ?v1006) rfl (by kernel_rfl) (by kernel_rfl) (by kernel_rfl) (fun _ _ _ h => h) rfl ?hy1006 hHeld ?rest1006
            case hy1006 => (intro w hSw; (try dsimp only at hSw); (obtain ⟨_, _, _⟩ := hSw); go_simp <;> (try with_reducible rfl))
            try simp only [Act.put, List.setIfInBounds_toArray, List.set_cons_zero, List.set_cons_succ]
            refine Pl.take_n (i := 6) rfl (by kernel_rfl) (by kernel_rfl) (by kernel_rfl) (fun _ _ _ h => h) (by rfl) hHeld ?_
            try simp only [Act.put, List.setIfInBounds_toArray, List.set_cons_zero, List.set_cons_succ]
            refine Pl.take_n (i := 7) rfl (by kernel_rfl) (by kernel_rfl) (by kernel_rfl) (fun _ _ _ h => h) (by rfl) hHeld ?_
            try simp only [Act.put, List.setIfInBounds_toArray, List.set_cons_zero, List.set_cons_succ]
            refine Pl.take_n (i := 8) rfl (by kernel_rfl) (by kernel_rfl) (by kernel_rfl) (fun _ _ _ h => h) (by rfl) hHeld ?_
            try simp only [Act.put, List.setIfInBounds_toArray, List.set_cons_zero, List.set_cons_succ]
            refine Pl.take_n (i := 9) rfl (by kernel_rfl) (by kernel_rfl) (by kernel_rfl) (fun _ _ _ h => h) (by rfl) hHeld ?_
            try simp only [Act.put, List.setIfInBounds_toArray, List.set_cons_zero, List.set_cons_succ]
            refine Pl.take_n (i := 10) rfl (by kernel_rfl) (by kernel_rfl) (by kernel_rfl) (fun _ _ _ h => h) (by rfl) hHeld ?_
            try simp only [Act.put, List.setIfInBounds_toArray, List.set_cons_zero, List.set_cons_succ]
            refine Pl.take_n (i := 11) rfl (by kernel_rfl) (by kernel_rfl) (by kernel_rfl) (fun _ _ _ h => h) (by rfl) hHeld ?_
            try simp only [Act.put, List.setIfInBounds_toArray, List.set_cons_zero, List.set_cons_succ]
            refine Pl.take_n (i := 12) rfl (by kernel_rfl) (by kernel_rfl) (by kernel_rfl) (fun _ _ _ h => h) (by rfl) hHeld ?_
            try simp only [Act.put, List.setIfInBounds_toArray, List.set_cons_zero, List.set_cons_succ]
            refine Pl.take_n (i := 13) rfl (by kernel_rfl) (by kernel_rfl) (by kernel_rfl) (fun _ _ _ h => h) (by rfl) hHeld ?_
            try simp only [Act.put, List.setIfInBounds_toArray, List.set_cons_zero, List.set_cons_succ]
            refine Pl.take_n (i := 14) rfl (by kernel_rfl) (by kernel_rfl) (by kernel_rfl) (fun _ _ _ h => h) (by rfl) hHeld ?_
            try simp only [Act.put, List.setIfInBounds_toArray, List.set_cons_zero, List.set_cons_succ]
            refine Pl.take_l (i := 15) (v := ?v1007) rfl (by kernel_rfl) (by kernel_rfl) (by kernel_rfl) (fun _ _ _ h => h) rfl ?hy1007 hHeld ?rest1007
            case hy1007 => (intro w hSw; (try dsimp only at hSw); (obtain ⟨_, _, _⟩ := hSw); go_simp <;> (try with_reducible rfl))
            try simp only [Act.put, List.setIfInBounds_toArray, List.set_cons_zero, List.set_cons_succ]
            generalize World.drew _ = wd at *
            refine wpAnyH_done (by kernel_rfl) ?_ _
            clear hHeld
            have HN := Lib.hid (show r < k + 1 ∧ false = dup (md g) r (k + 1) from ⟨by have := HLR.out.1; omega, by rw [dup_succ _ HLR.out.1, ← HLR.out.2, ← HDK.out]; rfl⟩)
            go_wp2_with fail
            exact ⟨⟨k + 1, false, by omega, rfl, by go_num, HN, Lib.hid HWW.out.2⟩, by simp [intOf]; omega⟩
          | false =>
            as_aux_lemma =>
            obtain ⟨d, hd⟩ : ∃ x, x = decide (kR (md g r) = kR (md g k)) := ⟨_, rfl⟩
            have HD := Lib.hid hd
            have HN := Lib.hid (show r < k + 1 ∧ d = dup (md g) r (k + 1) from ⟨by have := HLR.out.1; omega, by rw [dup_succ _ HLR.out.1, ← HLR.out.2, ← HDK.out, hd, HKA.out.2.2.2]; simp⟩)
            clear hd
            go_upto_region 10 with fail
            refine wp_region_held_drew (S := fun w' => w'.cell? ⟨g3, k, none⟩ = some (.bool false) ∧ w'.cell? ⟨g2, r, none⟩ = some (.slice ra lr rc) ∧ w'.cell? ⟨g2, k, none⟩ = some (.slice rb lk rbc)) (by kernel_rfl) HS0.out (fun hHeld => ?_)
            show wpAnyH _ _ _ _ _ 16 (Array.replicate 16 false) _ _
            refine Pl.take_l (i := 0) (v := ?v1008) rfl (by kernel_rfl) (by kernel_rfl) (by kernel_rfl) (fun _ _ _ h => h) rfl ?hy1008 hHeld ?rest1008
            case hy1008 => (intro w hSw; (try dsimp only at hSw); (obtain ⟨_, _, _⟩ := hSw); go_simp <;> (try with_reducible rfl))
            try simp only [Act.put, List.setIfInBounds_toArray, List.set_cons_zero, List.set_cons_succ]
            refine Pl.take_l (i := 1) (v := ?v1009) rfl (by kernel_rfl) (by kernel_rfl) (by kernel_rfl) (fun _ _ _ h => h) rfl ?hy1009 hHeld ?rest1009
            case hy1009 => (intro w hSw; (try dsimp only at hSw); (obtain ⟨_, _, _⟩ := hSw); go_simp <;> (try with_reducible rfl))
            try simp only [Act.put, List.setIfInBounds_toArray, List.set_cons_zero, List.set_cons_succ]
            refine Pl.take_l (i := 2) (v := ?v1010) rfl (by kernel_rfl) (by kernel_rfl) (by kernel_rfl) (fun _ _ _ h => h) rfl ?hy1010 hHeld ?rest1010
            case hy1010 => (intro w hSw; (try dsimp only at hSw); (obtain ⟨_, _, _⟩ := hSw); go_simp <;> (try with_reducible rfl))
            try simp only [Act.put, List.setIfInBounds_toArray, List.set_cons_zero, List.set_cons_succ]
            refine Pl.take_l (i := 3) (v := ?v1011) rfl (by kernel_rfl) (by kernel_rfl) (by kernel_rfl) (fun _ _ _ h => h) rfl ?hy1011 hHeld ?rest1011
            case hy1011 => (intro w hSw; (try dsimp only at hSw); (obtain ⟨_, _, _⟩ := hSw); go_simp <;> (try with_reducible rfl))
            try simp only [Act.put, List.setIfInBounds_toArray, List.set_cons_zero, List.set_cons_succ]
            refine Pl.take_l (i := 4) (v := ?v1012) rfl (by kernel_rfl) (by kernel_rfl) (by kernel_rfl) (fun _ _ _ h => h) rfl ?hy1012 hHeld ?rest1012
            case hy1012 => (intro w hSw; (try dsimp only at hSw); (obtain ⟨_, _, _⟩ := hSw); go_simp <;> (try with_reducible rfl))
            try simp only [Act.put, List.setIfInBounds_toArray, List.set_cons_zero, List.set_cons_succ]
            refine Pl.take_l (i := 5) (v := ?v1013) rfl (by kernel_rfl) (by kernel_rfl) (by kernel_rfl) (fun _ _ _ h => h) rfl ?hy1013 hHeld ?rest1013
            case hy1013 => (intro w hSw; (try dsimp only at hSw); (obtain ⟨_, _, _⟩ := hSw); go_simp <;> (try with_reducible rfl))
            try simp only [Act.put, List.setIfInBounds_toArray, List.set_cons_zero, List.set_cons_succ]
            refine Pl.take_g (i := 6) (v := ?v1015) rfl (by kernel_rfl) (by kernel_rfl) (by kernel_rfl) (fun _ _ _ h => h) (by rfl) ?hy1015 hHeld ?rest1015
            case hy1015 => (intro w hSw; (try dsimp only at hSw); (obtain ⟨_, _, _⟩ := hSw); go_simp <;> (try with_reducible rfl))
            try simp only [Act.put, List.setIfInBounds_toArray, List.set_cons_zero, List.set_cons_succ]
            refine Pl.take_g (i := 7) (v := ?v1016) rfl (by kernel_rfl) (by kernel_rfl) (by kernel_rfl) (fun _ _ _ h => h) (by rfl) ?hy1016 hHeld ?rest1016
            case hy1016 => (intro w hSw; (try dsimp only at hSw); (obtain ⟨_, _, _⟩ := hSw); go_simp <;> (try with_reducible rfl))
            try simp only [Act.put, List.setIfInBounds_toArray, List.set_cons_zero, List.set_cons_succ]
            refine Pl.take_g (i := 8) (v := ?v1017) rfl (by kernel_rfl) (by kernel_rfl) (by kernel_rfl) (fun _ _ _ h => h) (by rfl) ?hy1017 hHeld ?rest1017
            case hy1017 => (intro w hSw; (try dsimp only at hSw); (obtain ⟨_, _, _⟩ := hSw); go_simp <;> (try with_reducible rfl))
            try simp only [Act.put, List.setIfInBounds_toArray, List.set_cons_zero, List.set_cons_succ]
            refine Pl.take_g (i := 9) (v := ?v1018) rfl (by kernel_rfl) (by kernel_rfl) (by kernel_rfl) (fun _ _ _ h => h) (by rfl) ?hy1018 hHeld ?rest1018
            case hy1018 => (intro w hSw; (try dsimp only at hSw); (obtain ⟨_, _, _⟩ := hSw); go_simp <;> (try with_reducible rfl))
            try simp only [Act.put, List.setIfInBounds_toArray, List.set_cons_zero, List.set_cons_succ]
            refine Pl.take_g (i := 10) (v := ?v1019) rfl (by kernel_rfl) (by kernel_rfl) (by kernel_rfl) (fun _ _ _ h => h) (by rfl) ?hy1019 hHeld ?rest1019
            case hy1019 => (intro w hSw; (try dsimp only at hSw); (obtain ⟨_, _, _⟩ := hSw); go_simp <;> (try with_reducible rfl))
            try simp only [Act.put, List.setIfInBounds_toArray, List.set_cons_zero, List.set_cons_succ]
            refine Pl.take_g (i := 11) (v := ?v1020) rfl (by kernel_rfl) (by kernel_rfl) (by kernel_rfl) (fun _ _ _ h => h) (by rfl) ?hy1020 hHeld ?rest1020
            case hy1020 => (intro w hSw; (try dsimp only at hSw); (obtain ⟨_, _, _⟩ := hSw); go_simp <;> (try with_reducible rfl))
            try simp only [Act.put, List.setIfInBounds_toArray, List.set_cons_zero, List.set_cons_succ]
            refine Pl.take_g (i := 12) (v := ?v1021) rfl (by kernel_rfl) (by kernel_rfl) (by kernel_rfl) (fun _ _ _ h => h) (by rfl) ?hy1021 hHeld ?rest1021
            case hy1021 => (intro w hSw; (try dsimp only at hSw); (obtain ⟨_, _, _⟩ := hSw); go_simp <;> (try with_reducible rfl))
            try simp only [Act.put, List.setIfInBounds_toArray, List.set_cons_zero, List.set_cons_succ]
            refine Pl.take_g (i := 13) (v := ?v1022) rfl (by kernel_rfl) (by kernel_rfl) (by kernel_rfl) (fun _ _ _ h => h) (by rfl) ?hy1022 hHeld ?rest1022
            case hy1022 => (intro w hSw; (try dsimp only at hSw); (obtain ⟨_, _, _⟩ := hSw); go_simp <;> (try with_reducible rfl))
            try simp only [Act.put, List.setIfInBounds_toArray, List.set_cons_zero, List.set_cons_succ]
            generalize World.drew _ = wd at *
            refine Pl.alone_l (i := 14) (by kernel_rfl) rfl (fun K hK => ?_)
            rw [if_pos (by rfl)]; go_simp; refine (keq_any ra lr rc rb lk rbc (kR (md g r)) (kR (md g k)) wd HLL.out.1 HLL.out.2 HKA.out.1 HKA.out.2.1 (by have := HKA.out.2.2.1; omega)).mono ?_; rintro e w6 ⟨rfl, hf⟩; rw [← HD.out]; have HF := Lib.hid hf; clear hf; dsimp only
            refine hK.out _ _ (⟨later HF.out HS0.out.1, later HF.out HS0.out.2.1, later HF.out HS0.out.2.2⟩) (fun hHeld2 => ?_)
            clear hK K hHeld
            have hHeld := hHeld2
            clear hHeld2
            try simp only [Act.put, List.setIfInBounds_toArray, List.set_cons_zero, List.set_cons_succ]
            refine Pl.take_l (i := 15) (v := ?v1014) rfl (by kernel_rfl) (by kernel_rfl) (by kernel_rfl) (fun _ _ _ h => h) rfl ?hy1014 hHeld ?rest1014
            case hy1014 => (intro w hSw; (try dsimp only at hSw); (obtain ⟨_, _, _⟩ := hSw); go_simp <;> (try with_reducible rfl))
            try simp only [Act.put, List.setIfInBounds_toArray, List.set_cons_zero, List.set_cons_succ]
            refine wpAnyH_done (by kernel_rfl) ?_ _
            clear hHeld
            have HW6 := Lib.hid (HWW.out.2.trans (HF.out.mono HWW.out.2.size))
            cases d with
            | true =>
              go_wp2_with fail
              exact ⟨⟨k + 1, true, by omega, rfl, by go_num, HN, HW6⟩, by simp [intOf]; omega⟩
            | false =>
              go_wp2_with fail
              exact ⟨⟨k + 1, false, by omega, rfl, by go_num, HN, HW6⟩, by simp [intOf]; omega⟩
        · as_aux_lemma =>
          have HDU := Lib.hid (show b = dup (md g) r n by
            rw [HB.out.2]
            by_cases hb : b = true
            · have h1 : dup (md g) r k = true := by rw [← HB.out.2]; exact hb
              rw [h1, dup_more _ h1 hk]
            · have : k = n := by
                have hb2 : b = false := by simpa using hb
                have := mt (fun h => (⟨h, hb2⟩ : k < n ∧ b = false)) hgo
                omega
              rw [this])
          have HKP := Lib.hid (show kpB n (md g) r = !b by rw [kp_dup, HDR.out, HDU.out]; rfl)
          have HVK := Lib.hid (HV.out.1.keep HW.out)
          have HVB := Lib.hid (HV.out.2.trans (HW.out.mono HV.out.2.size))
          have hDw : w.heap.size ≤ wr.heap.size := HVB.out.size
          cases b with
          | true =>
            have HNK := Lib.hid (show kept n (md g) (r + 1) = kept n (md g) r by rw [kept_succ, HKP.out]; simp)
            have HN1 := Lib.hid (show kl = (kept n (md g) (r + 1)).length by rw [HNK.out]; exact HKL.out)
            have HN2 := Lib.hid (show KRow w.heap.size wr (.slice ka kl kc) (kept n (md g) (r + 1)) ∧ Below w.heap.size w wr by rw [HNK.out]; exact ⟨HVK.out, HVB.out⟩)
            clear HDU HKP HNK
            by_cases hkn : k < n
            · as_aux_lemma =>
              have p1 : (k : Int) < (n : Nat) := by omega
              go_upto_block 4 with fail
              refine wp_block ?_
              refine wp_loop_rounds 1 ?_
              rw [rounds_succ]
              go_wp2_with fail
              exact ⟨⟨r + 1, ka, kl, kc, by omega, rfl, by go_num, HN1, HN2⟩, by simp [intOf]; omega⟩
            · as_aux_lemma =>
              obtain rfl : n = k := by omega
              go_upto_block 4 with fail
              refine wp_block ?_
              refine wp_loop_rounds 1 ?_
              rw [rounds_succ]
              go_wp2_with fail
              exact ⟨⟨r + 1, ka, kl, kc, by omega, rfl, by go_num, HN1, HN2⟩, by simp [intOf]; omega⟩
          | false =>
            as_aux_lemma =>
            have HNK := Lib.hid (show kept n (md g) (r + 1) = kept n (md g) r ++ [r] by rw [kept_succ, HKP.out]; simp)
            obtain rfl : n = k := by
              have := mt (fun h => (⟨h, rfl⟩ : k < n ∧ false = false)) hgo
              omega
            have hKo : wr.ownsRow w.heap.size 3 1 (.slice ka kl kc) kl ((kept n (md g) r).map ki) := by
              have h := HVK.out
              unfold KRow at h
              rw [← HKL.out] at h
              exact h
            have HKO := Lib.hid (own_keep hKo ((Below.refl wr.heap.size wr).alloc (Nat.le_refl _) (.cells #[ki r] 3)))
            have HDW := Lib.hid hDw
            clear HDU HKP hKo hgo hDw
            go_upto_block 4 with fail
            refine wp_block ?_
            refine wp_loop_rounds 1 ?_
            rw [rounds_succ]
            go_wp2_with (first
              | (at_builtin
                 refine wpList_append_lies _ rfl (.tmp 72) (.tmp 74) _ rfl w.heap.size 3 i0 _ 1 8 Try.underlying29 HI.out.1 HI.out.2.1 HI.out.2.2.1 HI.out.2.2.2 rfl (by omega) (.slice ka kl kc) kl ((kept n (md g) r).map ki) ?hs HKO.out ⟨wr.heap.size, 0, none⟩ 1 1 [ki r] ?hx (by rfl) (World.news_of_block (heap_alloc_new wr _)) (ki_one [r]) (by omega) (by unfold maxLen; omega) (by omega) (by have := HDW.out; simp; omega) (wr.heap.size + 1) (by simp) ?_; (case hs => exact rfl); (case hx => exact rfl)
                 intro g5 cap5 w5 hown5 hgrow5 hat5 hlt5))
            have hKG := key_push (w := wr) HKL.out rfl ((Below.refl _ _).alloc (Nat.le_refl _) _) hown5 hgrow5 (by
              rcases hat5 with h | h
              · exact .inl h
              · exact .inr (by omega))
            have HN1 := Lib.hid (show kl + 1 = (kept n (md g) (r + 1)).length by rw [HNK.out, List.length_append, ← HKL.out]; rfl)
            have HN2 := Lib.hid (show KRow w.heap.size w5 (.slice (some ⟨g5, 0, none⟩) (kl + 1) cap5) (kept n (md g) (r + 1)) ∧ Below w.heap.size w w5 from by
              rw [HNK.out]
              exact ⟨hKG.1, HVB.out.grown hKG.2.1 HVB.out.size (fun c hc => (HVK.out.lt c hc).1)⟩)
            clear hKG hown5 hgrow5 hat5 hlt5
            exact ⟨⟨r + 1, some ⟨g5, 0, none⟩, kl + 1, cap5, by omega, rfl, by go_num, HN1, HN2⟩, by simp [intOf]; omega⟩
    · as_aux_lemma =>
      obtain rfl : n = r := by omega
      go_wp2_with fail
      go_ret
      exact ⟨ka, kc, by rw [← HKL.out]; rfl, by rw [← HKL.out]; exact HV.out.1, HV.out.2⟩
end Go.Proofs.Ythokeojpmbdbmaa.Dr
