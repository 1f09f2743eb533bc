/-
  Lists of complex selectors are compared.
-/
import Derived.Test.YthokeojpmbdbmaaDn
namespace Go.Proofs.Ythokeojpmbdbmaa.Dr
open Go.ChangeShapes Go.WideShapes Go.ChangeAt Go.RowKit Rg
set_option linter.unusedVariables false
set_option linter.unusedSimpArgs false
theorem ex_load {P : Program} {o : Oper} {a : Act} {w : World} (ty : TypeId) (x : Operand) (ho : o.op = .load ty x) (b off : Nat) (hx : a.eval x = .pointer (some ⟨b, off, none⟩)) (cs : List Value) (d : TypeDesc) (hc : w.rangeAt b off cs)
    (hu : P.underlying ty = some d) (hd : d.isRow = true) (hi : (P.info? ty).map (·.size) = some cs.length) : (execOp a.eval o).run P w = .ok (.value (.agg cs.toArray)) w := by
  unfold execOp
  simp only [ho, hx, Instr.loadAt, Instr.sureAddr, Sem.run_bind, Sem.run_pure, Result.andThen_ok, run_loadVar_mid w b off ty cs d hc hu hd hi]
theorem one_all (a : Option Addr) (n c : Nat) : (one (.slice a n c)).toArray.all (·.oneCell') = true := by simp [one, Value.oneCell']
def SmM (a : Md) : Prop := a.length ≤ 4096 ∧ ∀ c ∈ a, Sm c
set_option maxRecDepth 100000 in
set_option maxHeartbeats 8000000 in
theorem c45 (S : SbP) (hL : Loc S) (hE : EqS S) (X : Nat → Prop) (v v' : Value) (a a' : Md) (w : World) (hX : ∀ b, X b → b < w.heap.size) (h : MdV S X w v a) (h' : MdV S X w v' a') (hs : SmM a) :
    Calls Try.prog 45 #[v, v', .pointer none] w (fun e w' => e = .returned (.bool (decide (a = a'))) ∧ Below w.heap.size w w') := by
  obtain ⟨pa, pc, hv⟩ := RowV.slice h
  obtain ⟨pa', pc', hv'⟩ := RowV.slice h'
  obtain ⟨n, hn⟩ : ∃ n, n = a.length := ⟨_, rfl⟩
  obtain ⟨n', hn'⟩ : ∃ n, n = a'.length := ⟨_, rfl⟩
  rw [← hn] at hv
  rw [← hn'] at hv'
  subst hv hv'
  have hn4 : n ≤ 4096 := by rw [hn]; exact hs.1
  have HO := Lib.hid (And.intro h (And.intro h' (And.intro hX (And.intro hs (And.intro hn hn')))))
  have HLE := Lib.hid (And.intro hL hE)
  obtain ⟨dC, hC, hC2⟩ := tyCpl
  clear h h' hX hs hn hn' hL hE
  by_cases hln : n = n'
  · subst hln
    go_enter Try.func45, Try.ntmps45
    go_upto_block 0 with fail
    have HST := Lib.hid (Below.refl w.heap.size w)
    refine wp_block ?_
    go_loopw [16] (fun i wr => ∃ (k : Nat), k ≤ n ∧ i = .int .i64 k ∧ Hid (a.take k = a'.take k) ∧ Hid (Below w.heap.size w wr)) (fun i _ => n - (intOf i).toNat)
    case atStart => exact ⟨0, Nat.zero_le _, rfl, Lib.hid rfl, HST⟩
    case round =>
      clear HST
      obtain ⟨k, hk, rfl, HT, HW⟩ := hrel
      by_cases hlt : k < n
      · as_aux_lemma =>
        have q0 : (0 : Int) ≤ k := by omega
        have q1 : (k : Int) < n := by omega
        have kL : k < a.length := by have := HO.out.2.2.2.2.1; omega
        have kL' : k < a'.length := by have := HO.out.2.2.2.2.2; omega
        obtain ⟨g, c, x, hve, hXg, hr, hx⟩ := RowV.at HO.out.1 (fun _ => rfl) kL
        obtain ⟨g', c', x', hve', hXg', hr', hx'⟩ := RowV.at HO.out.2.1 (fun _ => rfl) kL'
        simp only [Value.slice.injEq] at hve hve'
        obtain ⟨rfl, hz, rfl⟩ := hve
        clear hz
        obtain ⟨rfl, hz, rfl⟩ := hve'
        clear hz
        obtain ⟨xa, xc, hxe⟩ := RowV.slice hx
        obtain ⟨xa', xc', hxe'⟩ := RowV.slice hx'
        have hsm := HO.out.2.2.2.1.2 _ (List.getElem_mem kL)
        obtain ⟨m, hm⟩ : ∃ m, m = (a[k]).length := ⟨_, rfl⟩
        obtain ⟨m', hm'⟩ : ∃ m, m = (a'[k]).length := ⟨_, rfl⟩
        rw [← hm] at hxe
        rw [← hm'] at hxe'
        subst hxe hxe'
        have HXK := Lib.hid (And.intro hx (And.intro hx' hsm))
        rw [Nat.mul_one] at hr hr'
        have HR := Lib.hid (And.intro (rg_keep HW.out hr) (rg_keep HW.out hr'))
        clear hx hx' hm hm' hr hr' hXg hXg' hsm
        go_upto_region 6 with (first
          | (refine wpList_load_mid rfl 48 _ rfl g k rfl (one (.slice xa m xc)) dC HR.out.1 hC hC2 szCpl ?_)
          | (refine wpList_store_mid rfl 48 _ _ rfl wr.heap.size 0 (one (.slice xa m xc)).toArray rfl rfl (th_new wr _ _ rfl) szCpl (one_all _ _ _) ?_))
        have hbS : Below wr.heap.size wr ((wr.alloc (.cells #[.slice none 0 0] 48)).setCells wr.heap.size 0 (one (.slice xa m xc))) := below_setCells (Nat.le_refl _) _ _ ((Below.refl _ _).alloc (Nat.le_refl _) _)
        have hrS : ((wr.alloc (.cells #[.slice none 0 0] 48)).setCells wr.heap.size 0 (one (.slice xa m xc))).rangeAt wr.heap.size 0 (one (.slice xa m xc)) := World.rangeAt_setCells_same _ _ _ _ (th_new wr _ _ rfl)
        change Code.wp _ _ _ _ (World.setCells _ wr.heap.size 0 (one (.slice xa m xc)))
        generalize World.setCells _ _ _ _ = w5 at *
        have hbD : Below w5.heap.size w5 w5.drew := (Below.refl _ _).drew
        have HW5 := Lib.hid (HW.out.trans ((hbS.trans (hbD.mono hbS.size)).mono HW.out.size))
        have HS0 := Lib.hid (And.intro (rg_keep hbD hrS) (rg_keep hbD (rg_keep hbS HR.out.2)))
        clear hbS hrS hbD HR HW
        generalize wr.heap.size = b8 at *
        as_aux_lemma =>
        refine wp_region_held_drew (S := fun w' => w'.rangeAt b8 0 (one (.slice xa m xc)) ∧ w'.rangeAt g' k (one (.slice xa' m' xc'))) (by kernel_rfl) HS0.out (fun hHeld => ?_)
        show wpAnyH _ _ _ _ _ 8 (Array.replicate 8 false) _ _
        refine Pl.take_l (i := 0) (v := .agg #[.slice xa m xc]) rfl (by kernel_rfl) (by kernel_rfl) (by kernel_rfl) (fun _ _ _ h => h) rfl (fun w hSw => ex_load 48 (.tmp 8) rfl b8 0 rfl (one (.slice xa m xc)) dC (hSw.1) hC hC2 szCpl) hHeld ?_
        try simp only [Act.put, List.setIfInBounds_toArray, List.set_cons_zero, List.set_cons_succ]
        refine Pl.take_l (i := 1) (v := ?v1) rfl (by kernel_rfl) (by kernel_rfl) (by kernel_rfl) (fun _ _ _ h => h) rfl ?hy1 hHeld ?rest1
        case hy1 => (intro w hSw; (try dsimp only at hSw); (try obtain ⟨_, _⟩ := hSw); go_simp <;> (try with_reducible rfl))
        try simp only [Act.put, List.setIfInBounds_toArray, List.set_cons_zero, List.set_cons_succ]
        refine Pl.take_l (i := 2) (v := ?v2) rfl (by kernel_rfl) (by kernel_rfl) (by kernel_rfl) (fun _ _ _ h => h) rfl ?hy2 hHeld ?rest2
        case hy2 => (intro w hSw; (try dsimp only at hSw); (try obtain ⟨_, _⟩ := hSw); go_simp <;> (try with_reducible rfl))
        try simp only [Act.put, List.setIfInBounds_toArray, List.set_cons_zero, List.set_cons_succ]
        refine Pl.take_l (i := 3) (v := ?v3) rfl (by kernel_rfl) (by kernel_rfl) (by kernel_rfl) (fun _ _ _ h => h) rfl ?hy3 hHeld ?rest3
        case hy3 => (intro w hSw; (try dsimp only at hSw); (try obtain ⟨_, _⟩ := hSw); go_simp <;> (try with_reducible rfl))
        try simp only [Act.put, List.setIfInBounds_toArray, List.set_cons_zero, List.set_cons_succ]
        refine Pl.take_l (i := 4) (v := .agg #[.slice xa' m' xc']) rfl (by kernel_rfl) (by kernel_rfl) (by kernel_rfl) (fun _ _ _ h => h) rfl (fun w hSw => ex_load 48 (.tmp 24) rfl g' k rfl (one (.slice xa' m' xc')) dC (hSw.2) hC hC2 szCpl) hHeld ?_
        try simp only [Act.put, List.setIfInBounds_toArray, List.set_cons_zero, List.set_cons_succ]
        refine Pl.take_l (i := 5) (v := ?v4) rfl (by kernel_rfl) (by kernel_rfl) (by kernel_rfl) (fun _ _ _ h => h) rfl ?hy4 hHeld ?rest4
        case hy4 => (intro w hSw; (try dsimp only at hSw); (try obtain ⟨_, _⟩ := hSw); go_simp <;> (try with_reducible rfl))
        try simp only [Act.put, List.setIfInBounds_toArray, List.set_cons_zero, List.set_cons_succ]
        generalize World.drew _ = wd at *
        have hXd : ∀ b, X b → b < wd.heap.size := fun b h => Nat.lt_of_lt_of_le (HO.out.2.2.1 b h) HW5.out.size
        have hto := To.below HO.out.2.2.1 HW5.out
        have HC := Lib.hid (c40 S HLE.out.1 HLE.out.2 X _ _ _ _ wd hXd (CxV.to HLE.out.1 HXK.out.1 hto) (CxV.to HLE.out.1 HXK.out.2.1 hto) HXK.out.2.2)
        clear hXd hto
        refine Pl.alone_l (i := 6) (by kernel_rfl) rfl (fun K hK => ?_)
        go_simp; refine HC.out.mono ?_; rintro e w9 ⟨rfl, hf⟩; have HF := Lib.hid hf; clear hf; dsimp only
        refine hK.out _ _ (⟨rg_keep HF.out HS0.out.1, rg_keep HF.out HS0.out.2⟩) (fun hHeld2 => ?_)
        clear hK K hHeld
        have hHeld := hHeld2
        clear hHeld2
        try simp only [Act.put, List.setIfInBounds_toArray, List.set_cons_zero, List.set_cons_succ]
        refine Pl.take_l (i := 7) (v := ?v5) rfl (by kernel_rfl) (by kernel_rfl) (by kernel_rfl) (fun _ _ _ h => h) rfl ?hy5 hHeld ?rest5
        case hy5 => (intro w hSw; (try dsimp only at hSw); (try obtain ⟨_, _⟩ := hSw); go_simp <;> (try with_reducible rfl))
        try simp only [Act.put, List.setIfInBounds_toArray, List.set_cons_zero, List.set_cons_succ]
        refine wpAnyH_done (by kernel_rfl) ?_ _
        clear hHeld
        have HW9 := Lib.hid (HW5.out.trans (HF.out.mono HW5.out.size))
        clear HW5 HS0 HF HC
        obtain ⟨dd, hdd⟩ : ∃ d, d = decide (a[k] = a'[k]) := ⟨_, rfl⟩
        rw [← hdd]
        have HDD := Lib.hid hdd
        clear hdd
        cases dd with
        | true =>
          have HEQ := Lib.hid (take_more kL kL' HT.out (of_decide_eq_true HDD.out.symm))
          go_wp2_with fail
          exact ⟨⟨k + 1, by omega, by go_num, HEQ, HW9⟩, by simp [intOf]; omega⟩
        | false =>
          have HNE := Lib.hid (take_ne kL kL' (of_decide_eq_false HDD.out.symm))
          go_wp2_with fail
          go_ret
          exact ⟨by rw [decide_eq_false HNE.out]; rfl, HW9.out⟩
      · as_aux_lemma =>
        obtain rfl : k = n := by omega
        have HEQ := Lib.hid (take_done HO.out.2.2.2.2.1 HO.out.2.2.2.2.2 HT.out)
        go_wp2_with fail
        go_ret
        exact ⟨by rw [decide_eq_true HEQ.out]; rfl, HW.out⟩
  · have HNE := Lib.hid (len_ne HO.out.2.2.2.2.1 HO.out.2.2.2.2.2 hln)
    have q : ¬ ((n : Nat) : Int) = (n' : Nat) := by omega
    have q2 : (((n : Nat) : Int) == (n' : Nat)) = false := beq_eq_false_iff_ne.2 q
    clear hln
    go_enter Try.func45, Try.ntmps45
    go_wp2_with fail
    go_ret
    exact ⟨by rw [decide_eq_false HNE.out]; rfl, Below.refl _ _⟩
end Go.Proofs.Ythokeojpmbdbmaa.Dr
