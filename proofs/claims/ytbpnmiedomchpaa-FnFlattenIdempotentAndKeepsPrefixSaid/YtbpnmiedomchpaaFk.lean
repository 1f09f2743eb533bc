/-
  Is there a :local or a :global at the top?
-/
import Derived.Test.YtbpnmiedomchpaaFj
namespace Go.Proofs.Ytbpnmiedomchpaa.Fg
open Go.ChangeShapes Go.WideShapes Go.ChangeAt Go.RowKit Rg
set_option linter.unusedVariables false
set_option linter.unusedSimpArgs false
theorem ta_pp (p : Nat) (w : World) : (Instr.typeAssert (ifP p) 117 122 true).run Try.prog w = .ok (.tuple #[.pointer (some ⟨p, 0, none⟩), .bool true]) w := by kernel_rfl
theorem ta_pl (p : Nat) (w : World) : (Instr.typeAssert (ifL p) 117 122 true).run Try.prog w = .ok (.tuple #[.pointer none, .bool false]) w := by kernel_rfl
theorem ta_lp (p : Nat) (w : World) : (Instr.typeAssert (ifP p) 117 126 true).run Try.prog w = .ok (.tuple #[.pointer none, .bool false]) w := by kernel_rfl
theorem ta_ll (p : Nat) (w : World) : (Instr.typeAssert (ifL p) 117 126 true).run Try.prog w = .ok (.tuple #[.pointer (some ⟨p, 0, none⟩), .bool true]) w := by kernel_rfl
def lgU : Su → Bool
  | .bare n => lgN n
  | .wrap k _ => (k == 0) || (k == 3)
def lgC (c : Cp Su) : Bool := c.subs.any lgU
def lgM (M : List (Cp Su)) : Bool := M.any lgC
def big : Nat := 4398046511104
/-- no list is longer than any machine's -/
def Bd (M : List (Cp Su)) : Prop := M.length ≤ big ∧ ∀ c ∈ M, c.subs.length ≤ big
theorem any_more {α : Type} (f : α → Bool) (l : List α) (k : Nat) (hk : k < l.length) (h : (l.take k).any f = false) (h2 : f l[k] = false) : (l.take (k + 1)).any f = false := by
  rw [List.take_succ_eq_append_getElem hk, List.any_append, h]
  simp [h2]
theorem any_hit {α : Type} (f : α → Bool) (l : List α) (k : Nat) (hk : k < l.length) (h2 : f l[k] = true) : l.any f = true := List.any_eq_true.2 ⟨_, List.getElem_mem hk, h2⟩
theorem any_end {α : Type} (f : α → Bool) (l : List α) (n : Nat) (hn : n = l.length) (h : (l.take n).any f = false) : l.any f = false := by
  rwa [List.take_of_length_le (by omega)] at h
theorem sub_all (x : Value) (h : x.oneCell' = true) : (sbc x).toArray.all (·.oneCell') = true := all_oneCell_toArray (fun u hu => by
  simp only [sbc, List.mem_cons, List.not_mem_nil, or_false] at hu
  rcases hu with rfl | rfl | rfl
  · exact h
  all_goals rfl)
theorem e1_form {X : Nat → Prop} {w : World} {x : Value} {c : Su} (h : e1 X w x c) : ∃ T p, x = .iface T (.pointer (some ⟨p, 0, none⟩)) := by
  cases c with
  | bare n => obtain ⟨p, rfl, -⟩ := h; exact ⟨_, _, rfl⟩
  | wrap k M => obtain ⟨p, v, rfl, -⟩ := h; exact ⟨_, _, rfl⟩
/-- a compound at its place, its values spelled out -/
theorem CxV.at {σ : Type} {e : El σ} {X : Nat → Prop} {w : World} {v : Value} {M : List (Cp σ)} (h : CxV e X w v M) {i : Nat} (hi : i < M.length) :
    ∃ g o c tv sa sc la lc, v = .slice (some ⟨g, o, none⟩) M.length c ∧ X g ∧ w.rangeAt g (o + i * 6) (Cv.cells ⟨tv, .slice sa M[i].subs.length sc, .slice la M[i].nest lc, M[i].cb, M[i].we⟩) ∧ CpV e X w ⟨tv, .slice sa M[i].subs.length sc, .slice la M[i].nest lc, M[i].cb, M[i].we⟩ M[i] := by
  obtain ⟨g, o, c, x, h1, h2, h3, h4⟩ := RW.at h hi
  have h5 := h4
  obtain ⟨p1, p2, p3, p4, p5, p6⟩ := h4
  obtain ⟨sa, sc, hs⟩ := RW.slice p2
  obtain ⟨la, lc, hl, -⟩ := p3
  obtain ⟨tv, vs, vn, cb, we⟩ := x
  dsimp only at hs hl p4 p5 h3 h5
  subst hs hl p4 p5
  exact ⟨g, o, c, tv, sa, sc, la, lc, h1, h2, h3, h5⟩
theorem cpv_all {σ : Type} {e : El σ} {X : Nat → Prop} {w : World} {tv : Value} {sa la : Option Addr} {sn sc ln lc : Nat} {cb : Nat} {we : Bool} {c : Cp σ} (h : CpV e X w ⟨tv, .slice sa sn sc, .slice la ln lc, cb, we⟩ c) : (Cv.cells ⟨tv, .slice sa sn sc, .slice la ln lc, cb, we⟩).toArray.all (·.oneCell') = true := cells_one _ h.1.own rfl rfl
set_option maxRecDepth 100000 in
set_option maxHeartbeats 8000000 in
theorem con_any (X : Nat → Prop) (v : Value) (M : List (Cp Su)) (w : World) (hX : ∀ b, X b → b < w.heap.size) (h : CxV e1 X w v M) (hbd : Bd M) :
    Calls Try.prog 23 #[.agg #[v]] w (fun e w' => e = .returned (.bool (lgM M)) ∧ Below w.heap.size w w') := by
  obtain ⟨pa, pc, hv⟩ := RW.slice h
  obtain ⟨n, hn⟩ : ∃ n, n = M.length := ⟨_, rfl⟩
  rw [← hn] at hv
  subst hv
  have hn4 : n ≤ 4398046511104 := by rw [hn]; exact hbd.1
  have HO := Lib.hid (And.intro h (And.intro hX hn))
  have HSM := Lib.hid hbd
  obtain ⟨tC, hC, hC2⟩ := tyCmp
  obtain ⟨tS, hS, hS2⟩ := tySub
  clear h hX hn hbd
  go_enter Try.func23, Try.ntmps23
  go_upto_region 1 with fail
  have hb1 : Below w.heap.size w (w.alloc (.cells #[.slice pa n pc] 40)) := (Below.refl _ _).alloc (Nat.le_refl _) _
  have hr1 := rg_new w #[.slice pa n pc] 40 0 _ rfl
  simp only [Nat.add_zero] at hr1
  generalize w.alloc _ = w1 at *
  have HST := Lib.hid hb1
  clear hb1
  go_upto_block 0 with fail
  clear hr1
  refine wp_block ?_
  go_loopw [12] (fun i wr => ∃ (k : Nat), k ≤ n ∧ i = .int .i64 k ∧ Hid ((M.take k).any lgC = false) ∧ Hid (Below w.heap.size w wr)) (fun i _ => n - (intOf i).toNat)
  case atStart => exact ⟨0, Nat.zero_le _, rfl, Lib.hid rfl, HST⟩
  case round =>
    clear HST
    obtain ⟨k, hk, rfl, HT, HW⟩ := hrel
    by_cases hlt : k < n
    · as_aux_lemma =>
      have q0 : (0 : Int) ≤ k := by omega
      have q1 : (k : Int) < n := by omega
      have kL : k < M.length := by have := HO.out.2.2; omega
      obtain ⟨g, o, c, tv, sa, sc, la, lc, hve, hXg, hr, hx⟩ := CxV.at HO.out.1 kL
      simp only [Value.slice.injEq] at hve
      obtain ⟨rfl, hz, rfl⟩ := hve
      clear hz
      obtain ⟨m, hm⟩ : ∃ m, m = M[k].subs.length := ⟨_, rfl⟩
      obtain ⟨ln, hln⟩ : ∃ m, m = M[k].nest := ⟨_, rfl⟩
      obtain ⟨cb, hcb⟩ : ∃ m, m = M[k].cb := ⟨_, rfl⟩
      obtain ⟨we, hwe⟩ : ∃ m, m = M[k].we := ⟨_, rfl⟩
      rw [← hm, ← hln, ← hcb, ← hwe] at hr hx
      have hm4 : m ≤ 4398046511104 := by rw [hm]; exact HSM.out.2 _ (List.getElem_mem kL)
      have HB := Lib.hid (And.intro hx.2.1 (And.intro hm (cpv_all hx)))
      have HR := Lib.hid (rg_keep HW.out hr)
      clear hx hm hln hcb hwe hr hXg
      go_upto_region 4 with (first
        | (refine wpList_load_mid rfl 37 _ rfl g (o + k * 6) rfl (Cv.cells ⟨tv, .slice sa m sc, .slice la ln lc, cb, we⟩) tC HR.out hC hC2 szCmp ?_)
        | (refine wpList_store_mid rfl 37 _ _ rfl wr.heap.size 0 (Cv.cells ⟨tv, .slice sa m sc, .slice la ln lc, cb, we⟩).toArray rfl rfl (th_new wr _ _ rfl) szCmp HB.out.2.2 ?_))
      have hbS : Below wr.heap.size wr ((wr.alloc (.cells #[.pointer none, .slice none 0 0, .slice none 0 0, .int .i32 0, .int .u8 0, .bool false] 37)).setCells wr.heap.size 0 (Cv.cells ⟨tv, .slice sa m sc, .slice la ln lc, cb, we⟩)) := below_setCells (Nat.le_refl _) _ _ ((Below.refl _ _).alloc (Nat.le_refl _) _)
      have hrS : ((wr.alloc (.cells #[.pointer none, .slice none 0 0, .slice none 0 0, .int .i32 0, .int .u8 0, .bool false] 37)).setCells wr.heap.size 0 (Cv.cells ⟨tv, .slice sa m sc, .slice la ln lc, cb, we⟩)).rangeAt wr.heap.size 0 (Cv.cells ⟨tv, .slice sa m sc, .slice la ln lc, cb, we⟩) := World.rangeAt_setCells_same _ _ _ _ (th_new wr _ _ rfl)
      generalize World.setCells _ _ _ _ = w5 at *
      have d1 := hrS 1 _ rfl
      simp only [Nat.zero_add] at d1
      have HW5 := Lib.hid (HW.out.trans (hbS.mono HW.out.size))
      clear hbS hrS HR HW
      generalize wr.heap.size = b6 at *
      clear wr
      as_aux_lemma =>
      go_upto_block 2 with fail
      clear d1
      refine wp_block ?_
      have HST := Lib.hid HW5.out
      go_loopw [19] (fun i wr => ∃ (q : Nat), q ≤ m ∧ i = .int .i64 q ∧ Hid ((M[k].subs.take q).any lgU = false) ∧ Hid (Below w.heap.size w wr)) (fun i _ => m - (intOf i).toNat)
      case atStart => exact ⟨0, Nat.zero_le _, rfl, Lib.hid rfl, HST⟩
      case round =>
        clear HST HW5
        obtain ⟨q, hq, rfl, HQ, HV⟩ := hrel
        by_cases hlq : q < m
        · as_aux_lemma =>
          have z0 : (0 : Int) ≤ q := by omega
          have z1 : (q : Int) < m := by omega
          have qL : q < M[k].subs.length := by have := HB.out.2.1; omega
          obtain ⟨g2, o2, c, y, hve, -, hr, hy⟩ := RW.at HB.out.1 qL
          simp only [Value.slice.injEq] at hve
          obtain ⟨rfl, hz, rfl⟩ := hve
          clear hz
          obtain ⟨su, hsu⟩ : ∃ z, z = M[k].subs[q] := ⟨_, rfl⟩
          rw [← hsu] at hy
          obtain ⟨T, p, rfl⟩ := e1_form hy
          have HY := Lib.hid (And.intro (loc1 _ _ _ _ _ _ (To.below HO.out.2.1 HV.out) hy) hsu)
          have HR := Lib.hid (rg_keep HV.out hr)
          clear hy hr hsu
          go_upto_region 7 with (first
            | (refine wpList_load_mid rfl 119 _ rfl g2 (o2 + q * 3) rfl (sbc (.iface T (.pointer (some ⟨p, 0, none⟩)))) tS HR.out hS hS2 szSub ?_)
            | (refine wpList_store_mid rfl 119 _ _ rfl wr.heap.size 0 (sbc (.iface T (.pointer (some ⟨p, 0, none⟩)))).toArray rfl rfl (th_new wr _ _ rfl) szSub (sub_all _ rfl) ?_))
          have hbS : Below wr.heap.size wr ((wr.alloc (.cells #[.nilIface, .int .i32 0, .int .i32 0] 119)).setCells wr.heap.size 0 (sbc (.iface T (.pointer (some ⟨p, 0, none⟩))))) := below_setCells (Nat.le_refl _) _ _ ((Below.refl _ _).alloc (Nat.le_refl _) _)
          have hrS : ((wr.alloc (.cells #[.nilIface, .int .i32 0, .int .i32 0] 119)).setCells wr.heap.size 0 (sbc (.iface T (.pointer (some ⟨p, 0, none⟩))))).rangeAt wr.heap.size 0 (sbc (.iface T (.pointer (some ⟨p, 0, none⟩)))) := World.rangeAt_setCells_same _ _ _ _ (th_new wr _ _ rfl)
          generalize World.setCells _ _ _ _ = w9 at *
          have c0 := hrS 0 _ rfl
          simp only [Nat.zero_add] at c0
          have HW9 := Lib.hid (HV.out.trans (hbS.mono HV.out.size))
          have hX9 : ∀ b, X b → b < wr.heap.size := fun b h => Nat.lt_of_lt_of_le (HO.out.2.1 b h) HV.out.size
          have hY9 := loc1 _ _ _ _ _ _ (To.below hX9 hbS) HY.out.1
          have HSC := Lib.hid HY.out.2
          clear hbS hrS HR HV HY hX9
          generalize wr.heap.size = b10 at *
          clear wr
          as_aux_lemma =>
          cases su with
          | bare nm =>
            obtain ⟨p', hpe, -, hr⟩ := hY9
            cases hpe
            have h1 := fun W => ta_pp p W
            have l0 := hr 0 _ rfl
            simp only [Nat.zero_add] at l0
            clear hr
            cases hh1 : (nm.toList == ([103, 108, 111, 98, 97, 108] : List UInt8)) with
            | true =>
              as_aux_lemma =>
              have HEQ := Lib.hid (any_hit lgC M k kL (any_hit lgU M[k].subs q qL (by rw [← HSC.out]; show lgN nm = true; unfold lgN; rw [hh1]; rfl)))
              clear HSC
              go_wp2_with fail
              go_ret
              exact ⟨by unfold lgM; rw [HEQ.out]; rfl, HW9.out⟩
            | false =>
              cases hh2 : (nm.toList == ([108, 111, 99, 97, 108] : List UInt8)) with
              | true =>
                as_aux_lemma =>
                have HEQ := Lib.hid (any_hit lgC M k kL (any_hit lgU M[k].subs q qL (by rw [← HSC.out]; show lgN nm = true; unfold lgN; rw [hh1, hh2]; rfl)))
                clear HSC
                go_wp2_with fail
                go_ret
                exact ⟨by unfold lgM; rw [HEQ.out]; rfl, HW9.out⟩
              | false =>
                as_aux_lemma =>
                have HEQ := Lib.hid (any_more lgU M[k].subs q qL HQ.out (by rw [← HSC.out]; show lgN nm = false; unfold lgN; rw [hh1, hh2]; rfl))
                clear HSC
                go_wp2_with fail
                exact ⟨⟨q + 1, by omega, by go_num, HEQ, HW9⟩, by simp [intOf]; omega⟩
          | wrap kd M0 =>
            obtain ⟨p', lv, hpe, -, hr, hkd, -⟩ := hY9
            cases hpe
            have h1 := fun W => ta_pl p W
            have h2 := fun W => ta_ll p W
            have l3 := hr 3 _ rfl
            simp only [Nat.zero_add] at l3
            clear hr
            by_cases k0 : kd = 0
            · as_aux_lemma =>
              subst k0
              have HEQ := Lib.hid (any_hit lgC M k kL (any_hit lgU M[k].subs q qL (by rw [← HSC.out]; rfl)))
              clear HSC hkd
              go_wp2_with fail
              go_ret
              exact ⟨by unfold lgM; rw [HEQ.out]; rfl, HW9.out⟩
            · by_cases k3 : kd = 3
              · as_aux_lemma =>
                subst k3
                have HEQ := Lib.hid (any_hit lgC M k kL (any_hit lgU M[k].subs q qL (by rw [← HSC.out]; rfl)))
                clear HSC hkd k0
                go_wp2_with fail
                go_ret
                exact ⟨by unfold lgM; rw [HEQ.out]; rfl, HW9.out⟩
              · as_aux_lemma =>
                have e2 : ((kd : Int) == 0) = false := beq_eq_false_iff_ne.2 (by omega)
                have e3 : ((kd : Int) == 3) = false := beq_eq_false_iff_ne.2 (by omega)
                have HEQ := Lib.hid (any_more lgU M[k].subs q qL HQ.out (by rw [← HSC.out]; show ((kd == 0) || (kd == 3)) = false; rw [beq_eq_false_iff_ne.2 k0, beq_eq_false_iff_ne.2 k3]; rfl))
                clear HSC hkd k0 k3
                go_wp2_with fail
                exact ⟨⟨q + 1, by omega, by go_num, HEQ, HW9⟩, by simp [intOf]; omega⟩
        · as_aux_lemma =>
          obtain rfl : q = m := by omega
          have HEQ := Lib.hid (any_more lgC M k kL HT.out (any_end lgU M[k].subs q HB.out.2.1 HQ.out))
          go_wp2_with fail
          exact ⟨⟨k + 1, by omega, by go_num, HEQ, HV⟩, by simp [intOf]; omega⟩
    · as_aux_lemma =>
      obtain rfl : k = n := by omega
      have HEQ := Lib.hid (any_end lgC M k HO.out.2.2 HT.out)
      go_wp2_with fail
      go_ret
      exact ⟨by unfold lgM; rw [HEQ.out]; rfl, HW.out⟩
end Go.Proofs.Ytbpnmiedomchpaa.Fg
