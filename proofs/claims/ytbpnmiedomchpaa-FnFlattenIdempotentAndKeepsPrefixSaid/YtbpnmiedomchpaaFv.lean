/-
  A number's digits are appended.
-/
import Derived.Test.YtbpnmiedomchpaaFu
namespace Go.Proofs.Ytbpnmiedomchpaa.Fg
open Go.ChangeShapes Go.WideShapes Go.ChangeAt Go.RowKit Rg
set_option linter.unusedVariables false
set_option linter.unusedSimpArgs false
/-- a row has grown: nothing else has changed -/
def Gr (v : Value) (W W' : World) : Prop := Fr (fun k => some k = v.ownBlock) W W'
theorem bc_one {l : List UInt8} {u : Value} (h : u ∈ Lib.byteCells l) : u.oneCell' = true := by
  obtain ⟨b, -, rfl⟩ := List.mem_map.1 h
  rfl
theorem infoU8 : (Try.prog.info? 5).map (fun i => (i.zero, i.size, i.bytes)) = some (some (.int .u8 0), 1, 1) := by kernel_rfl
theorem sl_arr (g i : Nat) (hi : i < 20) (W : World) : (Instr.sliceAt 151 (.pointer (some ⟨g, 0, none⟩)) (some (.int .i64 (i : Nat))) none none).run Try.prog W = .ok (.slice (some ⟨g, i, none⟩) (20 - i) (20 - i)) W := by
  obtain ⟨i0, h0, -, hz1, -⟩ := info_parts infoU8
  have h1 : (i : Int) ≤ 20 := by omega
  have h2 : ¬ (20 = i) := by omega
  have h3 : i ≤ 20 := by omega
  by_cases e : i = 0
  · subst e
    simp [Instr.sliceAt, run_underlying Try.underlying151, Instr.sureAddr, Instr.sliceBounds, Instr.sliceBound, asIntOf, sizeOf, typeInfo, h0, hz1, Addr.add]
  · simp [Instr.sliceAt, run_underlying Try.underlying151, Instr.sureAddr, Instr.sliceBounds, Instr.sliceBound, asIntOf, sizeOf, typeInfo, h0, hz1, h1, h2, h3, e, Addr.add]
/-- the digits so far, in their array -/
structure Dgs (w : World) (bd n : Nat) (i m : Nat) (wr : World) : Prop where
  bel : Below w.heap.size w wr
  thr : wr.there bd 0 20
  big : w.heap.size ≤ bd
  acc : ∃ (s : Nat) (l : List UInt8), i + l.length = 20 ∧ m < 2 ^ s ∧ s + l.length = 16 ∧ (0 < m ∨ l = []) ∧ dg n = dg m ++ l ∧ wr.rangeAt bd i (Lib.byteCells l)
theorem Dgs.step {w wr : World} {bd n i m : Nat} (h : Dgs w bd n (i + 1) m wr) : 2 ≤ i ∧ (∃ u, wr.cell? ⟨bd, i, none⟩ = some u) ∧ wr.frozen? ⟨bd, i, none⟩ = false ∧
    (¬ m < 10 → Dgs w bd n i (m / 10) (wr.setCell ⟨bd, i, none⟩ (.int .u8 (48 + m % 10 : Nat)))) ∧
    (m < 10 → Below w.heap.size w (wr.setCell ⟨bd, i, none⟩ (.int .u8 (48 + m % 10 : Nat))) ∧ (wr.setCell ⟨bd, i, none⟩ (.int .u8 (48 + m % 10 : Nat))).rangeAt bd i (Lib.byteCells (dg n)) ∧ i + (dg n).length = 20) := by
  obtain ⟨s, l, h1, h2, h3, h4, h5, h6⟩ := h.acc
  have hcell : ((48 + m % 10 : Nat) : Int) = ((UInt8.ofNat (48 + m % 10)).toNat : Int) := by
    rw [UInt8.toNat_ofNat']
    have : (48 + m % 10) % 2 ^ 8 = 48 + m % 10 := by omega
    rw [this]
  have hn := h5
  have hi : 2 ≤ i := by
    rcases h4 with h4 | h4
    · have : s ≠ 0 := fun e => by rw [e] at h2; simp at h2; omega
      omega
    · rw [h4] at h1; simp at h1; omega
  have ht := h.thr i (by omega)
  simp only [Nat.zero_add] at ht
  have hr : (wr.setCell ⟨bd, i, none⟩ (.int .u8 (48 + m % 10 : Nat))).rangeAt bd i (Lib.byteCells (UInt8.ofNat (48 + m % 10) :: l)) := fun j u hj => by
    cases j with
    | zero =>
      have : u = .int .u8 (48 + m % 10 : Nat) := by
        rw [hcell]
        simpa [Lib.byteCells] using hj.symm
      rw [this]
      exact set_same ht.1
    | succ j =>
      have h7 := h6 j u (by simpa [Lib.byteCells] using hj)
      rw [show i + (j + 1) = i + 1 + j by omega]
      exact set_far (by omega) h7
  refine ⟨hi, Option.isSome_iff_exists.1 ht.1, ht.2, fun hm => ?_, fun hm => ⟨h.bel.setCell (by show w.heap.size ≤ bd; exact h.big) _, ?_, ?_⟩⟩
  · refine ⟨h.bel.setCell (by show w.heap.size ≤ bd; exact h.big) _, th_set h.thr, h.big, ⟨s - 1, UInt8.ofNat (48 + m % 10) :: l, by simp; omega, ?_, ?_, .inl (by omega), ?_, hr⟩⟩
    · have hs : s ≠ 0 := fun e => by rw [e] at h2; simp at h2; omega
      obtain ⟨s', rfl⟩ : ∃ s', s = s' + 1 := ⟨s - 1, by omega⟩
      rw [Nat.pow_succ] at h2
      simp only [Nat.add_sub_cancel]
      omega
    · have hs : s ≠ 0 := fun e => by rw [e] at h2; simp at h2; omega
      simp
      omega
    · rw [hn, dg_hi hm]
      simp
  · have hdm : dg n = UInt8.ofNat (48 + m % 10) :: l := by
      rw [hn, dg_lo hm, Nat.mod_eq_of_lt hm]
      rfl
    rw [hdm]
    exact hr
  · rw [hn, dg_lo hm]
    simp
    omega
set_option maxRecDepth 100000 in
set_option maxHeartbeats 8000000 in
theorem apd_any (D : Nat) (v : Value) (l : List UInt8) (n : Nat) (w : World) (hn : n ≤ 65535) (ho : Bf D v l w) (hl : l.length ≤ 1099511627776) (hD : D ≤ w.heap.size) :
    Calls Try.prog 38 #[v, .int .i64 (n : Nat)] w (fun e w' => ∃ v', e = .returned v' ∧ Bf D v' (l ++ dg n) w' ∧ Below D w w' ∧ Gr v w w') := by
  obtain ⟨va, vc, rfl⟩ := own_slice ho
  obtain ⟨i0, hi, hz0, hz1, hz2⟩ := info_parts infoU8
  have HK := Lib.hid (And.intro hi (And.intro hz0 (And.intro hz1 hz2)))
  clear hi hz0 hz1 hz2
  have q0 : ¬ (n : Int) < 0 := by omega
  obtain ⟨L, hL⟩ : ∃ L, L = l.length := ⟨_, rfl⟩
  unfold Bf at ho
  rw [← hL] at hl ho ⊢
  have HO := Lib.hid (And.intro ho (And.intro hL hD))
  clear ho hL hD
  go_enter Try.func38, Try.ntmps38
  go_upto_block 0 with fail
  have hb1 : Below w.heap.size w (w.alloc (.cells #[.int .u8 0, .int .u8 0, .int .u8 0, .int .u8 0, .int .u8 0, .int .u8 0, .int .u8 0, .int .u8 0, .int .u8 0, .int .u8 0, .int .u8 0, .int .u8 0, .int .u8 0, .int .u8 0, .int .u8 0, .int .u8 0, .int .u8 0, .int .u8 0, .int .u8 0, .int .u8 0] 151)) := (Below.refl _ _).alloc (Nat.le_refl _) _
  have ht1 := th_new w #[.int .u8 0, .int .u8 0, .int .u8 0, .int .u8 0, .int .u8 0, .int .u8 0, .int .u8 0, .int .u8 0, .int .u8 0, .int .u8 0, .int .u8 0, .int .u8 0, .int .u8 0, .int .u8 0, .int .u8 0, .int .u8 0, .int .u8 0, .int .u8 0, .int .u8 0, .int .u8 0] 151 (n := 20) rfl
  generalize w.alloc _ = w1 at *
  obtain ⟨bd, hbd⟩ : ∃ b, b = w.heap.size := ⟨_, rfl⟩
  rw [← hbd] at ht1 ⊢
  have HST := Lib.hid (show Dgs w bd n 20 n w1 from ⟨hb1, ht1, by omega, 16, [], by simp, by omega, by simp, .inr rfl, by simp, fun j u hj => by simp [Lib.byteCells] at hj⟩)
  clear hb1 ht1 hbd
  refine wp_block ?_
  go_loopw [1, 6] (fun mv iv wr => ∃ (m i : Nat), mv = .int .i64 m ∧ iv = .int .i64 i ∧ 1 ≤ i ∧ i ≤ 20 ∧ m ≤ 65535 ∧ Hid (Dgs w bd n i m wr)) (fun _ iv _ => (intOf iv).toNat)
  case atStart => exact ⟨n, 20, rfl, rfl, by omega, by omega, hn, HST⟩
  case round =>
    clear HST
    obtain ⟨m, i, rfl, rfl, hi1, hi20, hm4, HR⟩ := hrel
    obtain ⟨i', rfl⟩ : ∃ i', i = i' + 1 := ⟨i - 1, by omega⟩
    obtain ⟨hi2, ⟨u, hu⟩, hf, hgo, hend⟩ := HR.out.step
    obtain ⟨uv, huv⟩ : ∃ x, x = Value.int .u8 (48 + m % 10 : Nat) := ⟨_, rfl⟩
    have e1 : (((i' + 1 : Nat) : Int) - 1) = i' := by omega
    have e2 : ((i' : Int) == 0) = false := beq_eq_false_iff_ne.2 (by omega)
    have e3 : (0 : Int) ≤ i' := by omega
    have e4 : (i' : Int) < 20 := by omega
    have hc8 : ((48 + m % 10 : Nat) : Int) = 48 + (m : Int) % 10 := by omega
    rw [hc8] at hgo hend
    by_cases h10 : m < 10
    · as_aux_lemma =>
      obtain ⟨hb, hr, hlen⟩ := hend h10
      have hsl := fun W => sl_arr bd i' (by omega) W
      have hown := own_keep HO.out.1 hb
      have HFA := Lib.hid (And.intro hb (And.intro hr (And.intro hlen hown)))
      clear hgo hend hc8 hb hr hlen hown HR
      go_wp2_with (at_builtin
                   refine wpl_appR rfl (.tmp 25) (.tmp 27) _ rfl D 5 i0 (.int .u8 0) 1 1 Try.underlying22 HK.out.1 HK.out.2.1 HK.out.2.2.1 HK.out.2.2.2 rfl (by omega) (.slice va L vc) L (Lib.byteCells l) (show _ = _ from rfl) HFA.out.2.2.2 (some ⟨bd, i', none⟩) (20 - i') (20 - i') (Lib.byteCells (dg n)) (show _ = _ from rfl) (by rw [Lib.byteCells, List.length_map]; have := HFA.out.2.2.1; omega) (fun h => by cases h) (fun aa haa => by cases haa; intro j u hj; rw [add_at]; exact HFA.out.2.1 j u hj) (fun u hu => bc_one hu) (by unfold maxLen; omega) (by omega) (Nat.le_trans HO.out.2.2 HFA.out.1.size) ?_
                   intro v8 w8 hown8 hgrow8 hat8
                   have HST := Lib.hid (And.intro hown8 (And.intro hgrow8 hat8))
                   clear hown8 hgrow8 hat8)
      go_ret
      refine ⟨_, rfl, ?_, (HFA.out.1.mono HO.out.2.2).grown HST.out.2.1 (Nat.le_trans HO.out.2.2 HFA.out.1.size) (fun k hk => (HO.out.1.lt k hk).1), (Fr.new HFA.out.1).trans (Fr.ofGrown HST.out.2.1 (fun k q => q))⟩
      have h1 := HST.out.1
      unfold Bf
      rw [List.length_append, ← HO.out.2.1, show (dg n).length = 20 - i' by have := HFA.out.2.2.1; omega]
      simpa [Lib.byteCells] using h1
    · as_aux_lemma =>
      have HN := Lib.hid (hgo h10)
      clear hgo hend hc8
      go_wp2_with fail
      exact ⟨⟨m / 10, i', by go_num, rfl, by omega, by omega, by omega, HN⟩, by simp [intOf]⟩
end Go.Proofs.Ytbpnmiedomchpaa.Fg
