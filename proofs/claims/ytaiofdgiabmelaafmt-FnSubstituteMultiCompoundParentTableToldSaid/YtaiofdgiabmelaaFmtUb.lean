/-
  substituteAmpersandsInCompoundSelector at a compound without '&' and with plain pseudo-classes.
-/
import Derived.Test.YtaiofdgiabmelaaFmtUa
import Derived.Test.YtaiofdgiabmelaaFmtPn
import Derived.Deep.DeepCutAuto
import Derived.Deep.CutBlock
import Derived.LoopN
import Derived.StillTailTactics
import Derived.Laws.Rows
namespace Go.Proofs.YtaiofdgiabmelaaFmt.Sb
open Go.ChangeShapes Go.WideShapes Go.ChangeAt Go.RowKit Rg
set_option linter.unusedVariables false
abbrev ownC (w : World) (B : Nat) (v : Value) (n : Nat) (xs : List Value) : Prop := w.ownsRow B 41 6 v n xs
/-- what an append of one compound leaves -/
def AppC (B n : Nat) (v : Value) (zs : List Value) (w : World) (e : Ending) (w' : World) : Prop :=
  ∃ g c, e = .returned (.slice (some ⟨g, 0, none⟩) (n + 1) c) ∧ ownC w' B (.slice (some ⟨g, 0, none⟩) (n + 1) c) (n + 1) zs ∧ w.grownBy w' v.ownBlock ∧ (v.ownBlock = some g ∨ w.heap.size ≤ g)
set_option maxRecDepth 100000 in
set_option maxHeartbeats 8000000 in
theorem sub0_any (pp : Nat) (fn : Value) (vs : Value) (an : Option Addr) (cn : Nat) (cb : Int) (N : List ByteArray) (X : Nat → Prop) (v : Value) (n B : Nat) (xs : List Value) (st : Int) (w : World) (hn : n ≤ 4194304) (hB : B ≤ w.heap.size)
    (hX : ∀ b, X b → b < w.heap.size) (hs : FSub X w vs N) (hr : ownC w B v n xs) :
    Calls Tryf.prog 17 #[.pointer (some ⟨pp, 0, none⟩), .agg #[.pointer none, vs, .slice an 0 cn, .int .i32 0, .int .u8 cb, .bool false], fn, v, .int .u8 st] w (AppC B n v (xs ++ cmc vs (.slice none 0 0) cb) w) := by
  obtain ⟨P, ho, hP, hPX, hPp⟩ := hs
  obtain ⟨a, c, rfl⟩ := own_slice ho
  obtain ⟨ra, rc, rfl⟩ := own_slice hr
  obtain ⟨m, hm⟩ : ∃ m, m = P.length := ⟨_, rfl⟩
  have HM := Lib.hid hm
  have HO := Lib.hid (And.intro ho (And.intro hPX hPp))
  have HR := Lib.hid (And.intro hr hX)
  have HB := Lib.hid hB
  rw [← hm]
  clear ho hP hPX hPp hr hX hm
  go_enter Tryf.func17, Tryf.ntmps17
  go_wp2_with fail
  refine wp_loop_rounds 1 ?_
  rw [rounds_succ]
  go_wp2_with fail
  have HW := Lib.hid (show (w.alloc (.cells #[.pointer none, .slice a m c, .slice none 0 0, .int .i32 0, .int .u8 cb, .bool false] 41)).rangeAt w.heap.size 0 (cmc (.slice a m c) (.slice none 0 0) cb) ∧ Below w.heap.size w (w.alloc (.cells #[.pointer none, .slice a m c, .slice none 0 0, .int .i32 0, .int .u8 cb, .bool false] 41)) from ⟨rg_new w #[.pointer none, .slice a m c, .slice none 0 0, .int .i32 0, .int .u8 cb, .bool false] 41, (Below.refl _ _).alloc (Nat.le_refl _) _⟩)
  generalize w.alloc _ = w1 at *
  obtain ⟨bx, hbx⟩ : ∃ bx, bx = w.heap.size := ⟨_, rfl⟩
  rw [← hbx] at HW ⊢
  have HBX := Lib.hid hbx
  clear hbx
  go_loopw [147] (fun i wr => ∃ (k : Nat), k ≤ m ∧ i = .int .i64 k ∧ Hid (wr.rangeAt bx 0 (cmc (.slice a m c) (.slice none 0 0) cb) ∧ Below bx w wr)) (fun i _ => m - (intOf i).toNat)
  case atStart => exact ⟨0, Nat.zero_le _, rfl, HW⟩
  case round =>
    clear HW
    obtain ⟨k, hk, rfl, HW⟩ := hrel
    by_cases hlt : k < m
    · as_aux_lemma =>
      have hmm : m ≤ maxLen := by rw [HM.out]; exact own_le HO.out.1
      unfold maxLen at hmm
      have q0 : (0 : Int) ≤ k := by omega
      have q1 : (k : Int) < m := by omega
      have kl : k < P.length := by have := HM.out; omega
      obtain ⟨g, cg, hve, -, -⟩ := HO.out.1.form (by omega)
      simp only [Value.slice.injEq] at hve
      obtain ⟨rfl, hx1, rfl⟩ := hve
      clear hx1
      have hb0 : Below w.heap.size w wr := by have h := HW.out.2; rw [HBX.out] at h; exact h
      have r0 := own_range (f := spc) (s := 3) (L := P) (own_keep HO.out.1 hb0) (fun x => rfl) kl
      obtain ⟨p, hp⟩ : ∃ p, p = (P[k]).1 := ⟨_, rfl⟩
      have r1 : wr.rangeAt g (k * 3) (sbc p) := by rw [hp]; exact r0
      have d0 := r1 0 _ rfl
      have d1 := r1 1 _ rfl
      have d2 := r1 2 _ rfl
      simp only [Nat.add_zero] at d0
      have hta := fun W => ta_no p W
      clear r0 r1 hb0 hp kl
      go_wp2_with fail
      have hal : Below wr.heap.size wr (wr.alloc (.cells #[.iface 124 (.pointer (some ⟨p, 0, none⟩)), .int .i32 0, .int .i32 0] 56)) := (Below.refl _ _).alloc (Nat.le_refl _) _
      exact ⟨⟨k + 1, by omega, by go_num, Lib.hid ⟨rg_keep hal HW.out.1, HW.out.2.trans (hal.mono (by have := HW.out.2.size; have := HBX.out; omega))⟩⟩, by simp [intOf]; omega⟩
    · as_aux_lemma =>
      obtain rfl : k = m := by omega
      obtain ⟨i0, hi, hz0, hz1, hz2⟩ := info_parts infoCmp
      have HI := Lib.hid (And.intro hi (And.intro hz0 (And.intro hz1 hz2)))
      obtain ⟨dC, hC, hC2⟩ := tyCmp
      have hb0 : Below w.heap.size w wr := by have h := HW.out.2; rw [HBX.out] at h; exact h
      have HRW := Lib.hid (And.intro (own_keep HR.out.1 hb0) (And.intro hb0 (Nat.le_trans HB.out hb0.size)))
      have HO2 := Lib.hid (HRW.out.1.alloc (.cells #[.pointer none, .slice a k c, .slice none 0 0, .int .i32 0, .int .u8 cb, .bool false] 41))
      clear hi hz0 hz1 hz2 hb0
      go_wp2_with (first
        | (refine wpList_load_mid rfl 41 _ rfl bx 0 rfl (cmc (.slice a k c) (.slice none 0 0) cb) dC HW.out.1 hC hC2 szCmp ?_)
        | (refine wpl_bs1 rfl 31 (.tmp 202) rfl _ _ _ ?hx (bs_cmp a none k c 0 0 cb wr) ?_; case hx => (show _ = _; rfl))
        | (at_builtin
           refine wpList_append_lies _ rfl (.tmp 201) (.tmp 203) _ rfl B 41 i0 _ 6 72 Tryf.underlying31 HI.out.1 HI.out.2.1 HI.out.2.2.1 HI.out.2.2.2 rfl (by omega) (.slice ra n rc) n xs (by rfl) HO2.out ⟨wr.heap.size, 0, none⟩ 1 1 (cmc (.slice a k c) (.slice none 0 0) cb) (by rfl) (by rfl) (World.news_of_block (heap_alloc_new wr _)) (cmc_one _ _ _ _ _ _ _) (by omega) (by unfold maxLen; omega) (by omega) (by have := HRW.out.2.2; simp; omega) (wr.heap.size + 1) (by simp) ?_
           intro g2 cap w3 hown hgrow hat hlt3))
      go_ret
      refine ⟨g2, cap, rfl, hown, ?_, ?_⟩
      · exact ((grown_below HRW.out.2.1 _).trans (grown_alloc wr _ _)).trans hgrow
      · rcases hat with h | h
        · exact .inl h
        · right
          have := HRW.out.2.1.size
          omega
end Go.Proofs.YtaiofdgiabmelaaFmt.Sb
