/-
  processAnimationName over a row of tokens.
-/
import Derived.Test.YtppgilppnnliiaaDoorHs
import Derived.Deep.MidRow
import Derived.Deep.DeepCutAuto
import Derived.Deep.CutBlock
namespace Go.Proofs.YtppgilppnnliiaaDoor.Sy
open Go.ChangeShapes Go.WideShapes Go.ChangeAt Go.RowKit Rg
set_option linter.unusedVariables false
theorem tyTok : ∃ d, Tryd.prog.underlying 39 = some d ∧ d.isRow = true := ⟨_, Tryd.underlying39, rfl⟩
theorem szTok : (Tryd.prog.info? 39).map (·.size) = some 7 := by kernel_rfl
theorem TB.range {w : World} {g i : Nat} {T : List TK} (h : TB w g T) (hi : i < T.length) : w.rangeAt g (i * 7) (tkF T i) := fun j v hv => h.cellAt hi hv
/-- token k of a row that is worked through up to k -/
theorem ST.tok {B p g k : Nat} {X : Nat → Prop} {ml : Bool} {c : Nat → TK → Bool} {z : List TK × SY} {w : World} {s : ByteArray} {K P : Int} (h : ST B X p ml g (stN c z k) w) (hk : k < z.1.length) (he : z.1.getD k tk0 = (s, K, P)) :
    w.rangeAt g (k * 7) [.pointer none, .string s, .int .i32 0, .int .u32 P, .int .u16 0, .int .u8 K, .int .u8 0] := by
  have := TB.range h.tb (i := k) (by rw [stN_len]; exact hk)
  unfold tkF at this
  rw [stN_later k (Nat.le_refl k), he] at this
  exact this
/-- what processAnimationName turns into a symbol -/
def cN (ml : Bool) (j : Nat) (x : TK) : Bool := (decide (x.2.1 = 29) || decide (x.2.1 = 36)) && cA ml j x
def Sized (T : List TK) : Prop := ∀ i, i < T.length → ((T.getD i tk0).1.size : Int) ≤ 1048576
set_option maxRecDepth 100000 in
set_option maxHeartbeats 2000000 in
theorem an_any {B : Nat} {X : Nat → Prop} (p g n cap : Nat) (ml : Bool) (z : List TK × SY) (w : World) (h : ST B X p ml g z w) (hn : z.1.length = n) (hn2 : n ≤ 1000000) (hb : SBd 1000000 z.2) (hs : Sized z.1) :
    Calls Tryd.prog 16 #[.pointer (some ⟨p, 0, none⟩), .slice (some ⟨g, 0, none⟩) n cap] w fun e w' => e = .returned (.tuple #[]) ∧ ∃ X' : Nat → Prop, ST B X' p ml g (stN (cN ml) z n) w' ∧ GO X g w X' w' := by
  have H := Lib.hid h
  have HB := Lib.hid hb
  have HS := Lib.hid hs
  have HN := Lib.hid hn
  obtain ⟨du, hu, hu2⟩ := tyTok
  have HU := Lib.hid hu
  clear h hb hs hn hu
  go_enter Tryd.func16, Tryd.ntmps16
  go_wp2_with fail
  go_loopw [8] (fun i wr => ∃ (k : Nat) (X' : Nat → Prop), k ≤ n ∧ i = .int .i64 k ∧ Hid (ST B X' p ml g (stN (cN ml) z k) wr ∧ GO X g w X' wr)) (fun i _ => n - (intOf i).toNat)
  case atStart => exact ⟨0, X, Nat.zero_le _, rfl, Lib.hid ⟨H.out, GO.refl⟩⟩
  case round =>
    clear H
    obtain ⟨k, X1, hk, rfl, HT⟩ := hrel
    by_cases hlt : k < n
    · have q0 : (0 : Int) ≤ k := by omega
      have q1 : (k : Int) < n := by omega
      have hkl : k < z.1.length := by rw [HN.out]; exact hlt
      obtain ⟨⟨s, K, P⟩, he⟩ : ∃ x, z.1.getD k tk0 = x := ⟨_, rfl⟩
      have HL := Lib.hid (HT.out.1.tok hkl he)
      have hsz := HS.out k hkl
      rw [he] at hsz
      have hd : (stN (cN ml) z k).1.getD k tk0 = (s, K, P) := (stN_later k (Nat.le_refl k)).trans he
      have HD := Lib.hid hd
      have HP : Hid (SBd 2000000 (stN (cN ml) z k).2) := Lib.hid ((stN_bd HB.out k).mono (by omega))
      have HQ : Hid (k < (stN (cN ml) z k).1.length ∧ (((stN (cN ml) z k).1.getD k tk0).1.size : Int) ≤ 1048576) := Lib.hid ⟨by rw [stN_len]; exact hkl, by rw [hd]; exact hsz⟩
      clear hkl he hsz hd
      go_upto_region 3 with (first | (refine wpList_load_mid rfl 39 _ rfl g (k * 7) rfl _ du HL.out HU.out hu2 szTok ?_))
      have hbA : ∀ o, Below wr.heap.size wr (wr.alloc o) := fun o => (Below.refl _ _).alloc (Nat.le_refl _) _
      have HST : Hid (∀ o, ST B X1 p ml g (stN (cN ml) z k) (wr.alloc o) ∧ GO X g w X1 (wr.alloc o)) := Lib.hid fun o => ⟨HT.out.1.keep (hbA o), HT.out.2.trans (GO.keep (hbA o))⟩
      clear hbA HL HT
      by_cases hc : K = 29 ∨ K = 36
      · have HG : Hid (stN (cN ml) z (k + 1) = stp (cA ml) k (stN (cN ml) z k)) := Lib.hid (by
          rw [stN]
          refine stp_congr ?_
          rw [HD.out]
          unfold cN
          rcases hc with rfl | rfl
          · rfl
          · rfl)
        rcases hc with rfl | rfl
        all_goals
          go_wp2_with fail
          refine (ha_any p g k ml _ _ (HST.out _).1 HQ.out.1 HP.out HQ.out.2).mono ?_
          rintro e w3 ⟨rfl, X3, h1, h2⟩
          rw [← HG.out] at h1
          have HT3 := Lib.hid (And.intro h1 ((HST.out _).2.trans h2))
          clear h1 h2 HST HP HQ
          go_wp2_with fail
          exact ⟨⟨k + 1, X3, by omega, by go_num, HT3⟩, by simp [intOf]; omega⟩
      · have k1 : ¬ K = 29 := fun e => hc (.inl e)
        have k2 : ¬ K = 36 := fun e => hc (.inr e)
        have HG : Hid (stN (cN ml) z (k + 1) = stN (cN ml) z k) := Lib.hid (by
          rw [stN]
          refine stp_not ?_
          rw [HD.out]
          unfold cN
          rw [decide_eq_false k1, decide_eq_false k2]
          rfl)
        clear hc
        have g1 : (K == 29) = false := by simpa using k1
        have g2 : (K == 36) = false := by simpa using k2
        go_wp2_with fail
        refine ⟨⟨k + 1, X1, by omega, by go_num, Lib.hid ?_⟩, by simp [intOf]; omega⟩
        rw [HG.out]
        exact HST.out _
    · obtain rfl : k = n := by omega
      have q1 : ¬ (k : Int) < k := by omega
      go_wp2_with fail
      go_end0
      exact ⟨rfl, X1, HT.out.1, HT.out.2⟩
end Go.Proofs.YtppgilppnnliiaaDoor.Sy
