/-
  processContainerName over a row of tokens.
-/
import Derived.Test.YtppgilppnnliiabDoorHc
import Derived.Deep.MidRow
import Derived.Deep.DeepCutAuto
import Derived.Deep.CutBlock
namespace Go.Proofs.YtppgilppnnliiabDoor.Sy
open Go.ChangeShapes Go.WideShapes Go.ChangeAt Go.RowKit Rg
set_option linter.unusedVariables false
theorem tyTok : ∃ d, Tryd.prog.underlying 42 = some d ∧ d.isRow = true := ⟨_, Tryd.underlying42, rfl⟩
theorem szTok : (Tryd.prog.info? 42).map (·.size) = some 7 := by kernel_rfl
theorem TB.range {w : World} {g i : Nat} {T : List TK} (h : TB w g T) (hi : i < T.length) : w.rangeAt g (i * 7) (tkF T i) := fun j v hv => h.cellAt hi hv
def Sized (T : List TK) : Prop := ∀ i, i < T.length → ((T.getD i tk0).1.size : Int) ≤ 1048576
/-- only identifiers -/
def AllId (T : List TK) (n : Nat) : Prop := ∀ i, i < n → (T.getD i tk0).2.1 = 29
/-- what processContainerName does -/
def PC (n : Nat) (z z' : List TK × SY) : Prop := (AllId z.1 n ∧ z' = stN cC z n) ∨ (¬ AllId z.1 n ∧ z' = z)
theorem PC.len {n : Nat} {z z' : List TK × SY} (h : PC n z z') : z'.1.length = z.1.length := by
  rcases h with ⟨_, rfl⟩ | ⟨_, rfl⟩
  · exact stN_len n
  · rfl
/-- a second pass does nothing -/
theorem PC.again {n : Nat} {z z' z'' : List TK × SY} (hn : z.1.length = n) (h : PC n z z') (h2 : PC n z' z'') : z'' = z' := by
  rcases h2 with ⟨ha, rfl⟩ | ⟨_, rfl⟩
  · rcases h with ⟨hb, rfl⟩ | ⟨hb, rfl⟩
    · have hno : ∀ j, j < n → cC j (z.1.getD j tk0) = false := fun j hj => by
        cases hc : cC j (z.1.getD j tk0) with
        | false => rfl
        | true =>
          have := ha j hj
          rw [stN_at hj (by omega), if_pos hc] at this
          exact absurd (show (39 : Int) = 29 from this) (by decide)
      have e : stN cC z n = z := stN_same n (by omega) hno
      rw [e, e]
    · exact absurd ha hb
  · rfl
def CnP (B : Nat) (X : Nat → Prop) (p : Nat) (ml : Bool) (g n : Nat) (z : List TK × SY) (w : World) (e : Ending) (w' : World) : Prop := e = .returned (.tuple #[]) ∧ ∃ (X' : Nat → Prop) (z' : List TK × SY), PC n z z' ∧ ST B X' p ml g z' w' ∧ GO X g w X' w'
set_option maxRecDepth 100000 in
set_option maxHeartbeats 2000000 in
theorem cn_any {B : Nat} {X : Nat → Prop} (p g n cap : Nat) (ml : Bool) (z : List TK × SY) (w : World) (h : ST B X p ml g z w) (hn : z.1.length = n) (hn2 : n ≤ 1000000) (hb : SBd 1000000 z.2) (hs : Sized z.1) :
    Calls Tryd.prog 13 #[.pointer (some ⟨p, 0, none⟩), .slice (some ⟨g, 0, none⟩) n cap] w (CnP B X p ml g n z w) := by
  have H := Lib.hid h
  have HB := Lib.hid hb
  have HS := Lib.hid hs
  have HN := Lib.hid hn
  obtain ⟨du, hu, hu2⟩ := tyTok
  have HU := Lib.hid hu
  clear h hb hs hn hu
  go_enter Tryd.func13, Tryd.ntmps13
  go_upto_block 0 with fail
  go_cut [] (fun wc => Hid (AllId z.1 n ∧ ST B X p ml g z wc ∧ GO X g w X wc))
  case first =>
    go_wp2_with fail
    go_loopw [9] (fun i wr => ∃ k : Nat, k ≤ n ∧ i = .int .i64 k ∧ Hid (AllId z.1 k ∧ ST B X p ml g z wr ∧ GO X g w X wr)) (fun i _ => n - (intOf i).toNat)
    case atStart => exact ⟨0, Nat.zero_le _, rfl, Lib.hid ⟨fun i hi => by omega, H.out, GO.refl⟩⟩
    case round =>
      clear H
      obtain ⟨k, hk, rfl, HT⟩ := hrel
      by_cases hlt : k < n
      · have q0 : (0 : Int) ≤ k := by omega
        have q1 : (k : Int) < n := by omega
        have hkl : k < z.1.length := by rw [HN.out]; exact hlt
        obtain ⟨⟨s, K, P⟩, he⟩ : ∃ x, z.1.getD k tk0 = x := ⟨_, rfl⟩
        have hr := TB.range HT.out.2.1.tb hkl
        unfold tkF at hr
        rw [he] at hr
        have HL : Hid (wr.rangeAt g (k * 7) [.pointer none, .string s, .int .i32 0, .int .u32 P, .int .u16 0, .int .u8 K, .int .u8 0]) := Lib.hid hr
        have HE := Lib.hid he
        clear hr he hkl
        have hbA : ∀ o, Below wr.heap.size wr (wr.alloc o) := fun o => (Below.refl _ _).alloc (Nat.le_refl _) _
        have HST : Hid (∀ o, ST B X p ml g z (wr.alloc o) ∧ GO X g w X (wr.alloc o)) := Lib.hid fun o => ⟨HT.out.2.1.keep (hbA o), HT.out.2.2.trans (GO.keep (hbA o))⟩
        clear hbA
        by_cases k1 : K = 29
        · subst k1
          have HA : Hid (AllId z.1 (k + 1)) := Lib.hid fun i hi => by
            by_cases e : i = k
            · subst e; rw [HE.out]
            · exact HT.out.1 i (by omega)
          clear HT HE
          go_wp2_with (first | (refine wpList_load_mid rfl 42 _ rfl g (k * 7) rfl _ du HL.out HU.out hu2 szTok ?_))
          exact ⟨⟨k + 1, by omega, by go_num, Lib.hid ⟨HA.out, HST.out _⟩⟩, by simp [intOf]; omega⟩
        · have g1 : (K == 29) = false := by simpa using k1
          have HA : Hid (¬ AllId z.1 n) := Lib.hid fun h => k1 (by have := h k hlt; rw [HE.out] at this; exact this)
          clear HT HE
          go_wp2_with (first | (refine wpList_load_mid rfl 42 _ rfl g (k * 7) rfl _ du HL.out HU.out hu2 szTok ?_))
          (try simp only [Exit.inBlock, Exit.then]); refine bodyPost_ret (results_none rfl _ _ _) rfl ?_
          exact ⟨rfl, X, z, .inr ⟨HA.out, rfl⟩, (HST.out _).1, (HST.out _).2⟩
      · obtain rfl : k = n := by omega
        have q1 : ¬ (k : Int) < k := by omega
        go_wp2_with fail
        go_meet
        exact HT
  case rest =>
  clear H
  have H2 := hcut
  clear hcut
  go_wp2_with fail
  go_loopw [19] (fun i wr => ∃ (k : Nat) (X' : Nat → Prop), k ≤ n ∧ i = .int .i64 k ∧ Hid (ST B X' p ml g (stN cC z k) wr ∧ GO X g w X' wr)) (fun i _ => n - (intOf i).toNat)
  case atStart => exact ⟨0, X, Nat.zero_le _, rfl, Lib.hid H2.out.2⟩
  case round =>
    have HAI := Lib.hid H2.out.1
    clear H2
    obtain ⟨k, X1, hk, rfl, HT⟩ := hrel
    by_cases hlt : k < n
    · have q0 : (0 : Int) ≤ k := by omega
      have q1 : (k : Int) < n := by omega
      have hkl : k < z.1.length := by rw [HN.out]; exact hlt
      have hsz := HS.out k hkl
      have HP : Hid (SBd 2000000 (stN cC z k).2) := Lib.hid ((stN_bd HB.out k).mono (by omega))
      have HQ : Hid (k < (stN cC z k).1.length ∧ (((stN cC z k).1.getD k tk0).1.size : Int) ≤ 1048576) := Lib.hid ⟨by rw [stN_len]; exact hkl, by rw [stN_later k (Nat.le_refl k)]; exact hsz⟩
      clear hkl hsz
      go_wp2_with fail
      refine (hc_any p g k ml _ _ HT.out.1 HQ.out.1 HP.out HQ.out.2).mono ?_
      rintro e w3 ⟨rfl, X3, h1, h2⟩
      have HT3 : Hid (ST B X3 p ml g (stN cC z (k + 1)) w3 ∧ GO X g w X3 w3) := Lib.hid ⟨h1, HT.out.2.trans h2⟩
      clear h1 h2 HT HP HQ
      go_wp2_with fail
      exact ⟨⟨k + 1, X3, by omega, by go_num, HT3⟩, by simp [intOf]; omega⟩
    · obtain rfl : k = n := by omega
      have q1 : ¬ (k : Int) < k := by omega
      go_wp2_with fail
      go_end0
      exact ⟨rfl, X1, stN cC z _, Or.inl ⟨HAI.out, rfl⟩, HT.out.1, HT.out.2⟩
end Go.Proofs.YtppgilppnnliiabDoor.Sy
