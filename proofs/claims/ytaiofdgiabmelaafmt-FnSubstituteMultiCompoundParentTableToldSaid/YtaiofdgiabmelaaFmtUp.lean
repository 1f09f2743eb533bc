/-
  The sums of lengths.
-/
import Derived.Test.YtaiofdgiabmelaaFmtUo
namespace Go.Proofs.YtaiofdgiabmelaaFmt.Sb
open Go.ChangeShapes Go.WideShapes Go.ChangeAt Go.RowKit Rg
set_option linter.unusedVariables false
set_option linter.unusedSimpArgs false
set_option maxRecDepth 100000 in
set_option maxHeartbeats 4000000 in
theorem cby_any (X : Nat → Prop) (cb : Int) (am : Nat) (u : Value) (N : List ByteArray) (w : World) (hl : N.length ≤ 1048576) (hX : ∀ b, X b → b < w.heap.size) (hu : NmV X w u N) :
    Calls Tryf.prog 14 #[.agg #[.int .u8 cb, .int .u8 (am : Nat), u]] w (fun e w' => (∃ s : Int, e = .returned (.int .i64 s)) ∧ Below w.heap.size w w') := by
  obtain ⟨a, c, rfl, hn⟩ := hu
  obtain ⟨n, hnn⟩ : ∃ n, n = N.length := ⟨_, rfl⟩
  have HU := Lib.hid (And.intro hn (And.intro hX hnn))
  rw [← hnn] at hl ⊢
  clear hn hX hnn
  go_enter Tryf.func14, Tryf.ntmps14
  go_upto_block 0 with fail
  have h1 : Below w.heap.size w (w.alloc (.cells #[.int .u8 cb, .int .u8 (am : Nat), .slice a n c] 24)) := (Below.refl _ _).alloc (Nat.le_refl _) _
  have r1 := rg_new w #[.int .u8 cb, .int .u8 (am : Nat), .slice a n c] 24 2 _ rfl
  generalize w.alloc _ = x1 at *
  obtain ⟨b1, hb1⟩ : ∃ b, b = w.heap.size := ⟨_, rfl⟩
  rw [← hb1] at r1 ⊢
  rw [Nat.zero_add] at r1
  have H1 := Lib.hid h1
  clear hb1 h1
  refine wp_block ?_
  go_loopw [3, 4] (fun t i wr => ∃ (k : Nat) (s : Int), k ≤ n ∧ i = .int .i64 (k : Nat) ∧ t = .int .i64 s ∧ wr = x1) (fun _ i _ => n - (intOf i).toNat)
  case atStart => exact ⟨0, 24, Nat.zero_le _, rfl, rfl, rfl⟩
  case round =>
    obtain ⟨k, s, hk, rfl, rfl, hwr⟩ := hrel
    subst hwr
    by_cases hlt : k < n
    · as_aux_lemma =>
      have q0 : (0 : Int) ≤ k := by omega
      have q1 : (k : Int) < (n : Nat) := by omega
      have kN : k < N.length := by have := HU.out.2.2; omega
      obtain ⟨g, o, rfl, hXg, hcell⟩ := HU.out.1 k kN
      have c1 := later H1.out hcell
      generalize N[k] = nm at *
      clear hcell hXg
      go_wp2_with fail
      exact ⟨⟨k + 1, _, by omega, by go_num, rfl, trivial⟩, by simp [intOf]; omega⟩
    · as_aux_lemma =>
      have hkn : n = k := by omega
      subst hkn
      go_wp2_with fail
      go_ret
      exact ⟨⟨s, rfl⟩, H1.out⟩
set_option maxRecDepth 100000 in
set_option maxHeartbeats 4000000 in
theorem csb_any (X : Nat → Prop) (u : Value) (L : List Cm) (w : World) (hL : L.length ≤ 1048576) (h0 : ∀ c ∈ L, c.am ≤ 255 ∧ c.N.length ≤ 1048576) (hX : ∀ b, X b → b < w.heap.size) (hu : CmV X w u L) :
    Calls Tryf.prog 15 #[u] w (fun e w' => (∃ s : Int, e = .returned (.int .i64 s)) ∧ Below w.heap.size w w') := by
  obtain ⟨a, c, rfl, hn⟩ := hu
  have HU := Lib.hid (And.intro hn (And.intro hX h0))
  obtain ⟨n, hnn⟩ : ∃ n, n = L.length := ⟨_, rfl⟩
  have HN := Lib.hid hnn
  rw [← hnn] at hL ⊢
  clear hn hX hnn h0
  obtain ⟨dI, hI, hI2⟩ := tyIc
  go_enter Tryf.func15, Tryf.ntmps15
  go_upto_block 0 with fail
  refine wp_block ?_
  go_loopw [3, 4] (fun t i wr => ∃ (k : Nat) (s : Int), k ≤ n ∧ i = .int .i64 (k : Nat) ∧ t = .int .i64 s ∧ Hid (Below w.heap.size w wr)) (fun _ i _ => n - (intOf i).toNat)
  case atStart => exact ⟨0, 0, Nat.zero_le _, rfl, rfl, Lib.hid (Below.refl _ _)⟩
  case round =>
    obtain ⟨k, s, hk, rfl, rfl, HV⟩ := hrel
    by_cases hlt : k < n
    · as_aux_lemma =>
      have q0 : (0 : Int) ≤ k := by omega
      have q1 : (k : Int) < (n : Nat) := by omega
      have kL : k < L.length := by have := HN.out; omega
      obtain ⟨g, o, u, rfl, hXg, hrg, hnm⟩ := HU.out.1 k kL
      have h00 := HU.out.2.2 _ (List.getElem_mem kL)
      obtain ⟨m, hm⟩ : ∃ m, m = L[k] := ⟨_, rfl⟩
      rw [← hm] at hrg hnm h00
      obtain ⟨cb, am, N⟩ := m
      dsimp only at hrg hnm h00
      have HRG := Lib.hid (rg_ag (HV.out.block g (HU.out.2.1 g hXg)) hrg)
      have HNM := Lib.hid (And.intro (hnm.ag (ag_below HU.out.2.1 HV.out)) h00)
      clear hrg hnm hXg h00 hm
      go_upto_region 5 with fail
      go_wp2_with (first
        | (refine wpList_load_mid rfl 24 _ rfl g (o + k * 3) rfl [.int .u8 cb, .int .u8 (am : Nat), u] dI HRG.out hI hI2 szIc ?_))
      refine (cby_any X cb am u N wr HNM.out.2.2 (fun b h => Nat.lt_of_lt_of_le (HU.out.2.1 b h) HV.out.size) HNM.out.1).mono ?_
      rintro e w6 ⟨⟨s2, rfl⟩, hb⟩
      have HF := Lib.hid (HV.out.trans (hb.mono HV.out.size))
      clear hb
      go_wp2_with fail
      exact ⟨⟨k + 1, _, by omega, by go_num, rfl, HF⟩, by simp [intOf]; omega⟩
    · as_aux_lemma =>
      have hkn : n = k := by omega
      subst hkn
      go_wp2_with fail
      go_ret
      exact ⟨⟨s, rfl⟩, HV.out⟩
end Go.Proofs.YtaiofdgiabmelaaFmt.Sb
