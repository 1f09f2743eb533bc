/-
  complexSelectorTermCount, compoundSelectorTermCount over trees.
-/
import Derived.Test.YtgdodkfbobhfoaaTt
namespace Go.Proofs.Ytgdodkfbobhfoaa.Tr
open Go.ChangeShapes Go.WideShapes Go.ChangeAt Go.RowKit Rg
set_option linter.unusedVariables false
theorem sumN_le (f : Nat → Nat) : ∀ n k, k ≤ n → sumN f k ≤ sumN f n
  | 0, k, h => by obtain rfl : k = 0 := by omega
                  exact Nat.le_refl _
  | n + 1, k, h => by
    by_cases e : k = n + 1
    · subst e; exact Nat.le_refl _
    · exact Nat.le_trans (sumN_le f n k (by omega)) (by rw [sumN]; omega)
theorem sumN_one (f : Nat → Nat) {n k : Nat} (h : k < n) : sumN f k + f k ≤ sumN f n := sumN_le f n (k + 1) h
def Num (c : Nat) (W : World) (e : Ending) (w' : World) : Prop := e = .returned (.int .i64 c) ∧ Below W.heap.size W w'
/-- W agrees with w on X -/
def Agr (w : World) (X : Nat → Prop) (W : World) : Prop := (∀ g, X g → W.heap[g]? = w.heap[g]?) ∧ ∀ g, X g → g < W.heap.size
theorem Agr.below {w : World} {X : Nat → Prop} {W W' : World} (h : Agr w X W) (hb : Below W.heap.size W W') : Agr w X W' :=
  ⟨fun g hg => (hb.block g (h.2 g hg)).trans (h.1 g hg), fun g hg => Nat.lt_of_lt_of_le (h.2 g hg) hb.size⟩
def Cnt0 (w : World) (X : Nat → Prop) (v : Value) (c : Nat) : Prop := ∀ W, Agr w X W → (c : Int) ≤ 65536 → Calls Try.prog 12 #[.agg (compc v).toArray] W (Num c W)
def Cnt2 (w : World) (X : Nat → Prop) (v : Value) (c : Nat) : Prop := ∀ W, Agr w X W → (c : Int) ≤ 65536 → Calls Try.prog 11 #[v] W (Num c W)
/-- a list of compounds, each of which counts -/
def Cnt1 (w : World) (X : Nat → Prop) (v : Value) (c : Nat) : Prop := ∃ (a : Option Addr) (n cp : Nat) (S : Nat → Value) (cc : Nat → Nat), v = .slice a n cp ∧ (n : Int) ≤ 1000000 ∧ n ≤ cp ∧ c = sumN cc n ∧ (∀ i, i < n → ∃ g, a = some ⟨g, 0, none⟩ ∧ X g ∧ ∀ j u, (compc (S i))[j]? = some u → w.cell? ⟨g, i * 6 + j, none⟩ = some u) ∧ ∀ i, i < n → (∃ a2 n2 c2, S i = .slice a2 n2 c2) ∧ Cnt0 w X (S i) (cc i)
theorem ta_nest (D : Value) (w : World) : (Instr.typeAssert (.iface 56 D) 35 56 true).run Try.prog w = .ok (.tuple #[D, .bool true]) w := by kernel_rfl
theorem ta_leaf (D : Value) (w : World) : (Instr.typeAssert (.iface 52 D) 35 56 true).run Try.prog w = .ok (.tuple #[.pointer none, .bool false]) w := by kernel_rfl
theorem agr_cell {w W : World} {X : Nat → Prop} (h : Agr w X W) {g o : Nat} (hg : X g) {u : Value} (hc : w.cell? ⟨g, o, none⟩ = some u) : W.cell? ⟨g, o, none⟩ = some u := by
  rw [World.cell?_of_block (a := ⟨g, o, none⟩) (h.1 g hg)]; exact hc
set_option maxRecDepth 100000 in
set_option maxHeartbeats 2000000 in
theorem cnt_subs {w : World} {X : Nat → Prop} (a : Option Addr) (n cp : Nat) (D : Nat → Value) (b : Nat → Bool) (hb : Nat → Nat) (vv : Nat → Value) (cc : Nat → Nat) (hn : (n : Int) ≤ 1000000) (hnc : n ≤ cp)
    (hr : ∀ i, i < n → ∃ g, a = some ⟨g, 0, none⟩ ∧ X g ∧ ∀ j u, (subc (D i))[j]? = some u → w.cell? ⟨g, i * 3 + j, none⟩ = some u)
    (hD : ∀ i, i < n → D i = if b i then nestD (hb i) else leafD (hb i)) (hc : ∀ i, i < n → b i = true → X (hb i) ∧ w.cell? ⟨hb i, 0, none⟩ = some (vv i)) (ih : ∀ i, i < n → b i = true → Cnt2 w X (vv i) (cc i)) :
    Cnt0 w X (.slice a n cp) (sumN (fun i => 1 + if b i then cc i else 0) n) := by
  intro W hA hle
  have HA := Lib.hid hA
  have HR := Lib.hid hr
  have HD := Lib.hid hD
  have HC := Lib.hid hc
  have HI := Lib.hid ih
  have HN := Lib.hid hle
  obtain ⟨f, hf⟩ : ∃ f : Nat → Nat, f = fun i => 1 + if b i then cc i else 0 := ⟨_, rfl⟩
  rw [← hf] at HN ⊢
  have HF := Lib.hid hf
  clear hA hr hD hc ih hle hf
  unfold compc
  go_enter Try.func12, Try.ntmps12
  go_wp2_with fail
  have HW := Lib.hid (show Below W.heap.size W (W.alloc (.cells #[.pointer none, .slice a n cp, .slice none 0 0, .int .i32 0, .int .u8 0, .bool false] 49)) from (Below.refl _ _).alloc (Nat.le_refl _) _)
  generalize World.alloc W _ = W1 at HW ⊢
  go_loopw [3, 11] (fun t i wr => ∃ k : Nat, k ≤ n ∧ i = .int .i64 k ∧ t = .int .i64 (sumN f k : Nat) ∧ Hid (Below W.heap.size W wr)) (fun _ i _ => n - (intOf i).toNat)
  case atStart => exact ⟨0, Nat.zero_le _, rfl, rfl, HW⟩
  case round =>
    clear HW
    obtain ⟨k, hk, rfl, rfl, HW⟩ := hrel
    by_cases hlt : k < n
    · obtain ⟨g, rfl, hX, hcell⟩ := HR.out k hlt
      have hA2 := HA.out.below HW.out
      have hs1 := sumN_one f hlt
      have hfk : f k = 1 + if b k then cc k else 0 := by rw [HF.out]
      have q0 : (0 : Int) ≤ k := by omega
      have q1 : (k : Int) < n := by omega
      have q2 : ((sumN f k : Nat) : Int) + 1 ≤ 65536 := by have := HN.out; omega
      have q3 : (0 : Int) ≤ (sumN f k : Nat) := by omega
      have c1 : wr.cell? ⟨g, k * 3 + 1, none⟩ = some (.int .i32 0) := agr_cell hA2 hX (hcell 1 _ rfl)
      have c2 : wr.cell? ⟨g, k * 3 + 2, none⟩ = some (.int .i32 0) := agr_cell hA2 hX (hcell 2 _ rfl)
      cases hbk : b k
      · have c0 : wr.cell? ⟨g, k * 3, none⟩ = some (leafD (hb k)) := by
          have := agr_cell hA2 hX (hcell 0 _ rfl)
          rw [HD.out k hlt, hbk] at this
          exact this
        unfold leafD at c0
        have hs : sumN f (k + 1) = sumN f k + 1 := by rw [sumN, hfk, hbk]; rfl
        have HS := Lib.hid hs
        have hta := fun w => ta_leaf (.pointer (some ⟨hb k, 0, none⟩)) w
        have HB2 := Lib.hid (HW.out.alloc HW.out.size (.cells #[.iface 52 (.pointer (some ⟨hb k, 0, none⟩)), .int .i32 0, .int .i32 0] 41))
        clear hcell hA2 hX hs hfk hbk HR HD HC HI HA
        go_wp2_with fail
        exact ⟨⟨k + 1, by omega, by go_num, by rw [HS.out]; go_num, HB2⟩, by simp [intOf]; omega⟩
      · have c0 : wr.cell? ⟨g, k * 3, none⟩ = some (nestD (hb k)) := by
          have := agr_cell hA2 hX (hcell 0 _ rfl)
          rw [HD.out k hlt, hbk] at this
          exact this
        unfold nestD at c0
        obtain ⟨hXb, hv⟩ := HC.out k hlt hbk
        have hv1 := alloc_cell (agr_cell hA2 hXb hv)
        have hs : sumN f (k + 1) = sumN f k + 1 + cc k := by rw [sumN, hfk, hbk]; simp; omega
        have HS := Lib.hid hs
        have hta := fun w => ta_nest (.pointer (some ⟨hb k, 0, none⟩)) w
        have q4 : ((sumN f k : Nat) : Int) + 1 + (cc k : Nat) ≤ 65536 := by have := HN.out; rw [hfk, hbk] at hs1; simp at hs1; omega
        have HB2 := Lib.hid (HW.out.alloc HW.out.size (.cells #[.iface 56 (.pointer (some ⟨hb k, 0, none⟩)), .int .i32 0, .int .i32 0] 41))
        have HG := Lib.hid (hA2.below ((Below.refl _ _).alloc (Nat.le_refl _) (.cells #[.iface 56 (.pointer (some ⟨hb k, 0, none⟩)), .int .i32 0, .int .i32 0] 41)))
        have HK := Lib.hid (HI.out k hlt hbk)
        clear hcell hA2 hX hs hfk hbk HR HD HC HI HA hv hXb hs1
        go_wp2_with fail
        refine (HK.out _ HG.out (by omega)).mono ?_
        rintro e w2 ⟨rfl, hbb⟩
        have HB3 := Lib.hid (HB2.out.trans (hbb.mono HB2.out.size))
        clear hbb
        go_wp2_with fail
        exact ⟨⟨k + 1, by omega, by go_num, by rw [HS.out]; go_num, HB3⟩, by simp [intOf]; omega⟩
    · obtain rfl : k = n := by omega
      go_wp2_with fail
      go_ret
      exact ⟨rfl, HW.out⟩
set_option maxRecDepth 100000 in
set_option maxHeartbeats 2000000 in
theorem cnt_cmpl {w : World} {X : Nat → Prop} (a : Option Addr) (n cp : Nat) (S : Nat → Value) (cc : Nat → Nat) (hn : (n : Int) ≤ 1000000) (hnc : n ≤ cp)
    (hr : ∀ i, i < n → ∃ g, a = some ⟨g, 0, none⟩ ∧ X g ∧ w.cell? ⟨g, i, none⟩ = some (S i)) (ih : ∀ i, i < n → Cnt1 w X (S i) (cc i)) :
    Cnt2 w X (.slice a n cp) (sumN cc n) := by
  intro W hA hle
  have HA := Lib.hid hA
  have HR := Lib.hid hr
  have HI := Lib.hid ih
  have HN := Lib.hid hle
  clear hA hr ih hle
  go_enter Try.func11, Try.ntmps11
  go_wp2_with fail
  have HW := Lib.hid (Below.refl W.heap.size W)
  go_loopw [3, 10] (fun t i wr => ∃ k : Nat, k ≤ n ∧ i = .int .i64 k ∧ t = .int .i64 (sumN cc k : Nat) ∧ Hid (Below W.heap.size W wr)) (fun _ i _ => n - (intOf i).toNat)
  case atStart => exact ⟨0, Nat.zero_le _, rfl, rfl, HW⟩
  case round =>
    clear HW
    obtain ⟨k, hk, rfl, rfl, HW⟩ := hrel
    by_cases hlt : k < n
    · obtain ⟨g, rfl, hX, hcell⟩ := HR.out k hlt
      obtain ⟨a2, m, cp2, S2, c2, hS, hm, hmc, hcc, hr2, hi2⟩ := HI.out k hlt
      rw [hS] at hcell
      have hA2 := HA.out.below HW.out
      have d0 := agr_cell hA2 hX hcell
      have hs1 := sumN_one cc hlt
      have HS1 := Lib.hid (show sumN cc (k + 1) = sumN cc k + sumN c2 m by rw [sumN, hcc])
      have HBD := Lib.hid (show (sumN cc k : Nat) + sumN c2 m ≤ 65536 by have := HN.out; omega)
      have HR2 := Lib.hid hr2
      have HI2 := Lib.hid hi2
      have HAW := Lib.hid hA2
      have q0 : (0 : Int) ≤ k := by omega
      have q1 : (k : Int) < n := by omega
      generalize sumN cc k = base at *
      clear hX hcell hA2 hs1 hcc hS hr2 hi2 HR HI HN HA
      have HB2 := Lib.hid (HW.out.alloc HW.out.size (.cells #[.slice a2 m cp2] 51))
      have HG2 := Lib.hid (HAW.out.below ((Below.refl _ _).alloc (Nat.le_refl _) (.cells #[.slice a2 m cp2] 51)))
      clear HW HAW
      go_wp2_with fail
      generalize World.alloc wr _ = wi at *
      have HP := Lib.hid (And.intro HB2.out HG2.out)
      clear HB2 HG2
      go_loopw [3, 17] (fun t i ws => ∃ j : Nat, j ≤ m ∧ i = .int .i64 j ∧ t = .int .i64 ((base + sumN c2 j : Nat) : Int) ∧ Hid (Below W.heap.size W ws ∧ Agr w X ws)) (fun _ i _ => m - (intOf i).toNat)
      case atStart => exact ⟨0, Nat.zero_le _, rfl, rfl, HP⟩
      case round =>
        clear HP
        obtain ⟨j, hj, rfl, rfl, HP⟩ := hrel
        by_cases hlt2 : j < m
        · obtain ⟨g2, rfl, hX2, hcell2⟩ := HR2.out j hlt2
          have hA3 := HP.out.2
          have e0 : wr.cell? ⟨g2, j * 6, none⟩ = some (.pointer none) := agr_cell hA3 hX2 (hcell2 0 _ rfl)
          have e1 : wr.cell? ⟨g2, j * 6 + 1, none⟩ = some (S2 j) := agr_cell hA3 hX2 (hcell2 1 _ rfl)
          have e2 : wr.cell? ⟨g2, j * 6 + 2, none⟩ = some (.slice none 0 0) := agr_cell hA3 hX2 (hcell2 2 _ rfl)
          have e3 : wr.cell? ⟨g2, j * 6 + 3, none⟩ = some (.int .i32 0) := agr_cell hA3 hX2 (hcell2 3 _ rfl)
          have e4 : wr.cell? ⟨g2, j * 6 + 4, none⟩ = some (.int .u8 0) := agr_cell hA3 hX2 (hcell2 4 _ rfl)
          have e5 : wr.cell? ⟨g2, j * 6 + 5, none⟩ = some (.bool false) := agr_cell hA3 hX2 (hcell2 5 _ rfl)
          have hs2 := sumN_one c2 hlt2
          have q2 : (0 : Int) ≤ j := by omega
          have q3 : (j : Int) < m := by omega
          have q5 : ((base + sumN c2 j : Nat) : Int) + (c2 j : Nat) ≤ 65536 := by have := HBD.out; omega
          have HS2 := Lib.hid (show base + sumN c2 (j + 1) = base + sumN c2 j + c2 j by rw [sumN]; omega)
          obtain ⟨⟨aj, nj, cj, hsj⟩, hk2⟩ := HI2.out j hlt2
          rw [hsj] at e1 hk2
          have HK := Lib.hid hk2
          clear hX2 hcell2 hA3 hs2 hsj hk2
          have HP2 := Lib.hid (And.intro (HP.out.1.alloc HP.out.1.size (.cells #[.pointer none, .slice aj nj cj, .slice none 0 0, .int .i32 0, .int .u8 0, .bool false] 49)) (HP.out.2.below ((Below.refl _ _).alloc (Nat.le_refl _) (.cells #[.pointer none, .slice aj nj cj, .slice none 0 0, .int .i32 0, .int .u8 0, .bool false] 49))))
          clear HP
          go_wp2_with fail
          refine (HK.out _ HP2.out.2 (by omega)).mono ?_
          rintro e w3 ⟨rfl, hbb⟩
          have HP3 := Lib.hid (And.intro (HP2.out.1.trans (hbb.mono HP2.out.1.size)) (HP2.out.2.below hbb))
          clear hbb HP2
          go_wp2_with fail
          exact ⟨⟨j + 1, by omega, by go_num, by rw [HS2.out]; go_num, HP3⟩, by simp [intOf]; omega⟩
        · obtain rfl : j = m := by omega
          have HE := Lib.hid HP.out.1
          clear HP
          go_wp2_with fail
          exact ⟨⟨k + 1, by omega, by go_num, by rw [HS1.out], HE⟩, by simp [intOf]; omega⟩
    · obtain rfl : k = n := by omega
      go_wp2_with fail
      go_ret
      exact ⟨rfl, HW.out⟩
theorem TT.form {w : World} {X : Nat → Prop} {k : Nat} {v : Value} {c : Nat} (h : TT w X k v c) : ∃ a n cp, v = .slice a n cp := by
  cases h <;> exact ⟨_, _, _, rfl⟩
theorem TT.count {w : World} {X : Nat → Prop} {k : Nat} {v : Value} {c : Nat} (h : TT w X k v c) : (k = 0 → Cnt0 w X v c) ∧ (k = 1 → Cnt1 w X v c) ∧ (k = 2 → Cnt2 w X v c) := by
  induction h with
  | nil k a cp =>
    refine ⟨fun _ => ?_, fun _ => ?_, fun _ => ?_⟩
    · exact cnt_subs a 0 cp (fun _ => .nilIface) (fun _ => false) (fun _ => 0) (fun _ => .nilIface) (fun _ => 0) (by omega) (Nat.zero_le _) (fun i hi => absurd hi (by omega)) (fun i hi => absurd hi (by omega)) (fun i hi => absurd hi (by omega)) (fun i hi => absurd hi (by omega))
    · exact ⟨a, 0, cp, fun _ => .nilIface, fun _ => 0, rfl, by omega, Nat.zero_le _, rfl, fun i hi => absurd hi (by omega), fun i hi => absurd hi (by omega)⟩
    · exact cnt_cmpl a 0 cp (fun _ => .nilIface) (fun _ => 0) (by omega) (Nat.zero_le _) (fun i hi => absurd hi (by omega)) (fun i hi => absurd hi (by omega))
  | subs g n cp D b hb vv cc h1 h2 h3 hr hD hc ht ih =>
    refine ⟨fun _ => ?_, fun e => by omega, fun e => by omega⟩
    exact cnt_subs (some ⟨g, 0, none⟩) n cp D b hb vv cc h2 h3 (fun i hi => ⟨g, rfl, h1, fun j u hu => hr i hi j u hu⟩) hD hc (fun i hi hbi => (ih i hi hbi).2.2 rfl)
  | comps g n cp S cc h1 h2 h3 hr ht ih =>
    refine ⟨fun e => by omega, fun _ => ?_, fun e => by omega⟩
    exact ⟨some ⟨g, 0, none⟩, n, cp, S, cc, rfl, h2, h3, rfl, fun i hi => ⟨g, rfl, h1, fun j u hu => hr i hi j u hu⟩, fun i hi => ⟨(ht i hi).form, (ih i hi).1 rfl⟩⟩
  | cmpl g n cp S cc h1 h2 h3 hr ht ih =>
    refine ⟨fun e => by omega, fun e => by omega, fun _ => ?_⟩
    exact cnt_cmpl (some ⟨g, 0, none⟩) n cp S cc h2 h3 (fun i hi => ⟨g, rfl, h1, by have := hr i hi 0 _ rfl; simpa using this⟩) (fun i hi => (ih i hi).2.1 rfl)
set_option maxHeartbeats 400000 in
theorem zcount_any {w : World} {X : Nat → Prop} {v : Value} {c : Nat} (h : TT w X 2 v c) (hX : ∀ g, X g → g < w.heap.size) (hc : (c : Int) ≤ 65536) : Calls Try.prog 7 #[v] w (Num c w) := by
  have HC := Lib.hid (h.count.2.2 rfl w ⟨fun _ _ => rfl, hX⟩ hc)
  obtain ⟨a, n, cp, rfl⟩ := h.form
  clear h hX
  go_enter Try.func7, Try.ntmps7
  go_wp2_with fail
  refine HC.out.mono ?_
  rintro e w1 ⟨rfl, hb⟩
  have HB := Lib.hid hb
  clear hb HC
  go_wp2_with fail
  go_ret
  exact ⟨rfl, HB.out⟩
end Go.Proofs.Ytgdodkfbobhfoaa.Tr
