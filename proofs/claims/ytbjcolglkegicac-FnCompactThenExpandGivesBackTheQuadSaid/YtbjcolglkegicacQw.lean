/-
  The wrappers; zzTextsTooLong; zzBytes.
-/
import Derived.Test.YtbjcolglkegicacQe
namespace Go.Proofs.Ytbjcolglkegicac.Quad
open Go.ChangeShapes Go.WideShapes Go.ChangeAt Go.RowKit Rg
set_option linter.unusedVariables false
theorem QB.lower {B0 B g : Nat} {K P L : Nat → Int} {T : Nat → ByteArray} {w W w1 : World} (h : QB B g K P L T W w1) (hb : Below B0 w W) (hB : B0 ≤ B) : QB B0 g K P L T w w1 :=
  ⟨h.1, h.2.1, Nat.le_trans hB h.2.2.1, h.2.2.2.1, hb.trans (h.2.2.2.2.mono hB)⟩
def AnyB (w : World) (e : Ending) (w' : World) : Prop := (∃ r : Bool, e = .returned (.bool r)) ∧ Below w.heap.size w w'
set_option maxRecDepth 100000 in
set_option maxHeartbeats 1000000 in
theorem texts_any (T : Nat → ByteArray) (w : World) (hs : ∀ j, j < 4 → ((T j).size : Int) ≤ 9223372036854775807) :
    Calls Try.prog 5 #[.agg #[.string (T 0), .string (T 1), .string (T 2), .string (T 3)]] w (AnyB w) := by
  have HB0 := Lib.hid ((Below.refl w.heap.size w).alloc (Nat.le_refl _) (.cells #[.string (T 0), .string (T 1), .string (T 2), .string (T 3)] 23))
  have HC0 : ∀ j, j < 4 → (w.alloc (.cells #[.string (T 0), .string (T 1), .string (T 2), .string (T 3)] 23)).cell? ⟨w.heap.size, j, none⟩ = some (.string (T j)) := by
    intro j hj
    have : j = 0 ∨ j = 1 ∨ j = 2 ∨ j = 3 := by omega
    rcases this with rfl | rfl | rfl | rfl <;> simp
  have HC := Lib.hid HC0
  have HS := Lib.hid hs
  clear HC0 hs
  go_enter Try.func5, Try.ntmps5
  go_wp2_with fail
  generalize (World.alloc _ _ : World) = w1 at *
  go_loop [3] (fun i => ∃ k : Nat, k ≤ 4 ∧ i = .int .i64 k) (fun i => 4 - (intOf i).toNat)
  case atStart => exact ⟨0, Nat.zero_le _, rfl⟩
  case round =>
    obtain ⟨k, hk, rfl⟩ := hrel
    by_cases hlt : k < 4
    · have d := HC.out k hlt
      have q0 : (0 : Int) ≤ k := by omega
      have q1 : (k : Int) < 4 := by omega
      have q2 := HS.out k hlt
      by_cases hg : (65536 : Int) < (T k).size
      · go_wp2_with fail
        go_ret
        exact ⟨⟨_, rfl⟩, HB0.out⟩
      · go_wp2_with fail
        go_round
        case rel => exact ⟨k + 1, by omega, by go_num⟩
        case measure => simp [intOf]; omega
    · have q1 : (4 : Int) ≤ k := by omega
      go_wp2_with fail
      go_ret
      exact ⟨⟨_, rfl⟩, HB0.out⟩
set_option maxRecDepth 100000 in
set_option maxHeartbeats 1000000 in
theorem bytes_any (K P S : Nat → Int) (T : Nat → ByteArray) (mf : Bool) (A : ByteArray) (w : World) (hs : ∀ j, j < 4 → ((T j).size : Int) ≤ 9223372036854775807) (ha : (A.size : Int) ≤ 9223372036854775807) :
    Calls Try.prog 4 #[.agg #[.int .u8 (K 0), .int .u8 (K 1), .int .u8 (K 2), .int .u8 (K 3)], .agg #[.string (T 0), .string (T 1), .string (T 2), .string (T 3)], .agg #[.int .u32 (P 0), .int .u32 (P 1), .int .u32 (P 2), .int .u32 (P 3)], .agg #[.int .u8 (S 0), .int .u8 (S 1), .int .u8 (S 2), .int .u8 (S 3)], .bool mf, .string A] w (AnyB w) := by
  have HS := Lib.hid hs
  clear hs
  go_enter Try.func4, Try.ntmps4
  go_wp2_with fail
  have HB0 := Lib.hid (((((Below.refl w.heap.size w).alloc (Nat.le_refl _) (.cells #[.int .u8 (K 0), .int .u8 (K 1), .int .u8 (K 2), .int .u8 (K 3)] 22)).alloc (by simp) (.cells #[.string (T 0), .string (T 1), .string (T 2), .string (T 3)] 23)).alloc (by simp; omega) (.cells #[.int .u32 (P 0), .int .u32 (P 1), .int .u32 (P 2), .int .u32 (P 3)] 25)).alloc (by simp; omega) (.cells #[.int .u8 (S 0), .int .u8 (S 1), .int .u8 (S 2), .int .u8 (S 3)] 22))
  have HC : Hid (∀ j, j < 4 → ((((w.alloc (.cells #[.int .u8 (K 0), .int .u8 (K 1), .int .u8 (K 2), .int .u8 (K 3)] 22)).alloc (.cells #[.string (T 0), .string (T 1), .string (T 2), .string (T 3)] 23)).alloc (.cells #[.int .u32 (P 0), .int .u32 (P 1), .int .u32 (P 2), .int .u32 (P 3)] 25)).alloc (.cells #[.int .u8 (S 0), .int .u8 (S 1), .int .u8 (S 2), .int .u8 (S 3)] 22)).cell? ⟨w.heap.size + 1, j, none⟩ = some (.string (T j))) := by
    intro j hj
    have : j = 0 ∨ j = 1 ∨ j = 2 ∨ j = 3 := by omega
    rcases this with rfl | rfl | rfl | rfl <;> go_simp
  generalize (World.alloc _ _ : World) = w1 at *
  go_loop [13, 14] (fun t i => ∃ (k : Nat) (s : Int), k ≤ 4 ∧ i = .int .i64 k ∧ t = .int .i64 s ∧ 0 ≤ s ∧ s ≤ 1048576) (fun _ i => 4 - (intOf i).toNat)
  case atStart => exact ⟨0, 0, Nat.zero_le _, rfl, rfl, by omega, by omega⟩
  case round =>
    obtain ⟨k, s, hk, rfl, rfl, hs0, hs1⟩ := hrel
    by_cases hlt : k < 4
    · have d := HC.out k hlt
      have q0 : (0 : Int) ≤ k := by omega
      have q1 : (k : Int) < 4 := by omega
      have q2 := HS.out k hlt
      by_cases hg : (1048576 : Int) < (T k).size
      · go_wp2_with fail
        go_ret
        exact ⟨⟨_, rfl⟩, HB0.out⟩
      · by_cases hg2 : (1048576 : Int) < s + (T k).size
        · go_wp2_with fail
          go_ret
          exact ⟨⟨_, rfl⟩, HB0.out⟩
        · go_wp2_with fail
          go_round
          case rel => exact ⟨k + 1, s + (T k).size, by omega, by go_num, rfl, by omega, by omega⟩
          case measure => simp [intOf]; omega
    · have q1 : (4 : Int) ≤ k := by omega
      by_cases hg : (1048576 : Int) < A.size
      · go_wp2_with fail
        go_ret
        exact ⟨⟨_, rfl⟩, HB0.out⟩
      · by_cases hg2 : (1048576 : Int) < s + A.size
        · go_wp2_with fail
          go_ret
          exact ⟨⟨_, rfl⟩, HB0.out⟩
        · go_wp2_with fail
          go_ret
          exact ⟨⟨_, rfl⟩, HB0.out⟩
set_option maxRecDepth 100000 in
set_option maxHeartbeats 1000000 in
theorem zcompact_any (K P L S : Nat → Int) (T : Nat → ByteArray) (mf : Bool) (w : World) :
    Calls Try.prog 8 #[tkf K P L S T 0, tkf K P L S T 1, tkf K P L S T 2, tkf K P L S T 3, .bool mf] w fun e w' => ∃ g, e = .returned (.slice (some ⟨g, 0, none⟩) (cN K P T) 4) ∧ QB w.heap.size g K P L T w w' := by
  have HQ := fun W => compact_any K P L S T mf W
  have HH := Lib.hid HQ
  clear HQ
  generalize cN K P T = n at *
  unfold tkf at *
  go_enter Try.func8, Try.ntmps8
  go_wp2_with fail
  refine (HH.out _).mono ?_
  rintro e w1 ⟨rfl, hq⟩
  have HQ := Lib.hid (hq.lower (((((Below.refl w.heap.size w).alloc (Nat.le_refl _) _).alloc (by simp) _).alloc (by simp; omega) _).alloc (by simp; omega) _) (by simp; omega))
  clear hq HH
  go_wp2_with fail
  go_ret
  exact ⟨_, rfl, by simpa using HQ.out⟩
theorem quad_one (K P L S : Nat → Int) (T : Nat → ByteArray) (a b c d : Nat) : ((tokc K P L S T a ++ (tokc K P L S T b ++ (tokc K P L S T c ++ tokc K P L S T d))).toArray.all fun x => x.oneCell') = true := by simp [tokc, Value.oneCell']
set_option maxRecDepth 100000 in
set_option maxHeartbeats 1000000 in
theorem zexpand_any (g n : Nat) (K P L : Nat → Int) (T : Nat → ByteArray) (A : ByteArray) (w : World) (h1 : 1 ≤ n) (h4 : n ≤ 4) (hq : QB 0 g K P L T w w) (hok : ∀ j, j < n → okT (K j) (T j) A) :
    Calls Try.prog 9 #[.slice (some ⟨g, 0, none⟩) n 4, .string A] w (Expd n K P L T w) := by
  have HB0 := Lib.hid ((Below.refl w.heap.size w).alloc (Nat.le_refl _) (.cells (zeros 28) 36))
  have HT0 := Lib.hid (th_new w (zeros 28) 36 (n := 28) rfl)
  have HH := Lib.hid (expand_any g n K P L T A (w.alloc (.cells (zeros 28) 36)) h1 h4 (hq.keep ((Below.refl _ _).alloc (Nat.le_refl _) _)).self hok)
  unfold zeros at HB0 HT0 HH
  clear hq hok
  go_enter Try.func9, Try.ntmps9
  go_wp2_with fail
  refine HH.out.mono ?_
  rintro e w1 ⟨S, rfl, hb⟩
  have hT1 := th_keep hb HT0.out
  have HB1 := Lib.hid (HB0.out.trans (hb.mono HB0.out.size))
  have HT1 := Lib.hid hT1
  clear HH HT0 HB0 hb hT1
  generalize hcs : tokc K P L S T (ix n 0) ++ (tokc K P L S T (ix n 1) ++ (tokc K P L S T (ix n 2) ++ tokc K P L S T (ix n 3))) = cs
  have HC := Lib.hid hcs
  have HL := Lib.hid (show cs.length = 28 by rw [← hcs]; simp [tokc])
  have HO := Lib.hid (show (cs.toArray.all fun x => x.oneCell') = true by rw [← hcs]; exact quad_one _ _ _ _ _ _ _ _ _)
  clear hcs
  go_wp2_with (refine wpList_store_mid rfl 36 _ _ rfl w.heap.size 0 cs.toArray rfl rfl (by simpa [HL.out] using HT1.out) (by simp [HL.out, szQuad]) HO.out ?_)
  have HR := Lib.hid (World.rangeAt_setCells_same w1 w.heap.size 0 cs (by rw [HL.out]; exact HT1.out))
  have HB2 := Lib.hid (below_setCells (B := w.heap.size) (b := w.heap.size) (Nat.le_refl _) cs 0 HB1.out)
  obtain ⟨du, hu, hu2⟩ := tyQuad
  exact bodyPost_ret (results_cell_mid2 rfl _ _ w.heap.size 0 cs du rfl HR.out hu hu2 (by rw [HL.out]; exact szQuad)) rfl ⟨S, by rw [HC.out]; rfl, HB2.out⟩
end Go.Proofs.Ytbjcolglkegicac.Quad
