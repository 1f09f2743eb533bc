/-
  zzIsDigits, zzZeros, zzSign, zzPercentOver100.
-/
import Derived.Test.YtfhkkpfkkhpohabFmtSl
import Derived.Test.YtfhkkpfkkhpohabFmtSd
import Derived.Lib.UnsafeStr
import Derived.Laws.IdiomStrings
namespace Go.Proofs.YtfhkkpfkkhpohabFmt.Sd
open Go.ChangeShapes Go.WideShapes Go.ChangeAt Go.RowKit Rg
set_option linter.unusedVariables false
def isDg (c : UInt8) : Bool := decide (48 ≤ c.toNat ∧ c.toNat ≤ 57)
def digB (s : ByteArray) : Bool := s.data.toList.all isDg
theorem drop_at (s : ByteArray) (k : Nat) (h : k < s.size) : s.data.toList.drop k = s[k] :: s.data.toList.drop (k + 1) := by
  rw [List.drop_eq_getElem_cons (by simpa using h)]; rfl
theorem drop_end (s : ByteArray) (k : Nat) (h : ¬ k < s.size) : s.data.toList.drop k = [] := List.drop_eq_nil_of_le (by simp; omega)
theorem ext_drop (s : ByteArray) (k : Nat) : (s.extract k s.size).data.toList = s.data.toList.drop k := by
  simp [ByteArray.data_extract, List.take_of_length_le]
theorem ext_take (s : ByteArray) (k : Nat) : (s.extract 0 k).data.toList = s.data.toList.take k := by
  simp [ByteArray.data_extract]
theorem ba_ext {s t : ByteArray} (h : s.data.toList = t.data.toList) : s = t := by
  apply ByteArray.ext; apply Array.ext'; exact h
theorem ba_len (s : ByteArray) : s.data.toList.length = s.size := by simp
theorem ba_nil {s : ByteArray} (h : s.size = 0) : s.data.toList = [] := List.eq_nil_of_length_eq_zero (by simpa using h)
theorem ret_b {a b : Bool} (h : a = b) : Ending.returned (.bool a) = .returned (.bool b) := by rw [h]
set_option maxRecDepth 100000 in
set_option maxHeartbeats 1000000 in
theorem digits_any (s : ByteArray) (w : World) (hs : s.size ≤ maxLen) :
    Calls Tryf.prog 5 #[.string s] w fun e w' => e = .returned (.bool (digB s)) ∧ w = w' := by
  unfold maxLen at hs
  go_enter Tryf.func5, Tryf.ntmps5
  go_wp2
  go_loop [3] (fun i => ∃ k : Nat, k ≤ s.size ∧ i = .int .i64 k ∧ Hid ((s.data.toList.drop k).all isDg = digB s)) (fun i => s.size - (intOf i).toNat)
  case atStart => exact ⟨0, Nat.zero_le _, rfl, Lib.hid rfl⟩
  case round =>
    obtain ⟨k, hk, rfl, HA⟩ := hrel
    by_cases hlt : k < s.size
    · by_cases hd : 48 ≤ s[k].toNat ∧ s[k].toNat ≤ 57
      · have HA' : Hid ((s.data.toList.drop (k + 1)).all isDg = digB s) := Lib.hid (by rw [← HA.out, drop_at s k hlt, List.all_cons]; simp [isDg, hd])
        have d1 : ¬ ((s[k].toNat : Int) < 48) := by omega
        have d2 : ¬ ((57 : Int) < (s[k].toNat : Int)) := by omega
        clear hd
        go_wp2
        go_round
        case rel => exact ⟨k + 1, by omega, by go_num, HA'⟩
        case measure => simp [intOf]; omega
      · have HF : Hid (digB s = false) := Lib.hid (by rw [← HA.out, drop_at s k hlt, List.all_cons]; simp [isDg]; omega)
        by_cases h48 : s[k].toNat < 48
        · have d1 : ((s[k].toNat : Int) < 48) := by omega
          clear hd
          go_wp2
          go_ret
          exact ⟨ret_b HF.out.symm, rfl⟩
        · have d1 : ¬ ((s[k].toNat : Int) < 48) := by omega
          have d2 : ((57 : Int) < (s[k].toNat : Int)) := by omega
          clear hd
          go_wp2
          go_ret
          exact ⟨ret_b HF.out.symm, rfl⟩
    · have HT : Hid (digB s = true) := Lib.hid (by rw [← HA.out, drop_end s k hlt]; rfl)
      have hkl : decide ((k : Int) < (s.size : Int)) = false := by simp; omega
      go_wp2
      go_ret
      exact ⟨ret_b HT.out.symm, rfl⟩
theorem infoU8 : (Tryf.prog.info? 5).map (fun i => (i.zero, i.size, i.bytes)) = some (some (.int .u8 0), 1, 1) := by kernel_rfl
def zeroB (n : Nat) : ByteArray := ⟨(zeros n).toArray⟩
theorem zeroB_list (n : Nat) : (zeroB n).data.toList = zeros n := rfl
theorem zeroB_size (n : Nat) : (zeroB n).size = n := by rw [← ba_len, zeroB_list]; simp [zeros]
set_option maxRecDepth 100000 in
set_option maxHeartbeats 1000000 in
theorem zeros_any (x : Int) (w : World) (hx : x ≤ 1000000) (hx0 : -1000000 ≤ x) :
    Calls Tryf.prog 10 #[.int .i64 x] w fun e w' => e = .returned (.string (zeroB x.toNat)) ∧ Below w.heap.size w w' := by
  by_cases h0 : x ≤ 0
  · have e : x.toNat = 0 := by omega
    rw [e]
    go_enter Tryf.func10, Tryf.ntmps10
    go_wp2
    go_ret
    exact ⟨rfl, Below.refl _ _⟩
  obtain ⟨n, rfl⟩ := Int.eq_ofNat_of_zero_le (show 0 ≤ x by omega)
  rw [Int.toNat_natCast]
  obtain ⟨i0, hi, hz0, hz1, hz2⟩ := info_parts infoU8
  have hmk := fun W => run_make_rowN (P := Tryf.prog) 41 5 i0 _ (by kernel_rfl) hi hz0 .i64 .i64 n n (Nat.le_refl _) (by rw [hz2]; omega) (by omega) W
  rw [hz1] at hmk
  have hT0 : CR w.heap.size w.heap.size n 0 (fun _ => .int .u8 48) w (w.alloc (.cells (madeCells #[.int .u8 0] n) 5)) := CR.made w n _ _ _ (by simp [madeCells])
  go_enter Tryf.func10, Tryf.ntmps10
  go_wp2
  generalize World.alloc w _ = w1 at hT0 ⊢
  have HT0 := Lib.hid hT0
  clear hT0 hmk hi hz0 hz1 hz2
  go_loopw [4] (fun i wr => ∃ k : Nat, k ≤ n ∧ i = .int .i64 k ∧ Hid (CR w.heap.size w.heap.size n k (fun _ => .int .u8 48) w wr)) (fun i _ => n - (intOf i).toNat)
  case atStart => exact ⟨0, Nat.zero_le _, rfl, HT0⟩
  case round =>
    clear HT0
    obtain ⟨k, hk, rfl, HT⟩ := hrel
    by_cases hlt : k < n
    · have q0 : (0 : Int) ≤ k := by omega
      have q1 : (k : Int) < n := by omega
      obtain ⟨v0, e0⟩ := Option.isSome_iff_exists.1 (HT.out.2.1 k (by omega))
      have hf := HT.out.2.2.1
      have HP := Lib.hid (HT.out.put hlt)
      go_wp2
      exact ⟨⟨k + 1, by omega, by go_num, HP⟩, by simp [intOf]; omega⟩
    · obtain rfl : k = n := by omega
      have hcv := run_convert_bytes_back (P := Tryf.prog) wr 41 9 5 ⟨w.heap.size, 0, none⟩ k (zeros k) Tryf.underlying41 Tryf.underlying5 Tryf.underlying9 (fun j hj => by
        have := HT.out.1 j (by simpa [zeros] using hj)
        rw [add_none, Nat.zero_add, this]
        simp [zeros])
      have hl : (zeros k).length = k := by simp [zeros]
      rw [hl] at hcv
      have HL := Lib.hid hl
      clear hl
      go_wp2
      go_ret
      exact ⟨rfl, HT.out.2.2.2.2.2⟩
end Go.Proofs.YtfhkkpfkkhpohabFmt.Sd
