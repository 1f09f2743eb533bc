/-
  Words on strings as lists of bytes.
-/
import Derived.Test.YtfhkkpfkkhpohaaFmtSl
import Derived.Test.YtfhkkpfkkhpohaaFmtSd
import Derived.Lib.Strings
import Derived.Lib.UnsafeStr
import Derived.Laws.IdiomStrings
namespace Go.Proofs.YtfhkkpfkkhpohaaFmt.Sd
open Go.ChangeShapes Go.WideShapes Go.ChangeAt Go.RowKit Rg
set_option linter.unusedVariables false
def isDg (c : UInt8) : Bool := decide (48 ≤ c.toNat ∧ c.toNat ≤ 57)
def digB (s : ByteArray) : Bool := s.data.toList.all isDg
theorem drop_at (s : ByteArray) (k : Nat) (h : k < s.size) : s.data.toList.drop k = s[k] :: s.data.toList.drop (k + 1) := by
  rw [List.drop_eq_getElem_cons (by simpa using h)]; rfl
theorem drop_end (s : ByteArray) (k : Nat) (h : ¬ k < s.size) : s.data.toList.drop k = [] := List.drop_eq_nil_of_le (by simp; omega)
theorem ext_drop (s : ByteArray) (k : Nat) : (s.extract k s.size).data.toList = s.data.toList.drop k := by
  simp [ByteArray.data_extract, List.take_of_length_le]
theorem ext_take (s : ByteArray) (k : Nat) : (s.extract 0 k).data.toList = s.data.toList.take k := by
  simp [ByteArray.data_extract]
theorem ba_ext {s t : ByteArray} (h : s.data.toList = t.data.toList) : s = t := by
  apply ByteArray.ext; apply Array.ext'; exact h
theorem ba_len (s : ByteArray) : s.data.toList.length = s.size := by simp
theorem ba_nil {s : ByteArray} (h : s.size = 0) : s.data.toList = [] := List.eq_nil_of_length_eq_zero (by simpa using h)
theorem ret_b {a b : Bool} (h : a = b) : Ending.returned (.bool a) = .returned (.bool b) := by rw [h]
def zeroB (n : Nat) : ByteArray := ⟨(zeros n).toArray⟩
theorem zeroB_list (n : Nat) : (zeroB n).data.toList = zeros n := rfl
theorem zeroB_size (n : Nat) : (zeroB n).size = n := by rw [← ba_len, zeroB_list]; simp [zeros]
theorem infoU8 : (Tryf.prog.info? 5).map (fun i => (i.zero, i.size, i.bytes)) = some (some (.int .u8 0), 1, 1) := by kernel_rfl
theorem tl_nil {b : ByteArray} (h : b.toList = []) : b.data.toList = [] := by rw [← Lib.toList_data]; exact h
theorem tl_ne {b : ByteArray} (h : b.toList.isEmpty = false) : b.data.toList ≠ [] := by rw [← Lib.toList_data]; intro e; rw [e] at h; cases h
end Go.Proofs.YtfhkkpfkkhpohaaFmt.Sd
