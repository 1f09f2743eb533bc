/-
  DimensionUnitIsSafeLength, includeUnitOf, zzClass, zzJoin, zzKind.
-/
import Derived.Test.YtibdmppjmaacpaaDoorLo
namespace Go.Proofs.YtibdmppjmaacpaaDoor.Iu
open Go.ChangeShapes Go.WideShapes Go.ChangeAt Go.RowKit Rg
set_option linter.unusedVariables false
theorem bcell {W w1 : World} (hb : Below W.heap.size W w1) : (∀ b o, b < W.heap.size → w1.cell? ⟨b, o, none⟩ = W.cell? ⟨b, o, none⟩) ∧ (∀ b o, b < W.heap.size → w1.frozen? ⟨b, o, none⟩ = W.frozen? ⟨b, o, none⟩) :=
  ⟨fun b o h => hb.cell (p := ⟨b, o, none⟩) h, fun b o h => hb.frozen (p := ⟨b, o, none⟩) h⟩
def safeS (X : ByteArray) : Bool := decide (X.toList = [99, 109] ∨ X.toList = [101, 109] ∨ X.toList = [105, 110] ∨ X.toList = [109, 109] ∨ X.toList = [112, 99] ∨ X.toList = [112, 116] ∨ X.toList = [112, 120])
def BoP (b : Bool) (w : World) (e : Ending) (w' : World) : Prop := e = .returned (.bool b) ∧ Below w.heap.size w w'
theorem BoP.mk' {b c : Bool} {w w' : World} (h : c = b) (hb : Below w.heap.size w w') : BoP b w (.returned (.bool c)) w' := ⟨by rw [h], hb⟩
set_option maxRecDepth 100000 in
set_option maxHeartbeats 2000000 in
theorem sl_any (K : Int) (T : ByteArray) (o : Nat) (w : World) (hT : (T.size : Int) ≤ 1048576) (ho : (o : Int) ≤ T.size) (h : TL w) :
    Calls Tryd.prog 10 #[.agg #[.pointer none, .string T, .int .i32 0, .int .u32 0, .int .u16 o, .int .u8 K, .int .u8 0]] w (BoP (safeS (lowB (T.extract o T.size))) w) := by
  have H := Lib.hid h
  clear h
  have hU : ((T.extract o T.size).size : Int) ≤ 1048576 := by simp; omega
  have HU := Lib.hid hU
  clear hU
  go_enter Tryd.func10, Tryd.ntmps10
  go_wp2_with fail
  refine (du_any K T o _ hT ho).mono ?_
  rintro e w1 ⟨rfl, hb1⟩
  have HB1 := Lib.hid (((Below.refl w.heap.size w).alloc (Nat.le_refl _) _).trans (hb1.mono (by simp)))
  clear hb1
  generalize T.extract o T.size = U at *
  go_wp2_with fail
  refine (low_any U w1 HU.out (H.out.keep HB1.out)).mono ?_
  rintro e w2 ⟨rfl, hb2⟩
  have HB2 := Lib.hid (HB1.out.trans (hb2.mono HB1.out.size))
  clear hb2 HB1
  generalize lowB U = X at *
  go_wp2_with fail
  all_goals go_ret
  all_goals refine BoP.mk' ?_ HB2.out
  all_goals simp_all [safeS]
theorem ret_t2 {a c : Int} {b d : ByteArray} (h1 : a = c) (h2 : b = d) : Ending.returned (.tuple #[.int .u8 a, .string b]) = .returned (.tuple #[.int .u8 c, .string d]) := by rw [h1, h2]
theorem ret_s2 {a c : Int} {b d : ByteArray} (h1 : a = c) (h2 : b = d) : Ending.returned (.tuple #[.string b, .int .u8 a]) = .returned (.tuple #[.string d, .int .u8 c]) := by rw [h1, h2]
/-- the class of a token -/
def clN (K : Int) (T : ByteArray) (o : Nat) : Int := if K = 30 ∧ T.toList = [48] then 0 else if K = 34 then 0 else if K = 26 then (if safeS (lowB (T.extract o T.size)) = true then 0 else 1) else 2
def clU (K : Int) (T : ByteArray) (o : Nat) : ByteArray := if clN K T o = 1 then T.extract o T.size else ⟨#[]⟩
def jN (st : Int) (u : ByteArray) (n : Int) (c : ByteArray) : Int := if st = 1 ∧ n = 1 ∧ u.toList ≠ c.toList then 2 else if st < n then n else st
def jU (st : Int) (u : ByteArray) (n : Int) (c : ByteArray) : ByteArray := if st = 0 ∧ n = 1 then c else u
theorem kind_cases {k : Int} (hk : k = 0 ∨ k = 30 ∨ k = 34 ∨ k = 26 ∨ k = 29) (T : ByteArray) (o : Nat) :
    (k = 30 ∧ T.toList = [48] ∧ clN k T o = 0) ∨ (k = 30 ∧ T.toList ≠ [48] ∧ clN k T o = 2) ∨ (k = 34 ∧ clN k T o = 0) ∨ (k = 26 ∧ safeS (lowB (T.extract o T.size)) = true ∧ clN k T o = 0) ∨ (k = 26 ∧ safeS (lowB (T.extract o T.size)) = false ∧ clN k T o = 1) ∨ ((k = 0 ∨ k = 29) ∧ clN k T o = 2) := by
  rcases hk with rfl | rfl | rfl | rfl | rfl
  · exact .inr (.inr (.inr (.inr (.inr ⟨.inl rfl, rfl⟩))))
  · by_cases h : T.toList = [48]
    · exact .inl ⟨rfl, h, by rw [clN, if_pos ⟨rfl, h⟩]⟩
    · exact .inr (.inl ⟨rfl, h, by rw [clN, if_neg (fun c => h c.2)]; rfl⟩)
  · exact .inr (.inr (.inl ⟨rfl, rfl⟩))
  · cases h : safeS (lowB (T.extract o T.size)) with
    | true => exact .inr (.inr (.inr (.inl ⟨rfl, rfl, by rw [clN, if_neg (fun c => absurd c.1 (by decide)), if_neg (by decide), if_pos rfl, if_pos h]⟩)))
    | false => exact .inr (.inr (.inr (.inr (.inl ⟨rfl, rfl, by rw [clN, if_neg (fun c => absurd c.1 (by decide)), if_neg (by decide), if_pos rfl, if_neg (by rw [h]; decide)]⟩))))
  · exact .inr (.inr (.inr (.inr (.inr ⟨.inr rfl, rfl⟩))))
theorem clU_one {K : Int} {T : ByteArray} {o : Nat} (h : clN K T o = 1) : clU K T o = T.extract o T.size := by rw [clU, if_pos h]
theorem clU_no {K : Int} {T : ByteArray} {o : Nat} {n : Int} (h : clN K T o = n) (hn : n ≠ 1) : clU K T o = ⟨#[]⟩ := by rw [clU, if_neg (by rw [h]; exact hn)]
set_option maxRecDepth 100000 in
set_option maxHeartbeats 2000000 in
theorem cl_any (K : Int) (T : ByteArray) (o : Nat) (w : World) (hK : K = 0 ∨ K = 30 ∨ K = 34 ∨ K = 26 ∨ K = 29) (hT : (T.size : Int) ≤ 1048576) (ho : (o : Int) ≤ T.size) (h : TL w) :
    Calls Tryd.prog 7 #[.agg #[.pointer none, .string T, .int .i32 0, .int .u32 0, .int .u16 o, .int .u8 K, .int .u8 0]] w fun e w' => e = .returned (.tuple #[.int .u8 (clN K T o), .string (clU K T o)]) ∧ Below w.heap.size w w' := by
  have H := Lib.hid h
  clear h
  have hb0 : Below w.heap.size w (w.alloc (.cells #[.pointer none, .string T, .int .i32 0, .int .u32 0, .int .u16 o, .int .u8 K, .int .u8 0] 32)) := (Below.refl _ _).alloc (Nat.le_refl _) _
  have HB0 := Lib.hid hb0
  clear hb0
  rcases kind_cases hK T o with ⟨rfl, h1, hn⟩ | ⟨rfl, h1, hn⟩ | ⟨rfl, hn⟩ | ⟨rfl, h1, hn⟩ | ⟨rfl, h1, hn⟩ | ⟨hk, hn⟩
  · have hu := clU_no hn (by decide)
    rw [hn, hu]
    clear hn hu
    go_enter Tryd.func7, Tryd.ntmps7
    go_wp2_with fail
    go_ret2
    exact ⟨rfl, HB0.out⟩
  · have hu := clU_no hn (by decide)
    rw [hn, hu]
    clear hn hu
    have h2 : (T.toList == [48]) = false := by simpa using h1
    go_enter Tryd.func7, Tryd.ntmps7
    go_wp2_with fail
    go_ret2
    exact ⟨rfl, HB0.out⟩
  · have hu := clU_no hn (by decide)
    rw [hn, hu]
    clear hn hu
    go_enter Tryd.func7, Tryd.ntmps7
    go_wp2_with fail
    go_ret2
    exact ⟨rfl, HB0.out⟩
  · have hu := clU_no hn (by decide)
    rw [hn, hu]
    have H1 := Lib.hid h1
    clear hn hu h1
    go_enter Tryd.func7, Tryd.ntmps7
    go_wp2_with fail
    refine (sl_any 26 T o _ hT ho (H.out.keep HB0.out)).mono ?_
    rintro e w1 ⟨rfl, hb1⟩
    rw [H1.out]
    have HB1 := Lib.hid (HB0.out.trans (hb1.mono (by simp)))
    clear hb1
    go_wp2_with fail
    go_ret2
    exact ⟨rfl, HB1.out⟩
  · have hu := clU_one hn
    rw [hn, hu]
    have H1 := Lib.hid h1
    clear hn hu h1
    go_enter Tryd.func7, Tryd.ntmps7
    go_wp2_with fail
    refine (sl_any 26 T o _ hT ho (H.out.keep HB0.out)).mono ?_
    rintro e w1 ⟨rfl, hb1⟩
    rw [H1.out]
    obtain ⟨hc, hf⟩ := bcell hb1
    have HB1 := Lib.hid (HB0.out.trans (hb1.mono (by simp)))
    clear hb1
    go_wp2_with fail
    refine (du_any 26 T o _ hT ho).mono ?_
    rintro e w2 ⟨rfl, hb2⟩
    have HB2 := Lib.hid (HB1.out.trans (hb2.mono HB1.out.size))
    clear hb2 hc hf
    go_wp2_with fail
    go_ret2
    exact ⟨rfl, HB2.out⟩
  · have hu := clU_no hn (by decide)
    rw [hn, hu]
    clear hn hu
    rcases hk with rfl | rfl
    all_goals
      go_enter Tryd.func7, Tryd.ntmps7
      go_wp2_with fail
      go_ret2
      exact ⟨rfl, HB0.out⟩
end Go.Proofs.YtibdmppjmaacpaaDoor.Iu
