/-
  PercentageValue, turnPercentIntoNumberIfShorter.
-/
import Derived.Test.YtfhkkpfkkhpohabFmtSw
namespace Go.Proofs.YtfhkkpfkkhpohabFmt.Sd
open Go.ChangeShapes Go.WideShapes Go.ChangeAt Go.RowKit Go.Kit Rg
open Go.Extern.Stop Go.Stop Go.Extern
set_option linter.unusedVariables false
set_option maxRecDepth 100000 in
set_option maxHeartbeats 1000000 in
theorem pv_any (T U : ByteArray) (w : World) (k : Nat) (hk : T.size = k + 1) (hT : (T.size : Int) ≤ 1048578) (hU : T.extract 0 k = U) :
    Calls Tryf.prog 12 #[.agg #[.pointer none, .string T, .int .i32 0, .int .u32 0, .int .u16 0, .int .u8 34, .int .u8 2]] w fun e w' => e = .returned (.string U) ∧ Below w.heap.size w w' := by
  rw [hk] at hT
  go_enter Tryf.func12, Tryf.ntmps12
  go_wp2
  go_ret
  exact ⟨rfl, (Below.refl _ _).alloc (Nat.le_refl _) _⟩
def TK (w : World) (b : Nat) (T : ByteArray) (K : Int) : Prop := Bk w b 33 #[.pointer none, .string T, .int .i32 0, .int .u32 0, .int .u16 0, .int .u8 K, .int .u8 2]
def TuP (b : Nat) (T : ByteArray) (m : List UInt8) (w : World) (e : Ending) (w' : World) : Prop :=
  ∃ (r : ByteArray), e = .returned (.tuple #[]) ∧ r.data.toList = m ∧ Below b w w' ∧ ((r.size < T.size ∧ TK w' b r 30) ∨ (¬ r.size < T.size ∧ TK w' b T 34))
set_option maxRecDepth 100000 in
set_option maxHeartbeats 4000000 in
theorem turn_any (F : Interp) (b : Nat) (T sg : ByteArray) (I Fr : List UInt8) (dot : Bool) (w : World) (hw : TK w b T 34) (hF : F.told.answers w.tape)
    (ht : T.data.toList = sg.data.toList ++ (bodyL I Fr dot ++ [37])) (hsg : sg = ⟨#[]⟩ ∨ sg = ⟨#[45]⟩ ∨ sg = ⟨#[43]⟩) (hI : ∀ b ∈ I, isDg b = true) (hFr : ∀ b ∈ Fr, isDg b = true) (hd : dot = false → Fr = []) (hz : (T.size : Int) ≤ 1048578) :
    Calls Tryf.prog 9 #[.pointer (some ⟨b, 0, none⟩)] w (TuP b T (sg.data.toList ++ po I Fr) w) := by
  have c0 := hw.cell 0 rfl
  have c1 := hw.cell 1 rfl
  have c2 := hw.cell 2 rfl
  have c3 := hw.cell 3 rfl
  have c4 := hw.cell 4 rfl
  have c5 := hw.cell 5 rfl
  have c6 := hw.cell 6 rfl
  have HF := Lib.hid hF
  have HW := Lib.hid hw
  have hTl : T.size = (sg.data.toList ++ bodyL I Fr dot).length + 1 := by
    rw [← ba_len, ht]
    simp only [List.length_append, List.length_cons, List.length_nil]
    omega
  obtain ⟨k, hk⟩ : ∃ k, T.size = k + 1 := ⟨T.size - 1, by omega⟩
  obtain ⟨U, hU⟩ : ∃ U, T.extract 0 k = U := ⟨_, rfl⟩
  have hUl : U.data.toList = sg.data.toList ++ bodyL I Fr dot := by
    rw [← hU, ext_take, ht, ← List.append_assoc]
    exact List.take_left' (by omega)
  have hUs : (U.size : Int) ≤ 1048577 := by rw [← ba_len, ← hU, ext_take, List.length_take, ba_len]; omega
  have HUl := Lib.hid hUl
  have HU := Lib.hid hU
  have HK := Lib.hid hk
  have HZ := Lib.hid hz
  have HUs := Lib.hid hUs
  have HPO := Lib.hid (shf_po I Fr)
  clear hw hF ht hk hU hUl hz hUs hTl
  go_enter Tryf.func9, Tryf.ntmps9
  go_wp2_with fail
  refine (pv_any T U w k HK.out HZ.out HU.out).mono ?_
  rintro e w1 ⟨rfl, hb1⟩
  have HB1 := Lib.hid hb1
  clear hb1
  go_wp2_with fail
  refine (shift_any F U sg I Fr dot (-2) w1 (by rw [HB1.out.tape]; exact HF.out) HUl.out hsg hI hFr hd HUs.out (by decide) (by decide)).mono ?_
  rintro e w2 ⟨r, rfl, hr, hb2⟩
  have hb12 := HB1.out.trans (hb2.mono HB1.out.size)
  have HB2 := Lib.hid hb12
  have HR := Lib.hid (show r.data.toList = sg.data.toList ++ po I Fr by rw [hr, ← HPO.out]; rfl)
  have HW2 := Lib.hid (HW.out.keep hb12)
  clear hb12 hb2 hr c0 c1 c2 c3 c4 c5 c6 HB1
  have c0 := HW2.out.cell 0 rfl
  have c1 := HW2.out.cell 1 rfl
  have c5 := HW2.out.cell 5 rfl
  have f0 := HW2.out.frozen
  have HLT := Lib.hid HW.out.lt
  by_cases hlt : (r.size : Int) < T.size
  · go_wp2_with fail
    refine bodyPost_ret (v := .tuple #[]) (by simp [results, Tryf.results9, go_sem]) rfl ?_
    exact ⟨r, rfl, HR.out, ((HB2.out.mono (Nat.le_of_lt HLT.out)).setCell (Nat.le_refl _) _).setCell (Nat.le_refl _) _, .inl ⟨by omega, (HW2.out.set_ 5 _).set_ 1 _⟩⟩
  · go_wp2_with fail
    refine bodyPost_ret (v := .tuple #[]) (by simp [results, Tryf.results9, go_sem]) rfl ?_
    exact ⟨r, rfl, HR.out, HB2.out.mono (Nat.le_of_lt HLT.out), .inr ⟨by omega, HW2.out⟩⟩
end Go.Proofs.YtfhkkpfkkhpohabFmt.Sd
