/-
  shiftDot: contract, fmt's texts told.
-/
import Derived.Test.YtfhkkpfkkhpohaaFmtZp
import Derived.Test.YtfhkkpfkkhpohaaFmtSx
import Derived.Lib.Strings
import Derived.Deep.DeepCutAuto
import Derived.Deep.CutBlock
import Derived.Deep.LoopGhost
import Derived.Stop.CallBack
import Derived.Stop.IfaceNil
import Derived.Stop.Told
import Derived.Stop.Texts
import Derived.Stop.FmtTextKit
import Derived.StillTailTactics
import GoSem.ClaimData
namespace Go.Proofs.YtfhkkpfkkhpohaaFmt.Sd
open Go.ChangeShapes Go.WideShapes Go.ChangeAt Go.RowKit Go.Kit Rg
open Go.Extern.Stop Go.Stop Go.Extern
set_option linter.unusedVariables false
theorem call16 (args : Array Value) (w : World) : (callFunc 20 args).run Tryf.prog w = ((FmtStop.sprintf #[9, 103] #[9] args).run Tryf.prog w).andThen fun v w' => .ok (.value v) w' :=
  run_callFunc_extern Tryf.func20 (by kernel_rfl) (by kernel_rfl) (by kernel_rfl) (by kernel_rfl) args w
theorem fguard (name : String) (w : World) : (FmtStop.guard name).run Tryf.prog w = .ok () w := by kernel_rfl
def fmA : List UInt8 := [37, 115, 37, 115, 37, 115]
def fmB : List UInt8 := [37, 115, 37, 115, 46, 37, 115]
theorem fmA1 : FmtStop.printed? ⟨#[37, 115, 37, 115, 37, 115]⟩ 3 = some [(0, 115, false), (1, 115, false), (2, 115, false)] := by kernel_rfl
theorem fmA2 (w : World) : (FmtDoors.printed ⟨#[37, 115, 37, 115, 37, 115]⟩ 3).run Tryf.prog w = .ok [(0, 115, false), (1, 115, false), (2, 115, false)] w := by kernel_rfl
theorem fmB1 : FmtStop.printed? ⟨#[37, 115, 37, 115, 46, 37, 115]⟩ 3 = some [(0, 115, false), (1, 115, false), (2, 115, false)] := by kernel_rfl
theorem fmB2 (w : World) : (FmtDoors.printed ⟨#[37, 115, 37, 115, 46, 37, 115]⟩ 3).run Tryf.prog w = .ok [(0, 115, false), (1, 115, false), (2, 115, false)] w := by kernel_rfl
def shape9 : List UInt8 := [12, 6, 0, 0, 0, 0, 0, 0, 0, 115, 116, 114, 105, 110, 103]
theorem op9_115 (name : String) (x : ByteArray) (w : World) : (FmtStop.operand name false 115 false (.iface 9 (.string x))).run Tryf.prog w = .ok (shape9, FmtStop.pack x.data.toList) w := by kernel_rfl
theorem parseA : (FmtText.parse [37, 115, 37, 115, 37, 115]).map FmtText.glue = some [.verb {} 115, .verb {} 115, .verb {} 115] := by rfl
theorem parseB : (FmtText.parse [37, 115, 37, 115, 46, 37, 115]).map FmtText.glue = some [.verb {} 115, .verb {} 115, .lit [46], .verb {} 115] := by rfl
theorem textA (a b c : List UInt8) (ha : a.length < 2 ^ 64) (hb : b.length < 2 ^ 64) (hc : c.length < 2 ^ 64) : FmtText.text "fmt.Sprintf" [[37, 115, 37, 115, 37, 115], shape9, FmtStop.pack a, shape9, FmtStop.pack b, shape9, FmtStop.pack c] = some (a ++ (b ++ c)) := by
  have h1 := FmtText.operand_str_at (sh := shape9) rfl rfl a ha
  have h2 := FmtText.operand_str_at (sh := shape9) rfl rfl b hb
  have h3 := FmtText.operand_str_at (sh := shape9) rfl rfl c hc
  rw [FmtText.text_sprintf_glued parseA (FmtText.operands_cons h1 (FmtText.operands_cons h2 (FmtText.operands_cons h3 FmtText.operands_nil)))]
  simp [FmtText.render, FmtText.printArg_s_str]
theorem textB (a b c : List UInt8) (ha : a.length < 2 ^ 64) (hb : b.length < 2 ^ 64) (hc : c.length < 2 ^ 64) : FmtText.text "fmt.Sprintf" [[37, 115, 37, 115, 46, 37, 115], shape9, FmtStop.pack a, shape9, FmtStop.pack b, shape9, FmtStop.pack c] = some (a ++ (b ++ 46 :: c)) := by
  have h1 := FmtText.operand_str_at (sh := shape9) rfl rfl a ha
  have h2 := FmtText.operand_str_at (sh := shape9) rfl rfl b hb
  have h3 := FmtText.operand_str_at (sh := shape9) rfl rfl c hc
  rw [FmtText.text_sprintf_glued parseB (FmtText.operands_cons h1 (FmtText.operands_cons h2 (FmtText.operands_cons h3 FmtText.operands_nil)))]
  simp [FmtText.render, FmtText.printArg_s_str]
theorem told_list (F : Interp) {rd : List (List UInt8)} {s : List UInt8} (h : FmtText.text "fmt.Sprintf" rd = some s) (hl : s.length < 2 ^ 63) : (FmtStop.textOf (F.told "fmt.Sprintf" rd 0)).data.toList = s := by
  rw [textOf_list, told_string F h hl]
/-- the text of a plain decimal behind its sign -/
def bodyL (I Fr : List UInt8) (dot : Bool) : List UInt8 := I ++ (if dot then 46 :: Fr else [])
def plainB (b : UInt8) : Prop := b = 46 ∨ b = 45 ∨ b = 43 ∨ isDg b = true
theorem plainB_ok {b : UInt8} (h : plainB b) : b.toNat < 128 ∧ b ≠ 101 ∧ b ≠ 69 := by
  rcases h with rfl | rfl | rfl | h
  · decide
  · decide
  · decide
  · have : 48 ≤ b.toNat ∧ b.toNat ≤ 57 := by simpa [isDg] using h
    refine ⟨by omega, fun e => ?_, fun e => ?_⟩ <;> (subst e; revert this; decide)
theorem containsAny_no : ∀ l : List UInt8, (∀ b ∈ l, plainB b) → Lib.indexAny l [101, 69] = -1
  | [], _ => rfl
  | b :: l, h => by
    have hb := (plainB_ok (h b (by simp))).2
    have ih := containsAny_no l (fun x hx => h x (by simp [hx]))
    rw [Lib.indexAny, if_neg (by simp [hb.1, hb.2]), ih]; rfl
set_option maxRecDepth 100000 in
theorem ca_any (s : ByteArray) (w : World) (hs : s.size < 4294967281) (h : ∀ b ∈ s.data.toList, plainB b) :
    Calls Tryf.prog 17 #[.string s, .string ⟨#[101, 69]⟩] w fun e w' => e = .returned (.bool false) ∧ Below w.heap.size w w' :=
  (Tryf.strings_ContainsAny_laid s ⟨#[101, 69]⟩ w hs (by decide) (fun j b hj => (plainB_ok (h b (List.mem_of_getElem? hj))).1) (fun j b hj => by
    have hm := List.mem_of_getElem? hj
    have hm' : b = 101 ∨ b = 69 := by simpa using hm
    rcases hm' with rfl | rfl <;> decide)).mono fun e w' ⟨he, hb⟩ => ⟨by rw [he, Lib.containsAny, containsAny_no _ h]; rfl, hb⟩
theorem index_dg : ∀ (l r : List UInt8), (∀ b ∈ l, isDg b = true) → Lib.indexByte (l ++ 46 :: r) 46 = l.length
  | [], r, _ => by simp [Lib.indexByte]
  | b :: l, r, h => by
    have ih := index_dg l r (fun x hx => h x (by simp [hx]))
    have hb : (b == 46) = false := by
      have : isDg b = true := h b (by simp)
      rw [beq_eq_false_iff_ne]
      intro e; subst e; revert this; decide
    have hne : ((l.length : Int) == -1) = false := beq_eq_false_iff_ne.2 (by omega)
    rw [List.cons_append, Lib.indexByte, hb, ih, hne]
    simp
theorem index_no : ∀ l : List UInt8, (∀ b ∈ l, isDg b = true) → Lib.indexByte l 46 = -1
  | [], _ => rfl
  | b :: l, h => by
    have ih := index_no l (fun x hx => h x (by simp [hx]))
    have hb : (b == 46) = false := by
      have : isDg b = true := h b (by simp)
      rw [beq_eq_false_iff_ne]
      intro e; subst e; revert this; decide
    rw [Lib.indexByte, hb, ih]; rfl
theorem head_body {I Fr : List UInt8} {dot : Bool} (hI : ∀ b ∈ I, isDg b = true) {b : UInt8} {r : List UInt8} (e : bodyL I Fr dot = b :: r) : b ≠ 45 ∧ b ≠ 43 := by
  unfold bodyL at e
  cases I with
  | nil =>
    cases dot with
    | false => simp at e
    | true => simp at e; obtain ⟨rfl, _⟩ := e; decide
  | cons c I =>
    simp at e
    obtain ⟨rfl, _⟩ := e
    have : isDg c = true := hI c (by simp)
    exact ⟨fun e => by subst e; revert this; decide, fun e => by subst e; revert this; decide⟩
theorem rep_zero (c : Nat) : Lib.repeatL [48] c = zeros c := by
  induction c with
  | zero => rfl
  | succ c ih => rw [Lib.repeatL, ih]; rfl
theorem rep_any (x : Int) (w : World) (h0 : 0 ≤ x) (h1 : x ≤ 2000000) :
    Calls Tryf.prog 19 #[.string ⟨#[48]⟩, .int .i64 x] w fun e w' => e = .returned (.string (zeroB x.toNat)) ∧ Below w.heap.size w w' := by
  obtain ⟨n, rfl⟩ := Int.eq_ofNat_of_zero_le h0
  refine (Tryf.strings_Repeat ⟨#[48]⟩ n w (by omega) (by show 1 * n ≤ _; omega)).mono fun e w' ⟨he, hb⟩ => ⟨?_, hb⟩
  rw [he, Int.toNat_natCast, zeroB, ← rep_zero]
end Go.Proofs.YtfhkkpfkkhpohaaFmt.Sd
