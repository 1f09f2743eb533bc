/-
  Small functions of the encodings.
-/
import Derived.Test.YtbpnmiedomchpaaFs
import Derived.Lib.AppendStr
import Derived.Lib.AppendIntMem
import Derived.Laws.IdiomStrings
namespace Go.Proofs.Ytbpnmiedomchpaa.Fg
open Go.ChangeShapes Go.WideShapes Go.ChangeAt Go.RowKit Rg
set_option linter.unusedVariables false
set_option linter.unusedSimpArgs false
/-- a drawn region all of whose operations are taken one by one -/
theorem wp_region_all {P : Program} {Q : Exit → Act → World → Prop} {id : Nat} {l : List Oper} {a : Act} {w : World} (S : World → Prop) (n : Nat) (hn : l.length = n) (hm : P.follows .mixedOrders = true)
    (h : wpAnyH P .any l.toArray Q S n (Array.replicate n false) a w.drew) : (Code.region id l.toArray true).wp P Q a w := by
  refine wp_region_any hm ?_
  have h2 := wpAny_of_held _ _ _ _ h
  subst hn
  simpa using h2
/-- a number's digits -/
def dg (n : Nat) : List UInt8 := if h : n < 10 then [UInt8.ofNat (48 + n)] else dg (n / 10) ++ [UInt8.ofNat (48 + n % 10)]
theorem dg_lo {n : Nat} (h : n < 10) : dg n = [UInt8.ofNat (48 + n)] := by rw [dg, dif_pos h]
theorem dg_hi {n : Nat} (h : ¬ n < 10) : dg n = dg (n / 10) ++ [UInt8.ofNat (48 + n % 10)] := by rw [dg, dif_neg h]
def cbB (c : Nat) : Nat := if c = 0 then 95 else c
def kdS (k : Nat) : ByteArray := if k = 0 then ⟨#[48]⟩ else if k = 3 then ⟨#[49]⟩ else if k = 2 then ⟨#[50]⟩ else if k = 4 then ⟨#[51]⟩ else if k = 9 then ⟨#[52]⟩ else if k = 1 then ⟨#[53]⟩ else ⟨#[57]⟩
/-- a buffer of bytes -/
def Bf (D : Nat) (v : Value) (l : List UInt8) (w : World) : Prop := w.ownsRow D 5 1 v l.length (Lib.byteCells l)
set_option maxRecDepth 100000 in
set_option maxHeartbeats 4000000 in
theorem cmb_any (c : Nat) (w : World) : Calls Try.prog 37 #[.int .u8 (c : Nat)] w (fun e w' => e = .returned (.int .u8 (cbB c : Nat)) ∧ w = w') := by
  by_cases h : c = 0
  · subst h
    go_enter Try.func37, Try.ntmps37
    go_wp2_with fail
    go_ret
    exact ⟨rfl, rfl⟩
  · have h2 : ((c : Int) == 0) = false := beq_eq_false_iff_ne.2 (by omega)
    have h3 : cbB c = c := by unfold cbB; rw [if_neg h]
    rw [h3]
    clear h h3
    go_enter Try.func37, Try.ntmps37
    go_wp2_with fail
    go_ret
    exact ⟨rfl, rfl⟩
set_option maxRecDepth 100000 in
set_option maxHeartbeats 4000000 in
theorem kdg_any (k : Nat) (w : World) : Calls Try.prog 36 #[.int .u8 (k : Nat)] w (fun e w' => e = .returned (.string (kdS k)) ∧ w = w') := by
  obtain ⟨r, hr⟩ : ∃ r, r = kdS k := ⟨_, rfl⟩
  rw [← hr]
  by_cases h0 : k = 0
  · subst h0
    subst hr
    go_enter Try.func36, Try.ntmps36
    go_wp2_with fail
    go_ret
    exact ⟨rfl, rfl⟩
  by_cases h3 : k = 3
  · subst h3
    subst hr
    go_enter Try.func36, Try.ntmps36
    go_wp2_with fail
    go_ret
    exact ⟨rfl, rfl⟩
  by_cases h2 : k = 2
  · subst h2
    subst hr
    go_enter Try.func36, Try.ntmps36
    go_wp2_with fail
    go_ret
    exact ⟨rfl, rfl⟩
  by_cases h4 : k = 4
  · subst h4
    subst hr
    go_enter Try.func36, Try.ntmps36
    go_wp2_with fail
    go_ret
    exact ⟨rfl, rfl⟩
  by_cases h9 : k = 9
  · subst h9
    subst hr
    go_enter Try.func36, Try.ntmps36
    go_wp2_with fail
    go_ret
    exact ⟨rfl, rfl⟩
  by_cases h1 : k = 1
  · subst h1
    subst hr
    go_enter Try.func36, Try.ntmps36
    go_wp2_with fail
    go_ret
    exact ⟨rfl, rfl⟩
  have hr2 : r = ⟨#[57]⟩ := by rw [hr]; unfold kdS; rw [if_neg h0, if_neg h3, if_neg h2, if_neg h4, if_neg h9, if_neg h1]
  subst hr2
  have e0 : ((k : Int) == 0) = false := beq_eq_false_iff_ne.2 (by omega)
  have e3 : ((k : Int) == 3) = false := beq_eq_false_iff_ne.2 (by omega)
  have e2 : ((k : Int) == 2) = false := beq_eq_false_iff_ne.2 (by omega)
  have e4 : ((k : Int) == 4) = false := beq_eq_false_iff_ne.2 (by omega)
  have e9 : ((k : Int) == 9) = false := beq_eq_false_iff_ne.2 (by omega)
  have e1 : ((k : Int) == 1) = false := beq_eq_false_iff_ne.2 (by omega)
  clear h0 h3 h2 h4 h9 h1 hr
  go_enter Try.func36, Try.ntmps36
  go_wp2_with fail
  go_ret
  exact ⟨rfl, rfl⟩
/-- what a subclass selector's name is found to be -/
def bnV : Su → Value
  | .bare n => .tuple #[.string n, .bool true]
  | .wrap _ _ => .tuple #[.string ⟨#[]⟩, .bool false]
set_option maxRecDepth 100000 in
set_option maxHeartbeats 4000000 in
theorem bn_any (X : Nat → Prop) (x : Value) (su : Su) (w : World) (hX : ∀ b, X b → b < w.heap.size) (h : e1 X w x su) : Calls Try.prog 34 #[.agg (sbc x).toArray] w (fun e w' => e = .returned (bnV su) ∧ Below w.heap.size w w') := by
  cases su with
  | bare n =>
    obtain ⟨p, rfl, hp, hr⟩ := h
    go_enter Try.func34, Try.ntmps34
    go_upto_region 1 with fail
    have hb : Below w.heap.size w (w.alloc (.cells (sbc (ifP p)).toArray 119)) := (Below.refl _ _).alloc (Nat.le_refl _) _
    have hn := rg_new w (sbc (ifP p)).toArray 119
    generalize w.alloc _ = w1 at *
    have c0 := hn 0 _ rfl
    have l0 := (rg_ag (hb.block p (hX p hp)) hr) 0 _ rfl
    simp only [Nat.zero_add] at c0 l0
    have h1 := fun W => ta_pp p W
    have HB := Lib.hid hb
    clear hb hn hr hp hX
    go_wp2_with fail
    refine bodyPost_ret (v := .tuple #[.string n, .bool true]) (by simp [results, Try.results34, go_sem]) rfl ⟨rfl, HB.out⟩
  | wrap k M =>
    obtain ⟨p, v, rfl, hp, hr, hk, -⟩ := h
    go_enter Try.func34, Try.ntmps34
    go_upto_region 1 with fail
    have hb : Below w.heap.size w (w.alloc (.cells (sbc (ifL p)).toArray 119)) := (Below.refl _ _).alloc (Nat.le_refl _) _
    have hn := rg_new w (sbc (ifL p)).toArray 119
    generalize w.alloc _ = w1 at *
    have c0 := hn 0 _ rfl
    simp only [Nat.zero_add] at c0
    have h1 := fun W => ta_pl p W
    have HB := Lib.hid hb
    clear hb hn hr hp hX hk
    go_wp2_with fail
    refine bodyPost_ret (v := .tuple #[.string ⟨#[]⟩, .bool false]) (by simp [results, Try.results34, go_sem]) rfl ⟨rfl, HB.out⟩
set_option maxRecDepth 100000 in
set_option maxHeartbeats 4000000 in
theorem wo_any (X : Nat → Prop) (x : Value) (k : Nat) (M : List (List (Cp ByteArray))) (w : World) (hX : ∀ b, X b → b < w.heap.size) (h : e1 X w x (.wrap k M)) : Calls Try.prog 35 #[.agg (sbc x).toArray] w (fun e w' => ∃ v, e = .returned (.tuple #[.int .u8 (k : Nat), v, .bool true]) ∧ MdV e0 X w v M ∧ Below w.heap.size w w') := by
  obtain ⟨p, v, rfl, hp, hr, hk, hM⟩ := h
  obtain ⟨ma, mc, rfl⟩ := RW.slice hM
  go_enter Try.func35, Try.ntmps35
  go_upto_region 1 with fail
  have hb : Below w.heap.size w (w.alloc (.cells (sbc (ifL p)).toArray 119)) := (Below.refl _ _).alloc (Nat.le_refl _) _
  have hn := rg_new w (sbc (ifL p)).toArray 119
  generalize w.alloc _ = w1 at *
  have c0 := hn 0 _ rfl
  have hr2 := rg_ag (hb.block p (hX p hp)) hr
  have l0 := hr2 0 _ rfl
  have l3 := hr2 3 _ rfl
  simp only [Nat.zero_add] at c0 l0 l3
  have h1 := fun W => ta_ll p W
  have HD : Below w1.heap.size w1 w1.drew := (Below.refl _ _).drew
  have NS0 := Lib.hid (And.intro (later HD l3) (later HD l0))
  have HB := Lib.hid (And.intro (hb.trans (HD.mono hb.size)) hM)
  clear hb hn hr hp hX hr2 hM HD
  go_upto_region 4 with fail
  refine wp_region_all (fun w' => w'.cell? ⟨p, 3, none⟩ = some (.int .u8 (k : Nat)) ∧ w'.cell? ⟨p, 0, none⟩ = some (.slice ma M.length mc)) 11 rfl (by kernel_rfl) ?_
  have hHeld := NS0.out
  refine Pl.take_l (i := 0) (v := ?v1) rfl (by kernel_rfl) (by kernel_rfl) (by kernel_rfl) (fun _ _ _ h => h) rfl ?hy1 hHeld ?rest1
  case hy1 => (intro w hSw; (try dsimp only at hSw); (try obtain ⟨_, _⟩ := hSw); go_simp <;> (try with_reducible rfl))
  try simp only [Act.put, List.setIfInBounds_toArray, List.set_cons_zero, List.set_cons_succ]
  refine Pl.take_l (i := 1) (v := ?v2) rfl (by kernel_rfl) (by kernel_rfl) (by kernel_rfl) (fun _ _ _ h => h) rfl ?hy2 hHeld ?rest2
  case hy2 => (intro w hSw; (try dsimp only at hSw); (try obtain ⟨_, _⟩ := hSw); go_simp <;> (try with_reducible rfl))
  try simp only [Act.put, List.setIfInBounds_toArray, List.set_cons_zero, List.set_cons_succ]
  refine Pl.take_l (i := 2) (v := ?v3) rfl (by kernel_rfl) (by kernel_rfl) (by kernel_rfl) (fun _ _ _ h => h) rfl ?hy3 hHeld ?rest3
  case hy3 => (intro w hSw; (try dsimp only at hSw); (try obtain ⟨_, _⟩ := hSw); go_simp <;> (try with_reducible rfl))
  try simp only [Act.put, List.setIfInBounds_toArray, List.set_cons_zero, List.set_cons_succ]
  refine Pl.take_l (i := 3) (v := ?v4) rfl (by kernel_rfl) (by kernel_rfl) (by kernel_rfl) (fun _ _ _ h => h) rfl ?hy4 hHeld ?rest4
  case hy4 => (intro w hSw; (try dsimp only at hSw); (try obtain ⟨_, _⟩ := hSw); go_simp <;> (try with_reducible rfl))
  try simp only [Act.put, List.setIfInBounds_toArray, List.set_cons_zero, List.set_cons_succ]
  refine Pl.take_l (i := 4) (v := ?v5) rfl (by kernel_rfl) (by kernel_rfl) (by kernel_rfl) (fun _ _ _ h => h) rfl ?hy5 hHeld ?rest5
  case hy5 => (intro w hSw; (try dsimp only at hSw); (try obtain ⟨_, _⟩ := hSw); go_simp <;> (try with_reducible rfl))
  try simp only [Act.put, List.setIfInBounds_toArray, List.set_cons_zero, List.set_cons_succ]
  refine Pl.take_l (i := 5) (v := ?v6) rfl (by kernel_rfl) (by kernel_rfl) (by kernel_rfl) (fun _ _ _ h => h) rfl ?hy6 hHeld ?rest6
  case hy6 => (intro w hSw; (try dsimp only at hSw); (try obtain ⟨_, _⟩ := hSw); go_simp <;> (try with_reducible rfl))
  try simp only [Act.put, List.setIfInBounds_toArray, List.set_cons_zero, List.set_cons_succ]
  refine Pl.take_l (i := 6) (v := ?v7) rfl (by kernel_rfl) (by kernel_rfl) (by kernel_rfl) (fun _ _ _ h => h) rfl ?hy7 hHeld ?rest7
  case hy7 => (intro w hSw; (try dsimp only at hSw); (try obtain ⟨_, _⟩ := hSw); go_simp <;> (try with_reducible rfl))
  try simp only [Act.put, List.setIfInBounds_toArray, List.set_cons_zero, List.set_cons_succ]
  refine Pl.take_l (i := 7) (v := ?v8) rfl (by kernel_rfl) (by kernel_rfl) (by kernel_rfl) (fun _ _ _ h => h) rfl ?hy8 hHeld ?rest8
  case hy8 => (intro w hSw; (try dsimp only at hSw); (try obtain ⟨_, _⟩ := hSw); go_simp <;> (try with_reducible rfl))
  try simp only [Act.put, List.setIfInBounds_toArray, List.set_cons_zero, List.set_cons_succ]
  refine Pl.take_l (i := 8) (v := ?v9) rfl (by kernel_rfl) (by kernel_rfl) (by kernel_rfl) (fun _ _ _ h => h) rfl ?hy9 hHeld ?rest9
  case hy9 => (intro w hSw; (try dsimp only at hSw); (try obtain ⟨_, _⟩ := hSw); go_simp <;> (try with_reducible rfl))
  try simp only [Act.put, List.setIfInBounds_toArray, List.set_cons_zero, List.set_cons_succ]
  refine Pl.take_l (i := 9) (v := ?v10) rfl (by kernel_rfl) (by kernel_rfl) (by kernel_rfl) (fun _ _ _ h => h) rfl ?hy10 hHeld ?rest10
  case hy10 => (intro w hSw; (try dsimp only at hSw); (try obtain ⟨_, _⟩ := hSw); go_simp <;> (try with_reducible rfl))
  try simp only [Act.put, List.setIfInBounds_toArray, List.set_cons_zero, List.set_cons_succ]
  refine Pl.take_l (i := 10) (v := ?v11) rfl (by kernel_rfl) (by kernel_rfl) (by kernel_rfl) (fun _ _ _ h => h) rfl ?hy11 hHeld ?rest11
  case hy11 => (intro w hSw; (try dsimp only at hSw); (try obtain ⟨_, _⟩ := hSw); go_simp <;> (try with_reducible rfl))
  try simp only [Act.put, List.setIfInBounds_toArray, List.set_cons_zero, List.set_cons_succ]
  refine wpAnyH_done (by kernel_rfl) ?_ _
  clear hHeld
  generalize World.drew _ = y0 at *
  go_wp2_with fail
  exact bodyPost_ret (v := .tuple #[.int .u8 (k : Nat), .slice ma M.length mc, .bool true]) (by simp [results, Try.results35, go_sem]) rfl ⟨_, rfl, HB.out.2, HB.out.1⟩
end Go.Proofs.Ytbpnmiedomchpaa.Fg
