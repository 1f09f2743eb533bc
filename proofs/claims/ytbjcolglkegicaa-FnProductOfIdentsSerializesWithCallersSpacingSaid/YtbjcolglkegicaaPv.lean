/-
  Terms of a product of identifiers; what appends one; a value's own token.
-/
import Derived.Test.YtbjcolglkegicaaSl
namespace Go.Proofs.Ytbjcolglkegicaa.Pd
open Go.ChangeShapes Go.WideShapes Go.ChangeAt Go.RowKit Rg
set_option linter.unusedVariables false
theorem infoTm : (Try.prog.info? 49).map (fun i => (i.zero, i.size, i.bytes)) = some (some (.agg #[.nilIface, .int .i32 0]), 2, 24) := by kernel_rfl
abbrev vcells (t : ByteArray) : Array Value := #[.pointer none, .string t, .int .i32 0, .int .u32 0, .int .u16 0, .int .u8 29, .int .u8 0, .bool false]
abbrev icells (h : Nat) : Array Value := #[.iface 43 (.pointer (some ⟨h, 0, none⟩)), .int .i32 0]
/-- a term: a value, or an inverted value -/
def TV (w : World) (inv : Bool) (g h : Nat) (t : ByteArray) : Prop :=
  match inv with
  | false => Bk w g 45 (vcells t)
  | true => Bk w g 51 (icells h) ∧ Bk w h 45 (vcells t)
def ity (inv : Bool) : TypeId := if inv then 42 else 43
def tc (inv : Bool) (g : Nat) : List Value := [.iface (ity inv) (.pointer (some ⟨g, 0, none⟩)), .int .i32 0]
theorem tc_one (inv : Bool) (g : Nat) : ∀ u ∈ tc inv g, u.oneCell' = true := by
  intro u hu
  simp [tc] at hu
  rcases hu with rfl | rfl <;> rfl
section
variable {w w' : World} {inv : Bool} {g h : Nat} {t : ByteArray}
theorem TV.keep (H : TV w inv g h t) (hb : Below w.heap.size w w') : TV w' inv g h t := by
  cases inv
  · exact Bk.keep H hb
  · exact ⟨H.1.keep hb, H.2.keep hb⟩
theorem TV.grown {B n s : Nat} {v : Value} {xs : List Value} (H : TV w inv g h t) (ho : w.ownsRow B 49 s v n xs) (hg : w.grownBy w' v.ownBlock) : TV w' inv g h t := by
  cases inv
  · exact Bk.grown H hg (Bk.ne_row H ho (by decide))
  · exact ⟨H.1.grown hg (H.1.ne_row ho (by decide)), H.2.grown hg (H.2.ne_row ho (by decide))⟩
end
/-- what appending one term leaves -/
def Wth (B n : Nat) (v : Value) (xs : List Value) (inv : Bool) (t : ByteArray) (w : World) (e : Ending) (w' : World) : Prop :=
  ∃ v' g h, e = .returned v' ∧ w'.ownsRow B 49 2 v' (n + 1) (xs ++ tc inv g) ∧ w.grownBy w' v.ownBlock ∧ TV w' inv g h t
theorem own_below {w : World} {B n s : Nat} {e : TypeId} {v : Value} {xs : List Value} (ho : w.ownsRow B e s v n xs) {g : Nat} (hg : w.heap.size ≤ g) : some g ≠ v.ownBlock := by
  intro h
  have := (ho.lt g h.symm).2
  omega
set_option maxRecDepth 100000 in
set_option maxHeartbeats 1000000 in
theorem with_any (B n : Nat) (v : Value) (xs : List Value) (t : ByteArray) (w : World) (hn : (n : Int) ≤ 65536) (hB : B ≤ w.heap.size) (h1 : w.ownsRow B 49 2 v n xs) :
    Calls Try.prog 9 #[v, .int .u8 29, .string t] w (Wth B n v xs false t w) := by
  obtain ⟨i0, hi, hz0, hz1, hz2⟩ := info_parts infoTm
  have HI := Lib.hid (And.intro hi (And.intro hz0 (And.intro hz1 hz2)))
  have H1 := Lib.hid h1
  clear h1 hi hz0 hz1 hz2
  go_enter Try.func9, Try.ntmps9
  go_wp2_with (first
    | (at_builtin
       refine wpList_append_own_at _ rfl (.tmp 7) (.tmp 15) _ rfl B 49 i0 _ 2 24 Try.underlying27 HI.out.1 HI.out.2.1 HI.out.2.2.1 HI.out.2.2.2 rfl (by omega) v n xs (by rfl) ((H1.out.alloc _).alloc _) ⟨w.heap.size + 1, 0, none⟩ 1 1 (tc false w.heap.size) (by rfl) (by rfl) (World.news_of_block (cs := #[.iface 43 (.pointer (some ⟨w.heap.size, 0, none⟩)), .int .i32 0]) (heap_alloc2_new w _ _)) (tc_one _ _) (by unfold maxLen; omega) (by omega) (by simp; omega) ?_
       intro v2 w2 hown hgrow hnil hat))
  go_ret
  refine ⟨v2, w.heap.size, 0, rfl, hown, ((grown_alloc w _ _).trans (grown_alloc _ _ _)).trans hgrow, ?_⟩
  exact Bk.grown (heap_alloc2_old w _ _) hgrow (own_below H1.out (Nat.le_refl _))
set_option maxRecDepth 100000 in
set_option maxHeartbeats 1000000 in
theorem inv_any (B n : Nat) (v : Value) (xs : List Value) (t : ByteArray) (w : World) (hn : (n : Int) ≤ 65536) (hB : B ≤ w.heap.size) (h1 : w.ownsRow B 49 2 v n xs) :
    Calls Try.prog 8 #[v, .int .u8 29, .string t] w (Wth B n v xs true t w) := by
  obtain ⟨i0, hi, hz0, hz1, hz2⟩ := info_parts infoTm
  have HI := Lib.hid (And.intro hi (And.intro hz0 (And.intro hz1 hz2)))
  have H1 := Lib.hid h1
  clear h1 hi hz0 hz1 hz2
  go_enter Try.func8, Try.ntmps8
  go_wp2_with (first
    | (at_builtin
       refine wpList_append_own_at _ rfl (.tmp 7) (.tmp 19) _ rfl B 49 i0 _ 2 24 Try.underlying27 HI.out.1 HI.out.2.1 HI.out.2.2.1 HI.out.2.2.2 rfl (by omega) v n xs (by rfl) (((H1.out.alloc _).alloc _).alloc _) ⟨w.heap.size + 1 + 1, 0, none⟩ 1 1 (tc true (w.heap.size + 1)) (by rfl) (by rfl) (World.news_of_block (cs := #[.iface 42 (.pointer (some ⟨w.heap.size + 1, 0, none⟩)), .int .i32 0]) (by simpa using heap_alloc2_new (w.alloc (.cells (vcells t) 45)) (.cells (icells w.heap.size) 51) (.cells #[.iface 42 (.pointer (some ⟨w.heap.size + 1, 0, none⟩)), .int .i32 0] 49))) (tc_one _ _) (by unfold maxLen; omega) (by omega) (by simp; omega) ?_
       intro v2 w2 hown hgrow hnil hat))
  go_ret
  refine ⟨v2, w.heap.size + 1, w.heap.size, rfl, hown, (((grown_alloc w _ _).trans (grown_alloc _ _ _)).trans (grown_alloc _ _ _)).trans hgrow, ?_, ?_⟩
  · refine Bk.grown (w := ((w.alloc (.cells (vcells t) 45)).alloc (.cells (icells w.heap.size) 51)).alloc _) ?_ hgrow (own_below H1.out (by omega))
    have := heap_alloc2_old (w.alloc (.cells (vcells t) 45)) (.cells (icells w.heap.size) 51) (.cells #[.iface 42 (.pointer (some ⟨w.heap.size + 1, 0, none⟩)), .int .i32 0] 49)
    unfold Bk
    simpa using this
  · refine Bk.grown (w := ((w.alloc (.cells (vcells t) 45)).alloc (.cells (icells w.heap.size) 51)).alloc _) ?_ hgrow (own_below H1.out (Nat.le_refl _))
    exact Bk.keep (Bk.keep (heap_alloc_new w _) ((Below.refl _ _).alloc (Nat.le_refl _) _)) ((Below.refl _ _).alloc (Nat.le_refl _) _)
/-- a value's token -/
abbrev vtok (t : ByteArray) : Array Value := #[.pointer none, .string t, .int .i32 0, .int .u32 0, .int .u16 0, .int .u8 29, .int .u8 0]
set_option maxRecDepth 100000 in
set_option maxHeartbeats 1000000 in
theorem val_any (g : Nat) (t : ByteArray) (ws : Int) (w : World) (h : Bk w g 45 (vcells t)) :
    Calls Try.prog 32 #[.pointer (some ⟨g, 0, none⟩), .int .u8 ws] w fun e w' => e = .returned (.tuple #[.agg (vtok t), .bool true]) ∧ Below w.heap.size w w' := by
  have c0 := alloc_cell (h.cell 0 rfl)
  have c1 := alloc_cell (h.cell 1 rfl)
  have c2 := alloc_cell (h.cell 2 rfl)
  have c3 := alloc_cell (h.cell 3 rfl)
  have c4 := alloc_cell (h.cell 4 rfl)
  have c5 := alloc_cell (h.cell 5 rfl)
  have c6 := alloc_cell (h.cell 6 rfl)
  clear h
  go_enter Try.func32, Try.ntmps32
  go_wp2
  refine bodyPost_ret (v := .tuple #[.agg (vtok t), .bool true]) (by simp [results, Try.results32, go_sem]) rfl ⟨rfl, ?_⟩
  exact ((Below.refl _ _).alloc (Nat.le_refl _) _).alloc (by simp) _
end Go.Proofs.Ytbjcolglkegicaa.Pd
