/-
  appendMediaTerm, its callers' wrappers.
-/
import Derived.Test.YtbjcolglkegicabMq
import Derived.Maps.AppendAt
import Derived.Deep.QuietTactic
import Derived.BigQuiet
namespace Go.Proofs.Ytbjcolglkegicab.Mq
open Go.ChangeShapes Go.WideShapes Go.ChangeAt Go.RowKit Rg
set_option linter.unusedVariables false
theorem alloc_cell {w : World} {p : Addr} {v : Value} (h : w.cell? p = some v) : ∀ o, (w.alloc o).cell? p = some v := fun o => by
  rw [World.cell?_alloc_lt w o p (World.block_lt_of_cell? w p h)]; exact h
/-- a binary query's block -/
def BB (w : World) (g : Nat) (op : Int) (v : Value) : Prop := w.heap[g]? = some (.cells #[.int .u8 op, v] 86 (0, 0))
theorem BB.lt {w : World} {g : Nat} {op : Int} {v : Value} (h : BB w g op v) : g < w.heap.size := by
  rcases Nat.lt_or_ge g w.heap.size with hlt | hge
  · exact hlt
  · unfold BB at h; rw [Array.getElem?_eq_none hge] at h; cases h
theorem BB.keep {w w' : World} {g : Nat} {op : Int} {v : Value} (h : BB w g op v) (hb : Below w.heap.size w w') : BB w' g op v := (hb.block g h.lt).trans h
theorem BB.cell {w : World} {g : Nat} {op : Int} {v : Value} (h : BB w g op v) : w.cell? ⟨g, 0, none⟩ = some (.int .u8 op) ∧ w.cell? ⟨g, 1, none⟩ = some v := by
  unfold BB at h
  exact ⟨cell_of_row w g 0 _ _ _ h, cell_of_row w g 1 _ _ _ h⟩
theorem ta_bin (D : Value) (w : World) : (Instr.typeAssert (.iface 84 D) 31 84 true).run Try.prog w = .ok (.tuple #[D, .bool true]) w := by kernel_rfl
theorem ta_plain (D : Value) (w : World) : (Instr.typeAssert (.iface 87 D) 31 84 true).run Try.prog w = .ok (.tuple #[.pointer none, .bool false]) w := by kernel_rfl
theorem ta_as (D : Value) (w : World) : (Instr.typeAssert (.iface 87 D) 31 87 true).run Try.prog w = .ok (.tuple #[D, .bool true]) w := by kernel_rfl
set_option maxRecDepth 100000 in
set_option maxHeartbeats 1000000 in
theorem binary_any (op : Int) (gs m c : Nat) (w : World) : Calls Try.prog 7 #[.agg #[.int .i32 (-1)], .int .u8 op, .slice (some ⟨gs, 0, none⟩) m c] w fun e w' => e = .returned (.agg #[.int .i32 (-1), .iface 84 (.pointer (some ⟨w.heap.size + 2, 0, none⟩))]) ∧ BB w' (w.heap.size + 2) op (.slice (some ⟨gs, 0, none⟩) m c) ∧ Below w.heap.size w w' := by
  go_enter Try.func7, Try.ntmps7
  go_wp2
  refine bodyPost_ret (v := .agg #[.int .i32 (-1), .iface 84 (.pointer (some ⟨w.heap.size + 2, 0, none⟩))]) (by simp [results, Try.results7, go_sem]) rfl ⟨rfl, ?_, ?_⟩
  · have h := heap_alloc_new ((w.alloc (.cells #[.int .i32 (-1)] 29)).alloc (.cells #[.int .i32 (-1), .iface 84 (.pointer (some ⟨w.heap.size + 1 + 1, 0, none⟩))] 33)) (.cells #[.int .u8 op, .slice (some ⟨gs, 0, none⟩) m c] 86)
    unfold BB
    simpa using h
  · exact (((Below.refl _ _).alloc (Nat.le_refl _) _).alloc (by simp) _).alloc (by simp; omega) _
/-- what an append onto an owned row leaves -/
def App (B n : Nat) (gi : Nat) (zs : List Value) (w : World) (e : Ending) (w' : World) : Prop :=
  ∃ g c, e = .returned (.slice (some ⟨g, 0, none⟩) n c) ∧ w'.ownsRow B 33 2 (.slice (some ⟨g, 0, none⟩) n c) n zs ∧ w.grownBy w' (some gi) ∧ (g = gi ∨ w.heap.size ≤ g)
theorem grown_alloc (w : World) (o : Obj) (row : Option Nat) : w.grownBy (w.alloc o) row := ⟨rfl, rfl, rfl, by simp, fun i hi _ => Below.heap_alloc w o i hi⟩
theorem app_done {w W w2 : World} {B N gi n ci m : Nat} {v2 : Value} {zs : List Value} (hW : w.grownBy W (some gi)) (hle : w.heap.size ≤ W.heap.size) (hown : w2.ownsRow B 33 2 v2 N zs) (hgrow : W.grownBy w2 (Value.slice (some ⟨gi, 0, none⟩) n ci).ownBlock)
    (hnil : v2 = .slice none 0 0 ↔ Value.slice (some ⟨gi, 0, none⟩) n ci = .slice none 0 0 ∧ m = 0) (hat : v2.ownBlock = (Value.slice (some ⟨gi, 0, none⟩) n ci).ownBlock ∨ v2.ownBlock = some W.heap.size) : App B N gi zs w (.returned v2) w2 := by
  rcases hown.2 with ⟨rfl, _⟩ | ⟨g, cap, cur, rfl, _⟩
  · have := (hnil.1 rfl).1
    simp at this
  · refine ⟨g, cap, rfl, hown, hW.trans hgrow, ?_⟩
    simp [Value.ownBlock] at hat
    rcases hat with h | h
    · exact .inl h
    · exact .inr (by omega)
set_option maxRecDepth 100000 in
set_option maxHeartbeats 1000000 in
theorem app_bin (p g gi gs n m ci cs B : Nat) (op : Int) (xs ys : List Value) (w : World) (hn : (n : Int) ≤ 8192) (hm : (m : Int) ≤ 8192) (hB : B ≤ w.heap.size)
    (h1 : w.ownsRow B 33 2 (.slice (some ⟨gi, 0, none⟩) n ci) n xs) (h2 : w.ownsRow B 33 2 (.slice (some ⟨gs, 0, none⟩) m cs) m ys) (h3 : ∀ u ∈ ys, u.oneCell' = true) (hb : BB w g op (.slice (some ⟨gs, 0, none⟩) m cs)) (hp : w.cell? ⟨p, 49, none⟩ = some (.bool true)) :
    Calls Try.prog 10 #[.pointer (some ⟨p, 0, none⟩), .slice (some ⟨gi, 0, none⟩) n ci, .agg #[.int .i32 (-1), .iface 84 (.pointer (some ⟨g, 0, none⟩))], .int .u8 op] w (App B (n + m) gi (xs ++ ys) w) := by
  obtain ⟨i0, hi, hz0, hz1, hz2⟩ := info_parts infoMq
  have HI := Lib.hid (And.intro hi (And.intro hz0 (And.intro hz1 hz2)))
  have ht := fun w => ta_bin (.pointer (some ⟨g, 0, none⟩)) w
  obtain ⟨c0', c1'⟩ := hb.cell
  have c0 := alloc_cell c0'
  have c1 := alloc_cell c1'
  have c2 := alloc_cell hp
  clear c0' c1' hp
  have H1 := Lib.hid h1
  have H2 := Lib.hid h2
  have H3 := Lib.hid h3
  clear h1 h2 h3 hb hi hz0 hz1 hz2
  go_enter Try.func10, Try.ntmps10
  go_wp2_with (first
    | (at_builtin
       refine wpList_append_own_at _ rfl (.tmp 34) (.tmp 38) _ rfl B 33 i0 _ 2 24 Try.underlying25 HI.out.1 HI.out.2.1 HI.out.2.2.1 HI.out.2.2.2 rfl (by omega) (.slice (some ⟨gi, 0, none⟩) n ci) n xs (by rfl) (H1.out.alloc _) ⟨gs, 0, none⟩ m cs ys (by rfl) H2.out.1 ((H2.out.alloc _).cells rfl) H3.out (by unfold maxLen; omega) (by omega) (by simp; omega) ?_
       intro v2 w2 hown hgrow hnil hat))
  go_ret
  exact app_done (grown_alloc w _ _) (by simp) hown hgrow hnil hat
set_option maxRecDepth 100000 in
set_option maxHeartbeats 1000000 in
theorem app_one (p g gi n ci B : Nat) (op l : Int) (xs : List Value) (w : World) (hn : (n : Int) ≤ 8192) (hB : B ≤ w.heap.size)
    (h1 : w.ownsRow B 33 2 (.slice (some ⟨gi, 0, none⟩) n ci) n xs) :
    Calls Try.prog 10 #[.pointer (some ⟨p, 0, none⟩), .slice (some ⟨gi, 0, none⟩) n ci, .agg #[.int .i32 l, .iface 87 (.pointer (some ⟨g, 0, none⟩))], .int .u8 op] w (App B (n + 1) gi (xs ++ mqc l g) w) := by
  obtain ⟨i0, hi, hz0, hz1, hz2⟩ := info_parts infoMq
  have HI := Lib.hid (And.intro hi (And.intro hz0 (And.intro hz1 hz2)))
  have ht := fun w => ta_plain (.pointer (some ⟨g, 0, none⟩)) w
  have H1 := Lib.hid h1
  clear h1 hi hz0 hz1 hz2
  go_enter Try.func10, Try.ntmps10
  go_wp2_with (first
    | (at_builtin
       refine wpList_append_own_at _ rfl (.tmp 40) (.tmp 42) _ rfl B 33 i0 _ 2 24 Try.underlying25 HI.out.1 HI.out.2.1 HI.out.2.2.1 HI.out.2.2.2 rfl (by omega) (.slice (some ⟨gi, 0, none⟩) n ci) n xs (by rfl) ((H1.out.alloc _).alloc _) ⟨w.heap.size + 1, 0, none⟩ 1 1 (mqc l g) (by rfl) (by rfl) (World.news_of_block (cs := #[.int .i32 l, .iface 87 (.pointer (some ⟨g, 0, none⟩))]) (heap_alloc2_new w _ _)) (mqc_one _ _) (by unfold maxLen; omega) (by omega) (by simp; omega) ?_
       intro v2 w2 hown hgrow hnil hat))
  go_ret
  exact app_done ((grown_alloc w _ _).trans (grown_alloc _ _ _)) (by simp; omega) hown hgrow hnil hat
end Go.Proofs.Ytbjcolglkegicab.Mq
