/-
  zzCloneU8 (by copy), zzBytes, zzCountSubclassTokens.
-/
import Derived.Test.YtgdodkfbobhfoaaTp
import Derived.Laws.CopyOwn
namespace Go.Proofs.Ytgdodkfbobhfoaa.Tr
open Go.ChangeShapes Go.WideShapes Go.ChangeAt Go.RowKit Rg
set_option linter.unusedVariables false
set_option maxRecDepth 100000 in
set_option maxHeartbeats 1000000 in
theorem count_any (a : Option Addr) (n c : Nat) (Z : Nat → Int) (w : World) (hn : (n : Int) ≤ 65536) (hZ : ∀ j, j < n → 0 ≤ Z j ∧ Z j ≤ 255) (hs : Sl w a n (fun j => .int .u8 (Z j))) :
    Calls Try.prog 8 #[.slice a n c] w fun e w' => e = .returned (.int .i64 (cntF Z n : Nat)) ∧ w = w' := by
  have HS := Lib.hid hs
  have HZ := Lib.hid hZ
  clear hs hZ
  go_enter Try.func8, Try.ntmps8
  go_wp2_with fail
  go_loop [3, 4] (fun t i => ∃ k : Nat, k ≤ n ∧ i = .int .i64 k ∧ t = .int .i64 (cntF Z k : Nat)) (fun _ i => n - (intOf i).toNat)
  case atStart => exact ⟨0, Nat.zero_le _, rfl, rfl⟩
  case round =>
    obtain ⟨k, hk, rfl, rfl⟩ := hrel
    by_cases hlt : k < n
    · obtain ⟨ab, ao, hx, d⟩ := HS.out k hlt
      subst hx
      have hz := HZ.out k hlt
      have q0 : (0 : Int) ≤ k := by omega
      have q1 : (k : Int) < n := by omega
      have q2 : ((cntF Z k : Nat) : Int) ≤ k := by have := cntF_le Z k; omega
      have q3 : (0 : Int) ≤ (cntF Z k : Nat) := by omega
      by_cases h1 : Z k % 5 ≤ 1
      · have HE := Lib.hid (show cntF Z (k + 1) = cntF Z k + 1 by rw [cntF, if_pos h1])
        go_wp2_with fail
        go_round
        case rel => exact ⟨k + 1, by omega, by go_num, by rw [HE.out]; go_num⟩
        case measure => simp [intOf]; omega
      · have HE := Lib.hid (show cntF Z (k + 1) = cntF Z k by rw [cntF, if_neg h1]; rfl)
        go_wp2_with fail
        go_round
        case rel => exact ⟨k + 1, by omega, by go_num, by rw [HE.out]⟩
        case measure => simp [intOf]; omega
    · obtain rfl : k = n := by omega
      go_wp2_with fail
      go_ret
      exact ⟨rfl, rfl⟩
set_option maxHeartbeats 400000 in
theorem bytes19 (a : Option Addr) (n c : Nat) (w : World) (hn : (n : Int) ≤ 9223372036854775807) : Calls Try.prog 4 #[.slice a n c] w fun e w' => e = .returned (.bool (decide ((n : Int) ≤ 1048576))) ∧ w = w' := by
  by_cases h : (1048576 : Int) < n
  · rw [show decide ((n : Int) ≤ 1048576) = false by simp; omega]
    go_enter Try.func4, Try.ntmps4
    go_wp2
    go_ret
    exact ⟨rfl, rfl⟩
  · rw [show decide ((n : Int) ≤ 1048576) = true by simp; omega]
    go_enter Try.func4, Try.ntmps4
    go_wp2
    go_ret
    exact ⟨rfl, rfl⟩
theorem copy_row {w : World} {ops : Array Oper} {rest : List Oper} {o : Oper} {a : Act} {Q : Exit → Act → World → Prop} (hgd : o.guard = none) (d s : Operand) (dT elem : TypeId)
    (ho : o.op = .call { callee := .builtin .copy, args := #[d, s], argTypes := #[dT, dT] }) (hu : Try.prog.underlying dT = some (.slice elem)) (hsz : (Try.prog.info? elem).map (·.size) = some 1)
    (n sCap : Nat) (sp : Option Addr) (k : IntKind) (z : Value) (Z : Nat → Int) (hd : a.eval d = .slice (some ⟨w.heap.size, 0, none⟩) n n) (hs : a.eval s = .slice sp n sCap) (hr : Sl w sp n (fun j => .int k (Z j)))
    (h : ∀ w', Below w.heap.size w w' → Hid (Sl w' (some ⟨w.heap.size, 0, none⟩) n (fun j => .int k (Z j))) → wpList Try.prog ops Q rest (a.put o.dst (goInt n)) w') :
    wpList Try.prog ops Q (o :: rest) a (w.alloc (.cells (madeCells #[z] n) elem)) := by
  refine wpList_copy_splice hgd d s dT dT ho elem hu hsz _ sp n n n sCap hd hs w.heap.size 0 (madeCells #[z] n).toList elem (by show (w.heap.push _)[w.heap.size]? = _; simp) ((List.range n).map fun j => .int k (Z j)) (by simp) ?_ (by simp [madeCells]) (by
    intro v hv
    simp at hv
    obtain ⟨j, _, rfl⟩ := hv
    rfl) w.heap.size w ((Below.refl _ _).alloc (Nat.le_refl _) _) (Nat.le_refl _) ?_
  · intro hp
    refine ⟨rfl, ?_⟩
    obtain ⟨ab, ao, rfl, hc⟩ := hr 0 (by simpa using hp)
    refine ⟨_, rfl, fun j v hj => ?_⟩
    have hjn : j < n := by
      by_cases hh : j < n
      · exact hh
      · simp [hh] at hj
    simp [hjn] at hj
    subst hj
    obtain ⟨ab', ao', e, hc'⟩ := hr j hjn
    simp only [Option.some.injEq, Addr.mk.injEq, and_true] at e
    obtain ⟨rfl, rfl⟩ := e
    rw [add_none]
    exact alloc_cell hc' _
  · intro w' hg hb
    have hg := hg.out
    have e : goInt ((List.range n).map fun j => Value.int k (Z j)).length = goInt n := by simp
    rw [e]
    refine h w' hb (Lib.hid ?_)
    intro j hj
    refine ⟨_, _, rfl, ?_⟩
    have hjl : j < ((List.range n).map fun j => Value.int k (Z j)).length := by simpa using hj
    simp [World.cell?, hg, splice]
    rw [List.getElem?_append_left hjl]
    simp [hj]
theorem cloneu_any_info : (Try.prog.info? 5).map (fun i => (i.zero, i.size, i.bytes)) = some (some (.int .u8 0), 1, 1) := by kernel_rfl
set_option maxRecDepth 100000 in
set_option maxHeartbeats 1000000 in
theorem cloneu_any (a : Option Addr) (n c : Nat) (Z : Nat → Int) (w : World) (h : Sl w a n (fun i => .int .u8 (Z i))) (h0 : a = none → n = 0) (hn : (n : Int) ≤ 65536) :
    Calls Try.prog 5 #[.slice a n c] w (Clon a n (fun i => .int .u8 (Z i)) w) := by
  have hq : ∀ W n' c', (binOp .eql 22 (.slice a n c) (.slice none n' c')).run Try.prog W = .ok (.bool a.isNone) W := fun W n' c' => Lib.run_eql_slice_nil W 22 5 a n c n' c' (by kernel_rfl)
  obtain ⟨i0, hi, hz0, hz1, hz2⟩ := info_parts cloneu_any_info
  have hmk := fun W => run_make_rowN (P := Try.prog) 22 5 i0 _ (by kernel_rfl) hi hz0 .i64 .i64 n n (Nat.le_refl _) (by rw [hz2]; omega) (by omega) W
  rw [hz1] at hmk
  have H := Lib.hid h
  clear h
  cases a with
  | none =>
    obtain rfl := h0 rfl
    clear hmk hi hz0 hz1 hz2
    go_enter Try.func5, Try.ntmps5
    go_wp2
    go_ret
    exact ⟨none, 0, rfl, Sl.none_ _ _ _, fun x hx => by simp at hx, Iff.rfl, Below.refl _ _⟩
  | some x =>
    clear h0 hi hz0 hz1 hz2
    go_enter Try.func5, Try.ntmps5
    go_wp2_with ((with_reducible refine copy_row (o := ⟨some 11, _, _, _, _, _⟩) ?_ (.tmp 9) (.tmp 10) 22 5 ?_ Try.underlying22 ?_ n c (some x) .u8 (.int .u8 0) Z ?_ ?_ H.out ?_); (exact rfl); (exact rfl); (kernel_rfl); (exact rfl); (exact rfl))
    intro W1 hb HR
    have HB := Lib.hid hb
    clear hb hmk hq
    go_wp2_with fail
    go_ret
    exact ⟨some ⟨w.heap.size, 0, none⟩, n, rfl, HR.out, fun y hy => by injection hy with hy; subst hy; exact Nat.le_refl _, by simp, HB.out⟩
end Go.Proofs.Ytgdodkfbobhfoaa.Tr
