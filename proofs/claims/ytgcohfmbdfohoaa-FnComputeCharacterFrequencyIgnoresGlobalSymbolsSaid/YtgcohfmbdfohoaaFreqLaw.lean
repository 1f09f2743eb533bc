/-
  For every file text, flag and lists of names, local flags and use counts, FnComputeCharacterFrequencyIgnoresGlobalSymbols returns true and every argument reads behind the call as it read before (no condition).
-/
import Derived.Test.YtgcohfmbdfohoaaRows
import Derived.WalkKit
import Derived.ProofKit
import Derived.OpenShut
import Derived.ShutString
import Derived.ChangeOld
import Derived.Below
import Derived.Lib.Hide
import Derived.Outline
import Derived.SliceStrings
import Derived.Deep.Grids
import Derived.Test.YtgcohfmbdfohoaaFi
import Derived.Deep.RegionHeld3
import Derived.Great.BuildSlice
namespace Go.Proofs.Ytgcohfmbdfohoaa.fnComputeCharacterFrequencyIgnoresGlobalSymbols
open Go.ChangeShapes Go.WideShapes Go.ChangeAt Go.RowKit
open Go.ChangeMaps (open_string shut_string)
set_option linter.unusedVariables false

theorem own : ownKnob Try.prog.godebug = none := by kernel_rfl
theorem laidOut : laidOutB Try.prog = true := by kernel_rfl

/-- What the walk is told of a slice that came in: it is nil; or it leads to a row of 'cap' cells that hold 'zs'. -/
def IsRow {α : Type} [Inhabited α] (mk : α → Value) (ok : α → Prop) (w : World) (a : Option Addr) (len cap : Nat) (zs : List α) : Prop :=
  (a = none ∧ len = 0 ∧ cap = 0 ∧ zs = []) ∨
  ∃ x, a = some x ∧ len ≤ cap ∧ cap ≤ maxLen ∧ zs.length = cap ∧ (∀ i (h : i < zs.length), w.cell? (x.add i) = some (mk zs[i])) ∧ ∀ n ∈ zs, ok n
section
variable {H : Type} {enc : TypeId × Value → H} {P : Program} {w : World} {base : Nat} {hd : Bool}
theorem row_of_int {t e : TypeId} {k : IntKind} {fuel : Nat} {a : Option Addr} {len cap : Nat} {x : DataW H × List MemPlace} (ht : P.underlying t = some (.slice e)) (he : P.underlying e = some (.int k)) (hc : P.cellsOf e = 1)
    (hf : DataW.trod enc P w base (fun _ => true) hd fuel t (Value.slice a len cap).cells.toList = some x) : ∃ zs, IsRow (.int k) (fun n => (Lit.int k n).wf = true) w a len cap zs := by
  rcases open_ints ht he hc hf with ⟨hcs, _⟩ | ⟨y, l, c, zs, hcs, _, hl, hm, hz, _, hcell, hwz⟩
  · simp [Value.cells] at hcs
    obtain ⟨rfl, rfl, rfl⟩ := hcs
    exact ⟨[], .inl ⟨rfl, rfl, rfl, rfl⟩⟩
  · simp [Value.cells] at hcs
    obtain ⟨rfl, rfl, rfl⟩ := hcs
    exact ⟨zs, .inr ⟨_, rfl, hl, hm, by simpa using hz, fun i h => by have := hcell i h; simpa [List.getD, h] using this, hwz⟩⟩
theorem row_of_string {t e : TypeId} {fuel : Nat} {a : Option Addr} {len cap : Nat} {x : DataW H × List MemPlace} (ht : P.underlying t = some (.slice e)) (he : P.underlying e = some .string) (hc : P.cellsOf e = 1)
    (hf : DataW.trod enc P w base (fun _ => true) hd fuel t (Value.slice a len cap).cells.toList = some x) : ∃ zs, IsRow .string (fun s => s.size ≤ maxLen) w a len cap zs := by
  rcases open_strings ht he hc hf with ⟨hcs, _⟩ | ⟨y, l, c, zs, hcs, _, hl, hm, hz, _, hcell, hwz⟩
  · simp [Value.cells] at hcs
    obtain ⟨rfl, rfl, rfl⟩ := hcs
    exact ⟨[], .inl ⟨rfl, rfl, rfl, rfl⟩⟩
  · simp [Value.cells] at hcs
    obtain ⟨rfl, rfl, rfl⟩ := hcs
    exact ⟨zs, .inr ⟨_, rfl, hl, hm, by simpa using hz, fun i h => by have := hcell i h; simpa [List.getD, h] using this, hwz⟩⟩
theorem row_of_bool {t e : TypeId} {fuel : Nat} {a : Option Addr} {len cap : Nat} {x : DataW H × List MemPlace} (ht : P.underlying t = some (.slice e)) (he : P.underlying e = some .bool) (hc : P.cellsOf e = 1)
    (hf : DataW.trod enc P w base (fun _ => true) hd fuel t (Value.slice a len cap).cells.toList = some x) : ∃ zs, IsRow .bool (fun _ => True) w a len cap zs := by
  rcases Go.Deep.open_bools ht he hc hf with ⟨hcs, _⟩ | ⟨y, l, c, B, hcs, _, hl, hm, _, hcell⟩
  · simp [Value.cells] at hcs
    obtain ⟨rfl, rfl, rfl⟩ := hcs
    exact ⟨[], .inl ⟨rfl, rfl, rfl, rfl⟩⟩
  · simp [Value.cells] at hcs
    obtain ⟨rfl, rfl, rfl⟩ := hcs
    exact ⟨(List.range cap).map B, .inr ⟨_, rfl, hl, hm, by simp, fun i h => by have := hcell i (by simpa using h); simpa using this, fun _ _ => trivial⟩⟩
end

open Fq Rg
theorem infoSym : (Try.prog.info? 39).map (fun i => (i.zero, i.size, i.bytes)) = some (some (.agg #[.pointer none, .string ⟨#[]⟩, .int .u32 0, .int .u32 0, .int .u32 0, .int .u32 0, .int .u32 0, .int .u16 0, .int .u8 0, .int .u8 0]), 10, 48) := by kernel_rfl
theorem info44 : (Try.prog.info? 44).map (·.size) = some 64 := by kernel_rfl
theorem equal_frq (h : Nat → Int) (w : World) : (Op.equalIn 10000 44 (.agg (frq h).toArray) (.agg (frq h).toArray)).run Try.prog w = .ok true w := by
  obtain ⟨i, hi⟩ : ∃ i, Try.prog.info? 21 = some i := Option.isSome_iff_exists.1 (by kernel_rfl)
  rw [run_equalIn_array w 9999 _ _ und44 hi, cells21, items_frq h w _ (fun j hj => List.mem_range.1 hj)]
theorem wpStill_load {P : Program} {ops : Array Oper} {rest : List Oper} {o : Oper} {a : Act} {w : World} {Q : Act → Prop} (hg : o.guard = none) (ty : TypeId) (x : Operand) (ho : o.op = .load ty x) (b off : Nat) (hx : a.eval x = .pointer (some ⟨b, off, none⟩))
    (cs : List Value) (d : TypeDesc) (hc : w.rangeAt b off cs) (hu : P.underlying ty = some d) (hd : d.isRow = true) (hi : (P.info? ty).map (·.size) = some cs.length) (h : wpStill P ops w Q rest (a.put o.dst (.agg cs.toArray))) : wpStill P ops w Q (o :: rest) a := by
  unfold wpStill
  have hw : Region.wanted o (yielded ops a.tmps) = true := by simp [Region.wanted, hg]
  have he : (execOp a.eval o).run P w = .ok (.value (.agg cs.toArray)) w := by
    unfold execOp
    simp only [ho, hx, Instr.loadAt, Instr.sureAddr, Sem.run_bind, Sem.run_pure, Result.andThen_ok, run_loadVar_mid w b off ty cs d hc hu hd hi]
  rw [if_pos hw]
  unfold Oper.still
  rw [he]
  exact ⟨rfl, h⟩
theorem fold_sym (s : ByteArray) (u k : Int) : List.foldl (fun (cs : Array Value) (x : Value × Nat) => cs.setIfInBounds x.snd x.fst) #[.pointer none, .string ⟨#[]⟩, .int .u32 0, .int .u32 0, .int .u32 0, .int .u32 0, .int .u32 0, .int .u16 0, .int .u8 0, .int .u8 0] (symc s u k).zipIdx = (symc s u k).toArray := by simp [symc]
theorem symbol_true (s : ByteArray) (u : Int) (w : World) : Calls Try.prog 6 #[.string s, .bool true, .int .u32 u] w (SymPost s u 26 w) := symbol_any s true u w
theorem sym_step {ga ns kL k : Nat} {v : Value} {T : Nat → ByteArray} {U : Nat → Int} {L : Nat → Bool} {w wr w5 : World} (h : FI ga ns k kL v T U L w wr) (hk : k < ns) (hb : Below wr.drew.heap.size wr.drew w5) :
    Hid (FI ga ns k kL v T U L w w5) ∧ Hid (Below w.heap.size w w5) ∧ (symc (T k) (U k) (kd (L k))).length = 10 ∧
      (storeCells ⟨ga, k * 10, none⟩ (symc (T k) (U k) (kd (L k))) 0).run Try.prog w5 = .ok () (w5.setCells ga (k * 10) (symc (T k) (U k) (kd (L k)))) ∧
      Hid (Below w.heap.size w (w5.setCells ga (k * 10) (symc (T k) (U k) (kd (L k))))) := by
  have h5 : FI ga ns k kL v T U L w w5 := h.move ((Below.refl _ _).drew.trans hb)
  have ht : w5.there ga (k * 10) 10 := th_sub h5.2.1 (by omega) (by omega)
  refine ⟨Lib.hid h5, Lib.hid h5.2.2.2.1, rfl, ?_, Lib.hid (h5.store hk _ rfl).2.2.2.1⟩
  have := run_storeCells_cells (P := Try.prog) ga (k * 10) (symc (T k) (U k) (kd (L k))) 0 w5 (fun j hj => (ht j hj).1) (fun j hj => (ht j hj).2) (by simp [symc, Value.oneCell'])
  simpa using this
theorem FI.start (w : World) (ns : Nat) (T : Nat → ByteArray) (U : Nat → Int) (L : Nat → Bool) (hn : ns ≤ 1048576) :
    FI w.heap.size ns 0 0 (.slice (some ⟨w.heap.size + 1, 0, none⟩) 0 ns) T U L w ((w.alloc (.cells (madeCells #[.pointer none, .string ⟨#[]⟩, .int .u32 0, .int .u32 0, .int .u32 0, .int .u32 0, .int .u32 0, .int .u16 0, .int .u8 0, .int .u8 0] (ns * 10)) 39)).alloc (.cells (madeCells #[.pointer none, .string ⟨#[]⟩, .int .u32 0, .int .u32 0, .int .u32 0, .int .u32 0, .int .u32 0, .int .u16 0, .int .u8 0, .int .u8 0] (ns * 10)) 39)) := by
  have hb : Below (w.alloc (.cells (madeCells #[.pointer none, .string ⟨#[]⟩, .int .u32 0, .int .u32 0, .int .u32 0, .int .u32 0, .int .u32 0, .int .u16 0, .int .u8 0, .int .u8 0] (ns * 10)) 39)).heap.size (w.alloc (.cells (madeCells #[.pointer none, .string ⟨#[]⟩, .int .u32 0, .int .u32 0, .int .u32 0, .int .u32 0, .int .u32 0, .int .u16 0, .int .u8 0, .int .u8 0] (ns * 10)) 39)) ((w.alloc (.cells (madeCells #[.pointer none, .string ⟨#[]⟩, .int .u32 0, .int .u32 0, .int .u32 0, .int .u32 0, .int .u32 0, .int .u16 0, .int .u8 0, .int .u8 0] (ns * 10)) 39)).alloc (.cells (madeCells #[.pointer none, .string ⟨#[]⟩, .int .u32 0, .int .u32 0, .int .u32 0, .int .u32 0, .int .u32 0, .int .u16 0, .int .u8 0, .int .u8 0] (ns * 10)) 39)) := (Below.refl _ _).alloc (Nat.le_refl _) _
  refine ⟨fun j hj => absurd hj (by omega), th_keep hb (th_new _ _ _ (by simp [madeCells])), ?_, ((Below.refl _ _).alloc (Nat.le_refl _) _).alloc (by simp) _, Nat.le_refl _, by simp; omega⟩
  have := World.ownsRow_made (base := w.heap.size + 1) (e := 39) (size := 10) (w.alloc (.cells (madeCells #[.pointer none, .string ⟨#[]⟩, .int .u32 0, .int .u32 0, .int .u32 0, .int .u32 0, .int .u32 0, .int .u16 0, .int .u8 0, .int .u8 0] (ns * 10)) 39)) (madeCells #[.pointer none, .string ⟨#[]⟩, .int .u32 0, .int .u32 0, .int .u32 0, .int .u32 0, .int .u32 0, .int .u16 0, .int .u8 0, .int .u8 0] (ns * 10)) ns (by simp) (by unfold maxLen; omega) (by simp [madeCells])
  simpa [locs, rowl] using this

set_option maxRecDepth 100000 in
set_option maxHeartbeats 4000000 in
/-- THE WALK -/
theorem walk (a0 : ByteArray) (a1 : Bool) (a2 : Option Addr) (len2 cap2 : Nat) (z2 : List ByteArray) (a3 : Option Addr) (len3 cap3 : Nat) (z3 : List Bool) (a4 : Option Addr) (len4 cap4 : Nat) (z4 : List Int) (w : World) (w0 : a0.size ≤ maxLen) (w2 : IsRow .string (fun s => s.size ≤ maxLen) w a2 len2 cap2 z2) (w3 : IsRow .bool (fun _ => True) w a3 len3 cap3 z3) (w4 : IsRow (.int .u32) (fun n => (Lit.int .u32 n).wf = true) w a4 len4 cap4 z4) :
    Calls Try.prog 3 #[.string a0, .bool a1, .slice a2 len2 cap2, .slice a3 len3 cap3, .slice a4 len4 cap4] w fun e w' => e = .returned (.bool true) ∧ Below w.heap.size w w' := by
  unfold IsRow at w2 w3 w4
  obtain ⟨hS, hsz, hz2, hm2⟩ := Sl.of_row w2
  obtain ⟨hB, -, hz3, hm3⟩ := Sl.of_row w3
  obtain ⟨hU, -, hz4, hm4⟩ := Sl.of_row w4
  obtain ⟨T, hT⟩ : ∃ T : Nat → ByteArray, T = fun i => z2.getD i default := ⟨_, rfl⟩
  obtain ⟨L, hL⟩ : ∃ L : Nat → Bool, L = fun i => z3.getD i default := ⟨_, rfl⟩
  obtain ⟨U, hUU⟩ : ∃ U : Nat → Int, U = fun i => z4.getD i default := ⟨_, rfl⟩
  have HS := Lib.hid (show Sl w a2 len2 (fun i => .string (T i)) by rw [hT]; exact hS)
  have HB := Lib.hid (show Sl w a3 len3 (fun i => .bool (L i)) by rw [hL]; exact hB)
  have HU := Lib.hid (show Sl w a4 len4 (fun i => .int .u32 (U i)) by rw [hUU]; exact hU)
  have HSZ := Lib.hid (show ∀ i, i < len2 → ((T i).size : Int) ≤ 9223372036854775807 from fun i hi => by have := hsz i hi; unfold maxLen at this; rw [hT]; simp only; omega)
  have HL := Lib.hid (show (a0.size : Int) ≤ 9223372036854775807 ∧ (len2 : Int) ≤ 9223372036854775807 ∧ (len3 : Int) ≤ 9223372036854775807 ∧ (len4 : Int) ≤ 9223372036854775807 by unfold maxLen at w0 hm2 hm3 hm4; omega)
  clear w0 w2 w3 w4 hS hsz hB hU hm2 hm3 hm4 hz2 hz3 hz4 hT hL hUU
  have l1 := HL.out.1
  have l2 := HL.out.2.1
  have l3 := HL.out.2.2.1
  have l4 := HL.out.2.2.2
  go_enter Try.func3, Try.ntmps3
  go_wp2_with fail
  refine (bytes42 a0 a1 a2 len2 cap2 T a3 len3 cap3 a4 len4 cap4 w l1 l2 HS.out HSZ.out l3 l4).mono ?_
  rintro e w1 ⟨⟨r, rfl, hr⟩, rfl⟩
  cases r
  case false =>
    go_wp2_with fail
    go_ret
    exact ⟨rfl, Below.refl _ _⟩
  have hb2 := hr rfl
  clear hr
  go_wp2_with fail
  go_loop [11, 12] (fun t i => ∃ (k : Nat) (s : Int), k ≤ len2 ∧ i = .int .i64 k ∧ t = .int .i64 s) (fun _ i => len2 - (intOf i).toNat)
  case atStart => exact ⟨0, _, Nat.zero_le _, rfl, rfl⟩
  case round =>
    obtain ⟨k, s, hk, rfl, rfl⟩ := hrel
    by_cases hlt : k < len2
    · as_aux_lemma =>
      obtain ⟨ab, ao, hx, d⟩ := HS.out k hlt
      subst hx
      have q0 : (0 : Int) ≤ k := by omega
      have q1 : (k : Int) < len2 := by omega
      go_wp2_with fail
      go_round
      case rel => exact ⟨k + 1, _, by omega, by go_num, rfl⟩
      case measure => simp [intOf]; omega
    · as_aux_lemma =>
      obtain rfl : k = len2 := by omega
      clear hlt hk
      by_cases ht : (1048576 : Int) < s
      · go_wp2_with fail
        go_ret
        exact ⟨rfl, Below.refl _ _⟩
      go_wp2_with fail
      refine (min_any len3 len4 w).mono ?_
      rintro e w1 ⟨rfl, rfl⟩
      go_wp2_with fail
      refine (min_any k (min len3 len4) w).mono ?_
      rintro e w1 ⟨rfl, rfl⟩
      obtain ⟨ns, hns⟩ : ∃ ns, ns = min k (min len3 len4) := ⟨_, rfl⟩
      rw [← hns]
      have HN := Lib.hid (show ns ≤ k ∧ ns ≤ len3 ∧ ns ≤ len4 ∧ ns ≤ 1048576 by omega)
      have n0 : (ns : Int) ≤ 9223372036854775806 := by omega
      clear hns ht
      obtain ⟨i0, hi, hz0, hz1, hz2⟩ := info_parts infoSym
      have hmk := fun W => run_make_rowN (P := Try.prog) 27 39 i0 _ (by kernel_rfl) hi hz0 .i64 .i64 ns ns (Nat.le_refl _) (by rw [hz2]; have := HN.out.2.2.2; omega) (by have := HN.out.2.2.2; omega) W
      have hmk2 : ∀ W : World, (Instr.makeSlice 27 (.int .i64 0) (.int .i64 ns)).run Try.prog W = .ok (.slice (some ⟨W.heap.size, 0, none⟩) 0 ns) (W.alloc (.cells (madeCells #[.pointer none, .string ⟨#[]⟩, .int .u32 0, .int .u32 0, .int .u32 0, .int .u32 0, .int .u32 0, .int .u16 0, .int .u8 0, .int .u8 0] (ns * 10)) 39)) := fun W => by
        have := run_make_rowN (P := Try.prog) 27 39 i0 _ (by kernel_rfl) hi hz0 .i64 .i64 0 ns (Nat.zero_le _) (by rw [hz2]; have := HN.out.2.2.2; omega) (by have := HN.out.2.2.2; omega) W
        rw [hz1] at this
        exact this
      rw [hz1] at hmk
      have HI := Lib.hid (And.intro hi (And.intro hz0 (And.intro hz1 hz2)))
      clear hi hz0 hz1 hz2
      have HF0 := Lib.hid (FI.start w ns T U L HN.out.2.2.2)
      go_wp2_with fail
      generalize (World.alloc _ _ : World) = wA at HF0 ⊢
      clear hmk hmk2
      clear l1 l3 l4 hb2
      go_loopw [15, 16] (fun v i wr => ∃ j : Nat, j ≤ ns ∧ i = .int .i64 j ∧ Hid (FI w.heap.size ns j j v T U L w wr)) (fun _ i _ => ns - (intOf i).toNat)
      case atStart => exact ⟨0, Nat.zero_le _, rfl, HF0⟩
      case round =>
        clear HF0
        obtain ⟨j, hj, rfl, HF⟩ := hrel
        by_cases hlt : j < ns
        · obtain ⟨nb, no, hx2, d2⟩ := HS.out j (by have := HN.out; omega)
          obtain ⟨lb, lo, hx3, d3⟩ := HB.out j (by have := HN.out; omega)
          obtain ⟨ub, uo, hx4, d4⟩ := HU.out j (by have := HN.out; omega)
          subst hx2
          subst hx3
          subst hx4
          have HQ : Hid (∀ w' : World, Below w.heap.size w w' → w'.cell? ⟨nb, no + j, none⟩ = some (.string (T j)) ∧ w'.cell? ⟨lb, lo + j, none⟩ = some (.bool (L j)) ∧ w'.cell? ⟨ub, uo + j, none⟩ = some (.int .u32 (U j)) ∧ Below w.heap.size w w') :=
            Lib.hid (fun w' hb => ⟨later hb d2, later hb d3, later hb d4, hb⟩)
          clear d2 d3 d4
          have q0 : (0 : Int) ≤ j := by omega
          have q1 : (j : Int) < ns := by omega
          have q2 : (j : Int) < k := by have := HN.out; omega
          have q3 : (j : Int) < len3 := by have := HN.out; omega
          have q4 : (j : Int) < len4 := by have := HN.out; omega
          have HBw := Lib.hid HF.out.2.2.2.1
          go_upto_region 16 with (fail)
          go_region_held3 (fun w' => w'.cell? ⟨nb, no + j, none⟩ = some (.string (T j)) ∧ w'.cell? ⟨lb, lo + j, none⟩ = some (.bool (L j)) ∧ w'.cell? ⟨ub, uo + j, none⟩ = some (.int .u32 (U j)) ∧ Below w.heap.size w w')
            (first | (with_reducible exact HQ.out _ HBw.out.drew) | (with_reducible exact HQ.out _ HB1.out) | (with_reducible exact HQ.out _ HB2.out))
            (first | (go_at_call 6; refine (symbol_any (T j) (L j) (U j) _).mono ?_; rintro e w5 ⟨rfl, hb5⟩; obtain ⟨HF5, HB1, hlen, hst, HB2⟩ := sym_step HF.out hlt hb5))
          rename_i hH
          clear hH hst hlen
          have HF6 := Lib.hid (HF5.out.store hlt _ rfl)
          clear HF5 HB1 HB2 hb5 HF HBw
          obtain ⟨w6, hw6⟩ : ∃ w6, w6 = World.setCells w5 w.heap.size (j * 10) (symc (T j) (U j) (kd (L j))) := ⟨_, rfl⟩
          rw [← hw6] at HF6 ⊢
          clear hw6
          generalize (Value.agg (List.toArray (symc _ _ _)) : Value) = v85
          obtain ⟨c2, c3, c4, -⟩ := HQ.out w6 HF6.out.2.2.2.1
          have hLL : L j = false ∨ L j = true := by cases L j <;> simp
          rcases hLL with hL | hL
          · as_aux_lemma =>
            rw [hL] at c3
            have HF9 := Lib.hid (HF6.out.skip hL)
            clear HF6
            go_wp2_with fail
            go_roundw
            case rel => exact ⟨j + 1, by omega, by go_num, HF9⟩
            case measure => simp [intOf]; omega
          · as_aux_lemma =>
            rw [hL] at c3
            have hlen : (symc (T j) (U j) 26).length = 10 := rfl
            have hfold : List.foldl (fun (cs : Array Value) (x : Value × Nat) => cs.setIfInBounds x.snd x.fst) #[.pointer none, .string ⟨#[]⟩, .int .u32 0, .int .u32 0, .int .u32 0, .int .u32 0, .int .u32 0, .int .u16 0, .int .u8 0, .int .u8 0] (symc (T j) (U j) 26).zipIdx = (symc (T j) (U j) 26).toArray := fold_sym _ _ _
            have HBw := Lib.hid HF6.out.2.2.2.1
            have HLN := locs_len L j
            go_upto_region 18 with (fail)
            go_region_held3 (fun w' => w'.cell? ⟨nb, no + j, none⟩ = some (.string (T j)) ∧ w'.cell? ⟨lb, lo + j, none⟩ = some (.bool (L j)) ∧ w'.cell? ⟨ub, uo + j, none⟩ = some (.int .u32 (U j)) ∧ Below w.heap.size w w')
              (first | (with_reducible exact HQ.out _ HBw.out.drew) | (with_reducible exact HQ.out _ HB7.out) | (with_reducible exact HQ.out _ HB8.out) | (with_reducible exact HQ.out _ HB9.out))
              (first | (go_at_call 6; refine (symbol_true (T j) (U j) _).mono ?_; rintro e w7 ⟨rfl, hb7⟩; have HF8 := Lib.hid ((HF6.out.move ((Below.refl _ _).drew.trans hb7)).move ((Below.refl _ _).alloc (Nat.le_refl _) (.cells (symc (T j) (U j) 26).toArray 39))); have HB7 := Lib.hid (HF6.out.move ((Below.refl _ _).drew.trans hb7)).2.2.2.1; have HB8 := Lib.hid HF8.out.2.2.2.1) | (refine step_append_lies _ rfl (.tmp 91) (.tmp 101) 27 rfl (w.heap.size + 1) 39 i0 _ 10 48 Try.underlying27 HI.out.1 HI.out.2.1 HI.out.2.2.1 HI.out.2.2.2 rfl (by omega) u15 (locs L j).length (rowl T U (locs L j)) rfl HF8.out.2.2.1 ⟨w7.heap.size, 0, none⟩ 1 1 (symc (T j) (U j) 26) rfl rfl (World.news_of_block (cs := (symc (T j) (U j) 26).toArray) (heap_alloc_new w7 _)) (by simp [symc, Value.oneCell']) (by omega) (by unfold maxLen; have := HN.out; omega) (by have := HN.out; omega) HF8.out.2.2.2.2.2 _ rfl ?_; intro g9 cap9 w9 ho9 hg9 hat9 hlt9; have HF9 := Lib.hid (HF8.out.push hL hg9 ho9); have HB9 := Lib.hid HF9.out.2.2.2.1))
            rename_i hH
            clear hH
            go_wp2_with fail
            go_roundw
            case rel => exact ⟨j + 1, by omega, by go_num, HF9⟩
            case measure => simp [intOf]; omega
        · as_aux_lemma =>
          obtain rfl : j = ns := by omega
          obtain ⟨a5, c5, g5, rfl, ha5, hsy5⟩ := HF.out.locals
          have HS5 := Lib.hid hsy5
          have HA5 := Lib.hid ha5
          have HSA := Lib.hid HF.out.syms
          have HBw := Lib.hid HF.out.2.2.2.1
          have HT1 := Lib.hid (show ∀ i, i < j → ((T i).size : Int) ≤ 9223372036854775807 from fun i hi => HSZ.out i (by have := HN.out; omega))
          have HT5 := Lib.hid (show ∀ i, i < (locs L j).length → ((T ((locs L j).getD i 0)).size : Int) ≤ 9223372036854775807 from fun i hi => HT1.out _ (by
            have : (locs L j).getD i 0 ∈ locs L j := by simp [List.getD, hi]
            exact locs_lt this))
          have HLN := Lib.hid (show ((locs L j).length : Int) ≤ 9223372036854775806 by have := locs_len L j; have := HN.out; omega)
          have HSM := Lib.hid (sums T U L (scanD 1 a0 (fun _ => 0)) j)
          clear hsy5 ha5 HF HSZ
          obtain ⟨m5, hm5⟩ : ∃ m, m = (locs L j).length := ⟨_, rfl⟩
          obtain ⟨T5, hT5⟩ : ∃ T5 : Nat → ByteArray, T5 = fun i => T ((locs L j).getD i 0) := ⟨_, rfl⟩
          obtain ⟨U5, hU5⟩ : ∃ U5 : Nat → Int, U5 = fun i => U ((locs L j).getD i 0) := ⟨_, rfl⟩
          have hT5' : ∀ i, T ((locs L j).getD i 0) = T5 i := fun i => by rw [hT5]
          rw [← hm5] at HA5 HLN ⊢
          rw [← hm5, ← hT5, ← hU5] at HS5 HSM
          simp only [hT5', ← hm5] at HT5
          clear hm5 hT5 hU5 hT5'
          have q1 : ¬ (j : Int) < j := by omega
          have haa : a1 = false ∨ a1 = true := by cases a1 <;> simp
          rcases haa with rfl | rfl
          · as_aux_lemma =>
            go_wp2_with fail
            refine (zz_nil a0 (some ⟨w.heap.size, 0, none⟩) j j wr).mono ?_
            rintro e w5 ⟨rfl, hb5⟩
            go_wp2_with fail
            refine (zz_nil a0 a5 m5 c5 w5).mono ?_
            rintro e w6 ⟨rfl, hb6⟩
            go_wp2_with fail
            go_ret
            exact ⟨rfl, HBw.out.trans ((hb5.mono HBw.out.size).trans (hb6.mono (Nat.le_trans HBw.out.size hb5.size)))⟩
          · as_aux_lemma =>
            go_wp2_with fail
            refine (zz_any a0 (some ⟨w.heap.size, 0, none⟩) j j w.heap.size T U L wr HL.out.1 n0 HT1.out (fun _ => rfl) HSA.out).mono ?_
            rintro e w5 ⟨b1, rfl, hr1, hb5, hlt1⟩
            have HR1 := Lib.hid hr1
            have HS6 := Lib.hid (show Syms w5 g5 m5 T5 U5 (fun _ => true) from fun i hi => rg_keep hb5 (HS5.out i hi))
            have HB5 := Lib.hid hb5
            clear hr1 hb5 hlt1
            go_wp2_with fail
            refine (zz_any a0 a5 m5 c5 g5 T5 U5 (fun _ => true) w5 HL.out.1 HLN.out HT5.out HA5.out HS6.out).mono ?_
            rintro e w6 ⟨b2, rfl, hr2, hb6, hlt2⟩
            rw [HSM.out] at hr2
            have HR2 := Lib.hid hr2
            have HR3 := Lib.hid (HR1.out.keep hb6)
            have HB6 := Lib.hid (HBw.out.trans ((HB5.out.mono HBw.out.size).trans (hb6.mono (Nat.le_trans HBw.out.size HB5.out.size))))
            clear hr2 hb6 hlt2 HSM HR1
            obtain ⟨h, hh⟩ : ∃ h, h = subL T U L j (scanD 1 a0 (fun _ => 0)) := ⟨_, rfl⟩
            rw [← hh] at HR2 HR3
            clear hh
            have H9 := Lib.hid (show w6.drew.rangeAt b1 0 (frq h) ∧ w6.drew.rangeAt b2 0 (frq h) ∧ Below w.heap.size w w6.drew from ⟨HR3.out.range, HR2.out.range, HB6.out.drew⟩)
            go_upto_region 25 with (fail)
            have he1 := fun W => eq_frq h W
            have he2 := fun W => equal_frq h W
            have hu44 := und44
            have hi44 : (Try.prog.info? 44).map (·.size) = some (frq h).length := by rw [show (frq h).length = 64 by simp [frq]]; exact info44
            have HB7 := Lib.hid HB6.out.drew
            clear HB6
            refine wp_region_still_lit (by kernel_rfl) (by kernel_rfl) ?_
            still_step
            still_step
            refine wpStill_load rfl 44 _ rfl b1 0 rfl (frq h) _ H9.out.1 und44 rfl hi44 ?_
            still_step
            still_step
            refine wpStill_load rfl 44 _ rfl b2 0 rfl (frq h) _ H9.out.2.1 und44 rfl hi44 ?_
            still_step
            still_step
            refine wpStill_nil ?_
            clear he1 he2 hu44 hi44 H9
            change Exit.then _ _ _ _ (World.drew _)
            go_wp2_with fail
            go_ret
            exact ⟨rfl, HB7.out⟩

set_option maxRecDepth 100000 in
theorem lifted (os : Os) (started : os.Started) (H : Type) (enc : TypeId × Value → H) :
    ReturnsInHanded {} Try.checked os 3 .any (Rows.fnComputeCharacterFrequencyIgnoresGlobalSymbolsSpec.pre6 enc Try.prog Try.f3 Rows.fnComputeCharacterFrequencyIgnoresGlobalSymbolsRow.domain false) (Rows.fnComputeCharacterFrequencyIgnoresGlobalSymbolsSpec.post enc Try.prog Try.f3 false true false false) := by
  refine returnsInHanded_of_change (C := Try.checked) own started (by kernel_rfl) Try.func3
    (ChangeSpec.witness6 (enc := enc) (C := Try.checked) false ⟨#[], #[.string ByteArray.empty, .bool false, .slice none 0 0, .slice none 0 0, .slice none 0 0], []⟩ 8 (by kernel_rfl) (by kernel_rfl) (by kernel_rfl) (by kernel_rfl)) ?_
  intro W base args ds gs before hval0 hW hcnd _
  have hval : ∀ (j : Nat) t v, Try.f3.params[j]? = some t → args[j]? = some v → Value.okWide Try.prog W .any base t v := hval0
  have hW' := hW
  obtain ⟨p, q, hA0, hV, rfl, hfz, hnd⟩ := hW
  have hA : DataW.TrodAll enc Try.prog W 0 (fun _ => true) true Try.f3.params.toList args.toList ds p := hA0
  rw [Try.params3] at hA hval
  obtain ⟨v0, vs0, d0, ds0, p0, q0, hargs, rfl, rfl, h0, r0⟩ := trodAll_cons hA
  obtain ⟨v1, vs1, d1, ds1, p1, q1, rfl, rfl, rfl, h1, r1⟩ := trodAll_cons r0
  obtain ⟨v2, vs2, d2, ds2, p2, q2, rfl, rfl, rfl, h2, r2⟩ := trodAll_cons r1
  obtain ⟨v3, vs3, d3, ds3, p3, q3, rfl, rfl, rfl, h3, r3⟩ := trodAll_cons r2
  obtain ⟨v4, vs4, d4, ds4, p4, q4, rfl, rfl, rfl, h4, r4⟩ := trodAll_cons r3
  obtain ⟨rfl, rfl, rfl⟩ := trodAll_nil r4
  obtain rfl : args = #[v0, v1, v2, v3, v4] := by cases args; simp_all
  obtain ⟨rfl, rfl⟩ := trodVars_none hV
  obtain ⟨a0, rfl, rfl, rfl, w0⟩ := open_string Try.underlying9 (hval 0 9 v0 rfl rfl) h0
  obtain ⟨a1, rfl, rfl, rfl⟩ := open_bool Try.underlying4 (hval 1 4 v1 rfl rfl) h1
  obtain ⟨a2, len2, cap2, rfl⟩ := okWide_slice Try.underlying22 (hval 2 22 v2 rfl rfl)
  have k2 := h2
  have lt2 : ∀ x ∈ p2, x.block < W.heap.size := by obtain ⟨m, hm⟩ := k2; exact DataW.trod_lt m _ _ _ hm
  obtain ⟨z2, w2⟩ : ∃ zs, IsRow .string (fun s => s.size ≤ maxLen) W a2 len2 cap2 zs := by
    obtain ⟨fuel, hf⟩ := h2
    exact row_of_string Try.underlying22 Try.underlying9 (by kernel_rfl) hf
  obtain ⟨a3, len3, cap3, rfl⟩ := okWide_slice Try.underlying23 (hval 3 23 v3 rfl rfl)
  have k3 := h3
  have lt3 : ∀ x ∈ p3, x.block < W.heap.size := by obtain ⟨m, hm⟩ := k3; exact DataW.trod_lt m _ _ _ hm
  obtain ⟨z3, w3⟩ : ∃ zs, IsRow .bool (fun _ => True) W a3 len3 cap3 zs := by
    obtain ⟨fuel, hf⟩ := h3
    exact row_of_bool Try.underlying23 Try.underlying4 (by kernel_rfl) hf
  obtain ⟨a4, len4, cap4, rfl⟩ := okWide_slice Try.underlying24 (hval 4 24 v4 rfl rfl)
  have k4 := h4
  have lt4 : ∀ x ∈ p4, x.block < W.heap.size := by obtain ⟨m, hm⟩ := k4; exact DataW.trod_lt m _ _ _ hm
  obtain ⟨z4, w4⟩ : ∃ zs, IsRow (.int .u32) (fun n => (Lit.int .u32 n).wf = true) W a4 len4 cap4 zs := by
    obtain ⟨fuel, hf⟩ := h4
    exact row_of_int Try.underlying24 Try.underlying29 (by kernel_rfl) hf
  clear hA0 hval0
  refine (walk a0 a1 a2 len2 cap2 z2 a3 len3 cap3 z3 a4 len4 cap4 z4 W w0 w2 w3 w4).mono fun e W' ⟨he, bel⟩ => ?_
  subst he
  exact ⟨_, rfl, _, _, _, [], _, [], hW', trodAll_mk1 (shut_bool Try.underlying4 _), (trodAll_cons_mk (shut_string Try.underlying9 w0) (trodAll_cons_mk (shut_bool Try.underlying4 a1) (trodAll_cons_mk (Below.trod laidOut (by kernel_rfl) (of_decide_eq_true (by kernel_rfl)) k2 bel lt2) (trodAll_cons_mk (Below.trod laidOut (by kernel_rfl) (of_decide_eq_true (by kernel_rfl)) k3 bel lt3) (trodAll_cons_mk (Below.trod laidOut (by kernel_rfl) (of_decide_eq_true (by kernel_rfl)) k4 bel lt4) trodAll_mk0))))), rfl, bel.frame _, fun h => by cases h⟩

theorem over : Rows.fnComputeCharacterFrequencyIgnoresGlobalSymbolsRow.holds Try.pinned (OpenSpec.ofChange Rows.fnComputeCharacterFrequencyIgnoresGlobalSymbolsSpec) :=
  OpenClaim.holds_of_wide 3 Try.f3 rfl rfl rfl rfl rfl rfl rfl ⟨rfl, rfl, rfl, rfl, rfl⟩ rfl rfl rfl rfl rfl (by kernel_rfl) Try.func3 (by kernel_rfl)
    (of_decide_eq_true (by kernel_rfl)) (by unfold Func.isWrapper; first | (rw [if_pos (by decide +kernel)]; kernel_rfl) | (rw [if_neg (by decide +kernel)]; exact ⟨rfl, rfl⟩))
    (fun os started H enc _ => lifted os started H enc)

/-- THE STATEMENT -/
theorem proved : Rows.FnComputeCharacterFrequencyIgnoresGlobalSymbolsSaid := over
#print axioms proved
end Go.Proofs.Ytgcohfmbdfohoaa.fnComputeCharacterFrequencyIgnoresGlobalSymbols
