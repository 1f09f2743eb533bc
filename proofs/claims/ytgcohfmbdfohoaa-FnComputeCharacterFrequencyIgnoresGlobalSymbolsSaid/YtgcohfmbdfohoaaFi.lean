/-
  What holds at the head of the loop that fills the two rows of symbols; the two sums are the same.
-/
import Derived.Test.YtgcohfmbdfohoaaFn
import Derived.ChangeKeysEq
import Derived.Laws.StructEq
namespace Go.Proofs.Ytgcohfmbdfohoaa.Fq
open Go.ChangeShapes Go.WideShapes Go.ChangeAt Go.RowKit Rg
set_option linter.unusedVariables false
def locs (L : Nat → Bool) (k : Nat) : List Nat := (List.range k).filter L
theorem locs_yes {L : Nat → Bool} {k : Nat} (h : L k = true) : locs L (k + 1) = locs L k ++ [k] := by simp [locs, List.range_succ, List.filter_append, h]
theorem locs_no {L : Nat → Bool} {k : Nat} (h : L k = false) : locs L (k + 1) = locs L k := by simp [locs, List.range_succ, List.filter_append, h]
theorem locs_len (L : Nat → Bool) (k : Nat) : (locs L k).length ≤ k := by
  have := List.length_filter_le L (List.range k)
  simpa [locs] using this
theorem locs_lt {L : Nat → Bool} {k j : Nat} (h : j ∈ locs L k) : j < k := by
  simp [locs] at h; exact h.1
/-- a symbol as it lies in the row of the local ones -/
def symd (T : Nat → ByteArray) (U : Nat → Int) (j : Nat) : List Value := symc (T j) (U j) 26
def rowl (T : Nat → ByteArray) (U : Nat → Int) (l : List Nat) : List Value := l.flatMap (symd T U)
theorem symc_len (s : ByteArray) (u k : Int) : (symc s u k).length = 10 := rfl
def FI (ga ns kA kL : Nat) (v : Value) (T : Nat → ByteArray) (U : Nat → Int) (L : Nat → Bool) (w wr : World) : Prop :=
  (∀ j, j < kA → wr.rangeAt ga (j * 10) (symc (T j) (U j) (kd (L j)))) ∧ wr.there ga 0 (ns * 10) ∧ wr.ownsRow (ga + 1) 39 10 v (locs L kL).length (rowl T U (locs L kL)) ∧ Below w.heap.size w wr ∧ w.heap.size ≤ ga ∧ ga < wr.heap.size
section
variable {ga ns kA kL k : Nat} {v : Value} {T : Nat → ByteArray} {U : Nat → Int} {L : Nat → Bool} {w wr w1 w2 : World}
theorem FI.move (h : FI ga ns kA kL v T U L w wr) (hb : Below wr.heap.size wr w1) : FI ga ns kA kL v T U L w w1 := by
  obtain ⟨h1, h2, h3, h4, h5, h6⟩ := h
  exact ⟨fun j hj => rg_keep hb (h1 j hj), th_keep hb h2, own_keep h3 hb, h4.trans (hb.mono h4.size), h5, Nat.lt_of_lt_of_le h6 hb.size⟩
theorem FI.store (h : FI ga ns k kL v T U L w wr) (hk : k < ns) (u : Int) (hu : u = kd (L k)) : FI ga ns (k + 1) kL v T U L w (wr.setCells ga (k * 10) (symc (T k) (U k) u)) := by
  subst hu
  obtain ⟨h1, h2, h3, h4, h5, h6⟩ := h
  refine ⟨fun j hj => ?_, World.there_setCells h2 _ _ _, own_fars (fun e => by have := (h3.lt ga e).1; omega) _ _ h3, below_setCells h5 _ _ h4, h5, by rw [size_setCells]; exact h6⟩
  by_cases hjk : j = k
  · subst hjk
    exact World.rangeAt_setCells_same _ _ _ _ (th_sub h2 (by omega) (by rw [symc_len]; omega))
  · exact World.rangeAt_setCells_apart (h1 j (by omega)) _ _ _ (by right; left; rw [symc_len]; omega)
theorem FI.skip (h : FI ga ns kA k v T U L w wr) (hL : L k = false) : FI ga ns kA (k + 1) v T U L w wr := by
  unfold FI at h ⊢
  rw [locs_no hL]; exact h
theorem FI.push {v2 : Value} (h : FI ga ns kA k v T U L w wr) (hL : L k = true) (hg : wr.grownBy w2 v.ownBlock) (ho : w2.ownsRow (ga + 1) 39 10 v2 ((locs L k).length + 1) (rowl T U (locs L k) ++ symc (T k) (U k) 26)) : FI ga ns kA (k + 1) v2 T U L w w2 := by
  obtain ⟨h1, h2, h3, h4, h5, h6⟩ := h
  have hblk : w2.heap[ga]? = wr.heap[ga]? := hg.block ga h6 (fun e => by have := (h3.lt ga e.symm).1; omega)
  have hc : ∀ o, w2.cell? ⟨ga, o, none⟩ = wr.cell? ⟨ga, o, none⟩ := fun o => World.cell?_of_block (a := ⟨ga, o, none⟩) hblk
  have hf : ∀ o, w2.frozen? ⟨ga, o, none⟩ = wr.frozen? ⟨ga, o, none⟩ := fun o => World.frozen?_of_block (a := ⟨ga, o, none⟩) hblk
  refine ⟨fun j hj i u hu => by rw [hc]; exact h1 j hj i u hu, fun j hj => by rw [hc, hf]; exact h2 j hj, ?_, h4.grown hg h4.size (fun q hq => by have := (h3.lt q hq).1; omega), h5, Nat.lt_of_lt_of_le h6 hg.size⟩
  rw [locs_yes hL, List.length_append, rowl, List.flatMap_append]
  simpa [symd, rowl] using ho
theorem FI.syms (h : FI ga ns ns kL v T U L w wr) : Syms wr ga ns T U L := h.1
theorem rowl_rowg (T : Nat → ByteArray) (U : Nat → Int) (l : List Nat) : rowl T U l = rowg (fun i => symd T U (l.getD i 0)) l.length := by
  unfold rowl rowg
  have e : l = (List.range l.length).map (fun i => l.getD i 0) := by
    apply List.ext_getElem
    · simp
    · intro i h1 h2; simp [h1]
  conv => lhs; rw [e]
  rw [List.flatMap_map]
theorem FI.locals (h : FI ga ns kA kL v T U L w wr) : ∃ (a : Option Addr) (c g : Nat), v = .slice a (locs L kL).length c ∧ (0 < (locs L kL).length → a = some ⟨g, 0, none⟩) ∧
    Syms wr g (locs L kL).length (fun i => T ((locs L kL).getD i 0)) (fun i => U ((locs L kL).getD i 0)) (fun _ => true) := by
  obtain ⟨-, -, h3, -⟩ := h
  rcases h3.2 with ⟨rfl, h0⟩ | ⟨g, cap, cur, rfl, -⟩
  · rw [h0]
    exact ⟨none, 0, 0, rfl, fun hh => absurd hh (by omega), fun j hj => absurd hj (by omega)⟩
  · refine ⟨_, cap, g, rfl, fun _ => rfl, fun j hj i u hu => ?_⟩
    rw [rowl_rowg] at h3
    exact own_cell h3 (s := 10) (fun _ => rfl) hj hu
end
theorem subL_list (T : Nat → ByteArray) (U : Nat → Int) (L : Nat → Bool) (f : Nat → Int) : ∀ k, subL T U L k f = (locs L k).foldl (fun f j => scanD (negU (U j)) (T j) f) f
  | 0 => rfl
  | k + 1 => by
    rw [subL]
    cases h : L k
    · rw [if_neg (by simp), locs_no h]; exact subL_list T U L f k
    · rw [if_pos rfl, locs_yes h, List.foldl_append, subL_list T U L f k]; rfl
theorem subL_take (T : Nat → ByteArray) (U : Nat → Int) (l : List Nat) (f : Nat → Int) : ∀ m, m ≤ l.length → subL (fun i => T (l.getD i 0)) (fun i => U (l.getD i 0)) (fun _ => true) m f = (l.take m).foldl (fun f j => scanD (negU (U j)) (T j) f) f
  | 0, _ => by simp [subL]
  | m + 1, h => by
    rw [subL, if_pos rfl, subL_take T U l f m (by omega), List.take_add_one, List.foldl_append]
    have hm : m < l.length := by omega
    simp [List.getD, hm]
theorem sums (T : Nat → ByteArray) (U : Nat → Int) (L : Nat → Bool) (f : Nat → Int) (k : Nat) :
    subL (fun i => T ((locs L k).getD i 0)) (fun i => U ((locs L k).getD i 0)) (fun _ => true) (locs L k).length f = subL T U L k f := by
  rw [subL_take T U _ f _ (Nat.le_refl _), List.take_length, subL_list]
/-- the 64 counters as cells -/
def frq (h : Nat → Int) : List Value := (List.range 64).map (fun j => .int .i32 (h j))
theorem Row.range {w : World} {b : Nat} {h : Nat → Int} (hr : Row w b h) : w.rangeAt b 0 (frq h) := fun j v hv => by
  unfold frq at hv
  rw [List.getElem?_map] at hv
  by_cases hj : j < 64
  · rw [List.getElem?_range hj] at hv
    simp at hv; subst hv
    rw [Nat.zero_add]; exact (hr j hj).1
  · rw [List.getElem?_eq_none (by simp; omega)] at hv; simp at hv
theorem und44 : Try.prog.underlying 44 = some (.array 64 21) := by kernel_rfl
theorem und21 : Try.prog.underlying 21 = some (.int .i32) := by kernel_rfl
theorem cells21 : Try.prog.cellsOf 21 = 1 := by kernel_rfl
theorem part_frq (h : Nat → Int) (i : Nat) (hi : i < 64) (w : World) : (part 21 (frq h).toArray i).run Try.prog w = .ok (.int .i32 (h i)) w := by
  exact run_part_plain w (P := Try.prog) (by kernel_rfl) (by simp [frq, hi])
theorem items_frq (h : Nat → Int) (w : World) : ∀ is : List Nat, (∀ i ∈ is, i < 64) → (Op.eqItems 9999 21 1 (frq h).toArray (frq h).toArray is).run Try.prog w = .ok true w
  | [], _ => by simp [Op.eqItems]
  | i :: is, hi => by
    have h1 := part_frq h i (hi i (by simp)) w
    have h2 := items_frq h w is (fun j hj => hi j (by simp [hj]))
    simp only [Op.eqItems, Sem.run_bind, Nat.mul_one, h1, Result.andThen_ok, run_equalIn_int (P := Try.prog) w 9998 21 .i32 .i32 (h i) (h i) und21, beq_self_eq_true, Bool.not_true, Bool.false_eq_true, if_false, h2]
theorem eq_frq (h : Nat → Int) (w : World) : (binOp .eql 44 (.agg (frq h).toArray) (.agg (frq h).toArray)).run Try.prog w = .ok (.bool true) w := by
  obtain ⟨i, hi⟩ : ∃ i, Try.prog.info? 21 = some i := Option.isSome_iff_exists.1 (by kernel_rfl)
  rw [run_eql_struct, run_equalIn_array w 9999 _ _ und44 hi, cells21, items_frq h w _ (fun j hj => List.mem_range.1 hj)]
  rfl
theorem symbol_lit (s : ByteArray) (l : Bool) (u : Int) (w : World) :
    Calls Try.prog 6 #[.string s, .bool l, .int .u32 u] w fun e w' => e = .returned (.agg #[.pointer none, .string s, .int .u32 0, .int .u32 0, .int .u32 u, .int .u32 0, .int .u32 0, .int .u16 0, .int .u8 (kd l), .int .u8 0]) ∧ Below w.heap.size w w' :=
  (symbol_any s l u w).mono fun e w' h => h
end Go.Proofs.Ytgcohfmbdfohoaa.Fq
