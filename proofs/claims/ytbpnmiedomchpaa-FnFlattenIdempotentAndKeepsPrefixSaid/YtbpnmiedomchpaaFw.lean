/-
  A subclass selector is written out.
-/
import Derived.Test.YtbpnmiedomchpaaFv
namespace Go.Proofs.Ytbpnmiedomchpaa.Fg
open Go.ChangeShapes Go.WideShapes Go.ChangeAt Go.RowKit Rg
set_option linter.unusedVariables false
set_option linter.unusedSimpArgs false
def encN (n : ByteArray) : List UInt8 := 46 :: n.data.toList
def encT : Option ByteArray → List UInt8
  | none => [45]
  | some t => t.data.toList
def encI (c : Cp ByteArray) : List UInt8 := 40 :: UInt8.ofNat (cbB c.cb) :: (encT c.tp ++ 35 :: (dg c.nest ++ (c.subs.flatMap encN ++ [41])))
def encM (M : List (Cp ByteArray)) : List UInt8 := 124 :: M.flatMap encI
def encS : Su → List UInt8
  | .bare n => encN n
  | .wrap k Ms => 119 :: ((kdS k).data.toList ++ Ms.flatMap encM)
/-- what is short enough to be written -/
def QS (su : Su) : Prop := (encS su).length ≤ 33554432 ∧ (match su with
  | .bare _ => True
  | .wrap _ Ms => ∀ M ∈ Ms, ∀ c ∈ M, c.nest ≤ 65535)
/-- the buffer at work: r is still to come -/
def En (T : List UInt8) (w : World) (va : Option Addr) (N vc : Nat) (r : List UInt8) (W : World) : Prop :=
  ∃ l, N = l.length ∧ T = l ++ r ∧ Bf w.heap.size (.slice va N vc) l W ∧ Below w.heap.size w W
section
variable {T r : List UInt8} {w W W' : World} {va : Option Addr} {N vc : Nat}
theorem En.bel (h : En T w va N vc r W) : Below w.heap.size w W := by obtain ⟨l, -, -, -, h⟩ := h; exact h
theorem En.le (h : En T w va N vc r W) : N ≤ T.length := by
  obtain ⟨l, h1, h2, -, -⟩ := h
  rw [h2, List.length_append]; omega
theorem En.keep (h : En T w va N vc r W) (hb : Below W.heap.size W W') : En T w va N vc r W' := by
  obtain ⟨l, h1, h2, h3, h4⟩ := h
  exact ⟨l, h1, h2, own_keep h3 hb, h4.trans (hb.mono h4.size)⟩
/-- a block of another kind -/
theorem En.box (h : En T w va N vc r W) (hG : Gr (.slice va N vc) W W') {b : Nat} {ob : Array Value} {t : TypeId} {f : Nat × Nat} (ht : t ≠ 5) (hb : W.heap[b]? = some (.cells ob t f)) : W'.heap[b]? = some (.cells ob t f) := by
  obtain ⟨l, -, -, h3, -⟩ := h
  rw [hG.block b (Array.getElem?_eq_some_iff.1 hb).1 (fun q => ?_)]
  · exact hb
  · rcases h3.2 with ⟨h4, -⟩ | ⟨g, cap, cur, hv, -, hg, -⟩
    · rw [h4] at q; cases q
    · rw [hv] at q
      have e : b = g := by simpa [Value.ownBlock] using q
      rw [← e, hb] at hg
      simp only [Option.some.injEq, Obj.cells.injEq] at hg
      exact ht hg.2.1
theorem own_new (w : World) (cs : List Value) (n : Nat) (hn : cs.length = n) (h63 : n ≤ maxLen) : (w.alloc (.cells cs.toArray 5)).ownsRow w.heap.size 5 1 (.slice (some ⟨w.heap.size, 0, none⟩) n n) n cs :=
  ⟨by simpa using hn, .inr ⟨w.heap.size, n, cs.toArray, rfl, Nat.le_refl _, heap_alloc_new w _, Nat.le_refl _, h63, by simpa using hn, by simp [← hn]⟩⟩
theorem fill_u8 (v : Value) (s : Nat) (hs : s = 1) : Instr.fill (fun i => some (i * s, s)) ((Array.range (1 * s)).map ((Value.int .u8 0).cells[· % (Value.int .u8 0).cells.size]!)) [(0, Value.agg #[v])] = some #[v] := by
  subst hs; kernel_rfl
theorem bs_u8 (b : Int) (w : World) : (Instr.buildSlice 22 1 #[(0, .int .u8 b)]).run Try.prog w = .ok (.slice (some ⟨w.heap.size, 0, none⟩) 1 1) (w.alloc (.cells #[.int .u8 b] 5)) := by
  obtain ⟨i0, hi, hz0, hz1, hz2⟩ := info_parts infoU8
  exact run_buildSlice w 22 5 1 _ _ i0 _ Try.underlying22 hi hz0 (by rw [hz1]; decide) (by rw [hz1]; decide) (by rw [hz1]; kernel_rfl)
theorem bs_u82 (b c : Int) (w : World) : (Instr.buildSlice 22 2 #[(0, .int .u8 b), (1, .int .u8 c)]).run Try.prog w = .ok (.slice (some ⟨w.heap.size, 0, none⟩) 2 2) (w.alloc (.cells #[.int .u8 b, .int .u8 c] 5)) := by
  obtain ⟨i0, hi, hz0, hz1, hz2⟩ := info_parts infoU8
  exact run_buildSlice w 22 5 2 _ _ i0 _ Try.underlying22 hi hz0 (by rw [hz1]; decide) (by rw [hz1]; decide) (by rw [hz1]; kernel_rfl)
/-- bytes from a new block -/
theorem wpl_pushB {ops : Array Oper} {rest : List Oper} {o1 o2 : Oper} {a : Act} {Q : Exit → Act → World → Prop} (hg1 : o1.guard = none) (hg2 : o2.guard = none) (n : Nat) (els : Array (Nat × Operand)) (s y : Operand) (ho1 : o1.op = .buildSlice 22 n els)
    (ho2 : o2.op = .call { callee := .builtin .append, args := #[s, y], argTypes := #[22, 22] }) (bs : List UInt8) (hn : bs.length = n) (hn2 : n ≤ 2) (hE : En T w va N vc (bs ++ r) W) (hT : T.length ≤ 33554432)
    (hrun : (Instr.buildSlice 22 n (els.map fun e => (e.1, a.eval e.2))).run Try.prog W = .ok (.slice (some ⟨W.heap.size, 0, none⟩) n n) (W.alloc (.cells (Lib.byteCells bs).toArray 5)))
    (hs : ∀ q, (a.put o1.dst q).eval s = .slice va N vc) (hy : ∀ q, (a.put o1.dst q).eval y = q)
    (h : ∀ q va' N' vc' W', En T w va' N' vc' r W' → Gr (.slice va N vc) W W' → wpList Try.prog ops Q rest ((a.put o1.dst q).put o2.dst (.slice va' N' vc')) W') : wpList Try.prog ops Q (o1 :: o2 :: rest) a W := by
  obtain ⟨i0, hi, hz0, hz1, hz2⟩ := info_parts infoU8
  obtain ⟨l, h1, h2, h3, h4⟩ := hE
  have hN : N ≤ 33554432 := by rw [h2, List.length_append] at hT; omega
  refine wpList_plain hg1 fun _ hK => ?_
  unfold Oper.wp execOp
  simp only [ho1, Sem.run_bind, hrun, Result.andThen_ok]
  refine hK _ _ ?_
  have hb : Below W.heap.size W (W.alloc (.cells (Lib.byteCells bs).toArray 5)) := (Below.refl _ _).alloc (Nat.le_refl _) _
  have hblk := heap_alloc_new W (.cells (Lib.byteCells bs).toArray 5)
  unfold Bf at h3
  rw [← h1] at h3
  have hlen : (Lib.byteCells bs).length = n := by rw [Lib.byteCells, List.length_map, hn]
  refine wpl_appR hg2 s y _ ho2 w.heap.size 5 i0 (.int .u8 0) 1 1 Try.underlying22 hi hz0 hz1 hz2 rfl (by omega) (.slice va N vc) N (Lib.byteCells l) (hs _) (own_keep h3 hb) (some ⟨W.heap.size, 0, none⟩) n n (Lib.byteCells bs) (hy _) (by omega) (fun h => by cases h) (fun aa haa => by
    cases haa
    have := World.news_of_block hblk
    simpa using this) (fun u hu => bc_one hu) (by unfold maxLen; omega) (by omega) (Nat.le_trans h4.size hb.size) ?_
  intro v' w' ho hg hv
  obtain ⟨va', vc', rfl⟩ := own_slice ho
  refine h _ va' _ vc' w' ⟨l ++ bs, by rw [List.length_append, hn, ← h1], by rw [h2, List.append_assoc], ?_, ?_⟩ ((Fr.new hb).trans (Fr.ofGrown hg (fun k q => q)))
  · unfold Bf
    rw [List.length_append, hn, ← h1]
    simpa [Lib.byteCells] using ho
  · exact (h4.trans (hb.mono h4.size)).grown hg (Nat.le_trans h4.size hb.size) (fun k hk => (h3.lt k hk).1)
theorem wpl_push1 {ops : Array Oper} {rest : List Oper} {o1 o2 : Oper} {a : Act} {Q : Exit → Act → World → Prop} (hg1 : o1.guard = none) (hg2 : o2.guard = none) (x s y : Operand) (ho1 : o1.op = .buildSlice 22 1 #[(0, x)])
    (ho2 : o2.op = .call { callee := .builtin .append, args := #[s, y], argTypes := #[22, 22] }) (b : UInt8) (hE : En T w va N vc (b :: r) W) (hT : T.length ≤ 33554432) (hx : a.eval x = .int .u8 (b.toNat : Int))
    (hs : ∀ q, (a.put o1.dst q).eval s = .slice va N vc) (hy : ∀ q, (a.put o1.dst q).eval y = q)
    (h : ∀ q va' N' vc' W', En T w va' N' vc' r W' → Gr (.slice va N vc) W W' → wpList Try.prog ops Q rest ((a.put o1.dst q).put o2.dst (.slice va' N' vc')) W') : wpList Try.prog ops Q (o1 :: o2 :: rest) a W :=
  wpl_pushB hg1 hg2 1 #[(0, x)] s y ho1 ho2 [b] rfl (by omega) hE hT (by
    simp only [List.map_toArray, List.map_cons, List.map_nil, hx]
    exact bs_u8 _ W) hs hy h
theorem wpl_push2 {ops : Array Oper} {rest : List Oper} {o1 o2 : Oper} {a : Act} {Q : Exit → Act → World → Prop} (hg1 : o1.guard = none) (hg2 : o2.guard = none) (x x2 s y : Operand) (ho1 : o1.op = .buildSlice 22 2 #[(0, x), (1, x2)])
    (ho2 : o2.op = .call { callee := .builtin .append, args := #[s, y], argTypes := #[22, 22] }) (b c : UInt8) (hE : En T w va N vc (b :: c :: r) W) (hT : T.length ≤ 33554432) (hx : a.eval x = .int .u8 (b.toNat : Int)) (hx2 : a.eval x2 = .int .u8 (c.toNat : Int))
    (hs : ∀ q, (a.put o1.dst q).eval s = .slice va N vc) (hy : ∀ q, (a.put o1.dst q).eval y = q)
    (h : ∀ q va' N' vc' W', En T w va' N' vc' r W' → Gr (.slice va N vc) W W' → wpList Try.prog ops Q rest ((a.put o1.dst q).put o2.dst (.slice va' N' vc')) W') : wpList Try.prog ops Q (o1 :: o2 :: rest) a W :=
  wpl_pushB hg1 hg2 2 #[(0, x), (1, x2)] s y ho1 ho2 [b, c] rfl (by omega) hE hT (by
    simp only [List.map_toArray, List.map_cons, List.map_nil, hx, hx2]
    exact bs_u82 _ _ W) hs hy h
/-- a string's bytes -/
theorem wpl_pushS {ops : Array Oper} {rest : List Oper} {o : Oper} {a : Act} {Q : Exit → Act → World → Prop} (hg1 : o.guard = none) (s y : Operand)
    (ho : o.op = .call { callee := .builtin .append, args := #[s, y], argTypes := #[22, 9] }) (t : ByteArray) (hE : En T w va N vc (t.data.toList ++ r) W) (hT : T.length ≤ 33554432) (hs : a.eval s = .slice va N vc) (hy : a.eval y = .string t)
    (h : ∀ va' N' vc' W', En T w va' N' vc' r W' → Gr (.slice va N vc) W W' → wpList Try.prog ops Q rest (a.put o.dst (.slice va' N' vc')) W') : wpList Try.prog ops Q (o :: rest) a W := by
  obtain ⟨i0, hi, hz0, hz1, hz2⟩ := info_parts infoU8
  obtain ⟨l, h1, h2, h3, h4⟩ := hE
  have hts : t.size = t.data.toList.length := by rw [Array.length_toList]; rfl
  have hN : N + t.size ≤ 33554432 := by rw [h2, List.length_append, List.length_append, ← hts] at hT; omega
  unfold Bf at h3
  rw [← h1] at h3
  refine Lib.wpList_append_own_string _ hg1 s y 22 9 ho w.heap.size 5 i0 Try.underlying22 Try.underlying9 hi hz0 hz1 hz2 (.slice va N vc) N (Lib.byteCells l) hs h3 t hy (by unfold maxLen; omega) (by omega) h4.size ?_
  intro v' w' ho hg hv
  obtain ⟨va', vc', rfl⟩ := own_slice ho
  refine h va' _ vc' w' ⟨l ++ t.data.toList, by rw [List.length_append, ← hts, ← h1], by rw [h2, List.append_assoc], ?_, ?_⟩ (Fr.ofGrown hg (fun k q => q))
  · unfold Bf
    rw [List.length_append, ← hts, ← h1, show Lib.byteCells (l ++ t.data.toList) = Lib.byteCells l ++ Lib.strCells t by simp [Lib.byteCells, Lib.strCells]]
    exact ho
  · exact h4.grown hg h4.size (fun k hk => (h3.lt k hk).1)
/-- a number's digits -/
theorem En.digits {n : Nat} (hE : En T w va N vc (dg n ++ r) W) (hn : n ≤ 65535) (hT : T.length ≤ 33554432) : Calls Try.prog 38 #[.slice va N vc, .int .i64 (n : Nat)] W (fun e w' => ∃ va' N' vc', e = .returned (.slice va' N' vc') ∧ En T w va' N' vc' r w' ∧ Gr (.slice va N vc) W w') := by
  obtain ⟨l, h1, h2, h3, h4⟩ := hE
  refine (apd_any w.heap.size (.slice va N vc) l n W hn h3 (by rw [h2, List.length_append] at hT; omega) h4.size).mono ?_
  rintro e w' ⟨v', rfl, hB, hb, hG⟩
  obtain ⟨va', vc', rfl⟩ := own_slice hB
  exact ⟨va', _, vc', rfl, ⟨l ++ dg n, rfl, by rw [h2, List.append_assoc], hB, h4.trans hb⟩, hG⟩
/-- the buffer as a string -/
theorem En.str (hE : En T w va N vc [] W) (hp : 0 < T.length) : (convert 22 9 (.slice va N vc)).run Try.prog W = .ok (.string ⟨T.toArray⟩) W := by
  obtain ⟨l, h1, h2, h3, h4⟩ := hE
  rw [List.append_nil] at h2
  subst h2
  subst h1
  obtain ⟨g, cap, hv, -, -⟩ := h3.form hp
  simp only [Value.slice.injEq] at hv
  obtain ⟨rfl, -, rfl⟩ := hv
  exact run_convert_bytes_back (P := Try.prog) W 22 9 5 ⟨g, 0, none⟩ vc T Try.underlying22 Try.underlying5 Try.underlying9 (fun j hj => h3.cells (g := g) rfl j _ (by
    rw [Lib.byteCells, List.getElem?_map, List.getElem?_eq_getElem hj]; rfl))
end
end Go.Proofs.Ytbpnmiedomchpaa.Fg
