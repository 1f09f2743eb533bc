/-
  A tracker by its codes; compactRules' three ways out over it; worlds alike outside some blocks.
-/
import Derived.Test.YtmaljklijpoojaaDoorCl
import Derived.Test.YtmaljklijpoojaaDoorCt
import Derived.Test.YtmaljklijpoojaaDoorCu
namespace Go.Proofs.YtmaljklijpoojaaDoor.Co
open Go.ChangeShapes Go.WideShapes Go.ChangeAt Go.RowKit Rg Quad
set_option linter.unusedVariables false
set_option linter.unusedSimpArgs false
def sQ (a b : Int) : Int := if a = 5 ∨ b = 5 then 2 else 0
def cnC (a b : Int) (x : Nat) : CN := ⟨tT a, tK a, tT b, tK b, sQ a b, x, true⟩
abbrev QQ := Nat → Option (Int × Int)
def cnO (x : Nat) : Option (Int × Int) → CN
  | none => n0
  | some y => cnC y.1 y.2 x
def cnQ (Q : QQ) (i : Nat) : CN := cnO i (Q i)
theorem cnQ_some {Q : QQ} {i : Nat} {a b : Int} (h : Q i = some (a, b)) : cnQ Q i = cnC a b i := by unfold cnQ; rw [h]; rfl
theorem cnQ_none {Q : QQ} {i : Nat} (h : Q i = none) : cnQ Q i = n0 := by unfold cnQ; rw [h]; rfl
theorem cnQ_nil : cnQ (fun _ => none) = fun _ => n0 := rfl
def okQ (Q : QQ) : Prop := ∀ i, i < 4 → ∀ a b, Q i = some (a, b) → (0 ≤ a ∧ a ≤ 5) ∧ 0 ≤ b ∧ b ≤ 5
def mrg (Q : QQ) : Prop := ∀ i, i < 4 → ∃ a b, Q i = some (a, b) ∧ a ≤ 4 ∧ b ≤ 4
def pa : Option (Int × Int) → Int
  | none => 0
  | some y => y.1
def pb : Option (Int × Int) → Int
  | none => 0
  | some y => y.2
def qa (Q : QQ) (i : Nat) : Int := pa (Q i)
def qb (Q : QQ) (i : Nat) : Int := pb (Q i)
def upQ (Q : QQ) (i : Nat) (y : Int × Int) (j : Nat) : Option (Int × Int) := if j = i then some y else Q j
theorem upQ_cn (Q : QQ) (i : Nat) (a b : Int) : upN (cnQ Q) i (cnC a b i) = cnQ (upQ Q i (a, b)) := by
  funext j
  unfold upN cnQ upQ
  by_cases h : j = i
  · subst h; rw [if_pos rfl, if_pos rfl]; rfl
  · rw [if_neg h, if_neg h]
theorem cgR_cnR {a b : Int} {i : Nat} (ha : a ≤ 4) (hb : b ≤ 4) : cgR (cnC a b i) = cnR a b i true := by
  have e : sQ a b = 0 := by unfold sQ; rw [if_neg (by omega)]
  rw [cnR_eq]
  unfold cgR cnC cgG cnG
  simp only [e]
theorem TK.of_TG {Q : QQ} {imp : Bool} {t : Nat} {w : World} (h : TG (cnQ Q) imp t w) (hm : mrg Q) : TK (qa Q) (qb Q) id true imp t w := by
  have hc : ∀ i, i < 4 → w.rangeAt t (i * 18) (cnR (qa Q i) (qb Q i) (id i) true) := fun i hi => by
    obtain ⟨a, b, e, ha, hb⟩ := hm i hi
    have := h.1 i hi
    rw [cnQ_some e, cgR_cnR ha hb] at this
    unfold qa qb
    rw [e]
    exact this
  refine ⟨hc, h.2.1, ?_⟩
  have l : ∀ (a b : Int) (x : Nat), (cnR a b x true).length = 18 := fun _ _ _ => rfl
  have c0 := hc 0 (by omega)
  have c1 := hc 1 (by omega)
  have c2 := hc 2 (by omega)
  have c3 := hc 3 (by omega)
  simp only [Nat.reduceMul, Nat.zero_mul] at c0 c1 c2 c3
  unfold qdR
  refine rg_append c0 (rg_append ?_ (rg_append ?_ ?_))
  · rw [l]; exact c1
  · rw [l, l]; exact c2
  · rw [l, l, l]; exact c3
theorem cz_any (t r n cr : Nat) (Q : QQ) (imp mf : Bool) (key n2 : Int) (R : Nat → RU) (lc : Nat → Int) (w : World)
    (hT : TG (cnQ Q) imp t w) (hk : okQ Q) (htr : t ≠ r) (hR : RR w r n R) (hth : w.there r 0 (n * 2)) (hm : mrg Q → n = 4 ∧ n2 = 3) (hlc : ∀ i, i < n → (R i).2 = lc i) :
    Calls Tryd.prog 23 #[.pointer (some ⟨t, 0, none⟩), .slice (some ⟨r, 0, none⟩) n cr, .agg #[.int .i32 key, .int .i32 n2], .bool mf] w fun e w' => e = .returned (.tuple #[]) ∧ (mrg Q → CrP (qa Q) (qb Q) id imp mf key r n R lc w w') ∧ (¬ mrg Q → Below w.heap.size w w') := by
  by_cases h : mrg Q
  · obtain ⟨rfl, rfl⟩ := hm h
    have hq : ∀ j, j < 4 → (0 ≤ qa Q j ∧ qa Q j < 8) ∧ 0 ≤ qb Q j ∧ qb Q j < 8 := fun j hj => by
      obtain ⟨a, b, e, ha, hb⟩ := h j hj
      have := hk j hj a b e
      unfold qa qb
      rw [e]
      dsimp only [pa, pb]
      omega
    exact (cr_any t r 4 cr (qa Q) (qb Q) id imp mf key R lc w (TK.of_TG hT h) htr hR hth (fun i hi => hi) (fun i hi => hlc i hi) (by omega) (fun j hj => (hq j hj).1) (fun j hj => (hq j hj).2)).mono fun e w' hh => ⟨hh.1, fun _ => hh.2, fun hn => absurd h hn⟩
  · by_cases hz : ∃ i, i < 4 ∧ (cnQ Q i).k1 = 0
    · exact (ce_any t _ key n2 mf imp (cnQ Q) w hT hz).mono fun e w' hh => ⟨hh.1, fun hn => absurd hn h, fun _ => hh.2⟩
    · have hs : ∀ i, i < 4 → ∃ a b, Q i = some (a, b) := fun i hi => by
        cases e : Q i with
        | none => exact absurd ⟨i, hi, by rw [cnQ_none e]; rfl⟩ hz
        | some y => exact ⟨y.1, y.2, rfl⟩
      have hst : ∀ i, i < 4 → (cnQ Q i).st = 0 ∨ (cnQ Q i).st = 2 := fun i hi => by
        obtain ⟨a, b, e⟩ := hs i hi
        rw [cnQ_some e]
        show sQ a b = 0 ∨ sQ a b = 2
        unfold sQ
        split <;> simp
      refine (cu_any t _ key n2 mf imp (cnQ Q) w hT (fun i hi e => hz ⟨i, hi, e⟩) hst ?_).mono fun e w' hh => ⟨hh.1, fun hn => absurd hn h, fun _ => hh.2⟩
      refine Classical.byContradiction fun hno => h fun i hi => ?_
      obtain ⟨a, b, e⟩ := hs i hi
      have := hk i hi a b e
      have h2 : ¬ (cnQ Q i).st = 2 := fun e2 => hno ⟨i, hi, e2⟩
      rw [cnQ_some e] at h2
      have h3 : ¬ sQ a b = 2 := h2
      unfold sQ at h3
      refine ⟨a, b, e, ?_⟩
      by_cases h5 : a = 5 ∨ b = 5
      · exact absurd (by rw [if_pos h5]) h3
      · omega
/-- the blocks outside S are as they were -/
def KX (S : Nat → Prop) (w w' : World) : Prop := w'.os = w.os ∧ w'.tape = w.tape ∧ w'.output = w.output ∧ w.heap.size ≤ w'.heap.size ∧ ∀ i, i < w.heap.size → ¬ S i → w'.heap[i]? = w.heap[i]?
section
variable {S : Nat → Prop} {w w' w2 : World} {t : Nat}
theorem KX.of_grown (h : w.grownBy w' (some t)) (hS : S t) : KX S w w' := ⟨h.os, h.tape, h.output, h.size, fun i hi hn => h.block i hi (fun e => by injection e with e; exact hn (e ▸ hS))⟩
theorem KX.of_below (h : Below w.heap.size w w') : KX S w w' := ⟨h.os, h.tape, h.output, h.size, fun i hi _ => h.block i hi⟩
theorem KX.trans (h : KX S w w') (h2 : KX S w' w2) : KX S w w2 := ⟨h2.1.trans h.1, h2.2.1.trans h.2.1, h2.2.2.1.trans h.2.2.1, Nat.le_trans h.2.2.2.1 h2.2.2.2.1, fun i hi hn => (h2.2.2.2.2 i (Nat.lt_of_lt_of_le hi h.2.2.2.1) hn).trans (h.2.2.2.2 i hi hn)⟩
theorem KX.set_ (h : KX S w w') {p : Addr} (hp : S p.block) (u : Value) : KX S w (w'.setCell p u) :=
  ⟨h.1, h.2.1, h.2.2.1, by simpa [World.setCell] using h.2.2.2.1, fun i hi hn => (heap_setCell_other w' p i u (fun e => hn (e ▸ hp))).trans (h.2.2.2.2 i hi hn)⟩
theorem KX.mono {S' : Nat → Prop} (h : KX S w w') (hs : ∀ i, S i → S' i) : KX S' w w' := ⟨h.1, h.2.1, h.2.2.1, h.2.2.2.1, fun i hi hn => h.2.2.2.2 i hi (fun e => hn (hs i e))⟩
theorem KX.bk (h : KX S w w') {g : Nat} {t : TypeId} {cs : Array Value} (hb : Bk w g t cs) (hn : ¬ S g) : Bk w' g t cs := (h.2.2.2.2 g hb.lt hn).trans hb
theorem KX.cell (h : KX S w w') {p : Addr} {v : Value} (hc : w.cell? p = some v) (hn : ¬ S p.block) : w'.cell? p = some v := by
  rw [World.cell?_of_block (a := p) (h.2.2.2.2 p.block (World.block_lt_of_cell? w p hc) hn)]; exact hc
theorem KX.rg (h : KX S w w') {b o : Nat} {cs : List Value} (hc : w.rangeAt b o cs) (hn : ¬ S b) : w'.rangeAt b o cs := fun j v hv => h.cell (hc j v hv) hn
theorem KX.th (h : KX S w w') {b o n : Nat} (hc : w.there b o n) (hn : ¬ S b) (hl : b < w.heap.size) : w'.there b o n := fun j hj => by
  have e := h.2.2.2.2 b hl hn
  have := hc j hj
  rw [World.cell?_of_block (a := ⟨b, o + j, none⟩) e, World.frozen?_of_block (a := ⟨b, o + j, none⟩) e]
  exact this
end
theorem TG.other {χ : Nat → CN} {imp : Bool} {t : Nat} {w : World} (h : TG χ imp t w) {p : Addr} (hp : p.block ≠ t) (u : Value) : TG χ imp t (w.setCell p u) :=
  ⟨fun i hi => rg_other (h.1 i hi) hp, cell_other h.2.1 hp, th_set h.2.2⟩
theorem TG.imp_ {χ : Nat → CN} {imp : Bool} {t : Nat} {w : World} (h : TG χ imp t w) (imp' : Bool) : TG χ imp' t (w.setCell ⟨t, 72, none⟩ (.bool imp')) := by
  refine ⟨fun i hi => rg_far (h.1 i hi) (fun j hj e => ?_), set_same (by rw [h.2.1]; rfl), th_set h.2.2⟩
  rw [cgR_len] at hj
  injection e with _ e
  omega
def Z72 : List Value := cgR n0 ++ (cgR n0 ++ (cgR n0 ++ cgR n0))
theorem Z72_len : Z72.length = 72 := rfl
theorem TG.zero {χ : Nat → CN} {imp : Bool} {t : Nat} {w : World} (h : TG χ imp t w) : TG (cnQ (fun _ => none)) imp t (w.setCells t 0 Z72) := by
  have hr : (w.setCells t 0 Z72).rangeAt t 0 Z72 := World.rangeAt_setCells_same _ _ _ _ (th_sub h.2.2 (by omega) (by rw [Z72_len]; omega))
  refine ⟨fun i hi => ?_, ?_, World.there_setCells h.2.2 _ _ _⟩
  · have c : i = 0 ∨ i = 1 ∨ i = 2 ∨ i = 3 := by omega
    have hq0 := hr
    generalize w.setCells t 0 Z72 = W at *
    unfold Z72 at hq0
    have a0 := rg_left hq0
    have a1 := rg_left (rg_right hq0)
    have a2 := rg_left (rg_right (rg_right hq0))
    have a3 := rg_right (rg_right (rg_right hq0))
    simp only [cgR_len, Nat.reduceAdd, Nat.zero_add] at a1 a2 a3
    show W.rangeAt t (i * 18) (cgR n0)
    clear hq0 hr
    generalize cgR n0 = z at *
    rcases c with rfl | rfl | rfl | rfl
    · exact a0
    · exact a1
    · exact a2
    · exact a3
  · have h4 : w.rangeAt t 72 [.bool imp] := fun j v hv => by
      rcases j with _ | j
      · simp only [List.getElem?_cons_zero, Option.some.injEq] at hv; subst hv; exact h.2.1
      · simp at hv
    exact World.rangeAt_setCells_apart h4 t 0 Z72 (.inr (.inr (by rw [Z72_len]; omega))) 0 _ rfl
theorem bldZ72 (W : World) : (Instr.build 67 #[]).run Tryd.prog W = .ok (.agg Z72.toArray) W := run_build W _ _ _ (by kernel_rfl)
theorem szZ72 : (Tryd.prog.info? 67).map (·.size) = some Z72.toArray.size := by kernel_rfl
theorem Z72_one : Z72.toArray.all (·.oneCell') = true := by simp [Z72, cgR, cgG, n0, Value.oneCell']
theorem wpl_build0 {P : Program} {ops : Array Oper} {rest : List Oper} {o : Oper} {a : Act} {w : World} {Q : Exit → Act → World → Prop} (hg : o.guard = none) (t : TypeId) (ho : o.op = .build t #[]) (r : Value) (hrun : (Instr.build t #[]).run P w = .ok r w) (h : wpList P ops Q rest (a.put o.dst r) w) : wpList P ops Q (o :: rest) a w := by
  refine wpList_plain hg fun _ hK => ?_
  unfold Oper.wp execOp
  simp only [ho, Sem.run_bind, List.map_toArray, List.map_nil, hrun, Result.andThen_ok]
  exact hK _ _ h
theorem wpl_build5 {P : Program} {ops : Array Oper} {rest : List Oper} {o : Oper} {a : Act} {w : World} {Q : Exit → Act → World → Prop} (hg : o.guard = none) (t : TypeId) (x0 x1 x2 x3 x4 : Operand) (ho : o.op = .build t #[(0, x0), (1, x1), (2, x2), (3, x3), (4, x4)]) (v0 v1 v2 v3 v4 r : Value) (h0 : a.eval x0 = v0) (h1 : a.eval x1 = v1) (h2 : a.eval x2 = v2) (h3 : a.eval x3 = v3) (h4 : a.eval x4 = v4) (hrun : (Instr.build t #[(0, v0), (1, v1), (2, v2), (3, v3), (4, v4)]).run P w = .ok r w) (h : wpList P ops Q rest (a.put o.dst r) w) : wpList P ops Q (o :: rest) a w := by
  refine wpList_plain hg fun _ hK => ?_
  unfold Oper.wp execOp
  simp only [ho, Sem.run_bind, List.map_toArray, List.map_cons, List.map_nil, h0, h1, h2, h3, h4, hrun, Result.andThen_ok]
  exact hK _ _ h
theorem gb_sets {w0 w : World} {r : Nat} (h : w0.grownBy w (some r)) (o : Nat) (vs : List Value) : w0.grownBy (w.setCells r o vs) (some r) := by
  induction vs generalizing o w with
  | nil => exact h
  | cons v vs ih => rw [World.setCells]; exact ih (gb_set h o v) (o + 1)
end Go.Proofs.YtmaljklijpoojaaDoor.Co
