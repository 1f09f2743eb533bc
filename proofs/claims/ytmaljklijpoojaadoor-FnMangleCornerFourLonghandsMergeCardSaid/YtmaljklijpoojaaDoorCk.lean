/-
  compactRules: the tests; what is kept.
-/
import Derived.Test.YtmaljklijpoojaaDoorCj
import Derived.Deep.RegionHeld3
import Derived.Deep.DeepCutAuto
import Derived.Deep.CutBlock
namespace Go.Proofs.YtmaljklijpoojaaDoor.Co
open Go.ChangeShapes Go.WideShapes Go.ChangeAt Go.RowKit Rg Quad
set_option linter.unusedVariables false
set_option linter.unusedSimpArgs false
section
variable {w0 w w' : World} {r : Nat}
theorem gb_below (hb : Below w.heap.size w w') : w.grownBy w' (some r) := ⟨hb.os, hb.tape, hb.output, hb.size, fun i hi _ => hb.block i hi⟩
theorem gb_refl (w : World) (r : Nat) : w.grownBy w (some r) := gb_below (Below.refl _ _)
theorem gb_then (h : w0.grownBy w (some r)) (hb : Below w.heap.size w w') : w0.grownBy w' (some r) := h.trans (gb_below hb)
theorem gb_set (h : w0.grownBy w (some r)) (o : Nat) (v : Value) : w0.grownBy (w.setCell ⟨r, o, none⟩ v) (some r) :=
  ⟨h.os, h.tape, h.output, by simpa [World.setCell] using h.size, fun i hi hne => (heap_setCell_other w ⟨r, o, none⟩ i v (fun e => hne (by rw [e]))).trans (h.block i hi hne)⟩
theorem gb_new (h : w0.grownBy w (some r)) {b : Nat} (hb : w0.heap.size ≤ b) (o : Nat) (v : Value) : w0.grownBy (w.setCell ⟨b, o, none⟩ v) (some r) :=
  ⟨h.os, h.tape, h.output, by simpa [World.setCell] using h.size, fun i hi hne => (heap_setCell_other w ⟨b, o, none⟩ i v (fun e => by dsimp only at e; omega)).trans (h.block i hi hne)⟩
end
/-- the tracker in block t -/
def TK (q1 q2 : Nat → Int) (ix : Nat → Nat) (sg imp : Bool) (t : Nat) (w : World) : Prop := (∀ i, i < 4 → w.rangeAt t (i * 18) (cnR (q1 i) (q2 i) (ix i) sg)) ∧ w.cell? ⟨t, 72, none⟩ = some (.bool imp) ∧ w.rangeAt t 0 (qdR q1 q2 ix sg)
theorem TK.of {q1 q2 : Nat → Int} {ix : Nat → Nat} {sg imp : Bool} {t : Nat} {ty : TypeId} {w : World} (h : Bk w t ty (trR q1 q2 ix sg imp).toArray) : TK q1 q2 ix sg imp t w := by
  have hr : w.rangeAt t 0 (trR q1 q2 ix sg imp) := fun j v hv => by rw [Nat.zero_add]; exact h.cell j (by rw [List.getElem?_toArray]; exact hv)
  have e : trR q1 q2 ix sg imp = qdR q1 q2 ix sg ++ [.bool imp] := by unfold trR qdR; simp only [List.append_assoc]
  have hq : w.rangeAt t 0 (qdR q1 q2 ix sg) := rg_left (e ▸ hr)
  refine ⟨fun i hi => ?_, hr 72 _ rfl, hq⟩
  have c : i = 0 ∨ i = 1 ∨ i = 2 ∨ i = 3 := by omega
  have hq0 := hq
  unfold qdR at hq0
  rcases c with rfl | rfl | rfl | rfl
  · exact rg_left hq0
  · exact rg_left (rg_right hq0)
  · exact rg_left (rg_right (rg_right hq0))
  · exact rg_right (rg_right (rg_right hq0))
theorem TK.keep {q1 q2 : Nat → Int} {ix : Nat → Nat} {sg imp : Bool} {t : Nat} {w w' : World} (h : TK q1 q2 ix sg imp t w) (hb : Below w.heap.size w w') : TK q1 q2 ix sg imp t w' :=
  ⟨fun i hi => rg_keep hb (h.1 i hi), later hb h.2.1, rg_keep hb h.2.2⟩
set_option maxRecDepth 100000 in
set_option maxHeartbeats 1000000 in
theorem isw (w : World) : Calls Tryd.prog 29 #[.agg #[.string ⟨#[]⟩, .int .u8 0], .agg #[.string ⟨#[]⟩, .int .u8 0]] w fun e w' => e = .returned (.bool true) ∧ Below w.heap.size w w' := by
  go_enter Tryd.func29, Tryd.ntmps29
  go_wp2_with fail
  go_ret
  exact ⟨rfl, ((Below.refl _ _).alloc (Nat.le_refl _) _).alloc (by simp) _⟩
theorem tK_pos {m : Int} : (tK m == 0) = false := by
  unfold tK
  repeat' split
  all_goals rfl
/-- the rules behind k corners -/
def rk (R : Nat → RU) (ix : Nat → Nat) (k j : Nat) : RU := if (List.range k).any (fun i => ix i == j) then (none, 0) else R j
theorem rk_zero (R : Nat → RU) (ix : Nat → Nat) : rk R ix 0 = R := by funext j; simp [rk]
theorem rk_succ (R : Nat → RU) (ix : Nat → Nat) (k j : Nat) : rk R ix (k + 1) j = if j = ix k then (none, 0) else rk R ix k j := by
  unfold rk
  rw [List.range_succ, List.any_append]
  by_cases e : j = ix k
  · subst e; simp
  · have : (ix k == j) = false := beq_eq_false_iff_ne.mpr (fun h => e h.symm)
    simp [this, e]
theorem rk_lz {R : Nat → RU} {ix : Nat → Nat} {lc : Nat → Int} {k : Nat} (h : (R (ix k)).2 = lc (ix k)) : (rk R ix k (ix k)).2 = lz ix lc k := by
  unfold rk lz sn
  split
  · rfl
  · exact h
/-- behind the tests -/
def S1 (q1 q2 : Nat → Int) (ix : Nat → Nat) (imp : Bool) (t : Nat) (key : Int) (w0 w : World) : Prop := Bk w w0.heap.size 42 #[.int .i32 key, .int .i32 3] ∧ Below w0.heap.size w0 w ∧ TK q1 q2 ix true imp t w
theorem S1.keep {q1 q2 : Nat → Int} {ix : Nat → Nat} {imp : Bool} {t : Nat} {key : Int} {w0 w w' : World} (h : S1 q1 q2 ix imp t key w0 w) (hb : Below w.heap.size w w') : S1 q1 q2 ix imp t key w0 w' :=
  ⟨h.1.keep hb, h.2.1.trans (hb.mono (Nat.le_of_lt h.1.lt)), h.2.2.keep hb⟩
theorem cnR_one (m1 m2 : Int) (x : Nat) (sg : Bool) : (cnR m1 m2 x sg).toArray.all (·.oneCell') = true := by simp [cnR, tyR, Value.oneCell']
/-- a row of four tokens, made since -/
def T4 (q : Nat → Int) (mf : Bool) (g : Nat) (w0 w : World) : Prop := Bk w g 39 (rowg (tqF q (wsk mf (mN q) (mN q))) 4).toArray ∧ w0.heap.size ≤ g
theorem T4.keep {q : Nat → Int} {mf : Bool} {g : Nat} {w0 w w' : World} (h : T4 q mf g w0 w) (hb : Below w.heap.size w w') : T4 q mf g w0 w' := ⟨h.1.keep hb, h.2⟩
theorem below_of {a b c : World} (h : Below a.heap.size b c) (e1 : b.os = a.os) (e2 : b.tape = a.tape) (e3 : b.output = a.output) (e4 : b.heap = a.heap) : Below a.heap.size a c :=
  ⟨h.os.trans e1, h.tape.trans e2, h.output.trans e3, by have := h.size; rwa [e4] at this, fun k hk => (h.block k hk).trans (by rw [e4])⟩
theorem S1.grown {q1 q2 : Nat → Int} {ix : Nat → Nat} {imp : Bool} {t : Nat} {key : Int} {w0 w w' : World} {s n : Nat} {v : Value} {xs : List Value} (h : S1 q1 q2 ix imp t key w0 w) (ht : t < w0.heap.size) (ho : w.ownsRow w0.heap.size 39 s v n xs) (hg : w.grownBy w' v.ownBlock) : S1 q1 q2 ix imp t key w0 w' := by
  have hv : ∀ k, v.ownBlock = some k → w0.heap.size ≤ k := fun k e => (ho.lt k e).1
  have ht2 : some t ≠ v.ownBlock := fun e => by have := hv t e.symm; omega
  have hc : ∀ {a : Addr} {u : Value}, a.block = t → w.cell? a = some u → w'.cell? a = some u := fun {a u} e hu => hg.cell hu (by rw [e]; exact ht2)
  refine ⟨h.1.grown hg (h.1.ne_row ho (by decide)), ⟨hg.os.trans h.2.1.os, hg.tape.trans h.2.1.tape, hg.output.trans h.2.1.output, Nat.le_trans h.2.1.size hg.size, fun k hk => ?_⟩, fun i hi j u hu => hc rfl (h.2.2.1 i hi j u hu), hc rfl h.2.2.2.1, fun j u hu => hc rfl (h.2.2.2.2 j u hu)⟩
  exact (hg.block k (Nat.lt_of_lt_of_le hk h.2.1.size) (fun e => by have := hv k e.symm; omega)).trans (h.2.1.block k hk)
theorem rowg_add (f : Nat → List Value) (a : Nat) : ∀ b, rowg f (a + b) = rowg f a ++ rowg (fun i => f (a + i)) b
  | 0 => by simp [rowg_zero]
  | b + 1 => by rw [← Nat.add_assoc, rowg_succ, rowg_add f a b, rowg_succ, List.append_assoc]
theorem tqF_len (q S : Nat → Int) (i : Nat) : (tqF q S i).length = 7 := rfl
theorem T4.tr {q : Nat → Int} {mf : Bool} {g : Nat} {w0 w : World} (h : T4 q mf g w0 w) : TR w g (mN q) (fun i => (q i, wsv mf (mN q) i)) := fun i hi j u hu => by
  have h4 := (mN_le q).2
  have hj7 : j < 7 := by have := (List.getElem?_eq_some_iff.1 hu).1; rw [tyR_len] at this; exact this
  refine h.1.cell (i * 7 + j) ?_
  rw [List.getElem?_toArray, rowg_at (tqF q _) (s := 7) (fun _ => rfl) 4 i j (by omega) hj7]
  unfold tqF wsk
  rw [if_pos hi]
  exact hu
theorem T4.own {q : Nat → Int} {mf : Bool} {g : Nat} {w0 w : World} (h : T4 q mf g w0 w) : w.ownsRow w0.heap.size 39 7 (.slice (some ⟨g, 0, none⟩) (mN q) 4) (mN q) (rowg (tqF q (wsk mf (mN q) (mN q))) (mN q)) := by
  have h4 := (mN_le q).2
  obtain ⟨m, hm⟩ : ∃ m, 4 = mN q + m := ⟨4 - mN q, by omega⟩
  refine ⟨rowg_len _ (tqF_len _ _) _, .inr ⟨g, 4, _, rfl, h.2, h.1, h4, by unfold maxLen; omega, ?_, ?_⟩⟩
  · rw [List.size_toArray, rowg_len _ (tqF_len _ _)]
  · have hl := rowg_len (tqF q (wsk mf (mN q) (mN q))) (tqF_len _ _) (mN q)
    rw [hm, rowg_add, ← hl]
    simp
/-- the tokens of both quads with a slash between -/
def Xs (q1 q2 : Nat → Int) (mf : Bool) (i : Nat) : TY := if i < mN q1 then (q1 i, wsv mf (mN q1) i) else if i = mN q1 then (7, if mf then 0 else 3) else (q2 (i - mN q1 - 1), wsv mf (mN q2) (i - mN q1 - 1))
theorem row_eq (q1 q2 : Nat → Int) (mf : Bool) : rowg (tqF q1 (wsk mf (mN q1) (mN q1))) (mN q1) ++ tyR (7, if mf then 0 else 3) ++ rowg (tqF q2 (wsk mf (mN q2) (mN q2))) (mN q2) = rowg (fun i => tyR (Xs q1 q2 mf i)) (mN q1 + 1 + mN q2) := by
  rw [rowg_add, rowg_succ]
  congr 1
  · congr 1
    · refine rowg_congr _ fun j hj => ?_
      unfold tqF Xs wsk
      rw [if_pos hj, if_pos hj]
    · unfold Xs
      rw [if_neg (Nat.lt_irrefl (mN q1)), if_pos (rfl : mN q1 = mN q1)]
  · refine rowg_congr _ fun j hj => ?_
    unfold tqF Xs wsk
    rw [if_pos hj, if_neg (by omega), if_neg (by omega), show mN q1 + 1 + j - mN q1 - 1 = j by omega]
theorem Xs_ok {q1 q2 : Nat → Int} {mf : Bool} (h : qeq q1 q2 = false) : VX q1 q2 mf (mN q1 + 1 + mN q2) (Xs q1 q2 mf) := by
  refine .inr ⟨h, rfl, fun i hi => ?_, ?_, fun i hi => ?_⟩
  · unfold Xs; rw [if_pos hi]
  · unfold Xs; rw [if_neg (Nat.lt_irrefl (mN q1)), if_pos (rfl : mN q1 = mN q1)]
  · unfold Xs; rw [if_neg (by omega), if_neg (by omega), show mN q1 + 1 + i - mN q1 - 1 = i by omega]
theorem own_tr {w : World} {B N : Nat} {v : Value} {X : Nat → TY} (h : w.ownsRow B 39 7 v N (rowg (fun i => tyR (X i)) N)) (hN : 0 < N) : ∃ g c, v = .slice (some ⟨g, 0, none⟩) N c ∧ B ≤ g ∧ TR w g N X := by
  rcases h.2 with ⟨_, e⟩ | ⟨g, cap, cur, rfl, hb, _⟩
  · omega
  · exact ⟨g, cap, rfl, hb, fun i hi j u hu => own_cell h (f := fun i => tyR (X i)) (fun _ => rfl) hi hu⟩
theorem tok_info : (Tryd.prog.info? 39).map (fun i => (i.zero, i.size, i.bytes)) = some (some (.agg #[.pointer none, .string ⟨#[]⟩, .int .i32 0, .int .u32 0, .int .u16 0, .int .u8 0, .int .u8 0]), 7, 40) := by kernel_rfl
theorem tyR_one (x : TY) : ∀ u ∈ tyR x, u.oneCell' = true := by
  intro u hu
  simp only [tyR, List.mem_cons, List.not_mem_nil, or_false] at hu
  rcases hu with rfl | rfl | rfl | rfl | rfl | rfl | rfl <;> rfl
theorem T4.news {q : Nat → Int} {mf : Bool} {g : Nat} {w0 w : World} (h : T4 q mf g w0 w) : ∀ j u, (rowg (tqF q (wsk mf (mN q) (mN q))) (mN q))[j]? = some u → w.cell? ((⟨g, 0, none⟩ : Addr).add j) = some u := fun j u hu => by
  have h4 := (mN_le q).2
  obtain ⟨m, hm⟩ : ∃ m, 4 = mN q + m := ⟨4 - mN q, by omega⟩
  rw [add_none, Nat.zero_add]
  refine h.1.cell j ?_
  rw [List.getElem?_toArray, hm, rowg_add, List.getElem?_append_left (List.getElem?_eq_some_iff.1 hu).1]
  exact hu
theorem T4.grown {q : Nat → Int} {mf : Bool} {g g1 n1 c1 : Nat} {w0 w w' : World} (h : T4 q mf g w0 w) (hg : w.grownBy w' (Value.slice (some ⟨g1, 0, none⟩) n1 c1).ownBlock) (hne : g1 ≠ g) : T4 q mf g w0 w' :=
  ⟨h.1.grown hg (fun e => hne (by simp only [Value.ownBlock, Option.some.injEq] at e; exact e.symm)), h.2⟩
theorem gb_drew {w0 w : World} {r : Nat} (h : w0.grownBy w (some r)) : w0.grownBy w.drew (some r) := gb_then h ⟨rfl, rfl, rfl, Nat.le_refl _, fun _ _ => rfl⟩
theorem gb_al {w0 w : World} {r : Nat} (h : w0.grownBy w (some r)) (o : Obj) : w0.grownBy (w.alloc o) (some r) := gb_then h ((Below.refl _ _).alloc (Nat.le_refl _) o)
theorem TK.other {q1 q2 : Nat → Int} {ix : Nat → Nat} {sg imp : Bool} {t : Nat} {w : World} (h : TK q1 q2 ix sg imp t w) {p : Addr} (hp : p.block ≠ t) (u : Value) : TK q1 q2 ix sg imp t (w.setCell p u) :=
  ⟨fun i hi => rg_other (h.1 i hi) hp, cell_other h.2.1 hp, rg_other h.2.2 hp⟩
theorem TR.other {w : World} {g n : Nat} {X : Nat → TY} (h : TR w g n X) {p : Addr} (hp : p.block ≠ g) (u : Value) : TR (w.setCell p u) g n X := fun i hi => rg_other (h i hi) hp
theorem RR.other {w : World} {r n : Nat} {R : Nat → RU} (h : RR w r n R) {p : Addr} (hp : p.block ≠ r) (u : Value) : RR (w.setCell p u) r n R := fun i hi => rg_other (h i hi) hp
def upR (R : Nat → RU) (i : Nat) (x : RU) (j : Nat) : RU := if j = i then x else R j
theorem RR.put {w : World} {r n : Nat} {R : Nat → RU} (h : RR w r n R) (ht : w.there r 0 (n * 2)) {i : Nat} (hi : i < n) (x : RU) : RR (w.setCells r (i * 2) (ruR x)) r n (upR R i x) := fun j hj => by
  unfold upR
  by_cases e : j = i
  · subst e
    rw [if_pos rfl]
    refine World.rangeAt_setCells_same _ _ _ _ ?_
    have := th_sub (o' := j * 2) (m := 2) ht (by omega) (by omega)
    exact this
  · rw [if_neg e]
    refine World.rangeAt_setCells_apart (h j hj) _ _ _ (.inr ?_)
    simp only [ruR, List.length_cons, List.length_nil]
    omega
/-- the state of the last loop -/
def S5 (q1 q2 : Nat → Int) (ix : Nat → Nat) (imp : Bool) (t : Nat) (key : Int) (r n g nv : Nat) (X : Nat → TY) (mb : Nat) (R : Nat → RU) (m : Int) (w0 w : World) : Prop :=
  Bk w w0.heap.size 42 #[.int .i32 key, .int .i32 3] ∧ w0.grownBy w (some r) ∧ TK q1 q2 ix true imp t w ∧ RR w r n R ∧ w.there r 0 (n * 2) ∧ TR w g nv X ∧ Bk w mb 33 #[.int .i32 m]
section
variable {q1 q2 : Nat → Int} {ix : Nat → Nat} {imp : Bool} {t : Nat} {key : Int} {r n g nv : Nat} {X : Nat → TY} {mb : Nat} {R : Nat → RU} {m : Int} {w0 w w' : World}
theorem S5.keep (h : S5 q1 q2 ix imp t key r n g nv X mb R m w0 w) (hb : Below w.heap.size w w') : S5 q1 q2 ix imp t key r n g nv X mb R m w0 w' := by
  obtain ⟨h1, h2, h3, h4, h5, h6, h7⟩ := h
  exact ⟨h1.keep hb, gb_then h2 hb, h3.keep hb, h4.keep hb, th_keep hb h5, h6.keep hb, h7.keep hb⟩
theorem S5.setm (h : S5 q1 q2 ix imp t key r n g nv X mb R m w0 w) (ht : t < w0.heap.size) (hr : r < w0.heap.size) (hm : w0.heap.size < mb) (hg : mb ≠ g) (m' : Int) : S5 q1 q2 ix imp t key r n g nv X mb R m' w0 (w.setCell ⟨mb, 0, none⟩ (.int .i32 m')) := by
  obtain ⟨h1, h2, h3, h4, h5, h6, h7⟩ := h
  exact ⟨h1.far (p := ⟨mb, 0, none⟩) (by dsimp only; omega) _, gb_new h2 (by omega) _ _, h3.other (by dsimp only; omega) _, h4.other (by dsimp only; omega) _, th_set h5, h6.other hg _, h7.set_ 0 (.int .i32 m')⟩
theorem S5.put (h : S5 q1 q2 ix imp t key r n g nv X mb R m w0 w) (htr : t ≠ r) (hr : r < w0.heap.size) (hm : w0.heap.size < mb) (hg : w0.heap.size ≤ g) {i : Nat} (hi : i < n) (x : RU) : S5 q1 q2 ix imp t key r n g nv X mb (upR R i x) m w0 (w.setCells r (i * 2) (ruR x)) := by
  obtain ⟨h1, h2, h3, h4, h5, h6, h7⟩ := h
  refine ⟨?_, ?_, ?_, h4.put h5 hi x, World.there_setCells h5 _ _ _, ?_, ?_⟩
  all_goals simp only [ruR, World.setCells]
  · exact (h1.far (p := ⟨r, i * 2, none⟩) (by dsimp only; omega) _).far (p := ⟨r, i * 2 + 1, none⟩) (by dsimp only; omega) _
  · exact gb_set (gb_set h2 _ _) _ _
  · exact (h3.other (p := ⟨r, i * 2, none⟩) (fun e => htr e.symm) _).other (p := ⟨r, i * 2 + 1, none⟩) (fun e => htr e.symm) _
  · exact (h6.other (p := ⟨r, i * 2, none⟩) (by dsimp only; omega) _).other (p := ⟨r, i * 2 + 1, none⟩) (by dsimp only; omega) _
  · exact (h7.far (p := ⟨r, i * 2, none⟩) (by dsimp only; omega) _).far (p := ⟨r, i * 2 + 1, none⟩) (by dsimp only; omega) _
end
theorem tyQd : ∃ d, Tryd.prog.underlying 67 = some d ∧ d.isRow = true := ⟨_, Tryd.underlying67, rfl⟩
theorem szQd : (Tryd.prog.info? 67).map (·.size) = some 72 := by kernel_rfl
end Go.Proofs.YtmaljklijpoojaaDoor.Co
