/-
  The builder of all rules: what its loops hold.
-/
import Derived.Test.YthokeojpmbdbmaaDh
namespace Go.Proofs.Ythokeojpmbdbmaa.Dr
open Go.ChangeShapes Go.WideShapes Go.ChangeAt Go.RowKit Rg
set_option linter.unusedVariables false
set_option linter.unusedSimpArgs false
theorem kX_len (g : Gv) (s : St) : (kX (cx g s)).length ≤ 13 := by
  have h1 : g.C s.c % 4 < 4 := Nat.mod_lt _ (by omega)
  have h2 := kCs_len g s.p s.j (g.C s.c % 4)
  unfold kX cx
  rw [List.length_cons]
  omega
theorem kXs_len (g : Gv) (s : St) : ∀ q, ((mdn g s q).flatMap kX).length ≤ 13 * q
  | 0 => by simp [mdn]
  | q + 1 => by
    rw [mdn_succ, List.flatMap_append, List.length_append]
    have h1 := kXs_len g s q
    have h2 := kX_len g (it g s q)
    simp only [List.flatMap_cons, List.flatMap_nil, List.append_nil]
    omega
theorem mdn_len (g : Gv) (s : St) (q : Nat) : (mdn g s q).length = q := by simp [mdn]
theorem dR_succ (g : Gv) (s : St) (q : Nat) : dR (mdn g s (q + 1)) = (dR (mdn g s q) && dX (cx g (it g s q))) := by rw [mdn_succ]; simp [dR]
/-- a rule in memory; a key in memory -/
def RuE (g : Gv) (X : Nat → Prop) (w : World) (x : Nat × Nat) (i : Nat) : Prop := x.2 = i ∧ ∃ v, X x.1 ∧ w.rangeAt x.1 0 (rsc v) ∧ MdV Sb1 X w v (md g i)
def ruv (x : Nat × Nat) : List Value := ruc x.1 (x.2 : Nat)
def KeE (g : Gv) (X : Nat → Prop) (w : World) (v : Value) (i : Nat) : Prop := RowV X w 3 1 (fun n => [ki n]) (fun n m => n = m) v (kR (md g i))
def DeE (g : Gv) (X : Nat → Prop) (w : World) (b : Bool) (i : Nat) : Prop := b = dR (md g i)
def bov (b : Bool) : List Value := [.bool b]
theorem locRu (g : Gv) : LocE (RuE g) := fun X Y w w' x a ht h => by
  obtain ⟨h1, v, h2, h3, h4⟩ := h
  exact ⟨h1, v, (ht _ h2).1, rg_ag (ht _ h2).2 h3, MdV.to loc1 h4 ht⟩
theorem locKe (g : Gv) : LocE (KeE g) := fun X Y w w' x a ht h => RowV.to h ht (fun _ _ h => h)
theorem locDe (g : Gv) : LocE (DeE g) := fun X Y w w' x a ht h => h
/-- the three rows: their blocks are three -/
def Tri (v1 v2 : Value) (b : Nat) : Prop := some b = v1.ownBlock ∨ some b = v2.ownBlock
def RuR (g : Gv) (w0 : World) (r : Nat) (v1 v2 v3 : Value) (w : World) : Prop :=
  Bld 56 2 ruv (RuE g) w0.heap.size (Tri v2 v3) v1 (List.range r) w ∧ Bld 29 1 one (KeE g) w0.heap.size (Tri v1 v3) v2 (List.range r) w ∧ Bld 4 1 bov (DeE g) w0.heap.size (Tri v1 v2) v3 (List.range r) w ∧ Below w0.heap.size w0 w
theorem RuR.keep {g : Gv} {w0 w w' : World} {r : Nat} {v1 v2 v3 : Value} (h : RuR g w0 r v1 v2 v3 w) (hb : Below w.heap.size w w') : RuR g w0 r v1 v2 v3 w' :=
  ⟨h.1.keep (locRu g) hb (fun _ _ h => h), h.2.1.keep (locKe g) hb (fun _ _ h => h), h.2.2.1.keep (locDe g) hb (fun _ _ h => h), h.2.2.2.trans (hb.mono h.2.2.2.size)⟩
/-- behind q complex selectors of a rule -/
def MdR (g : Gv) (D n : Nat) (s : St) (kv0 : Value) (x1 : World) (q : Nat) (kv sv : Value) (wr : World) : Prop :=
  KRow D wr kv (n :: (mdn g s q).flatMap kX) ∧ Gro kv0 x1 kv wr ∧ Bld 48 1 one (fun X w v a => CxV Sb1 X w v a) x1.heap.size (fun c => some c = kv.ownBlock) sv (mdn g s q) wr
theorem infoSlI : (Try.prog.info? 29).map (fun i => (i.zero, i.size, i.bytes)) = some (some (.slice none 0 0), 1, 24) := by kernel_rfl
theorem infoBoo : (Try.prog.info? 4).map (fun i => (i.zero, i.size, i.bytes)) = some (some (.bool false), 1, 1) := by kernel_rfl
theorem fill_rul (p : Nat) (x : Int) (s : Nat) (hs : s = 2) : Instr.fill (fun i => some (i * s, s)) ((Array.range (1 * s)).map ((Value.agg #[.nilIface, .int .i32 0]).cells[· % (Value.agg #[.nilIface, .int .i32 0]).cells.size]!)) [(0, Value.agg #[ifR p, .int .i32 x])] = some #[ifR p, .int .i32 x] := by
  subst hs; kernel_rfl
theorem bs_rul (p : Nat) (x : Int) (w : World) : (Instr.buildSlice 24 1 #[(0, .agg #[ifR p, .int .i32 x])]).run Try.prog w = .ok (.slice (some ⟨w.heap.size, 0, none⟩) 1 1) (w.alloc (.cells #[ifR p, .int .i32 x] 56)) := by
  obtain ⟨i0, hi, hz0, hz1, hz2⟩ := info_parts infoRul
  exact run_buildSlice w 24 56 1 _ _ i0 _ Try.underlying24 hi hz0 (by rw [hz1]; decide) (by rw [hz1]; decide) (fill_rul p x i0.size hz1)
/-- the three rows, each with its own length -/
def RuT (g : Gv) (w0 : World) (r1 r2 r3 : Nat) (v1 v2 v3 : Value) (w : World) : Prop :=
  Bld 56 2 ruv (RuE g) w0.heap.size (Tri v2 v3) v1 (List.range r1) w ∧ Bld 29 1 one (KeE g) w0.heap.size (Tri v1 v3) v2 (List.range r2) w ∧ Bld 4 1 bov (DeE g) w0.heap.size (Tri v1 v2) v3 (List.range r3) w ∧ Below w0.heap.size w0 w
section
variable {g : Gv} {w0 w w' : World} {r1 r2 r3 : Nat} {v1 v2 v3 v' : Value}
theorem RuT.keep (h : RuT g w0 r1 r2 r3 v1 v2 v3 w) (hb : Below w.heap.size w w') : RuT g w0 r1 r2 r3 v1 v2 v3 w' :=
  ⟨h.1.keep (locRu g) hb (fun _ _ h => h), h.2.1.keep (locKe g) hb (fun _ _ h => h), h.2.2.1.keep (locDe g) hb (fun _ _ h => h), h.2.2.2.trans (hb.mono h.2.2.2.size)⟩
theorem old_av {v v1 : Value} (hv : v'.ownBlock = v.ownBlock ∨ ∀ b, v'.ownBlock = some b → w.heap.size ≤ b) : ∀ b, b < w.heap.size → some b = v'.ownBlock → some b = v.ownBlock := fun b hb e => by
  rcases hv with h | h
  · rw [← h]; exact e
  · have := h b e.symm; omega
theorem RuT.push1 (h : RuT g w0 r1 r2 r3 v1 v2 v3 w) {B : List (Nat × Nat)} {x : Nat × Nat} (h1 : B.length = (List.range r1).length) (h3 : ∀ i (a : i < B.length) (b : i < (List.range r1).length), RuE g (fun b => (w0.heap.size ≤ b ∧ b < w.heap.size) ∧ ¬ Tri v2 v3 b ∧ some b ≠ v1.ownBlock) w B[i] (List.range r1)[i]) (h4 : ∀ b, v1.ownBlock = some b → ¬ Tri v2 v3 b)
    (hx : RuE g (fun b => (w0.heap.size ≤ b ∧ b < w.heap.size) ∧ ¬ Tri v2 v3 b ∧ some b ≠ v1.ownBlock) w x r1) (ho : w'.ownsRow w0.heap.size 56 2 v' ((List.range r1).length + 1) (B.flatMap ruv ++ ruv x)) (hg : w.grownBy w' v1.ownBlock) (hv : v'.ownBlock = v1.ownBlock ∨ ∀ b, v'.ownBlock = some b → w.heap.size ≤ b) :
    RuT g w0 (r1 + 1) r2 r3 v' v2 v3 w' := by
  have hlo : ∀ b, v1.ownBlock = some b → w0.heap.size ≤ b := fun b hb => (h.1.lt hb).1
  refine ⟨?_, h.2.1.other (locKe g) (fun b _ a c => hg.block b a (fun e => c (.inl e))) hg.size (fun b hb t => t.imp (old_av (v1 := v1) hv b hb) id), h.2.2.1.other (locDe g) (fun b _ a c => hg.block b a (fun e => c (.inl e))) hg.size (fun b hb t => t.imp (old_av (v1 := v1) hv b hb) id), h.2.2.2.grown hg h.2.2.2.size hlo⟩
  rw [List.range_succ]
  exact Bld.push (locRu g) h1 h3 h4 hx ho hg (hv.imp id (fun e b hb => ⟨e b hb, fun t => by
    have := e b hb
    rcases t with t | t
    · have := (h.2.1.lt t.symm).2; omega
    · have := (h.2.2.1.lt t.symm).2; omega⟩))
theorem RuT.push2 (h : RuT g w0 r1 r2 r3 v1 v2 v3 w) {B : List Value} {x : Value} (h1 : B.length = (List.range r2).length) (h3 : ∀ i (a : i < B.length) (b : i < (List.range r2).length), KeE g (fun b => (w0.heap.size ≤ b ∧ b < w.heap.size) ∧ ¬ Tri v1 v3 b ∧ some b ≠ v2.ownBlock) w B[i] (List.range r2)[i]) (h4 : ∀ b, v2.ownBlock = some b → ¬ Tri v1 v3 b)
    (hx : KeE g (fun b => (w0.heap.size ≤ b ∧ b < w.heap.size) ∧ ¬ Tri v1 v3 b ∧ some b ≠ v2.ownBlock) w x r2) (ho : w'.ownsRow w0.heap.size 29 1 v' ((List.range r2).length + 1) (B.flatMap one ++ one x)) (hg : w.grownBy w' v2.ownBlock) (hv : v'.ownBlock = v2.ownBlock ∨ ∀ b, v'.ownBlock = some b → w.heap.size ≤ b) :
    RuT g w0 r1 (r2 + 1) r3 v1 v' v3 w' := by
  have hlo : ∀ b, v2.ownBlock = some b → w0.heap.size ≤ b := fun b hb => (h.2.1.lt hb).1
  refine ⟨h.1.other (locRu g) (fun b _ a c => hg.block b a (fun e => c (.inl e))) hg.size (fun b hb t => t.imp (old_av (v1 := v1) hv b hb) id), ?_, h.2.2.1.other (locDe g) (fun b _ a c => hg.block b a (fun e => c (.inr e))) hg.size (fun b hb t => t.imp id (old_av (v1 := v1) hv b hb)), h.2.2.2.grown hg h.2.2.2.size hlo⟩
  rw [List.range_succ]
  exact Bld.push (locKe g) h1 h3 h4 hx ho hg (hv.imp id (fun e b hb => ⟨e b hb, fun t => by
    have := e b hb
    rcases t with t | t
    · have := (h.1.lt t.symm).2; omega
    · have := (h.2.2.1.lt t.symm).2; omega⟩))
theorem RuT.push3 (h : RuT g w0 r1 r2 r3 v1 v2 v3 w) {B : List Bool} {x : Bool} (h1 : B.length = (List.range r3).length) (h3 : ∀ i (a : i < B.length) (b : i < (List.range r3).length), DeE g (fun b => (w0.heap.size ≤ b ∧ b < w.heap.size) ∧ ¬ Tri v1 v2 b ∧ some b ≠ v3.ownBlock) w B[i] (List.range r3)[i]) (h4 : ∀ b, v3.ownBlock = some b → ¬ Tri v1 v2 b)
    (hx : x = dR (md g r3)) (ho : w'.ownsRow w0.heap.size 4 1 v' ((List.range r3).length + 1) (B.flatMap bov ++ bov x)) (hg : w.grownBy w' v3.ownBlock) (hv : v'.ownBlock = v3.ownBlock ∨ ∀ b, v'.ownBlock = some b → w.heap.size ≤ b) :
    RuT g w0 r1 r2 (r3 + 1) v1 v2 v' w' := by
  have hlo : ∀ b, v3.ownBlock = some b → w0.heap.size ≤ b := fun b hb => (h.2.2.1.lt hb).1
  refine ⟨h.1.other (locRu g) (fun b _ a c => hg.block b a (fun e => c (.inr e))) hg.size (fun b hb t => t.imp id (old_av (v1 := v1) hv b hb)), h.2.1.other (locKe g) (fun b _ a c => hg.block b a (fun e => c (.inr e))) hg.size (fun b hb t => t.imp id (old_av (v1 := v1) hv b hb)), ?_, h.2.2.2.grown hg h.2.2.2.size hlo⟩
  rw [List.range_succ]
  exact Bld.push (locDe g) h1 h3 h4 hx ho hg (hv.imp id (fun e b hb => ⟨e b hb, fun t => by
    have := e b hb
    rcases t with t | t
    · have := (h.1.lt t.symm).2; omega
    · have := (h.2.1.lt t.symm).2; omega⟩))
end
theorem Tri.swap {v1 v2 : Value} {b : Nat} (h : Tri v1 v2 b) : Tri v2 v1 b := h.symm
end Go.Proofs.Ythokeojpmbdbmaa.Dr
