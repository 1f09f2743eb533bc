/-
  symbolForName.
-/
import Derived.Test.YtkphnplmjpjbjaaDoorPb
import Derived.Test.YtkphnplmjpjbjaaDoorPn
import Derived.Deep.DeepCutAuto
import Derived.Deep.CutBlock
import Derived.Deep.RegionHeld3
namespace Go.Proofs.YtkphnplmjpjbjaaDoor.Sy
open Go.ChangeShapes Go.WideShapes Go.ChangeAt Go.RowKit Rg
open Go.ChangeMaps (setBlock heap_setBlock_same heap_setBlock_other)
set_option linter.unusedVariables false
theorem infoSy : (Tryd.prog.info? 99).map (fun i => (i.zero, i.size, i.bytes)) = some (some (.agg #[.pointer none, .string ⟨#[]⟩, .int .u32 0, .int .u32 0, .int .u32 0, .int .u32 0, .int .u32 0, .int .u16 0, .int .u8 0, .int .u8 0]), 10, 48) := by kernel_rfl
theorem infoLr : (Tryd.prog.info? 104).map (fun i => (i.zero, i.size, i.bytes)) = some (some (.agg #[.int .i32 0, .int .u32 0, .int .u32 0]), 3, 12) := by kernel_rfl
/-- InvalidRef -/
def IR (w : World) : Prop := w.rangeAt 1 0 [.int .u32 4294967295, .int .u32 4294967295]
def SfP (X : Nat → Prop) (s : ByteArray) (p : Nat) (ml : Bool) (S : List (ByteArray × Int)) (w : World) (e : Ending) (w' : World) : Prop :=
  e = .returned (.agg #[.int .i32 0, .int .u32 0, .int .u32 (plS s S : Int)]) ∧ ∃ X' : Nat → Prop, PS w' X' p ml (addS s S) ∧ Off X w w' ∧ ∀ i, X' i → X i ∨ (w.heap.size ≤ i ∧ i < w'.heap.size)
theorem bk_range {w : World} {g : Nat} {t : TypeId} {cs : Array Value} (h : Bk w g t cs) : w.rangeAt g 0 cs.toList := fun j v hv => by
  rw [Nat.zero_add]; exact h.cell j (by simpa using hv)
theorem set3_range {w : World} {r : Nat} {t : TypeId} {x y z : Value} (h : Bk w r t #[x, y, z]) (a b c : Value) : (((w.setCell ⟨r, 0, none⟩ a).setCell ⟨r, 1, none⟩ b).setCell ⟨r, 2, none⟩ c).rangeAt r 0 [a, b, c] :=
  bk_range (((h.set_ 0 a).set_ 1 b).set_ 2 c)
theorem set3_heap (w : World) (r : Nat) (a b c : Value) {i : Nat} (h : i ≠ r) : (((w.setCell ⟨r, 0, none⟩ a).setCell ⟨r, 1, none⟩ b).setCell ⟨r, 2, none⟩ c).heap[i]? = w.heap[i]? := by
  rw [heap_setCell_ne _ _ _ _ _ h, heap_setCell_ne _ _ _ _ _ h, heap_setCell_ne _ _ _ _ _ h]
theorem set3_off (w : World) (r : Nat) (a b c : Value) : Off (fun i => i = r) w (((w.setCell ⟨r, 0, none⟩ a).setCell ⟨r, 1, none⟩ b).setCell ⟨r, 2, none⟩ c) :=
  ⟨rfl, rfl, rfl, by simp [World.setCell], fun i _ hn => set3_heap w r a b c hn⟩
theorem set3_size (w : World) (r : Nat) (a b c : Value) : (((w.setCell ⟨r, 0, none⟩ a).setCell ⟨r, 1, none⟩ b).setCell ⟨r, 2, none⟩ c).heap.size = w.heap.size := by simp [World.setCell]
/-- what the append of a symbol reads -/
abbrev SL (p : Nat) (v : Value) (w : World) : Prop := w.cell? ⟨p, 21, none⟩ = some v ∧ w.cell? ⟨1, 0, none⟩ = some (.int .u32 4294967295) ∧ w.cell? ⟨1, 1, none⟩ = some (.int .u32 4294967295) ∧ w.frozen? ⟨p, 21, none⟩ = false
theorem sl_grown {w w' : World} {p : Nat} {ml : Bool} {v v2 : Value} {m1 m2 : Nat} {S : List (ByteArray × Int)} {M : List ByteArray} {n : Nat} (h : PB w p ml v v2 m1 m2 S M n) (hs : SL p v w) (hg : w.grownBy w' v.ownBlock) : SL p v w' := by
  have hp := h.par.grown hg (h.par.ne_row h.syms (by decide))
  have hk : ∀ o u, w.cell? ⟨1, o, none⟩ = some u → w'.cell? ⟨1, o, none⟩ = some u := fun o u hu => by
    have hlt := World.block_lt_of_cell? w _ hu
    have hb := hg.block 1 hlt (fun e => by have := (h.syms.lt _ e.symm).1; unfold IB at this; omega)
    unfold World.cell? at hu ⊢
    simpa [hb] using hu
  exact ⟨hp.cell 21 rfl, hk 0 _ hs.2.1, hk 1 _ hs.2.2.1, hp.frozen 21⟩
/-- the work between the entry and the return: the parser, the entry's variable, the result's variable -/
structure WS (w0 : World) (X : Nat → Prop) (p : Nat) (ml : Bool) (v v2 : Value) (m1 m2 : Nat) (S : List (ByteArray × Int)) (M : List ByteArray) (n : Nat) (k : Int) (w : World) : Prop where
  pb : PB w p ml v v2 m1 m2 S M n
  eb : Bk w (w0.heap.size + 2) 104 #[.int .i32 0, .int .u32 0, .int .u32 k]
  rb : Bk w (w0.heap.size + 1) 104 #[.int .i32 0, .int .u32 0, .int .u32 0]
  off : Off X w0 w
  own : ∀ i, Own p v v2 m1 m2 i → (X i ∧ i < w0.heap.size) ∨ w0.heap.size + 3 ≤ i
section
variable {w0 w w' : World} {X : Nat → Prop} {p : Nat} {ml : Bool} {v v2 v' : Value} {m1 m2 : Nat} {S : List (ByteArray × Int)} {M : List ByteArray} {n : Nat} {k : Int}
theorem WS.same (h : WS w0 X p ml v v2 m1 m2 S M n k w) (hs : ∀ i : Nat, w'.heap[i]? = w.heap[i]?) (ho : w'.os = w.os) (ht : w'.tape = w.tape) (hu : w'.output = w.output) (hz : w'.heap.size = w.heap.size) : WS w0 X p ml v v2 m1 m2 S M n k w' :=
  ⟨h.pb.same fun i _ => hs i, (hs (w0.heap.size + 2)).trans h.eb, (hs (w0.heap.size + 1)).trans h.rb, ⟨ho.trans h.off.1, ht.trans h.off.2.1, hu.trans h.off.2.2.1, by rw [hz]; exact h.off.2.2.2.1, fun i hi hn => (hs i).trans (h.off.2.2.2.2 i hi hn)⟩, h.own⟩
theorem WS.keep (h : WS w0 X p ml v v2 m1 m2 S M n k w) (hb : Below w.heap.size w w') : WS w0 X p ml v v2 m1 m2 S M n k w' :=
  ⟨h.pb.keep hb, h.eb.keep hb, h.rb.keep hb, h.off.trans (Off.of_below hb) (X' := fun _ => False) fun _ hf => hf.elim, h.own⟩
theorem WS.app1 {x : ByteArray × Int} (h : WS w0 X p ml v v2 m1 m2 S M n k w) (hg : w.grownBy w' v.ownBlock) (ho : w'.ownsRow IB 99 10 v' (S.length + 1) (rowg (symF ml S) S.length ++ symR (kdv ml) x))
    (hn : ∀ g, v'.ownBlock = some g → v.ownBlock = some g ∨ w0.heap.size + 3 ≤ g) : WS w0 X p ml v' v2 m1 m2 (S ++ [x]) M n k (w'.setCell ⟨p, 21, none⟩ v') := by
  refine ⟨h.pb.app1 hg ho, ?_, ?_, ?_, ?_⟩
  · exact (h.eb.grown hg (h.eb.ne_row h.pb.syms (by decide))).far (p := ⟨p, 21, none⟩) (fun e => by have h1 := h.eb; have h2 := h.pb.par; rw [e] at h1; unfold Bk at h1 h2; rw [h2] at h1; simp at h1) _
  · exact (h.rb.grown hg (h.rb.ne_row h.pb.syms (by decide))).far (p := ⟨p, 21, none⟩) (fun e => by have h1 := h.rb; have h2 := h.pb.par; rw [e] at h1; unfold Bk at h1 h2; rw [h2] at h1; simp at h1) _
  · refine (h.off.trans (Off.of_grown hg (X := fun g => v.ownBlock = some g) fun g e => e) ?_).trans (Off.of_setCell w' p 21 v' (X := fun i => i = p) rfl) ?_
    · intro i hi
      rcases h.own i (.inr (.inr (.inr (.inl hi)))) with h1 | h1
      · exact .inl h1.1
      · exact .inr (by omega)
    · intro i hi
      rw [hi]
      rcases h.own p (.inl rfl) with h1 | h1
      · exact .inl h1.1
      · exact .inr (by omega)
  · rintro i (rfl | rfl | rfl | hi | hi)
    · exact h.own _ (.inl rfl)
    · exact h.own _ (.inr (.inl rfl))
    · exact h.own _ (.inr (.inr (.inl rfl)))
    · rcases hn i hi with h1 | h1
      · exact h.own _ (.inr (.inr (.inr (.inl h1))))
      · exact .inr h1
    · exact h.own _ (.inr (.inr (.inr (.inr hi))))
theorem WS.app2 (h : WS w0 X p ml v v2 m1 m2 S M n k w) (hg : w.grownBy w' v2.ownBlock) (ho : w'.ownsRow IB 104 3 v' (n + 1) (rowg lrF n ++ lrF n))
    (hn : ∀ g, v'.ownBlock = some g → v2.ownBlock = some g ∨ w0.heap.size + 3 ≤ g) : WS w0 X p ml v v' m1 m2 S M (n + 1) k (w'.setCell ⟨p, 23, none⟩ v') := by
  have he : some (w0.heap.size + 2) ≠ v2.ownBlock := fun e => by
    rcases h.own _ (.inr (.inr (.inr (.inr e.symm)))) with h1 | h1 <;> omega
  have hr : some (w0.heap.size + 1) ≠ v2.ownBlock := fun e => by
    rcases h.own _ (.inr (.inr (.inr (.inr e.symm)))) with h1 | h1 <;> omega
  refine ⟨h.pb.app2 hg ho, ?_, ?_, ?_, ?_⟩
  · exact (h.eb.grown hg he).far (p := ⟨p, 23, none⟩) (fun e => by have h1 := h.eb; have h2 := h.pb.par; rw [e] at h1; unfold Bk at h1 h2; rw [h2] at h1; simp at h1) _
  · exact (h.rb.grown hg hr).far (p := ⟨p, 23, none⟩) (fun e => by have h1 := h.rb; have h2 := h.pb.par; rw [e] at h1; unfold Bk at h1 h2; rw [h2] at h1; simp at h1) _
  · refine (h.off.trans (Off.of_grown hg (X := fun g => v2.ownBlock = some g) fun g e => e) ?_).trans (Off.of_setCell w' p 23 v' (X := fun i => i = p) rfl) ?_
    · intro i hi
      rcases h.own i (.inr (.inr (.inr (.inr hi)))) with h1 | h1
      · exact .inl h1.1
      · exact .inr (by omega)
    · intro i hi
      rw [hi]
      rcases h.own p (.inl rfl) with h1 | h1
      · exact .inl h1.1
      · exact .inr (by omega)
  · rintro i (rfl | rfl | rfl | hi | hi)
    · exact h.own _ (.inl rfl)
    · exact h.own _ (.inr (.inl rfl))
    · exact h.own _ (.inr (.inr (.inl rfl)))
    · exact h.own _ (.inr (.inr (.inr (.inl hi))))
    · rcases hn i hi with h1 | h1
      · exact h.own _ (.inr (.inr (.inr (.inr h1))))
      · exact .inr h1
theorem bk_ne_map {w : World} {g m : Nat} {t : TypeId} {cs : Array Value} {es : List ByteArray} (h : Bk w g t cs) (hm : w.heap[m]? = some (mpO es)) : g ≠ m := fun e => by
  subst e; unfold Bk at h; rw [h] at hm; simp [mpO] at hm
theorem WS.put (h : WS w0 X p ml v v2 m1 m2 S M n k w) (s : ByteArray) : WS w0 X p ml v v2 m1 m2 S (M ++ [s]) n k (setBlock w (mOf ml m1 m2) (mpO (M ++ [s]))) := by
  have hm : Own p v v2 m1 m2 (mOf ml m1 m2) := by cases ml; exact .inr (.inr (.inl rfl)); exact .inr (.inl rfl)
  refine ⟨h.pb.put s, ?_, ?_, ?_, h.own⟩
  · exact (heap_setBlock_other h.pb.mp _ (bk_ne_map h.eb h.pb.mp)).trans h.eb
  · exact (heap_setBlock_other h.pb.mp _ (bk_ne_map h.rb h.pb.mp)).trans h.rb
  · refine h.off.trans (Off.of_setBlock h.pb.mp _ (X := fun i => i = mOf ml m1 m2) rfl) fun i hi => ?_
    rw [hi]
    rcases h.own _ hm with h1 | h1
    · exact .inl h1.1
    · exact .inr (by omega)
theorem WS.inc {g cap i : Nat} {u : Int} (h : WS w0 X p ml (.slice (some ⟨g, 0, none⟩) S.length cap) v2 m1 m2 S M n k w) (hi : i < S.length) :
    WS w0 X p ml (.slice (some ⟨g, 0, none⟩) S.length cap) v2 m1 m2 (S.set i ((S.getD i (⟨#[]⟩, 0)).1, u)) M n k (w.setCell ⟨g, i * 10 + 4, none⟩ (.int .u32 u)) := by
  refine ⟨h.pb.inc hi, ?_, ?_, ?_, h.own⟩
  · exact h.eb.far (p := ⟨g, i * 10 + 4, none⟩) (fun e => h.eb.ne_row h.pb.syms (by decide) (by rw [e]; rfl)) _
  · exact h.rb.far (p := ⟨g, i * 10 + 4, none⟩) (fun e => h.rb.ne_row h.pb.syms (by decide) (by rw [e]; rfl)) _
  · refine h.off.trans (Off.of_setCell w g _ _ (X := fun i => i = g) rfl) fun i hi => ?_
    rw [hi]
    rcases h.own g (.inr (.inr (.inr (.inl rfl)))) with h1 | h1
    · exact .inl h1.1
    · exact .inr (by omega)
end
/-- what the append of a local symbol reads -/
abbrev SL2 (p : Nat) (v : Value) (e n : Nat) (w : World) : Prop := w.cell? ⟨p, 23, none⟩ = some v ∧ w.cell? ⟨e, 0, none⟩ = some (.int .i32 0) ∧ w.cell? ⟨e, 1, none⟩ = some (.int .u32 0) ∧ w.cell? ⟨e, 2, none⟩ = some (.int .u32 (n : Int)) ∧ w.frozen? ⟨p, 23, none⟩ = false
theorem sl2_grown {w0 w w' : World} {X : Nat → Prop} {p N : Nat} {ml : Bool} {v v2 : Value} {m1 m2 : Nat} {S : List (ByteArray × Int)} {M : List ByteArray} {n : Nat} (h : WS w0 X p ml v v2 m1 m2 S M n N w) (hs : SL2 p v2 (w0.heap.size + 2) N w) (hg : w.grownBy w' v2.ownBlock) : SL2 p v2 (w0.heap.size + 2) N w' := by
  have hp := h.pb.par.grown hg (h.pb.par.ne_row h.pb.locs (by decide))
  have he := h.eb.grown hg (fun e => by rcases h.own _ (.inr (.inr (.inr (.inr e.symm)))) with h1 | h1 <;> omega)
  exact ⟨hp.cell 23 rfl, he.cell 0 rfl, he.cell 1 rfl, he.cell 2 rfl, hp.frozen 23⟩
theorem undLr : ∃ d, Tryd.prog.underlying 104 = some d ∧ d.isRow = true := ⟨_, Tryd.underlying104, by kernel_rfl⟩
theorem szLr : (Tryd.prog.info? 104).map (·.size) = some 3 := by kernel_rfl
set_option maxRecDepth 100000 in
set_option maxHeartbeats 4000000 in
theorem sf_any (X : Nat → Prop) (s : ByteArray) (p : Nat) (ml : Bool) (S : List (ByteArray × Int)) (w : World) (h : PS w X p ml S) (hr : IR w) (hn : (S.length : Int) ≤ 2000000) (hu : ∀ x ∈ S, 0 ≤ x.2 ∧ x.2 ≤ 2000000) :
    Calls Tryd.prog 20 #[.pointer (some ⟨p, 0, none⟩), .agg #[.int .i32 0], .string s] w (SfP X s p ml S w) := by
  obtain ⟨v, v2, m1, m2, hp, hX⟩ := h
  have HP := Lib.hid hp
  have HX := Lib.hid hX
  have HR := Lib.hid hr
  have HU := Lib.hid hu
  clear hp hX hr hu
  go_enter Tryd.func20, Tryd.ntmps20
  go_upto_region 3 with fail
  obtain ⟨w1, hw1⟩ : ∃ w1, w1 = (w.alloc (.cells #[.int .i32 0] 33)).alloc (.cells #[.int .i32 0, .int .u32 0, .int .u32 0] 104) := ⟨_, rfl⟩
  have hb1 : Below w.heap.size w w1 := by rw [hw1]; exact ((Below.refl _ _).alloc (Nat.le_refl _) _).alloc (by simp) _
  have hs1 : w1.heap.size = w.heap.size + 2 := by rw [hw1]; simp
  have hl1 : Bk w1 w.heap.size 33 #[.int .i32 0] := by
    rw [hw1]
    exact Bk.keep (w := w.alloc (.cells #[.int .i32 0] 33)) (heap_alloc_new w _) ((Below.refl _ _).alloc (Nat.le_refl _) _)
  have hr1 : Bk w1 (w.heap.size + 1) 104 #[.int .i32 0, .int .u32 0, .int .u32 0] := by
    rw [hw1]
    have := heap_alloc_new (w.alloc (.cells #[.int .i32 0] 33)) (.cells #[.int .i32 0, .int .u32 0, .int .u32 0] 104)
    unfold Bk
    simpa using this
  rw [← hw1]
  have HP1 := Lib.hid (HP.out.keep hb1)
  have HB1 := Lib.hid hb1
  have HL1 := Lib.hid hl1
  have HR1 := Lib.hid hr1
  have c54 := HP1.out.c54
  have c24 := HP1.out.c24
  have c25 := HP1.out.c25
  clear hb1 hl1 hr1 hw1
  go_upto_if 14 with fail
  go_cut [7, 8] (fun s7 s8 wc => s7 = .int .u8 (kdv ml) ∧ s8 = .map (some (mOf ml m1 m2)) ∧ wc = w1)
  case first =>
    cases ml
    · go_wp2_with fail
      go_meet
      exact ⟨rfl, rfl, rfl⟩
    · go_wp2_with fail
      go_meet
      exact ⟨rfl, rfl, rfl⟩
  case rest =>
    obtain ⟨rfl, rfl, rfl⟩ := hcut
    clear c54 c24 c25
    have hlk := look_run wc (mOf ml m1 m2) (S.map (·.1)) s HP1.out.mp
    cases hix : ixF s (S.map (·.1)) with
    | some j =>
      have hj := ixF_lt hix
      have HJ := Lib.hid hj.2
      have hjl : j < S.length := by simpa using hj.1
      have HIX := Lib.hid hix
      have hpl : ixV s (S.map (·.1)) = j := by rw [ixV, hix]; rfl
      rw [hix, hpl, lrv] at hlk
      clear hj hix hpl
      go_wp2_with fail
      obtain ⟨w2, hw2⟩ : ∃ w2, w2 = wc.alloc (.cells #[.int .i32 0, .int .u32 0, .int .u32 (j : Int)] 104) := ⟨_, rfl⟩
      have hb2 : Below wc.heap.size wc w2 := by rw [hw2]; exact (Below.refl _ _).alloc (Nat.le_refl _) _
      have he2 : Bk w2 (w.heap.size + 2) 104 #[.int .i32 0, .int .u32 0, .int .u32 (j : Int)] := by rw [hw2, ← hs1]; exact heap_alloc_new wc _
      have hr2 := HR1.out.keep hb2
      have hp2 := HP1.out.keep hb2
      have HB2 := Lib.hid (HB1.out.trans (hb2.mono (by omega)))
      rw [← hw2]
      clear hw2 hb2
      obtain ⟨g, cap, rfl, cU, -, -, fz, hg⟩ := hp2.use hjl
      have HP2 := Lib.hid hp2
      have HE2 := Lib.hid he2
      have HR2 := Lib.hid hr2
      have c21 := hp2.c21
      have e2 : w2.cell? ⟨w.heap.size + 2, 2, none⟩ = some (.int .u32 (j : Int)) := he2.cell 2 rfl
      have hub := HU.out _ (List.mem_of_getElem? (show S[j]? = some (S.getD j (⟨#[]⟩, 0)) by rw [List.getD_eq_getElem?_getD, List.getElem?_eq_getElem hjl]; rfl))
      obtain ⟨U, hU⟩ : ∃ U, U = (S.getD j (⟨#[]⟩, 0)).2 := ⟨_, rfl⟩
      rw [← hU] at cU hub
      have HUU := Lib.hid hU
      clear hU
      obtain ⟨hu0, hu1⟩ := hub
      have q0 : (0 : Int) ≤ j := by omega
      have q1 : (j : Int) < S.length := by omega
      have f4 := fz (j * 10 + 4)
      clear hp2 he2 hr2 fz hlk
      have hmod : (U + 1) % 4294967296 = U + 1 := by omega
      go_region
      obtain ⟨w3, hw3⟩ : ∃ w3, w3 = (w2.setCell ⟨g, j * 10 + 4, none⟩ (.int .u32 (U + 1))).drew := ⟨_, rfl⟩
      rw [← hw3]
      have hp3 : PB w3 p ml (.slice (some ⟨g, 0, none⟩) S.length cap) v2 m1 m2 (S.set j ((S.getD j (⟨#[]⟩, 0)).1, U + 1)) (S.map (·.1)) (if ml then S.length else 0) := by
        rw [hw3]; exact (HP2.out.inc hjl (u := U + 1)).same fun _ _ => rfl
      have he3 : Bk w3 (w.heap.size + 2) 104 #[.int .i32 0, .int .u32 0, .int .u32 (j : Int)] := by
        rw [hw3]; exact HE2.out.far (p := ⟨g, j * 10 + 4, none⟩) (fun e => HE2.out.ne_row HP2.out.syms (by decide) (by rw [e]; rfl)) _
      have hr3 : Bk w3 (w.heap.size + 1) 104 #[.int .i32 0, .int .u32 0, .int .u32 0] := by
        rw [hw3]; exact HR2.out.far (p := ⟨g, j * 10 + 4, none⟩) (fun e => HR2.out.ne_row HP2.out.syms (by decide) (by rw [e]; rfl)) _
      have ho3 : Off X w w3 := by
        rw [hw3]
        exact (Off.of_below HB2.out).trans (Off.of_setCell w2 g (j * 10 + 4) (.int .u32 (U + 1)) (X := fun i => i = g) rfl) (fun i hi => .inl (by rw [hi]; exact HX.out g (.inr (.inr (.inr (.inl rfl))))))
      have HP3 := Lib.hid hp3
      have HO3 := Lib.hid ho3
      have HR3 := Lib.hid hr3
      have a0 : w3.cell? ⟨w.heap.size + 2, 0, none⟩ = some (.int .i32 0) := he3.cell 0 rfl
      have a1 : w3.cell? ⟨w.heap.size + 2, 1, none⟩ = some (.int .u32 0) := he3.cell 1 rfl
      have a2 : w3.cell? ⟨w.heap.size + 2, 2, none⟩ = some (.int .u32 (j : Int)) := he3.cell 2 rfl
      have b0 : w3.cell? ⟨w.heap.size + 1, 0, none⟩ = some (.int .i32 0) := hr3.cell 0 rfl
      have b1 : w3.cell? ⟨w.heap.size + 1, 1, none⟩ = some (.int .u32 0) := hr3.cell 1 rfl
      have b2 : w3.cell? ⟨w.heap.size + 1, 2, none⟩ = some (.int .u32 0) := hr3.cell 2 rfl
      have f0 := hr3.frozen 0
      have f1 := hr3.frozen 1
      have f2 := hr3.frozen 2
      clear hw3 hp3 he3 ho3 hr3 c21 e2 cU f4 hmod hu0 hu1 q0 q1 HP1 HP2 HB1 HB2 HL1 HR1 HR2 HE2
      go_wp2_with fail
      obtain ⟨d, hd, hd2⟩ := undLr
      have hown : ∀ i, Own p (.slice (some ⟨g, 0, none⟩) S.length cap) v2 m1 m2 i → i ≠ w.heap.size + 1 := fun i hi => by have := HP.out.own_lt i hi; omega
      refine bodyPost_ret (v := .agg #[.int .i32 0, .int .u32 0, .int .u32 (j : Int)]) (results_cell_mid (by rfl) _ _ (w.heap.size + 1) 0 [.int .i32 0, .int .u32 0, .int .u32 (j : Int)] d (by rfl) (set3_range HR3.out _ _ _) hd hd2 szLr) rfl ⟨by rw [plS, HIX.out]; rfl, X, ⟨_, _, _, _, ?_, HX.out⟩, ?_, fun i hi => .inl hi⟩
      · have e1 : addS s S = S.set j ((S.getD j (⟨#[]⟩, 0)).1, U + 1) := by rw [addS, HIX.out, HUU.out]
        have e2 : (addS s S).map (·.1) = S.map (·.1) := by
          rw [e1, List.map_set]
          apply List.ext_getElem?
          intro i
          by_cases hij : j = i
          · subst hij
            rw [List.getElem?_set_self (by simpa using hjl), List.getElem?_map, List.getD_eq_getElem?_getD, List.getElem?_eq_getElem hjl]; rfl
          · rw [List.getElem?_set_ne hij]
        have e3 : (addS s S).length = S.length := by rw [e1, List.length_set]
        rw [e2, e3, e1]
        have hl : (S.set j ((S.getD j (⟨#[]⟩, 0)).1, U + 1)).length = S.length := by simp
        exact HP3.out.same fun i hi => set3_heap _ _ _ _ _ (hown i hi)
      · exact HO3.out.trans (set3_off _ _ _ _ _) fun i hi => .inr (by rw [hi]; omega)
    | none =>
      have HIX := Lib.hid hix
      have hpl : ixV s (S.map (·.1)) = 0 := by rw [ixV, hix]; rfl
      rw [hix, hpl, lrv] at hlk
      clear hix hpl
      go_wp2_with fail
      obtain ⟨va, vc, rfl⟩ : ∃ a c, v = .slice a S.length c := by
        rcases HP.out.syms.2 with ⟨e, e0⟩ | ⟨g, cap, cur, e, _⟩
        · exact ⟨none, 0, by rw [e, e0]⟩
        · exact ⟨_, _, e⟩
      obtain ⟨w2, hw2⟩ : ∃ w2, w2 = wc.alloc (.cells #[.int .i32 0, .int .u32 0, .int .u32 0] 104) := ⟨_, rfl⟩
      have hb2 : Below wc.heap.size wc w2 := by rw [hw2]; exact (Below.refl _ _).alloc (Nat.le_refl _) _
      have he2 : Bk w2 (w.heap.size + 2) 104 #[.int .i32 0, .int .u32 0, .int .u32 0] := by rw [hw2, ← hs1]; exact heap_alloc_new wc _
      have hs2 : w2.heap.size = w.heap.size + 3 := by rw [hw2]; simp; omega
      have hr2 := HR1.out.keep hb2
      have hl2 := HL1.out.keep hb2
      have hp2 := HP1.out.keep hb2
      have hbb := HB1.out.trans (hb2.mono (by omega))
      have HB2 := Lib.hid hbb
      rw [← hw2]
      clear hw2 hb2 hbb
      have HP2 := Lib.hid hp2
      have HE2 := Lib.hid he2
      have HR2 := Lib.hid hr2
      have l0 : w2.cell? ⟨w.heap.size, 0, none⟩ = some (.int .i32 0) := hl2.cell 0 rfl
      have c15 := hp2.c15
      have c21 := hp2.c21
      have e0 : w2.cell? ⟨w.heap.size + 2, 0, none⟩ = some (.int .i32 0) := he2.cell 0 rfl
      have e1 : w2.cell? ⟨w.heap.size + 2, 1, none⟩ = some (.int .u32 0) := he2.cell 1 rfl
      have e2 : w2.cell? ⟨w.heap.size + 2, 2, none⟩ = some (.int .u32 0) := he2.cell 2 rfl
      have f0 := he2.frozen 0
      have f1 := he2.frozen 1
      have f2 := he2.frozen 2
      have hmod : (S.length : Int) % 4294967296 = S.length := by omega
      clear hp2 he2 hr2 hl2 hlk
      go_region
      clear l0 c15 c21 e0 e1 e2 f0 f1 f2 hmod HL1 HR1
      obtain ⟨w3, hw3⟩ : ∃ w3, w3 = (((w2.setCell ⟨w.heap.size + 2, 0, none⟩ (.int .i32 0)).setCell ⟨w.heap.size + 2, 1, none⟩ (.int .u32 0)).setCell ⟨w.heap.size + 2, 2, none⟩ (.int .u32 (S.length : Int))).drew := ⟨_, rfl⟩
      rw [← hw3]
      have hp3 : PB w3 p ml (.slice va S.length vc) v2 m1 m2 S (S.map (·.1)) (if ml then S.length else 0) := by
        rw [hw3]; exact HP2.out.same fun i hi => set3_heap _ _ _ _ _ (by have := HP.out.own_lt i hi; omega)
      have he3 : Bk w3 (w.heap.size + 2) 104 #[.int .i32 0, .int .u32 0, .int .u32 (S.length : Int)] := by
        rw [hw3]; exact ((HE2.out.set_ 0 (.int .i32 0)).set_ 1 (.int .u32 0)).set_ 2 (.int .u32 (S.length : Int))
      have hr3 : Bk w3 (w.heap.size + 1) 104 #[.int .i32 0, .int .u32 0, .int .u32 0] := by
        rw [hw3]; exact (set3_heap _ _ _ _ _ (by omega)).trans HR2.out
      have hs3 : w3.heap.size = w.heap.size + 3 := by rw [hw3, ← hs2]; exact set3_size _ _ _ _ _
      have hb3 : Below w.heap.size w w3 := by
        rw [hw3]; exact ((((HB2.out.setCell (by show w.heap.size ≤ w.heap.size + 2; omega) _).setCell (by show w.heap.size ≤ w.heap.size + 2; omega) _).setCell (by show w.heap.size ≤ w.heap.size + 2; omega) _)).drew
      have HSZ3 := Lib.hid hs3
      have HP3 := Lib.hid hp3
      have HE3 := Lib.hid he3
      have HR3 := Lib.hid hr3
      have HB3 := Lib.hid hb3
      have HI3 := Lib.hid (rg_below hb3 (rg_lt HR.out (by simp)) HR.out)
      clear hw3 hb3 hr3 he3 HP2 HE2 HR2 HB2 hs2 hs3
      go_upto_region 11 with fail
      have HS0 := Lib.hid (show SL p (.slice va S.length vc) w3.drew from ⟨hp3.c21, HI3.out 0 _ rfl, HI3.out 1 _ rfl, hp3.par.frozen 21⟩)
      have HS4 : Hid (∀ o, SL p (.slice va S.length vc) (w3.alloc o).drew) := Lib.hid fun o => by
        have hb : Below w3.heap.size w3 (w3.alloc o) := (Below.refl _ _).alloc (Nat.le_refl _) _
        exact ⟨(hp3.keep hb).c21, rg_keep hb HI3.out 0 _ rfl, rg_keep hb HI3.out 1 _ rfl, (hp3.keep hb).par.frozen 21⟩
      have HK4 : Hid (∀ o, PB (w3.alloc o).drew p ml (.slice va S.length vc) v2 m1 m2 S (S.map (·.1)) (if ml then S.length else 0)) := Lib.hid fun o =>
        (hp3.keep (w' := w3.alloc o) ((Below.refl _ _).alloc (Nat.le_refl _) _)).same fun _ _ => rfl
      have hIB : IB ≤ w3.heap.size := by have := rg_lt HI3.out (by simp); unfold IB; omega
      obtain ⟨i0, hi, hz0, hz1, hz2⟩ := info_parts infoSy
      have HI0 := Lib.hid (And.intro hi (And.intro hz0 (And.intro hz1 hz2)))
      have HW3 := Lib.hid (show WS w X p ml (.slice va S.length vc) v2 m1 m2 S (S.map (·.1)) (if ml then S.length else 0) S.length w3 from
        ⟨hp3, HE3.out, HR3.out, Off.of_below HB3.out, fun i hi => .inl ⟨HX.out i hi, HP.out.own_lt i hi⟩⟩)
      clear hp3 hi hz0 hz1 hz2
      refine Pl.wp_region_split (SL p (.slice va S.length vc)) 11 (by kernel_rfl) (by kernel_rfl) ?_
      simp only [List.take_succ_cons, List.take_zero]
      have hHeld := HS0.out
      refine Pl.take_l (i := 0) (v := ?v1) rfl (by kernel_rfl) (by kernel_rfl) (by kernel_rfl) (fun _ _ _ h => h) rfl ?hy1 hHeld ?rest1
      case hy1 => (intro w hSw; (try dsimp only at hSw); (try obtain ⟨_, _⟩ := hSw); go_simp <;> (try with_reducible rfl))
      try simp only [Act.put, List.setIfInBounds_toArray, List.set_cons_zero, List.set_cons_succ]
      refine Pl.take_l (i := 1) (v := ?v2) rfl (by kernel_rfl) (by kernel_rfl) (by kernel_rfl) (fun _ _ _ h => h) rfl ?hy2 hHeld ?rest2
      case hy2 => (intro w hSw; (try dsimp only at hSw); (try obtain ⟨_, _⟩ := hSw); go_simp <;> (try with_reducible rfl))
      try simp only [Act.put, List.setIfInBounds_toArray, List.set_cons_zero, List.set_cons_succ]
      refine Pl.take_l (i := 2) (v := ?v3) rfl (by kernel_rfl) (by kernel_rfl) (by kernel_rfl) (fun _ _ _ h => h) rfl ?hy3 hHeld ?rest3
      case hy3 => (intro w hSw; (try dsimp only at hSw); (try obtain ⟨_, _⟩ := hSw); go_simp <;> (try with_reducible rfl))
      try simp only [Act.put, List.setIfInBounds_toArray, List.set_cons_zero, List.set_cons_succ]
      refine Pl.take_l (i := 3) (v := ?v4) rfl (by kernel_rfl) (by kernel_rfl) (by kernel_rfl) (fun _ _ _ h => h) rfl ?hy4 hHeld ?rest4
      case hy4 => (intro w hSw; (try dsimp only at hSw); (try obtain ⟨_, _⟩ := hSw); go_simp <;> (try with_reducible rfl))
      try simp only [Act.put, List.setIfInBounds_toArray, List.set_cons_zero, List.set_cons_succ]
      refine Pl.take_l (i := 4) (v := ?v5) rfl (by kernel_rfl) (by kernel_rfl) (by kernel_rfl) (fun _ _ _ h => h) rfl ?hy5 hHeld ?rest5
      case hy5 => (intro w hSw; (try dsimp only at hSw); (try obtain ⟨_, _⟩ := hSw); go_simp <;> (try with_reducible rfl))
      try simp only [Act.put, List.setIfInBounds_toArray, List.set_cons_zero, List.set_cons_succ]
      refine Pl.take_l (i := 5) (v := ?v6) rfl (by kernel_rfl) (by kernel_rfl) (by kernel_rfl) (fun _ _ _ h => h) rfl ?hy6 hHeld ?rest6
      case hy6 => (intro w hSw; (try dsimp only at hSw); (try obtain ⟨_, _⟩ := hSw); go_simp <;> (try with_reducible rfl))
      try simp only [Act.put, List.setIfInBounds_toArray, List.set_cons_zero, List.set_cons_succ]
      refine Pl.take_l (i := 6) (v := ?v7) rfl (by kernel_rfl) (by kernel_rfl) (by kernel_rfl) (fun _ _ _ h => h) rfl ?hy7 hHeld ?rest7
      case hy7 => (intro w hSw; (try dsimp only at hSw); (try obtain ⟨_, _⟩ := hSw); go_simp <;> (try with_reducible rfl))
      try simp only [Act.put, List.setIfInBounds_toArray, List.set_cons_zero, List.set_cons_succ]
      refine Pl.take_l (i := 7) (v := ?v8) rfl (by kernel_rfl) (by kernel_rfl) (by kernel_rfl) (fun _ _ _ h => h) rfl ?hy8 hHeld ?rest8
      case hy8 => (intro w hSw; (try dsimp only at hSw); (try obtain ⟨_, _⟩ := hSw); go_simp <;> (try with_reducible rfl))
      try simp only [Act.put, List.setIfInBounds_toArray, List.set_cons_zero, List.set_cons_succ]
      refine Pl.take_l (i := 8) (v := ?v9) rfl (by kernel_rfl) (by kernel_rfl) (by kernel_rfl) (fun _ _ _ h => h) rfl ?hy9 hHeld ?rest9
      case hy9 => (intro w hSw; (try dsimp only at hSw); (try obtain ⟨_, _⟩ := hSw); go_simp <;> (try with_reducible rfl))
      try simp only [Act.put, List.setIfInBounds_toArray, List.set_cons_zero, List.set_cons_succ]
      refine Pl.alone_l (i := 9) (by kernel_rfl) rfl (fun K hK => ?_)
      go_simp
      refine hK.out _ _ (HS4.out _) (fun hHeld2 => ?_)
      clear hK K hHeld
      have hHeld := hHeld2
      clear hHeld2
      try simp only [Act.put, List.setIfInBounds_toArray, List.set_cons_zero, List.set_cons_succ]
      refine Pl.alone_l (i := 10) (by kernel_rfl) rfl (fun K hK => ?_)
      refine step_append_lies _ rfl (.tmp 49) (.tmp 54) 70 rfl IB 99 i0 _ 10 48 Tryd.underlying70 HI0.out.1 HI0.out.2.1 HI0.out.2.2.1 HI0.out.2.2.2 rfl (by omega) (.slice va S.length vc) S.length (rowg (symF ml S) S.length) (by rfl) (World.ownsRow.alloc HP3.out.syms _).drew ⟨w3.heap.size, 0, none⟩ 1 1 (symR (kdv ml) (s, 0)) (by rfl) rfl (World.news_of_block (cs := (symR (kdv ml) (s, 0)).toArray) (heap_alloc_new w3 _)) (by simp [symR, Value.oneCell']) (by omega) (by unfold maxLen; omega) (by omega) (Nat.le_trans hIB (by simp)) _ rfl ?_; intro g9 cap9 w9 ho9 hg9 hat9 hlt9; have HS5 := Lib.hid (sl_grown (HK4.out _) (HS4.out _) hg9)
      refine hK.out _ _ HS5.out (fun hHeld2 => ?_)
      clear hK K hHeld
      have hHeld := hHeld2
      clear hHeld2
      try simp only [Act.put, List.setIfInBounds_toArray, List.set_cons_zero, List.set_cons_succ]
      refine wpAnyH_done (by kernel_rfl) ?_ _
      refine Pl.behind_normal (by decide) ?_
      simp only [List.drop_succ_cons, List.drop_zero]
      clear hHeld
      obtain ⟨c21, -, -, f21⟩ := HS5.out
      have hw4 := (HW3.out.keep (w' := w3.alloc (.cells (symR (kdv ml) (s, 0)).toArray 99)) ((Below.refl _ _).alloc (Nat.le_refl _) _)).same (w' := (w3.alloc (.cells (symR (kdv ml) (s, 0)).toArray 99)).drew) (fun _ => rfl) rfl rfl rfl rfl
      have HW5 := Lib.hid (hw4.app1 (x := (s, 0)) (v' := .slice (some ⟨g9, 0, none⟩) (S.length + 1) cap9) hg9 ho9 (fun g hg => by
        have e : g9 = g := by simpa [Value.ownBlock] using hg
        rcases hat9 with h1 | h1
        · exact .inl (by rw [← e]; exact h1)
        · refine .inr ?_
          have := HSZ3.out
          simp [World.drew] at h1
          omega))
      clear hw4 hg9 ho9 hat9 hlt9 HW3 HS0 HS4 HS5 HK4 hIB HI0 HP3 HE3 HR3 HB3 HI3
      go_upto_region 12 with fail
      obtain ⟨w5, hw5⟩ : ∃ w5, w5 = w9.setCell ⟨p, 21, none⟩ (.slice (some ⟨g9, 0, none⟩) (S.length + 1) cap9) := ⟨_, rfl⟩
      rw [← hw5] at HW5 ⊢
      clear hw5 c21 f21
      have e0 : w5.cell? ⟨w.heap.size + 2, 0, none⟩ = some (.int .i32 0) := HW5.out.eb.cell 0 rfl
      have e1 : w5.cell? ⟨w.heap.size + 2, 1, none⟩ = some (.int .u32 0) := HW5.out.eb.cell 1 rfl
      have e2 : w5.cell? ⟨w.heap.size + 2, 2, none⟩ = some (.int .u32 (S.length : Int)) := HW5.out.eb.cell 2 rfl
      have hup := upd_run w5 (mOf ml m1 m2) (S.map (·.1)) s HW5.out.pb.mp HIX.out
      rw [List.length_map, lrv] at hup
      have HUP := Lib.hid hup
      clear hup
      go_upto_region 13 with (at_mapUpdate; refine wpl_mapUpdate _ _ rfl _ _ _ _ rfl _ _ _ rfl rfl rfl HUP.out ?_)
      have HW6 := Lib.hid (HW5.out.put s)
      obtain ⟨w6, hw6⟩ : ∃ w6, w6 = setBlock w5 (mOf ml m1 m2) (mpO (S.map (·.1) ++ [s])) := ⟨_, rfl⟩
      rw [← hw6] at HW6 ⊢
      clear hw6 HUP HW5 e0 e1 e2
      cases ml with
      | false =>
        go_upto_region 15 with fail
        have HLL := Lib.hid (show S.length + 1 = (S ++ [(s, (0 : Int))]).length by simp)
        have HGD := Lib.hid (show (S ++ [(s, (0 : Int))]).getD S.length (⟨#[]⟩, 0) = (s, 0) by rw [List.getD_eq_getElem?_getD]; simp)
        have c21 := HW6.out.pb.c21
        have e2 : w6.cell? ⟨w.heap.size + 2, 2, none⟩ = some (.int .u32 (S.length : Int)) := HW6.out.eb.cell 2 rfl
        obtain ⟨g, cap, hv, cU, -, -, fz, hg⟩ := HW6.out.pb.use (i := S.length) (by simp)
        rw [HGD.out] at cU
        simp only [Value.slice.injEq, Option.some.injEq, Addr.mk.injEq, and_true] at hv
        obtain ⟨rfl, -, rfl⟩ := hv
        have f4 := fz (S.length * 10 + 4)
        have q0 : (0 : Int) ≤ S.length := by omega
        have q1 : (S.length : Int) < S.length + 1 := by omega
        clear fz hg
        go_region
        obtain ⟨w7, hw7⟩ : ∃ w7, w7 = (w6.setCell ⟨g9, S.length * 10 + 4, none⟩ (.int .u32 1)).drew := ⟨_, rfl⟩
        rw [← hw7]
        have hw8 : WS w X p false (.slice (some ⟨g9, 0, none⟩) (S ++ [(s, (0 : Int))]).length cap9) v2 m1 m2 ((S ++ [(s, (0 : Int))]).set S.length (s, 1)) (S.map (·.1) ++ [s]) 0 S.length w7 := by
          have h := HW6.out
          rw [HLL.out] at h
          have h2 := h.inc (i := S.length) (u := 1) (by simp)
          rw [HGD.out] at h2
          rw [hw7]
          try rw [HLL.out]
          exact h2.same (fun _ => rfl) rfl rfl rfl rfl
        have HW8 := Lib.hid hw8
        have a0 : w7.cell? ⟨w.heap.size + 2, 0, none⟩ = some (.int .i32 0) := hw8.eb.cell 0 rfl
        have a1 : w7.cell? ⟨w.heap.size + 2, 1, none⟩ = some (.int .u32 0) := hw8.eb.cell 1 rfl
        have a2 : w7.cell? ⟨w.heap.size + 2, 2, none⟩ = some (.int .u32 (S.length : Int)) := hw8.eb.cell 2 rfl
        have b0 : w7.cell? ⟨w.heap.size + 1, 0, none⟩ = some (.int .i32 0) := hw8.rb.cell 0 rfl
        have b1 : w7.cell? ⟨w.heap.size + 1, 1, none⟩ = some (.int .u32 0) := hw8.rb.cell 1 rfl
        have b2 : w7.cell? ⟨w.heap.size + 1, 2, none⟩ = some (.int .u32 0) := hw8.rb.cell 2 rfl
        have f0 := hw8.rb.frozen 0
        have f1 := hw8.rb.frozen 1
        have f2 := hw8.rb.frozen 2
        clear hw7 hw8 c21 e2 cU f4 q0 q1
        go_wp2_with fail
        obtain ⟨d, hd, hd2⟩ := undLr
        refine bodyPost_ret (v := .agg #[.int .i32 0, .int .u32 0, .int .u32 (S.length : Int)]) (results_cell_mid (by rfl) _ _ (w.heap.size + 1) 0 [.int .i32 0, .int .u32 0, .int .u32 (S.length : Int)] d (by rfl) (set3_range HW8.out.rb _ _ _) hd hd2 szLr) rfl ⟨by rw [plS, HIX.out]; rfl, fun i => (X i ∧ i < w.heap.size) ∨ (w.heap.size + 3 ≤ i ∧ i < w7.heap.size), ?_, ?_, ?_⟩
        · have e1 : addS s S = (S ++ [(s, (0 : Int))]).set S.length (s, 1) := by rw [addS, HIX.out]; simp
          have e2 : (addS s S).map (·.1) = S.map (·.1) ++ [s] := by rw [addS, HIX.out]; simp
          have e3 : (addS s S).length = S.length + 1 := by rw [addS, HIX.out]; simp
          refine ⟨_, _, _, _, ?_, fun i hi => (HW8.out.own i hi).imp id fun h => ⟨h, HW8.out.pb.own_lt i hi⟩⟩
          rw [e2, e3, e1]
          exact HW8.out.pb.same fun i hi => set3_heap _ _ _ _ _ (fun e => by rcases HW8.out.own i hi with h1 | h1 <;> omega)
        · exact HW8.out.off.trans (set3_off _ _ _ _ _) fun i hi => .inr (by rw [hi]; omega)
        · intro i hi
          rw [set3_size]
          rcases hi with h1 | h1
          · exact .inl h1.1
          · exact .inr ⟨by omega, h1.2⟩
      | true =>
        go_upto_region 14 with fail
        have HT0 := Lib.hid (show SL2 p v2 (w.heap.size + 2) S.length w6.drew from ⟨HW6.out.pb.c23, HW6.out.eb.cell 0 rfl, HW6.out.eb.cell 1 rfl, HW6.out.eb.cell 2 rfl, HW6.out.pb.par.frozen 23⟩)
        have HK6 : Hid (∀ o, WS w X p true (.slice (some ⟨g9, 0, none⟩) (S.length + 1) cap9) v2 m1 m2 (S ++ [(s, 0)]) (S.map (·.1) ++ [s]) S.length S.length (w6.alloc o).drew) := Lib.hid fun o =>
          (HW6.out.keep (w' := w6.alloc o) ((Below.refl _ _).alloc (Nat.le_refl _) _)).same (fun _ => rfl) rfl rfl rfl rfl
        have HT4 : Hid (∀ o, SL2 p v2 (w.heap.size + 2) S.length (w6.alloc o).drew) := Lib.hid fun o =>
          ⟨(HK6.out o).pb.c23, (HK6.out o).eb.cell 0 rfl, (HK6.out o).eb.cell 1 rfl, (HK6.out o).eb.cell 2 rfl, (HK6.out o).pb.par.frozen 23⟩
        have hIB2 : IB ≤ w6.heap.size := by have := rg_lt HR.out (by simp); have := HW6.out.off.2.2.2.1; unfold IB; omega
        have hs6 : w.heap.size + 3 ≤ w6.heap.size := HW6.out.eb.lt
        have HS6 := Lib.hid hs6
        clear hs6
        obtain ⟨j0, hi, hz0, hz1, hz2⟩ := info_parts infoLr
        have HJ0 := Lib.hid (And.intro hi (And.intro hz0 (And.intro hz1 hz2)))
        clear hi hz0 hz1 hz2
        refine Pl.wp_region_split (SL2 p v2 (w.heap.size + 2) S.length) 8 (by kernel_rfl) (by kernel_rfl) ?_
        simp only [List.take_succ_cons, List.take_zero]
        have hHeld := HT0.out
        refine Pl.take_l (i := 0) (v := ?v10) rfl (by kernel_rfl) (by kernel_rfl) (by kernel_rfl) (fun _ _ _ h => h) rfl ?hy10 hHeld ?rest10
        case hy10 => (intro w hSw; (try dsimp only at hSw); (try obtain ⟨_, _⟩ := hSw); go_simp <;> (try with_reducible rfl))
        try simp only [Act.put, List.setIfInBounds_toArray, List.set_cons_zero, List.set_cons_succ]
        refine Pl.take_l (i := 1) (v := ?v11) rfl (by kernel_rfl) (by kernel_rfl) (by kernel_rfl) (fun _ _ _ h => h) rfl ?hy11 hHeld ?rest11
        case hy11 => (intro w hSw; (try dsimp only at hSw); (try obtain ⟨_, _⟩ := hSw); go_simp <;> (try with_reducible rfl))
        try simp only [Act.put, List.setIfInBounds_toArray, List.set_cons_zero, List.set_cons_succ]
        refine Pl.take_l (i := 2) (v := ?v12) rfl (by kernel_rfl) (by kernel_rfl) (by kernel_rfl) (fun _ _ _ h => h) rfl ?hy12 hHeld ?rest12
        case hy12 => (intro w hSw; (try dsimp only at hSw); (try obtain ⟨_, _⟩ := hSw); go_simp <;> (try with_reducible rfl))
        try simp only [Act.put, List.setIfInBounds_toArray, List.set_cons_zero, List.set_cons_succ]
        refine Pl.take_l (i := 3) (v := ?v13) rfl (by kernel_rfl) (by kernel_rfl) (by kernel_rfl) (fun _ _ _ h => h) rfl ?hy13 hHeld ?rest13
        case hy13 => (intro w hSw; (try dsimp only at hSw); (try obtain ⟨_, _⟩ := hSw); go_simp <;> (try with_reducible rfl))
        try simp only [Act.put, List.setIfInBounds_toArray, List.set_cons_zero, List.set_cons_succ]
        refine Pl.take_l (i := 4) (v := ?v14) rfl (by kernel_rfl) (by kernel_rfl) (by kernel_rfl) (fun _ _ _ h => h) rfl ?hy14 hHeld ?rest14
        case hy14 => (intro w hSw; (try dsimp only at hSw); (try obtain ⟨_, _⟩ := hSw); go_simp <;> (try with_reducible rfl))
        try simp only [Act.put, List.setIfInBounds_toArray, List.set_cons_zero, List.set_cons_succ]
        refine Pl.take_l (i := 5) (v := ?v15) rfl (by kernel_rfl) (by kernel_rfl) (by kernel_rfl) (fun _ _ _ h => h) rfl ?hy15 hHeld ?rest15
        case hy15 => (intro w hSw; (try dsimp only at hSw); (try obtain ⟨_, _⟩ := hSw); go_simp <;> (try with_reducible rfl))
        try simp only [Act.put, List.setIfInBounds_toArray, List.set_cons_zero, List.set_cons_succ]
        refine Pl.alone_l (i := 6) (by kernel_rfl) rfl (fun K hK => ?_)
        go_simp
        refine hK.out _ _ (HT4.out _) (fun hHeld2 => ?_)
        clear hK K hHeld
        have hHeld := hHeld2
        clear hHeld2
        try simp only [Act.put, List.setIfInBounds_toArray, List.set_cons_zero, List.set_cons_succ]
        refine Pl.alone_l (i := 7) (by kernel_rfl) rfl (fun K hK => ?_)
        refine step_append_lies _ rfl (.tmp 67) (.tmp 69) 72 rfl IB 104 j0 _ 3 12 Tryd.underlying72 HJ0.out.1 HJ0.out.2.1 HJ0.out.2.2.1 HJ0.out.2.2.2 rfl (by omega) v2 S.length (rowg lrF S.length) (by rfl) (World.ownsRow.alloc HW6.out.pb.locs _).drew ⟨w6.heap.size, 0, none⟩ 1 1 (lrF S.length) (by rfl) rfl (World.news_of_block (cs := (lrF S.length).toArray) (heap_alloc_new w6 _)) (by simp [lrF, Value.oneCell']) (by omega) (by unfold maxLen; omega) (by omega) (Nat.le_trans hIB2 (by simp)) _ rfl ?_; intro g8 cap8 w8 ho8 hg8 hat8 hlt8; have HT5 := Lib.hid (sl2_grown (HK6.out _) (HT4.out _) hg8)
        refine hK.out _ _ HT5.out (fun hHeld2 => ?_)
        clear hK K hHeld
        have hHeld := hHeld2
        clear hHeld2
        try simp only [Act.put, List.setIfInBounds_toArray, List.set_cons_zero, List.set_cons_succ]
        refine wpAnyH_done (by kernel_rfl) ?_ _
        refine Pl.behind_normal (by decide) ?_
        simp only [List.drop_succ_cons, List.drop_zero]
        clear hHeld
        obtain ⟨c23, -, -, -, f23⟩ := HT5.out
        have HW9 := Lib.hid ((HK6.out _).app2 (v' := .slice (some ⟨g8, 0, none⟩) (S.length + 1) cap8) hg8 ho8 (fun g hg => by
          have e : g8 = g := by simpa [Value.ownBlock] using hg
          rcases hat8 with h1 | h1
          · exact .inl (by rw [← e]; exact h1)
          · refine .inr ?_
            have := HS6.out
            simp [World.drew] at h1
            omega))
        clear hg8 ho8 hat8 hlt8 HW6 HT0 HT4 HT5 HK6 hIB2 HJ0 HS6
        go_upto_region 15 with fail
        obtain ⟨w9, hw9⟩ : ∃ w9, w9 = w8.setCell ⟨p, 23, none⟩ (.slice (some ⟨g8, 0, none⟩) (S.length + 1) cap8) := ⟨_, rfl⟩
        rw [← hw9] at HW9 ⊢
        clear hw9 c23 f23
        have HLL := Lib.hid (show S.length + 1 = (S ++ [(s, (0 : Int))]).length by simp)
        have HGD := Lib.hid (show (S ++ [(s, (0 : Int))]).getD S.length (⟨#[]⟩, 0) = (s, 0) by rw [List.getD_eq_getElem?_getD]; simp)
        have c21 := HW9.out.pb.c21
        have e2 : w9.cell? ⟨w.heap.size + 2, 2, none⟩ = some (.int .u32 (S.length : Int)) := HW9.out.eb.cell 2 rfl
        obtain ⟨g, cap, hv, cU, -, -, fz, hg⟩ := HW9.out.pb.use (i := S.length) (by simp)
        rw [HGD.out] at cU
        simp only [Value.slice.injEq, Option.some.injEq, Addr.mk.injEq, and_true] at hv
        obtain ⟨rfl, -, rfl⟩ := hv
        have f4 := fz (S.length * 10 + 4)
        have q0 : (0 : Int) ≤ S.length := by omega
        have q1 : (S.length : Int) < S.length + 1 := by omega
        clear fz hg
        go_region
        obtain ⟨w7, hw7⟩ : ∃ w7, w7 = (w9.setCell ⟨g9, S.length * 10 + 4, none⟩ (.int .u32 1)).drew := ⟨_, rfl⟩
        rw [← hw7]
        have hw8 : WS w X p true (.slice (some ⟨g9, 0, none⟩) (S ++ [(s, (0 : Int))]).length cap9) (.slice (some ⟨g8, 0, none⟩) (S.length + 1) cap8) m1 m2 ((S ++ [(s, (0 : Int))]).set S.length (s, 1)) (S.map (·.1) ++ [s]) (S.length + 1) S.length w7 := by
          have h := HW9.out
          rw [HLL.out] at h
          have h2 := h.inc (i := S.length) (u := 1) (by simp)
          rw [HGD.out] at h2
          rw [hw7]
          try rw [HLL.out]
          exact h2.same (fun _ => rfl) rfl rfl rfl rfl
        have HW8 := Lib.hid hw8
        have a0 : w7.cell? ⟨w.heap.size + 2, 0, none⟩ = some (.int .i32 0) := hw8.eb.cell 0 rfl
        have a1 : w7.cell? ⟨w.heap.size + 2, 1, none⟩ = some (.int .u32 0) := hw8.eb.cell 1 rfl
        have a2 : w7.cell? ⟨w.heap.size + 2, 2, none⟩ = some (.int .u32 (S.length : Int)) := hw8.eb.cell 2 rfl
        have b0 : w7.cell? ⟨w.heap.size + 1, 0, none⟩ = some (.int .i32 0) := hw8.rb.cell 0 rfl
        have b1 : w7.cell? ⟨w.heap.size + 1, 1, none⟩ = some (.int .u32 0) := hw8.rb.cell 1 rfl
        have b2 : w7.cell? ⟨w.heap.size + 1, 2, none⟩ = some (.int .u32 0) := hw8.rb.cell 2 rfl
        have f0 := hw8.rb.frozen 0
        have f1 := hw8.rb.frozen 1
        have f2 := hw8.rb.frozen 2
        clear hw7 hw8 c21 e2 cU f4 q0 q1
        go_wp2_with fail
        obtain ⟨d, hd, hd2⟩ := undLr
        refine bodyPost_ret (v := .agg #[.int .i32 0, .int .u32 0, .int .u32 (S.length : Int)]) (results_cell_mid (by rfl) _ _ (w.heap.size + 1) 0 [.int .i32 0, .int .u32 0, .int .u32 (S.length : Int)] d (by rfl) (set3_range HW8.out.rb _ _ _) hd hd2 szLr) rfl ⟨by rw [plS, HIX.out]; rfl, fun i => (X i ∧ i < w.heap.size) ∨ (w.heap.size + 3 ≤ i ∧ i < w7.heap.size), ?_, ?_, ?_⟩
        · have e1 : addS s S = (S ++ [(s, (0 : Int))]).set S.length (s, 1) := by rw [addS, HIX.out]; simp
          have e2 : (addS s S).map (·.1) = S.map (·.1) ++ [s] := by rw [addS, HIX.out]; simp
          have e3 : (addS s S).length = S.length + 1 := by rw [addS, HIX.out]; simp
          refine ⟨_, _, _, _, ?_, fun i hi => (HW8.out.own i hi).imp id fun h => ⟨h, HW8.out.pb.own_lt i hi⟩⟩
          rw [e2, e3, e1]
          exact HW8.out.pb.same fun i hi => set3_heap _ _ _ _ _ (fun e => by rcases HW8.out.own i hi with h1 | h1 <;> omega)
        · exact HW8.out.off.trans (set3_off _ _ _ _ _) fun i hi => .inr (by rw [hi]; omega)
        · intro i hi
          rw [set3_size]
          rcases hi with h1 | h1
          · exact .inl h1.1
          · exact .inr ⟨by omega, h1.2⟩
end Go.Proofs.YtkphnplmjpjbjaaDoor.Sy
