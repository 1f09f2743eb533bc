/-
  What the removal of dead rules holds at each turn.
-/
import Derived.Test.YthokeojpmbdbmaaDv
namespace Go.Proofs.Ythokeojpmbdbmaa.Dr
open Go.ChangeShapes Go.WideShapes Go.ChangeAt Go.RowKit Rg
open Go.ChangeMaps (setBlock)
set_option linter.unusedVariables false
set_option linter.unusedSimpArgs false
/-- only the blocks of T and new ones turned -/
structure Out (T : Nat → Prop) (w w' : World) : Prop where
  os : w'.os = w.os
  tape : w'.tape = w.tape
  output : w'.output = w.output
  size : w.heap.size ≤ w'.heap.size
  block : ∀ b, b < w.heap.size → ¬ T b → w'.heap[b]? = w.heap[b]?
theorem sb_other (w : World) (b : Nat) (o : Obj) {k : Nat} (h : k ≠ b) : (setBlock w b o).heap[k]? = w.heap[k]? := by
  show (w.heap.setIfInBounds b o)[k]? = _
  rw [Array.getElem?_setIfInBounds_ne (fun e => h e.symm)]
theorem sb_same (w : World) (b : Nat) (o : Obj) (h : b < w.heap.size) : (setBlock w b o).heap[b]? = some o := by
  show (w.heap.setIfInBounds b o)[b]? = _
  rw [Array.getElem?_setIfInBounds_self, if_pos h]
theorem heap_setCells (b : Nat) : ∀ (vs : List Value) (o : Nat) (w : World) (k : Nat), k ≠ b → (w.setCells b o vs).heap[k]? = w.heap[k]?
  | [], _, _, _, _ => rfl
  | v :: r, o, w, k, h => by rw [World.setCells, heap_setCells b r (o + 1) _ k h]; exact Below.heap_setCell w _ _ k h
theorem os_setCells (b : Nat) : ∀ (vs : List Value) (o : Nat) (w : World), (w.setCells b o vs).os = w.os ∧ (w.setCells b o vs).tape = w.tape ∧ (w.setCells b o vs).output = w.output
  | [], _, _ => ⟨rfl, rfl, rfl⟩
  | v :: r, o, w => by rw [World.setCells]; exact os_setCells b r (o + 1) _
section
variable {T : Nat → Prop} {w0 w w' : World}
theorem Out.refl (T : Nat → Prop) (w : World) : Out T w w := ⟨rfl, rfl, rfl, Nat.le_refl _, fun _ _ _ => rfl⟩
theorem Out.below (h : Out T w0 w) (hb : Below w.heap.size w w') : Out T w0 w' :=
  ⟨hb.os.trans h.os, hb.tape.trans h.tape, hb.output.trans h.output, Nat.le_trans h.size hb.size, fun b h1 h2 => (hb.block b (Nat.lt_of_lt_of_le h1 h.size)).trans (h.block b h1 h2)⟩
theorem Out.grown (h : Out T w0 w) {row : Option Nat} (hg : w.grownBy w' row) (hr : ∀ b, row = some b → w0.heap.size ≤ b) : Out T w0 w' :=
  ⟨hg.os.trans h.os, hg.tape.trans h.tape, hg.output.trans h.output, Nat.le_trans h.size hg.size, fun b h1 h2 => (hg.block b (Nat.lt_of_lt_of_le h1 h.size) (fun e => by have := hr b e.symm; omega)).trans (h.block b h1 h2)⟩
theorem Out.cells (h : Out T w0 w) {b : Nat} (hb : T b) (o : Nat) (vs : List Value) : Out T w0 (w.setCells b o vs) := by
  obtain ⟨h1, h2, h3⟩ := os_setCells b vs o w
  exact ⟨h1.trans h.os, h2.trans h.tape, h3.trans h.output, by rw [size_setCells]; exact h.size, fun k a c => (heap_setCells b vs o w k (fun e => c (by rw [e]; exact hb))).trans (h.block k a c)⟩
theorem Out.set (h : Out T w0 w) {b : Nat} (hb : T b) (o : Obj) : Out T w0 (setBlock w b o) :=
  ⟨h.os, h.tape, h.output, by simpa [setBlock] using h.size, fun k a c => (sb_other w _ o (fun e => c (by rw [e]; exact hb))).trans (h.block k a c)⟩
theorem Out.to {X : Nat → Prop} (h : Out T w0 w) (hX : ∀ b, X b → b < w0.heap.size ∧ ¬ T b) : To X w0 X w := fun b hb => ⟨hb, h.block b (hX b hb).1 (hX b hb).2⟩
end
/-- what does not turn: the rules, and where they lie -/
structure Cf where
  n : Nat
  m : Nat → Md
  P : Nat → Nat
  gr : Nat
  rm : Nat
  bm : Nat
namespace Cf
variable (c : Cf)
def T (b : Nat) : Prop := b = c.gr ∨ b = c.rm ∨ b = c.bm
def K (k : Nat) : List Nat := kl c.n c.m k
def st (k : Nat) : Nat := c.n - (c.K k).length
def H (r : Nat) : Int := hRu hS1 (c.m r)
def rulc (r : Nat) : List Value := ruc (c.P r) (r : Nat)
end Cf
structure COk (c : Cf) (X : Nat → Prop) (w0 : World) : Prop where
  gl : c.gr < w0.heap.size
  rl : c.rm < w0.heap.size
  bl : c.bm < w0.heap.size
  gr : c.gr ≠ c.rm
  gb : c.gr ≠ c.bm
  rb : c.rm ≠ c.bm
  xs : ∀ b, X b → b < w0.heap.size ∧ ¬ c.T b
  ru : ∀ r, r < c.n → RuV Sb1 X w0 (c.P r) (c.m r)
  sm : ∀ r, r < c.n → SmM (c.m r)
  nn : c.n ≤ 4096
structure RS (c : Cf) (w0 : World) (k : Nat) (G : List Bu) (w : World) : Prop where
  out : Out c.T w0 w
  fld : w.cell? ⟨c.rm, 0, none⟩ = some (.map (some c.bm))
  map : w.heap[c.bm]? = some (mapG G)
  mem : BuM c.P w0.heap.size (c.K k).length G w
  low : ∀ j, j < k → w.rangeAt c.gr (j * 2) (c.rulc j)
  hig : ∀ t (h : t < (c.K k).length), w.rangeAt c.gr ((c.st k + t) * 2) (c.rulc (c.K k)[t])
  the : w.there c.gr 0 (c.n * 2)
  sem : SemG c.H (c.K k) G
section
variable {c : Cf} {X : Nat → Prop} {w0 w w' : World} {k i : Nat} {G : List Bu}
theorem RS.keep (hc : COk c X w0) (h : RS c w0 k G w) (hb : Below w.heap.size w w') : RS c w0 k G w' :=
  ⟨h.out.below hb, later hb h.fld, (hb.block _ (Nat.lt_of_lt_of_le hc.bl h.out.size)).trans h.map, h.mem.keep hb, fun j hj => rg_keep hb (h.low j hj), fun t ht => rg_keep hb (h.hig t ht), th_keep hb h.the, h.sem⟩
theorem RS.rule (hc : COk c X w0) (h : RS c w0 k G w) {r : Nat} (hr : r < c.n) : RuV Sb1 X w (c.P r) (c.m r) := RuV.to loc1 (hc.ru r hr) (h.out.to hc.xs)
theorem RS.xs (hc : COk c X w0) (h : RS c w0 k G w) : ∀ b, X b → b < w.heap.size := fun b hb => Nat.lt_of_lt_of_le (hc.xs b hb).1 h.out.size
theorem K_len (c : Cf) (k : Nat) : (c.K k).length ≤ c.n - k := kl_len _ _ _
theorem RS.start (hc : COk c X w0) (hf0 : w0.cell? ⟨c.rm, 0, none⟩ = some (.map (some c.bm))) (hmap : w0.heap[c.bm]? = some (.map #[] 0)) (hrow : ∀ j, j < c.n → w0.rangeAt c.gr (j * 2) (c.rulc j)) (hthe : w0.there c.gr 0 (c.n * 2)) {w7 : World} (h7 : Below w0.heap.size w0 w7) (v : Value) :
    RS c w0 c.n [] (w7.setCells c.rm 1 [v]) := by
  have e : c.K c.n = [] := kl_end _ _
  have hold : ∀ b, b < w0.heap.size → b ≠ c.rm → (w7.setCells c.rm 1 [v]).heap[b]? = w0.heap[b]? := fun b hb hne => (heap_setCells _ _ _ _ _ hne).trans (h7.block b hb)
  refine ⟨((Out.refl _ _).below h7).cells (.inr (.inl rfl)) _ _, ?_, (hold _ hc.bl hc.rb.symm).trans hmap, by rw [e]; exact BuM.start, fun j hj => rg_ag (hold _ hc.gl hc.gr) (hrow j hj), fun t ht => ?_, th_ag (hold _ hc.gl hc.gr) hthe, by rw [e]; exact SemG.start _⟩
  · have h0 : w7.rangeAt c.rm 0 [.map (some c.bm)] := fun j u hj => by
      cases j with
      | zero => obtain rfl := Option.some.inj hj; exact (h7.cell (p := ⟨c.rm, 0, none⟩) hc.rl).trans hf0
      | succ j => cases hj
    exact World.rangeAt_setCells_apart h0 c.rm 1 [v] (.inr (.inl (Nat.le_refl _))) 0 _ rfl
  · rw [e] at ht
    exact absurd ht (Nat.not_lt_zero _)
theorem BuM.same {c : Cf} {lo N : Nat} (h : BuM c.P lo N G w) (hb : ∀ x ∈ G, ∀ b, x.v.ownBlock = some b → w'.heap[b]? = w.heap[b]?) : BuM c.P lo N G w' :=
  ⟨h.nd, fun b hm => ⟨own_ag (h.row b hm).1 (hb b hm), (h.row b hm).2⟩, h.dis⟩
theorem st_skip (hi : i < c.n) (hk : kpB c.n c.m i = false) : c.st i = c.st (i + 1) := by
  unfold Cf.st Cf.K
  rw [kl_step hi, hk]
  rfl
theorem st_new (hi : i < c.n) (hk : kpB c.n c.m i = true) : c.st (i + 1) = c.st i + 1 := by
  have hl := K_len c (i + 1)
  unfold Cf.st Cf.K at *
  rw [kl_step hi, hk, if_pos rfl, List.length_append, List.length_singleton]
  omega
theorem kq_dead (hd : dR (c.m i) = true) : kpB c.n c.m i = false := by
  unfold kpB
  rw [hd]
  rfl
theorem kq_dup (hi : i < c.n) {r : Nat} (hr : r ∈ c.K (i + 1)) (he : c.m i = c.m r) : kpB c.n c.m i = false := by
  rw [← Bool.not_eq_true, kpB_iff, kp_iff hi]
  exact fun h => h.2 r hr he.symm
theorem kq_live (hi : i < c.n) (hd : dR (c.m i) = false) (h : ∀ r ∈ c.K (i + 1), c.m i ≠ c.m r) : kpB c.n c.m i = true := by
  rw [kpB_iff, kp_iff hi]
  exact ⟨hd, fun r hr e => h r hr e.symm⟩
/-- rule i is not kept -/
theorem RS.skip (h : RS c w0 (i + 1) G w) (hi : i < c.n) (hk : kpB c.n c.m i = false) : RS c w0 i G w := by
  have e : c.K i = c.K (i + 1) := by
    unfold Cf.K
    rw [kl_step hi, hk]
    rfl
  have e2 : c.st i = c.st (i + 1) := by unfold Cf.st; rw [e]
  refine ⟨h.out, h.fld, h.map, by rw [e]; exact h.mem, fun j hj => h.low j (by omega), fun t ht => ?_, h.the, by rw [e]; exact h.sem⟩
  simp only [e, e2]
  exact h.hig t (by rw [← e]; exact ht)
/-- rule i is kept -/
theorem RS.new (hc : COk c X w0) (h : RS c w0 (i + 1) G w) (hi : i < c.n) (hk : kpB c.n c.m i = true) {w7 wm w8 : World} {v' u : Value} {g b8 : Nat}
    (ho : w7.ownsRow w0.heap.size 73 2 v' ((lstG (c.H i) G).length + 1) ((lstG (c.H i) G).flatMap (reC c.P) ++ reC c.P i)) (hg : w.grownBy w7 (valG (c.H i) G).ownBlock)
    (hv : v'.ownBlock = some g) (ha : (valG (c.H i) G).ownBlock = some g ∨ w.heap.size ≤ g)
    (hb1 : w0.heap.size ≤ b8) (hb2 : b8 < w.heap.size) (hb3 : ∀ x ∈ G, x.v.ownBlock ≠ some b8) (hm : Below w7.heap.size (w7.setCells b8 0 [u]) wm)
    (h8 : w8 = setBlock wm c.bm (mapG (upG (c.H i) v' (lstG (c.H i) G ++ [i]) G))) :
    RS c w0 i (upG (c.H i) v' (lstG (c.H i) G ++ [i]) G) (w8.setCells c.gr (c.st i * 2) (c.rulc i)) := by
  have e : c.K i = i :: c.K (i + 1) := by
    unfold Cf.K
    rw [kl_step hi, hk]
    rfl
  have hl := K_len c (i + 1)
  have e2 : c.st (i + 1) = c.st i + 1 := by
    unfold Cf.st
    rw [e, List.length_cons]
    omega
  have hsi : i ≤ c.st i := by unfold Cf.st; rw [e, List.length_cons]; omega
  have hsn : c.st i < c.n := by unfold Cf.st; rw [e, List.length_cons]; omega
  -- the row's block is behind what was there
  have hrow : ∀ b, (valG (c.H i) G).ownBlock = some b → w0.heap.size ≤ b := fun b hb => ((h.mem.look (c.H i)).1.lt b hb).1
  have hsz : w0.heap.size ≤ w.heap.size := h.out.size
  have hzg := hg.size
  have hsm : w7.heap.size ≤ wm.heap.size := by have := hm.size; rwa [size_setCells] at this
  have hwm : ∀ b, b < w7.heap.size → b ≠ b8 → wm.heap[b]? = w7.heap[b]? := fun b hb hne => (hm.block b hb).trans (heap_setCells _ _ _ _ _ hne)
  have hold : ∀ b, b < w0.heap.size → wm.heap[b]? = w.heap[b]? := fun b hb => (hwm b (by omega) (by omega)).trans (hg.block b (by omega) (fun q => by have := hrow b q.symm; omega))
  have hold8 : ∀ b, b < w0.heap.size → b ≠ c.bm → w8.heap[b]? = w.heap[b]? := fun b hb hne => by
    rw [h8, sb_other wm _ _ hne]; exact hold b hb
  have hs8 : w8.heap.size = wm.heap.size := by rw [h8]; simp [setBlock]
  have hthe : w8.there c.gr 0 (c.n * 2) := th_ag (hold8 _ hc.gl hc.gb) h.the
  have hto : w8.there c.gr (c.st i * 2) (c.rulc i).length := th_sub hthe (Nat.zero_le _) (by show c.st i * 2 + 2 ≤ _; omega)
  have hg8 : g ≠ b8 := by
    rcases ha with ha | ha
    · rcases look_case (c.H i) G with ⟨h1, -, -⟩ | ⟨y, hy, -, h2, -⟩
      · rw [h1] at ha; cases ha
      · rw [← h2] at ha
        exact fun e => hb3 y hy (by rw [ha, e])
    · omega
  have hup := h.mem.up ho hg hv ha
  have hm8 : BuM c.P w0.heap.size (c.K i).length (upG (c.H i) v' (lstG (c.H i) G ++ [i]) G) w8 := by
    rw [e, List.length_cons]
    refine hup.same fun x hx b hb => ?_
    have hlt := (hup.row x hx).1.lt b hb
    have := hc.bl
    rw [h8, sb_other wm _ _ (by omega)]
    refine hwm b hlt.2 ?_
    rcases mem_up _ _ _ _ _ h.mem.nd hx with rfl | ⟨hx, -⟩
    · rw [hv] at hb
      rw [← Option.some.inj hb]
      exact hg8
    · exact fun e => hb3 x hx (by rw [hb, e])
  refine ⟨?_, ?_, ?_, ?_, fun j hj => ?_, fun t ht => ?_, World.there_setCells hthe _ _ _, by rw [e]; exact h.sem.up v' i⟩
  · have h7 : Out c.T w0 w7 := h.out.grown hg hrow
    obtain ⟨x1, x2, x3⟩ := os_setCells b8 [u] 0 w7
    have o8 : Out c.T w0 wm := ⟨(hm.os.trans x1).trans h7.os, (hm.tape.trans x2).trans h7.tape, (hm.output.trans x3).trans h7.output, Nat.le_trans h7.size hsm, fun b h1 h2 => (hwm b (by omega) (by omega)).trans (h7.block b h1 h2)⟩
    have o9 : Out c.T w0 w8 := by rw [h8]; exact o8.set (.inr (.inr rfl)) _
    exact o9.cells (.inl rfl) _ _
  · rw [World.cell?_of_block (w := w8) (a := ⟨c.rm, 0, none⟩) (heap_setCells _ _ _ _ _ hc.gr.symm), World.cell?_of_block (w := w) (a := ⟨c.rm, 0, none⟩) (hold8 _ hc.rl hc.rb)]
    exact h.fld
  · rw [heap_setCells _ _ _ _ _ hc.gb.symm, h8]
    refine sb_same _ _ _ ?_
    have := hc.bl; omega
  · refine hm8.other fun b hb _ => heap_setCells _ _ _ _ _ ?_
    have := hc.gl; omega
  · refine World.rangeAt_setCells_apart (rg_ag (hold8 _ hc.gl hc.gb) (h.low j (by omega))) _ _ _ (.inr (.inl ?_))
    show j * 2 + 2 ≤ _
    omega
  · cases t with
    | zero =>
      have : (c.K i)[0]'ht = i := by simp only [e, List.getElem_cons_zero]
      rw [this]
      exact World.rangeAt_setCells_same _ _ _ _ hto
    | succ t =>
      have ht2 : t < (c.K (i + 1)).length := by rw [e, List.length_cons] at ht; omega
      have : (c.K i)[t + 1]'ht = (c.K (i + 1))[t] := by simp only [e, List.getElem_cons_succ]
      rw [this]
      have h1 := h.hig t ht2
      rw [e2, show c.st i + 1 + t = c.st i + (t + 1) by omega] at h1
      refine World.rangeAt_setCells_apart (rg_ag (hold8 _ hc.gl hc.gb) h1) _ _ _ (.inr (.inr ?_))
      show _ + 2 ≤ _
      omega
end
end Go.Proofs.Ythokeojpmbdbmaa.Dr
