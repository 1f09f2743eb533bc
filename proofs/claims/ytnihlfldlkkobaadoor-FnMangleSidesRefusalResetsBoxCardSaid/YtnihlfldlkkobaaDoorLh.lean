/-
  The wrapper of mangleSides; the state of FnMangleSidesRefusalResetsBox.
-/
import Derived.Test.YtnihlfldlkkobaaDoorLf
import Derived.Test.YtnihlfldlkkobaaDoorLg
namespace Go.Proofs.YtnihlfldlkkobaaDoor.Bx
open Go.ChangeShapes Go.WideShapes Go.ChangeAt Go.RowKit Rg Quad
set_option linter.unusedVariables false
set_option linter.unusedSimpArgs false
set_option maxRecDepth 100000 in
set_option maxHeartbeats 2000000 in
theorem zz_one (b r n cr d v x : Nat) (kt kt' : ByteArray) (aa imp di mf : Bool) (key key' a2 a3 : Int) (R : Nat → RU) (w : World)
    (hB : BB kt aa imp key (fun _ => z0) b w) (hk : ¬ key = 0) (hR : RR w r n R) (hth : w.there r 0 (n * 2)) (hn : n = x + 1) (hn4 : n ≤ 4096)
    (hd : w.rangeAt d 0 (dcR kt' (.slice (some ⟨v, 0, none⟩) 1 1) a2 a3 key' di)) (hv : w.rangeAt v 0 (tyR (0, 0))) (hbr : b ≠ r) (hbd : b ≠ d) (hbv : b ≠ v) :
    Calls Tryd.prog 12 #[.pointer (some ⟨b, 0, none⟩), .slice (some ⟨r, 0, none⟩) n cr, .pointer (some ⟨d, 0, none⟩), .bool mf] w fun e w' => e = .returned (.tuple #[]) ∧ MoP kt aa di key x b r n R w w' := by
  have HM := Lib.hid (ms_one b r n cr d v x kt kt' aa imp di mf key key' a2 a3 R w hB hk hR hth hn hn4 hd hv hbr hbd hbv)
  clear hB hk hR hth hn hn4 hd hv hbr hbd hbv
  go_enter Tryd.func12, Tryd.ntmps12
  go_wp2_with (first | (go_at_call 19; refine HM.out.mono ?_; rintro e w2 ⟨rfl, h⟩))
  (try simp only [Exit.inBlock, Exit.then])
  refine bodyPost_end (results_none rfl _ _ _) rfl ?_
  exact ⟨rfl, h⟩
set_option maxRecDepth 100000 in
set_option maxHeartbeats 2000000 in
theorem zz_bad (b d m c : Nat) (rs : Value) (al : Option Addr) (kt kt' : ByteArray) (aa imp di mf : Bool) (key key' a2 a3 : Int) (σ : Nat → SD) (T : Nat → ByteArray) (K : Nat → Int) (w : World)
    (hB : BB kt aa imp key σ b w) (hd : w.rangeAt d 0 (dcR kt' (.slice al m c) a2 a3 key' di)) (hbd : b ≠ d) (hal : ∀ i, i < m → ∃ g, al = some ⟨g, 0, none⟩) (hT : ∀ g, al = some ⟨g, 0, none⟩ → TL w g m T K) (hgb : ∀ g, al = some ⟨g, 0, none⟩ → g ≠ b)
    (hm : (m : Int) ≤ 65536) (hr : refused aa m T K) :
    Calls Tryd.prog 12 #[.pointer (some ⟨b, 0, none⟩), rs, .pointer (some ⟨d, 0, none⟩), .bool mf] w fun e w' => e = .returned (.tuple #[]) ∧ BB kt aa di key (fun _ => z0) b w' ∧ w.grownBy w' (some b) := by
  have HM := Lib.hid (ms_bad b d m c 0 rs al kt kt' aa imp di mf key key' a2 a3 σ T K w hB hd hbd hal hT hgb hm hr)
  clear hB hd hbd hal hT hgb hm hr
  go_enter Tryd.func12, Tryd.ntmps12
  go_wp2_with (first | (go_at_call 19; refine HM.out.mono ?_; rintro e w2 ⟨rfl, h⟩))
  (try simp only [Exit.inBlock, Exit.then])
  refine bodyPost_end (results_none rfl _ _ _) rfl ?_
  exact ⟨rfl, h⟩
/-- a slice whose elements lie below B -/
def Su (w : World) (B : Nat) (a : Option Addr) (n : Nat) (X : Nat → Value) : Prop := ∀ i, i < n → ∃ ab ao, a = some ⟨ab, ao, none⟩ ∧ ab < B ∧ w.cell? ⟨ab, ao + i, none⟩ = some (X i)
theorem Su.of {w : World} {a : Option Addr} {n : Nat} {X : Nat → Value} (h : Sl w a n X) : Su w w.heap.size a n X := fun i hi => by
  obtain ⟨ab, ao, e, c⟩ := h i hi
  exact ⟨ab, ao, e, World.block_lt_of_cell? w _ c, c⟩
theorem Su.keep {w w' : World} {B : Nat} {a : Option Addr} {n : Nat} {X : Nat → Value} (h : Su w B a n X) (hb : Below w.heap.size w w') : Su w' B a n X := fun i hi => by
  obtain ⟨ab, ao, e, l, c⟩ := h i hi
  exact ⟨ab, ao, e, l, later hb c⟩
theorem Su.kx {w w' : World} {B : Nat} {a : Option Addr} {n : Nat} {X : Nat → Value} {S : Nat → Prop} (h : Su w B a n X) (hk : KX S w w') (hS : ∀ i, S i → B ≤ i) : Su w' B a n X := fun i hi => by
  obtain ⟨ab, ao, e, l, c⟩ := h i hi
  exact ⟨ab, ao, e, l, hk.cell c (fun hs => by have := hS _ hs; dsimp only at this; omega)⟩
/-- the law's state: copies, rules, box -/
def LS (B : Nat) (ka ta : Option Addr) (nk nt : Nat) (C : Nat → Int) (T : Nat → ByteArray) (r n b : Nat) (R : Nat → RU) (kt : ByteArray) (aa imp : Bool) (σ : Nat → SD) (w0 w : World) : Prop :=
  Su w B ka nk (fun i => .int .u8 (C i)) ∧ Su w B ta nt (fun i => .string (T i)) ∧ RR w r n R ∧ BB kt aa imp 189 σ b w ∧ Below w0.heap.size w0 w ∧ (w0.heap.size ≤ B ∧ B ≤ r ∧ B ≤ b ∧ r ≠ b ∧ B ≤ w.heap.size)
section
variable {B : Nat} {ka ta : Option Addr} {nk nt : Nat} {C : Nat → Int} {T : Nat → ByteArray} {r n b : Nat} {R : Nat → RU} {kt : ByteArray} {aa imp : Bool} {σ : Nat → SD} {w0 w w' : World}
theorem LS.keep (h : LS B ka ta nk nt C T r n b R kt aa imp σ w0 w) (hb : Below w.heap.size w w') : LS B ka ta nk nt C T r n b R kt aa imp σ w0 w' := by
  obtain ⟨h1, h2, h3, h5, h6, h7⟩ := h
  exact ⟨h1.keep hb, h2.keep hb, h3.keep hb, h5.keep hb, h6.trans (hb.mono (by omega)), h7.1, h7.2.1, h7.2.2.1, h7.2.2.2.1, Nat.le_trans h7.2.2.2.2 hb.size⟩
theorem LS.rule (h : LS B ka ta nk nt C T r n b R kt aa imp σ w0 w) (h4 : w.there r 0 (n * 2)) {i : Nat} (hi : i < n) (x : RU) : LS B ka ta nk nt C T r n b (upR R i x) kt aa imp σ w0 (w.setCells r (i * 2) (ruR x)) := by
  obtain ⟨h1, h2, h3, h5, h6, h7⟩ := h
  have hk : KX (fun j => j = r) w (w.setCells r (i * 2) (ruR x)) := KX.of_grown (gb_sets (gb_refl w r) _ _) rfl
  exact ⟨h1.kx hk (fun j e => by omega), h2.kx hk (fun j e => by omega), h3.put h4 hi x, h5.sets (fun e => h7.2.2.2.1 e.symm) _ _, below_setCells (by omega) _ _ h6, by rw [size_setCells]; exact h7⟩
theorem LS.one (h : LS B ka ta nk nt C T r n b R kt aa imp (fun _ => z0) w0 w) {di : Bool} {x : Nat} (hM : MoP kt aa di 189 x b r n R w w') : ∃ d m, LS B ka ta nk nt C T r n b (upR R x (some d, m)) kt aa di (fun _ => s1 x) w0 w' := by
  obtain ⟨h1, h2, h3, h5, h6, h7⟩ := h
  obtain ⟨d, m, m1, m2, m3⟩ := hM
  have hb : Below w0.heap.size w0 w' := ⟨m3.1.trans h6.os, m3.2.1.trans h6.tape, m3.2.2.1.trans h6.output, Nat.le_trans h6.size m3.2.2.2.1, fun i hi => (m3.2.2.2.2 i (Nat.lt_of_lt_of_le hi h6.size) (by rintro (e | e) <;> omega)).trans (h6.block i hi)⟩
  exact ⟨d, m, h1.kx m3 (fun j e => by omega), h2.kx m3 (fun j e => by omega), m1, m2, hb, h7.1, h7.2.1, h7.2.2.1, h7.2.2.2.1, Nat.le_trans h7.2.2.2.2 m3.2.2.2.1⟩
theorem LS.bad (h : LS B ka ta nk nt C T r n b R kt aa imp σ w0 w) {di : Bool} (hB : BB kt aa di 189 (fun _ => z0) b w') (hg : w.grownBy w' (some b)) : LS B ka ta nk nt C T r n b R kt aa di (fun _ => z0) w0 w' := by
  obtain ⟨h1, h2, h3, h5, h6, h7⟩ := h
  have hk : KX (fun j => j = b) w w' := KX.of_grown hg rfl
  have hb : Below w0.heap.size w0 w' := ⟨hg.os.trans h6.os, hg.tape.trans h6.tape, hg.output.trans h6.output, Nat.le_trans h6.size hg.size, fun i hi => (hk.2.2.2.2 i (Nat.lt_of_lt_of_le hi h6.size) (fun e => by omega)).trans (h6.block i hi)⟩
  exact ⟨h1.kx hk (fun j e => by omega), h2.kx hk (fun j e => by omega), h3.grown hg h7.2.2.2.1, hB, hb, h7.1, h7.2.1, h7.2.2.1, h7.2.2.2.1, Nat.le_trans h7.2.2.2.2 hg.size⟩
end
/-- what was read of the rules, k of n -/
def FL (gl gd gh n k : Nat) (R : Nat → RU) (wE w : World) : Prop :=
  (∀ j, j < k → w.cell? ⟨gl, j, none⟩ = some (.int .i32 (R j).2) ∧ w.cell? ⟨gd, j, none⟩ = some (pv (R j).1) ∧ w.cell? ⟨gh, j, none⟩ = some (.bool (R j).1.isSome)) ∧ w.there gl 0 n ∧ w.there gd 0 n ∧ w.there gh 0 n ∧ Below wE.heap.size wE w ∧ wE.heap.size ≤ w.heap.size
section
variable {gl gd gh n k : Nat} {R : Nat → RU} {wE w w' : World}
theorem FL.keep (h : FL gl gd gh n k R wE w) (hb : Below w.heap.size w w') : FL gl gd gh n k R wE w' :=
  ⟨fun j hj => ⟨later hb (h.1 j hj).1, later hb (h.1 j hj).2.1, later hb (h.1 j hj).2.2⟩, th_keep hb h.2.1, th_keep hb h.2.2.1, th_keep hb h.2.2.2.1, h.2.2.2.2.1.trans (hb.mono h.2.2.2.2.2), Nat.le_trans h.2.2.2.2.2 hb.size⟩
/-- cell k of one of the three rows -/
theorem FL.junk (h : FL gl gd gh n k R wE w) {g : Nat} (hg : g = gl ∨ g = gd ∨ g = gh) (hB : wE.heap.size ≤ g) (u : Value) : FL gl gd gh n k R wE (w.setCell ⟨g, k, none⟩ u) := by
  obtain ⟨h1, h2, h3, h4, h5, h6⟩ := h
  have st : ∀ {q j : Nat} {v : Value}, j < k → w.cell? ⟨q, j, none⟩ = some v → (w.setCell ⟨g, k, none⟩ u).cell? ⟨q, j, none⟩ = some v := fun {q j v} hj hc => by
    by_cases e : g = q
    · subst e; exact set_far (by omega) hc
    · exact cell_other hc e
  exact ⟨fun j hj => ⟨st hj (h1 j hj).1, st hj (h1 j hj).2.1, st hj (h1 j hj).2.2⟩, th_set h2, th_set h3, th_set h4, h5.setCell hB _, by simpa [World.setCell] using h6⟩
theorem FL.next (h : FL gl gd gh n k R wE w) (c1 : w.cell? ⟨gl, k, none⟩ = some (.int .i32 (R k).2)) (c2 : w.cell? ⟨gd, k, none⟩ = some (pv (R k).1)) (c3 : w.cell? ⟨gh, k, none⟩ = some (.bool (R k).1.isSome)) : FL gl gd gh n (k + 1) R wE w := by
  refine ⟨fun j hj => ?_, h.2⟩
  by_cases e : j = k
  · subst e; exact ⟨c1, c2, c3⟩
  · exact h.1 j (by omega)
end
/-- the tokens laid, k of m -/
def VL (g m k : Nat) (T : Nat → ByteArray) (K : Nat → Int) (wE w : World) : Prop := TL w g k T K ∧ w.there g 0 (m * 7) ∧ Below wE.heap.size wE w ∧ wE.heap.size ≤ w.heap.size ∧ wE.heap.size ≤ g
theorem VL.keep {g m k : Nat} {T : Nat → ByteArray} {K : Nat → Int} {wE w w' : World} (h : VL g m k T K wE w) (hb : Below w.heap.size w w') : VL g m k T K wE w' := ⟨h.1.keep hb, th_keep hb h.2.1, h.2.2.1.trans (hb.mono h.2.2.2.1), Nat.le_trans h.2.2.2.1 hb.size, h.2.2.2.2⟩
theorem VL.put {g m k : Nat} {T : Nat → ByteArray} {K : Nat → Int} {wE w : World} (h : VL g m k T K wE w) (hk : k < m) : VL g m (k + 1) T K wE (w.setCells g (k * 7) (tkG (T k) (K k))) := by
  obtain ⟨h1, h2, h3, h4, h5⟩ := h
  have hl : ∀ j, (tkG (T j) (K j)).length = 7 := fun _ => rfl
  refine ⟨fun j hj => ?_, World.there_setCells h2 _ _ _, below_setCells h5 _ _ h3, by rw [size_setCells]; exact h4, h5⟩
  by_cases e : j = k
  · subst e
    exact World.rangeAt_setCells_same _ _ _ _ (th_sub h2 (by omega) (by rw [hl]; omega))
  · exact World.rangeAt_setCells_apart (h1 j (by omega)) _ _ _ (.inr (.inl (by rw [hl]; omega)))
theorem tkG_one (t : ByteArray) (k : Int) : ∀ v ∈ tkG t k, v.oneCell' = true := by
  intro v hv
  simp only [tkG, List.mem_cons, List.not_mem_nil, or_false] at hv
  rcases hv with rfl | rfl | rfl | rfl | rfl | rfl | rfl <;> rfl
theorem st_tok {w : World} {g m k : Nat} {t : ByteArray} {y : Int} (h : w.there g 0 (m * 7)) (hk : k < m) : (storeCells ⟨g, k * 7, none⟩ (tkG t y) 0).run Tryd.prog w = .ok () (w.setCells g (k * 7) (tkG t y)) := by
  have ht : w.there g (k * 7) 7 := th_sub h (by omega) (by omega)
  have := run_storeCells_cells (P := Tryd.prog) g (k * 7) (tkG t y) 0 w (fun j hj => (ht j hj).1) (fun j hj => (ht j hj).2) (tkG_one t y)
  simpa using this
theorem infoDe : ∃ j, Tryd.prog.info? 48 = some j ∧ j.size = 6 := by
  have h : (Tryd.prog.info? 48).map (·.size) = some 6 := by kernel_rfl
  cases hx : Tryd.prog.info? 48 with
  | none => rw [hx] at h; simp at h
  | some j => rw [hx] at h; exact ⟨j, rfl, by simpa using h⟩
theorem pn_same (x : Option Nat) (w : World) : (binOp .neq 44 (pv x) (pv x)).run Tryd.prog w = .ok (.bool false) w := by
  cases x with
  | none => unfold pv; kernel_rfl
  | some d =>
    unfold pv
    obtain ⟨j, hj, -⟩ := infoDe
    exact Lib.run_neq_ptr_same w _ Tryd.underlying44 hj
end Go.Proofs.YtnihlfldlkkobaaDoor.Bx
