/-
  A selector as it is observed.
-/
import Derived.Test.YtbpnmiedomchpaaFy
namespace Go.Proofs.Ytbpnmiedomchpaa.Fg
open Go.ChangeShapes Go.WideShapes Go.ChangeAt Go.RowKit Rg
set_option linter.unusedVariables false
set_option linter.unusedSimpArgs false
structure Gp where
  cb : Nat
  ty : ByteArray
  nl : Nat
  sv : Value
  we : Bool
def Gp.cells (x : Gp) : List Value := grc x.cb x.ty x.nl x.sv x.we
def GpV (X : Nat → Prop) (w : World) (x : Gp) (c : Cp Su) : Prop := x.cb = c.cb ∧ x.ty = tyS c.tp ∧ x.nl = c.nest ∧ x.we = c.we ∧ RW X w 1 one (fun v su => v = encV su) x.sv c.subs
theorem locG : LocE GpV := fun X Y w w' x a ht h => ⟨h.1, h.2.1, h.2.2.1, h.2.2.2.1, h.2.2.2.2.to ht (fun _ _ h => h)⟩
def GsV (X : Nat → Prop) (w : World) (v : Value) (M : List (Cp Su)) : Prop := RW X w 5 Gp.cells (GpV X w) v M
theorem infoGrp : (Try.prog.info? 48).map (fun i => (i.zero, i.size, i.bytes)) = some (some (.agg #[.int .u8 0, .string ⟨#[]⟩, .int .i64 0, .slice none 0 0, .bool false]), 5, 64) := by kernel_rfl
theorem bs_grp (x : Gp) (w : World) : (Instr.buildSlice 49 1 #[(0, .agg x.cells.toArray)]).run Try.prog w = .ok (.slice (some ⟨w.heap.size, 0, none⟩) 1 1) (w.alloc (.cells x.cells.toArray 48)) := by
  obtain ⟨i0, hi, hz0, hz1, hz2⟩ := info_parts infoGrp
  exact run_buildSlice w 49 48 1 _ _ i0 _ Try.underlying49 hi hz0 (by rw [hz1]; decide) (by rw [hz1]; decide) (by rw [hz1]; kernel_rfl)
theorem map_one (l : List Value) : l.flatMap one = l := by
  induction l with
  | nil => rfl
  | cons x r ih => rw [List.flatMap_cons, ih]; rfl
/-- what may be observed -/
def ObM (M : List (Cp Su)) : Prop := M.length ≤ 4194305 ∧ ∀ c ∈ M, (∀ s ∈ c.subs, QS s) ∧ c.subs.length ≤ 4398046511104 ∧ c.nest ≤ 4398046511104
/-- the groups so far -/
structure Os (w : World) (b1 : Nat) (rv : Value) (M : List (Cp Su)) (k : Nat) (v : Value) (W : World) : Prop where
  bel : Below w.heap.size w W
  r1 : W.cell? ⟨b1, 0, none⟩ = some rv
  bb : w.heap.size ≤ b1 ∧ b1 < W.heap.size
  row : Bld 48 5 Gp.cells GpV (b1 + 1) (fun y => w.heap.size ≤ y ∧ y < W.heap.size) v (M.take k) W
theorem Os.push {w : World} {b1 k : Nat} {rv v : Value} {M : List (Cp Su)} {W W2 : World} {G : Gp} (h : Os w b1 rv M k v W) (hk : k < M.length) (hb : Below W.heap.size W W2) (h1 : G.cb = M[k].cb) (h2 : G.ty = tyS M[k].tp) (h3 : G.nl = M[k].nest) (h4 : G.we = M[k].we)
    (hrow : W2.ownsRow W.heap.size 9 1 G.sv M[k].subs.length (M[k].subs.map encV)) : ∃ B : List Gp, W2.ownsRow (b1 + 1) 48 5 v k (B.flatMap Gp.cells) ∧
    ∀ W' v', W'.ownsRow (b1 + 1) 48 5 v' (k + 1) (B.flatMap Gp.cells ++ G.cells) → W2.grownBy W' v.ownBlock → (v'.ownBlock = v.ownBlock ∨ ∀ y, v'.ownBlock = some y → W2.heap.size ≤ y) → Os w b1 rv M (k + 1) v' W' := by
  have hlen : (M.take k).length = k := by rw [List.length_take]; omega
  have hbw := h.bel.trans (hb.mono h.bel.size)
  have hZ : ∀ y, (w.heap.size ≤ y ∧ y < W.heap.size) → y < W.heap.size := fun y hy => hy.2
  obtain ⟨B, hB1, hB2, hB3⟩ := h.row.keep (Z' := fun y => w.heap.size ≤ y ∧ y < W2.heap.size) locG hb hZ (fun y hy => ⟨hy.1, Nat.lt_of_lt_of_le hy.2 hb.size⟩)
  have hB2' := hB2
  rw [hlen] at hB2'
  refine ⟨B, hB2', fun W' v' ho hg hv => ?_⟩
  have hown : ∀ y, v.ownBlock = some y → b1 + 1 ≤ y ∧ y < W.heap.size := fun y hy => h.row.lt hy
  have hbb := hb.size
  have hb1 := h.bb
  have hG : GpV (fun y => (w.heap.size ≤ y ∧ y < W2.heap.size) ∧ some y ≠ v.ownBlock) W2 G M[k] := by
    refine ⟨h1, h2, h3, h4, own_view (B := M[k].subs.map encV) (s := 1) (cells := one) (by rw [map_one]; exact hrow) (by rw [List.length_map]) (fun _ => rfl) (fun y hy => ?_) (fun i p q => by rw [List.getElem_map])⟩
    have := hrow.lt y hy
    exact ⟨⟨by omega, this.2⟩, fun q => by have := hown y q.symm; omega⟩
  have hp : Bld 48 5 Gp.cells GpV (b1 + 1) (fun y => w.heap.size ≤ y ∧ y < W'.heap.size) v' (M.take k ++ [M[k]]) W' := Bld.push (Z := fun y => w.heap.size ≤ y ∧ y < W2.heap.size) locG hB1 hB3 (fun y hy => hy.2) (fun y hy => ⟨hy.1, Nat.lt_of_lt_of_le hy.2 hg.size⟩) hG (by rw [hlen]; exact ho) hg hv
  rw [← List.take_succ_eq_append_getElem hk] at hp
  refine ⟨hbw.grown hg hbw.size (fun y hy => by have := hown y hy; omega), ?_, ⟨hb1.1, by have := hg.size; omega⟩, hp⟩
  exact cell_ag (hg.block b1 (by omega) (fun q => by have := hown b1 q.symm; omega)) (later hb h.r1)
theorem gp_one (G : Gp) (h : G.sv.oneCell' = true) : ∀ u ∈ G.cells, u.oneCell' = true := fun u hu => by
  simp only [Gp.cells, grc, List.mem_cons, List.not_mem_nil, or_false] at hu
  rcases hu with rfl | rfl | rfl | rfl | rfl
  · rfl
  · rfl
  · rfl
  · exact h
  · rfl
set_option maxRecDepth 100000 in
set_option maxHeartbeats 8000000 in
theorem obx_any (X : Nat → Prop) (v : Value) (M : List (Cp Su)) (w : World) (hX : ∀ b, X b → b < w.heap.size) (h : CxV e1 X w v M) (hM : ObM M) :
    Calls Try.prog 14 #[.agg #[v]] w (fun e w' => ∃ v', e = .returned v' ∧ GsV (fun b => w.heap.size ≤ b ∧ b < w'.heap.size) w' v' M ∧ Below w.heap.size w w') := by
  obtain ⟨va, vc, hve⟩ := RW.slice h
  obtain ⟨n, hn⟩ : ∃ n, n = M.length := ⟨_, rfl⟩
  rw [← hn] at hve
  subst hve
  have hn4 : n ≤ 4194305 := by rw [hn]; exact hM.1
  obtain ⟨tC, hC, hC2⟩ := tyCmp
  obtain ⟨i0, hi, hz0, hz1, hz2⟩ := info_parts infoGrp
  have HK := Lib.hid (And.intro hi (And.intro hz0 (And.intro hz1 hz2)))
  have hmk : ∀ W : World, (Instr.makeSlice 49 (.int .i64 0) (.int .i64 (n : Int))).run Try.prog W = .ok (.slice (some ⟨W.heap.size, 0, none⟩) 0 n) (W.alloc (.cells (madeCells #[.int .u8 0, .string ⟨#[]⟩, .int .i64 0, .slice none 0 0, .bool false] (n * 5)) 48)) := fun W => by
    have h := run_make_rowN (P := Try.prog) 49 48 i0 _ (by kernel_rfl) hi hz0 .i64 .i64 0 n (by omega) (by rw [hz2]; omega) (by omega) W
    rw [hz1] at h
    exact h
  have HX := Lib.hid (And.intro h (And.intro hX (And.intro hM hn)))
  clear h hX hM hn hi hz0 hz1 hz2
  go_enter Try.func14, Try.ntmps14
  go_upto_region 1 with fail
  have hb1 : Below w.heap.size w (w.alloc (.cells #[.slice va n vc] 40)) := (Below.refl _ _).alloc (Nat.le_refl _) _
  have hr1 := rg_new w #[.slice va n vc] 40
  have hs1 : (w.alloc (.cells #[.slice va n vc] 40)).heap.size = w.heap.size + 1 := World.size_alloc _ _
  generalize w.alloc _ = w1 at *
  obtain ⟨b1, hq1⟩ : ∃ b, b = w.heap.size := ⟨_, rfl⟩
  rw [← hq1] at hr1 ⊢
  have c1 := hr1 0 _ rfl
  simp only [Nat.zero_add] at c1
  have hmk1 := hmk w1
  have hb2 : Below w1.heap.size w1 (w1.alloc (.cells (madeCells #[.int .u8 0, .string ⟨#[]⟩, .int .i64 0, .slice none 0 0, .bool false] (n * 5)) 48)) := (Below.refl _ _).alloc (Nat.le_refl _) _
  have ho2 : (w1.alloc (.cells (madeCells #[.int .u8 0, .string ⟨#[]⟩, .int .i64 0, .slice none 0 0, .bool false] (n * 5)) 48)).ownsRow w1.heap.size 48 5 (.slice (some ⟨w1.heap.size, 0, none⟩) 0 n) 0 [] := by
    simpa using World.ownsRow_made w1 (madeCells #[.int .u8 0, .string ⟨#[]⟩, .int .i64 0, .slice none 0 0, .bool false] (n * 5)) n (Nat.le_refl _) (by unfold maxLen; omega) (by simp [madeCells])
  obtain ⟨w2, hw2⟩ : ∃ x, x = w1.alloc (.cells (madeCells #[.int .u8 0, .string ⟨#[]⟩, .int .i64 0, .slice none 0 0, .bool false] (n * 5)) 48) := ⟨_, rfl⟩
  rw [← hw2] at hmk1 hb2 ho2
  obtain ⟨g2, hg2⟩ : ∃ x, x = w1.heap.size := ⟨_, rfl⟩
  have HST := Lib.hid (show Os w b1 (.slice va n vc) M 0 (.slice (some ⟨g2, 0, none⟩) 0 n) w2 from
    ⟨hb1.trans (hb2.mono hb1.size), later hb2 c1, by have := hb2.size; omega, ⟨[], rfl, by rw [hg2]; exact own_mono ho2 (by omega), fun i p => absurd p (Nat.not_lt_zero _)⟩⟩)
  have c2 := later hb2 c1
  rw [← hg2] at hmk1
  clear hb1 hr1 hs1 hq1 hb2 ho2 hw2 hg2 hmk
  as_aux_lemma =>
  go_upto_block 0 with (refine wpl_mk rfl 49 _ _ rfl (.int .i64 0) (.int .i64 (n : Int)) _ _ (show _ = _ from rfl) (show _ = _ from rfl) hmk1 ?_)
  clear hmk1 c1 c2
  refine wp_block ?_
  go_loopw [3, 4] (fun ov iv wr => ∃ (k : Nat) (oa : Option Addr) (oc : Nat), k ≤ n ∧ ov = .slice oa k oc ∧ iv = .int .i64 k ∧ Hid (Os w b1 (.slice va n vc) M k (.slice oa k oc) wr)) (fun _ iv _ => n - (intOf iv).toNat)
  case atStart => exact ⟨0, _, _, Nat.zero_le _, rfl, rfl, HST⟩
  case round =>
    clear HST
    obtain ⟨k, oa, oc, hk, rfl, rfl, HR⟩ := hrel
    have c1 := HR.out.r1
    by_cases hlt : k < n
    · as_aux_lemma =>
      have q0 : (0 : Int) ≤ k := by omega
      have q1 : (k : Int) < n := by omega
      have kL : k < M.length := by have := HX.out.2.2.2; omega
      obtain ⟨g, o, c, tv, sa, sc, la, lc, hve, hXg, hr, hx⟩ := CxV.at HX.out.1 kL
      simp only [Value.slice.injEq] at hve
      obtain ⟨rfl, hz, rfl⟩ := hve
      clear hz
      have hMk := HX.out.2.2.1.2 _ (List.getElem_mem kL)
      obtain ⟨m, hm⟩ : ∃ m, m = M[k].subs.length := ⟨_, rfl⟩
      obtain ⟨ln, hln⟩ : ∃ m, m = M[k].nest := ⟨_, rfl⟩
      obtain ⟨cb, hcb⟩ : ∃ m, m = M[k].cb := ⟨_, rfl⟩
      obtain ⟨we, hwe⟩ : ∃ m, m = M[k].we := ⟨_, rfl⟩
      rw [← hm, ← hln, ← hcb, ← hwe] at hr hx
      obtain ⟨pt, hpt⟩ := Pty.ptr hx.1.pty
      dsimp only at hpt
      subst hpt
      have hXW : ∀ b, X b → b < wr.heap.size := fun b h => Nat.lt_of_lt_of_le (HX.out.2.1 b h) HR.out.bel.size
      have HOB := Lib.hid (obc_any X pt sa la m sc ln lc cb we M[k] wr hXW (CpV.to loc1 hx (To.below HX.out.2.1 HR.out.bel)) hMk.1 (by rw [hm]; exact hMk.2.1) (by rw [hln]; exact hMk.2.2))
      have HRW := Lib.hid (rg_ag (HR.out.bel.block g (HX.out.2.1 g hXg)) hr)
      have HEQ := Lib.hid (And.intro hm (And.intro hln (And.intro hcb hwe)))
      clear hm hln hcb hwe hr hx hXg hXW hMk
      go_wp2_with (refine wpList_load_mid ?hgd 37 (.tmp 20) ?hoq g (o + k * 6) ?hpa (Cv.cells ⟨.pointer pt, .slice sa m sc, .slice la ln lc, cb, we⟩) tC ?hrq hC hC2 szCmp ?_
                   case hoq => rfl
                   case hgd => rfl
                   case hpa => first | rfl | simp
                   case hrq => exact HRW.out)
      refine HOB.out.mono ?_
      rintro e w5 ⟨sa5, sc5, rfl, hrow5, hb5⟩
      obtain ⟨ty, hty⟩ : ∃ t, t = tyS M[k].tp := ⟨_, rfl⟩
      rw [← hty]
      have hal : Below w5.heap.size w5 (w5.alloc (.cells (Gp.cells ⟨cb, ty, ln, .slice sa5 m sc5, we⟩).toArray 48)) := (Below.refl _ _).alloc (Nat.le_refl _) _
      have hblk := heap_alloc_new w5 (.cells (Gp.cells ⟨cb, ty, ln, .slice sa5 m sc5, we⟩).toArray 48)
      have hbs := bs_grp ⟨cb, ty, ln, .slice sa5 m sc5, we⟩ w5
      obtain ⟨w6, hw6⟩ : ∃ x, x = w5.alloc (.cells (Gp.cells ⟨cb, ty, ln, .slice sa5 m sc5, we⟩).toArray 48) := ⟨_, rfl⟩
      rw [← hw6] at hal hblk hbs
      obtain ⟨g6, hg6⟩ : ∃ x, x = w5.heap.size := ⟨_, rfl⟩
      obtain ⟨B, hown, hpu⟩ := HR.out.push (G := ⟨cb, ty, ln, .slice sa5 m sc5, we⟩) kL (hb5.trans (hal.mono hb5.size)) HEQ.out.2.2.1 hty HEQ.out.2.1 HEQ.out.2.2.2 (by rw [← HEQ.out.1]; exact own_keep hrow5 hal)
      have hbase : b1 + 1 ≤ w6.heap.size := by have := HR.out.bb; have := hb5.size; have := hal.size; omega
      rw [← hg6] at hblk hbs
      have HOWN := Lib.hid hown
      have HPU := Lib.hid hpu
      have HBK := Lib.hid hblk
      have HBS := Lib.hid hbase
      clear hal hblk hw6 hg6 hown hpu hrow5 hb5 hty hbase HOB HRW HR c1
      go_wp2_with (first
        | (at_builtin
           refine wpl_appR rfl (.tmp 16) (.tmp 23) _ rfl (b1 + 1) 48 i0 _ 5 64 Try.underlying49 HK.out.1 HK.out.2.1 HK.out.2.2.1 HK.out.2.2.2 rfl (by omega) (.slice oa k oc) k (B.flatMap Gp.cells) (show _ = _ from rfl) HOWN.out (some ⟨g6, 0, none⟩) 1 1 (Gp.cells ⟨cb, ty, ln, .slice sa5 m sc5, we⟩) (show _ = _ from rfl) rfl (fun h => by cases h) (fun aa haa => by cases haa; exact World.news_of_block HBK.out) (gp_one _ rfl) (by unfold maxLen; omega) (by omega) HBS.out ?_
           intro v9 w9 hown9 hgrow9 hat9
           obtain ⟨sa9, sc9, rfl⟩ := own_slice hown9
           have HNX := Lib.hid (HPU.out _ _ hown9 hgrow9 (hat9.imp id (fun q y hy => by rw [q] at hy; cases hy; exact Nat.le_refl _)))
           clear hown9 hgrow9 hat9)
        | (refine wpl_bs1 ?hgd 49 (.tmp 22) ?hoq (.agg (Gp.cells ⟨cb, ty, ln, .slice sa5 m sc5, we⟩).toArray) (.slice (some ⟨g6, 0, none⟩) 1 1) w6 ?hxq ?hrq ?_
           case hoq => rfl
           case hgd => rfl
           case hrq => exact hbs
           case hxq => (show _ = _; rfl)))
      exact ⟨⟨k + 1, _, _, by omega, rfl, by go_num, HNX⟩, by simp [intOf]; omega⟩
    · as_aux_lemma =>
      obtain rfl : k = n := by omega
      have HF := Lib.hid (show GsV (fun b => w.heap.size ≤ b ∧ b < wr.heap.size) wr (.slice oa k oc) M from by
        have h := HR.out.row
        rw [List.take_of_length_le (by have := HX.out.2.2.2; omega)] at h
        exact Bld.view (s := 5) (cells := Gp.cells) locG (fun _ => rfl) h (fun y hy => hy) (fun y hy => by have := h.lt hy; have := HR.out.bb; omega))
      go_wp2_with fail
      go_ret
      exact ⟨_, rfl, HF.out, HR.out.bel⟩
end Go.Proofs.Ytbpnmiedomchpaa.Fg
