/-
  Flattening where nothing is to be done.
-/
import Derived.Test.YtbpnmiedomchpaaFp
namespace Go.Proofs.Ytbpnmiedomchpaa.Fg
open Go.ChangeShapes Go.WideShapes Go.ChangeAt Go.RowKit Rg
set_option linter.unusedVariables false
set_option linter.unusedSimpArgs false
/-- wpl_appR, and a row with room stays where it is -/
theorem wpl_appR2 {P : Program} {w : World} {ops : Array Oper} {rest : List Oper} {o : Oper} {a : Act} {Q : Exit → Act → World → Prop} (hgd : o.guard = none) (s x : Operand) (t : TypeId)
    (ho : o.op = .call { callee := .builtin .append, args := #[s, x], argTypes := #[t, t] })
    (base : Nat) (e : TypeId) (i : TypeInfo) (z : Value) (size bytes : Nat) (ht : P.underlying t = some (.slice e)) (hi : P.info? e = some i) (hz : i.zero = some z)
    (hsize : i.size = size) (hby : i.bytes = bytes) (hzs : z.cells.size = size) (hsz : 0 < size)
    (v : Value) (n : Nat) (xs : List Value) (hs : a.eval s = v) (hown : w.ownsRow base e size v n xs)
    (aa : Addr) (m c : Nat) (ys : List Value) (hx : a.eval x = .slice (some aa) m c) (hl : ys.length = m * size) (hys : ∀ j u, ys[j]? = some u → w.cell? (aa.add j) = some u) (h1 : ∀ y ∈ ys, y.oneCell' = true)
    (hm0 : 0 < m) (h63 : n + m ≤ maxLen) (hbytes : (n + m) * bytes ≤ 140737488355328) (hbase : base ≤ w.heap.size)
    (h : ∀ v' w', w'.ownsRow base e size v' (n + m) (xs ++ ys) → w.grownBy w' v.ownBlock → (v'.ownBlock = v.ownBlock ∨ (v'.ownBlock = some w.heap.size ∧ ∀ la lc, v = .slice la n lc → lc < n + m)) → wpList P ops Q rest (a.put o.dst v') w') :
    wpList P ops Q (o :: rest) a w := by
  by_cases hr : ∃ g cap, v = .slice (some ⟨g, 0, none⟩) n cap ∧ n + m ≤ cap
  · obtain ⟨g, cap, rfl, hroom⟩ := hr
    refine wpList_plain hgd fun K hK => ?_
    obtain ⟨w', hr, h2, h3⟩ := run_append_fits (P := P) w base t o.type e i size ht hi hsize g n cap xs hown aa m c ys hl hys h1 hroom
    unfold Oper.wp execOp
    simp only [ho, resolve, invoke, builtin, Sem.run_bind, Sem.run_pure, Result.andThen_ok, List.map_toArray, List.map_cons, List.map_nil, hs, hx, hr]
    exact hK _ _ (h _ w' h2 h3 (.inl rfl))
  · refine wpl_appR hgd s x t ho base e i z size bytes ht hi hz hsize hby hzs hsz v n xs hs hown (some aa) m c ys hx hl (fun q => by cases q) (fun a' ha' => by cases ha'; exact hys) h1 h63 hbytes hbase (fun v' w' q1 q2 q3 => h v' w' q1 q2 ?_)
    rcases q3 with q3 | q3
    · exact .inl q3
    · by_cases hm : ∃ la lc, v = .slice la n lc ∧ n + m ≤ lc
      · obtain ⟨la, lc, rfl, hlc⟩ := hm
        rcases hown.2 with ⟨q, q0⟩ | ⟨g, cap, cur, q, -⟩
        · simp only [Value.slice.injEq] at q
          obtain ⟨rfl, rfl, rfl⟩ := q
          omega
        · simp only [Value.slice.injEq] at q
          obtain ⟨rfl, -, rfl⟩ := q
          exact absurd ⟨g, lc, rfl, hlc⟩ hr
      · refine .inr ⟨q3, fun la lc q => ?_⟩
        by_cases hlc : lc < n + m
        · exact hlc
        · exact absurd ⟨la, lc, q, by omega⟩ hm
/-- the list with one selector more -/
def FlR (lv : Value) (nl : Nat) (cs : List Value) (v' : Value) (w : World) (e : Ending) (w' : World) : Prop :=
  ∃ lv', e = .returned lv' ∧ w'.ownsRow 0 40 1 lv' (nl + 1) (cs ++ [v']) ∧ (lv'.ownBlock = lv.ownBlock ∨ ((∀ y, lv'.ownBlock = some y → w.heap.size ≤ y) ∧ ∀ la lc, lv = .slice la nl lc → lc ≤ nl))
set_option maxRecDepth 100000 in
set_option maxHeartbeats 16000000 in
theorem flat_same (pp md nl : Nat) (lv v : Value) (cs : List Value) (X : Nat → Prop) (M : List (Cp Su)) (w : World) (hX : ∀ b, X b → b < w.heap.size) (h : CxV e1 X w v M) (hbd : Bd M) (hmd : w.cell? ⟨pp, 52, none⟩ = some (.int .u8 (md : Nat))) (hm : md = 0 ∨ lgM M = false)
    (hl : w.ownsRow 0 40 1 lv nl cs) (hn : nl ≤ 1048576) :
    Calls Try.prog 18 #[.pointer (some ⟨pp, 0, none⟩), lv, .agg #[v]] w (fun e w' => FlR lv nl cs v w e w' ∧ Fr (fun k => some k = lv.ownBlock) w w') := by
  obtain ⟨va, vc, hve⟩ := RW.slice h
  obtain ⟨n, hnn⟩ : ∃ n, n = M.length := ⟨_, rfl⟩
  rw [← hnn] at hve
  subst hve
  obtain ⟨la, lc, rfl⟩ := own_slice hl
  obtain ⟨i1, hi, hz0, hz1, hz2⟩ := info_parts infoCpl
  have HK := Lib.hid (And.intro hi (And.intro hz0 (And.intro hz1 hz2)))
  clear hi hz0 hz1 hz2
  obtain ⟨tX, hXx, hX2⟩ := tyCpl
  have HO := Lib.hid (And.intro h (And.intro hX (And.intro hbd hm)))
  have HL := Lib.hid hl
  clear h hX hbd hm hl hnn
  go_enter Try.func18, Try.ntmps18
  go_upto_region 1 with fail
  have hb : Below w.heap.size w (w.alloc (.cells #[.slice va n vc] 40)) := (Below.refl _ _).alloc (Nat.le_refl _) _
  have hr := rg_new w #[.slice va n vc] 40
  generalize w.alloc _ = w1 at *
  obtain ⟨b5, hb5⟩ : ∃ b, b = w.heap.size := ⟨_, rfl⟩
  rw [← hb5] at hr ⊢
  have H5 := Lib.hid (And.intro hr (And.intro hb hb5))
  have c5 := hr 0 _ rfl
  simp only [Nat.zero_add] at c5
  have hmd1 := later hb hmd
  clear hr hb hb5 hmd
  go_cut [27] (fun x wx => x = .bool false ∧ Hid (Below w1.heap.size w1 wx))
  case first =>
    by_cases hz : md = 0
    · as_aux_lemma =>
      subst hz
      go_wp2_with fail
      go_meet
      exact ⟨rfl, Lib.hid (Below.refl _ _)⟩
    · as_aux_lemma =>
      have hz2 : ((md : Int) == 0) = false := beq_eq_false_iff_ne.2 (by omega)
      have HZ := Lib.hid hz
      have HCON := Lib.hid (con_any X (.slice va n vc) M w1 (fun b hb => Nat.lt_of_lt_of_le (HO.out.2.1 b hb) H5.out.2.1.size) (CxV.to loc1 HO.out.1 (To.below HO.out.2.1 H5.out.2.1)) HO.out.2.2.1)
      clear hz
      go_wp2_with fail
      refine HCON.out.mono ?_
      rintro e w2 ⟨rfl, hb2⟩
      have HB := Lib.hid hb2
      clear hb2
      have hlg : lgM M = false := by
        rcases HO.out.2.2.2 with h | h
        · exact absurd h HZ.out
        · exact h
      rw [hlg]
      clear hlg
      go_wp2_with fail
      go_meet
      exact ⟨rfl, HB⟩
  case rest =>
  obtain ⟨rfl, HB⟩ := hcut
  obtain ⟨w2, hw2⟩ : ∃ x, x = wc := ⟨_, rfl⟩
  subst hw2
  as_aux_lemma =>
  have hb2 : Below w.heap.size w w2 := H5.out.2.1.trans (HB.out.mono H5.out.2.1.size)
  have hr2 := rg_keep HB.out H5.out.1
  have c6 := hr2 0 _ rfl
  simp only [Nat.zero_add] at c6
  have hbs := bs_cpl (.slice va n vc) w2
  have hal : Below w2.heap.size w2 (w2.alloc (.cells #[.slice va n vc] 40)) := (Below.refl _ _).alloc (Nat.le_refl _) _
  have hblk := heap_alloc_new w2 (.cells #[.slice va n vc] 40)
  obtain ⟨w7, hw7⟩ : ∃ x, x = w2.alloc (.cells #[.slice va n vc] 40) := ⟨_, rfl⟩
  rw [← hw7] at hal hbs hblk
  have hb7 := hb2.trans (hal.mono hb2.size)
  have HOWN := Lib.hid (own_keep HL.out hb7)
  have HB7 := Lib.hid hb7
  obtain ⟨g7, hg7⟩ : ∃ x', x' = w2.heap.size := ⟨_, rfl⟩
  rw [← hg7] at hbs hblk
  have HBK := Lib.hid hblk
  have HSZ := Lib.hid (show w.heap.size ≤ g7 by rw [hg7]; exact hb2.size)
  clear hw7 hal hblk hb7 hb2 hr2 hg7 c5 hmd1 HB
  go_wp2_with (first
    | (refine wpl_bs1 rfl 27 (.tmp 155) rfl _ _ _ ?hx hbs ?_; case hx => (show _ = _; rfl))
    | (at_builtin
       refine wpl_appR2 rfl (.tmp 154) (.tmp 156) _ rfl 0 40 i1 _ 1 24 Try.underlying27 HK.out.1 HK.out.2.1 HK.out.2.2.1 HK.out.2.2.2 rfl (by omega) (.slice la nl lc) nl cs (show _ = _ from rfl) HOWN.out ⟨g7, 0, none⟩ 1 1 [.slice va n vc] (show _ = _ from rfl) rfl (World.news_of_block HBK.out) (fun u hu => by rw [List.mem_singleton.1 hu]; rfl) (by omega) (by unfold maxLen; omega) (by omega) (Nat.zero_le _) ?_
       intro v8 w8 hown8 hgrow8 hat8
       have HF := Lib.hid (And.intro hown8 (And.intro hgrow8 hat8))
       clear hown8 hgrow8 hat8))
  have hfin : FlR (.slice la nl lc) nl cs (.slice va n vc) w (.returned v8) w8 ∧ Fr (fun k => some k = (Value.slice la nl lc).ownBlock) w w8 := by
    refine ⟨⟨_, rfl, HF.out.1, ?_⟩, (Fr.new HB7.out).trans (Fr.ofGrown HF.out.2.1 (fun k q => q))⟩
    rcases HF.out.2.2 with h | h
    · exact .inl h
    · refine .inr ⟨fun y hy => ?_, fun la' lc' q => by have := h.2 la' lc' q; omega⟩
      rw [h.1] at hy
      cases hy
      exact HB7.out.size
  go_ret
  exact hfin
end Go.Proofs.Ytbpnmiedomchpaa.Fg
