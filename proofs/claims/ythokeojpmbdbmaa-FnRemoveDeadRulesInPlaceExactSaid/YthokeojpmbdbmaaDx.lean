/-
  The removal of dead rules.
-/
import Derived.Test.YthokeojpmbdbmaaDw
import Derived.WalkMore
namespace Go.Proofs.Ythokeojpmbdbmaa.Dr
open Go.ChangeShapes Go.WideShapes Go.ChangeAt Go.RowKit Rg
open Go.ChangeMaps (setBlock)
set_option linter.unusedVariables false
set_option linter.unusedSimpArgs false
theorem wpl_lookup {P : Program} (w : World) {ops : Array Oper} {rest : List Oper} {o : Oper} {a : Act} {Q : Exit → Act → World → Prop}
    (hg : o.guard = none) (m x : Operand) (t : TypeId) (c : Bool) (hop : o.op = Op.lookup t m x c) (mv kv r : Value) (hm : a.eval m = mv) (hx : a.eval x = kv) (hrun : (Instr.lookup t mv kv c).run P w = .ok r w)
    (hK : wpList P ops Q rest (a.put o.dst r) w) : wpList P ops Q (o :: rest) a w := by
  refine wpList_plain hg fun K' hK' => ?_
  unfold Oper.wp
  simp [execOp, hop, hm, hx, hrun, Result.andThen]
  exact hK' _ _ hK
theorem wpl_mapUpdate {P : Program} (w w' : World) {ops : Array Oper} {rest : List Oper} {o : Oper} {a : Act} {Q : Exit → Act → World → Prop}
    (hg : o.guard = none) (m x v : Operand) (t : TypeId) (hop : o.op = Op.mapUpdate t m x v) (mv kv vv : Value) (hm : a.eval m = mv) (hx : a.eval x = kv) (hv : a.eval v = vv) (hrun : (Instr.mapUpdate t mv kv vv).run P w = .ok () w')
    (hK : wpList P ops Q rest (a.put o.dst undef) w') : wpList P ops Q (o :: rest) a w := by
  refine wpList_plain hg fun K' hK' => ?_
  unfold Oper.wp
  simp [execOp, hop, hm, hx, hv, hrun, Result.andThen]
  exact hK' _ _ hK
theorem tyRue : ∃ d, Try.prog.underlying 73 = some d ∧ d.isRow = true := ⟨_, Try.underlying73, rfl⟩
theorem szRue : (Try.prog.info? 73).map (·.size) = some 2 := by kernel_rfl
theorem tyHe : ∃ d, Try.prog.underlying 71 = some d ∧ d.isRow = true := ⟨_, Try.underlying71, rfl⟩
theorem szHe : (Try.prog.info? 71).map (·.size) = some 1 := by kernel_rfl
theorem infoCal : (Try.prog.info? 61).map (fun i => (i.zero, i.size, i.bytes)) = some (some (.agg #[.slice none 0 0, .int .u32 0]), 2, 32) := by kernel_rfl
theorem infoRue : (Try.prog.info? 73).map (fun i => (i.zero, i.size, i.bytes)) = some (some (.agg #[.nilIface, .int .u32 0]), 2, 24) := by kernel_rfl
theorem fill_cal (s : Nat) (hs : s = 2) : Instr.fill (fun i => some (i * s, s)) ((Array.range (1 * s)).map ((Value.agg #[.slice none 0 0, .int .u32 0]).cells[· % (Value.agg #[.slice none 0 0, .int .u32 0]).cells.size]!)) [(0, Value.agg #[.slice none 0 0, .int .u32 0])] = some #[.slice none 0 0, .int .u32 0] := by
  subst hs; kernel_rfl
theorem bs_cal (w : World) : (Instr.buildSlice 32 1 #[(0, .agg #[.slice none 0 0, .int .u32 0])]).run Try.prog w = .ok (.slice (some ⟨w.heap.size, 0, none⟩) 1 1) (w.alloc (.cells #[.slice none 0 0, .int .u32 0] 61)) := by
  obtain ⟨i0, hi, hz0, hz1, hz2⟩ := info_parts infoCal
  exact run_buildSlice w 32 61 1 _ _ i0 _ Try.underlying32 hi hz0 (by rw [hz1]; decide) (by rw [hz1]; decide) (fill_cal i0.size hz1)
theorem fill_rue (p : Nat) (s : Nat) (hs : s = 2) : Instr.fill (fun i => some (i * s, s)) ((Array.range (1 * s)).map ((Value.agg #[.nilIface, .int .u32 0]).cells[· % (Value.agg #[.nilIface, .int .u32 0]).cells.size]!)) [(0, Value.agg #[ifR p, .int .u32 0])] = some #[ifR p, .int .u32 0] := by
  subst hs; kernel_rfl
theorem bs_rue (p : Nat) (w : World) : (Instr.buildSlice 69 1 #[(0, .agg #[ifR p, .int .u32 0])]).run Try.prog w = .ok (.slice (some ⟨w.heap.size, 0, none⟩) 1 1) (w.alloc (.cells #[ifR p, .int .u32 0] 73)) := by
  obtain ⟨i0, hi, hz0, hz1, hz2⟩ := info_parts infoRue
  exact run_buildSlice w 69 73 1 _ _ i0 _ Try.underlying69 hi hz0 (by rw [hz1]; decide) (by rw [hz1]; decide) (fill_rue p i0.size hz1)
theorem cf_r (A : Array Value) (w : World) : (callFunc 43 A).run Try.prog w = .ok (.enter 43 A) w := by kernel_rfl
theorem ch_r (A : Array Value) (w : World) : (callFunc 44 A).run Try.prog w = .ok (.enter 44 A) w := by kernel_rfl
theorem ruc_all (p : Nat) (x : Int) : (ruc p x).toArray.all (·.oneCell') = true := by simp [ruc, Value.oneCell']
theorem rue_all (p : Nat) : ([ifR p, .int .u32 0] : List Value).toArray.all (·.oneCell') = true := by simp [Value.oneCell']
def RmP (c : Cf) (w : World) (e : Ending) (w' : World) : Prop :=
  ∃ a cp, e = .returned (.slice a (c.K 0).length cp) ∧ Out c.T w w' ∧ ∀ t (h : t < (c.K 0).length), ∃ g o, a = some ⟨g, o, none⟩ ∧ w'.rangeAt g (o + t * 2) (c.rulc (c.K 0)[t])
set_option maxRecDepth 100000 in
set_option maxHeartbeats 16000000 in
theorem rem_any (c : Cf) (X : Nat → Prop) (w : World) (hc : COk c X w) (cap : Nat) (hcap : c.n ≤ cap)
    (hf0 : w.cell? ⟨c.rm, 0, none⟩ = some (.map (some c.bm))) (hf1 : w.cell? ⟨c.rm, 1, none⟩ = some (.slice none 0 0)) (hf2 : w.frozen? ⟨c.rm, 1, none⟩ = false) (hmap : w.heap[c.bm]? = some (.map #[] 0))
    (hrow : ∀ j, j < c.n → w.rangeAt c.gr (j * 2) (c.rulc j)) (hthe : w.there c.gr 0 (c.n * 2)) :
    Calls Try.prog 9 #[.pointer (some ⟨c.rm, 0, none⟩), .int .u32 0, .slice (some ⟨c.gr, 0, none⟩) c.n cap, .slice none 0 0] w (RmP c w) := by
  obtain ⟨i0, hi, hz0, hz1, hz2⟩ := info_parts infoCal
  have HI := Lib.hid (And.intro hi (And.intro hz0 (And.intro hz1 hz2)))
  clear hi hz0 hz1 hz2
  obtain ⟨i1, hi, hz0, hz1, hz2⟩ := info_parts infoRue
  have HJ := Lib.hid (And.intro hi (And.intro hz0 (And.intro hz1 hz2)))
  clear hi hz0 hz1 hz2
  obtain ⟨rm, hrm⟩ : ∃ x, x = c.rm := ⟨_, rfl⟩
  obtain ⟨gr, hgr⟩ : ∃ x, x = c.gr := ⟨_, rfl⟩
  obtain ⟨n, hn⟩ : ∃ x, x = c.n := ⟨_, rfl⟩
  obtain ⟨bm, hbm⟩ : ∃ x, x = c.bm := ⟨_, rfl⟩
  rw [← hrm, ← hgr, ← hn]
  rw [← hrm, ← hbm] at hf0
  rw [← hrm] at hf1 hf2
  rw [← hn] at hcap
  have HN := Lib.hid (And.intro hrm (And.intro hgr (And.intro hn hbm)))
  have HOK := Lib.hid hc
  have HRW := Lib.hid (And.intro hmap (And.intro hrow hthe))
  have HF0 := Lib.hid hf0
  have hb1 : Below w.heap.size w (w.alloc (.cells #[.slice none 0 0, .int .u32 0] 61)) := (Below.refl _ _).alloc (Nat.le_refl _) _
  have hbs := bs_cal w
  obtain ⟨w1, hw1⟩ : ∃ x, x = w.alloc (.cells #[.slice none 0 0, .int .u32 0] 61) := ⟨_, rfl⟩
  have hblk := heap_alloc_new w (.cells #[.slice none 0 0, .int .u32 0] 61)
  have hz1 : w1.heap.size = w.heap.size + 1 := by rw [hw1, World.size_alloc]
  rw [← hw1] at hb1 hbs hblk
  have HB1 := Lib.hid (And.intro hb1 (And.intro hblk hz1))
  clear hc hmap hrow hthe hrm hgr hn hbm hw1 hblk hz1
  obtain ⟨g1, hg1⟩ : ∃ x, x = w.heap.size := ⟨_, rfl⟩
  rw [← hg1] at hbs HB1
  have hrl : rm < g1 := by rw [HN.out.1, hg1]; exact HOK.out.rl
  have HG1 := Lib.hid (And.intro hg1 hrl)
  clear hg1 hrl
  go_enter Try.func9, Try.ntmps9
  go_wp2_with fail
  go_step3
  go_upto_region 3 with (first
    | (refine wpl_bs1 rfl 32 (.tmp 36) rfl _ _ _ ?hx hbs ?_; case hx => (show _ = _; rfl))
    | (at_builtin
       refine wpList_append_lies _ rfl (.tmp 33) (.tmp 37) _ rfl w.heap.size 61 i0 _ 2 32 Try.underlying32 HI.out.1 HI.out.2.1 HI.out.2.2.1 HI.out.2.2.2 rfl (by omega) (.slice none 0 0) 0 [] ?hs ⟨rfl, .inl ⟨rfl, rfl⟩⟩ ⟨g1, 0, none⟩ 1 1 [.slice none 0 0, .int .u32 0] ?hx (by rfl) (World.news_of_block HB1.out.2.1) (by intro u hu; simp at hu; rcases hu with rfl | rfl <;> rfl) (by omega) (by unfold maxLen; omega) (by omega) (by rw [HB1.out.2.2]; have := HG1.out.1; omega) (g1 + 1) (by rw [HB1.out.2.2]) ?_; (case hs => exact rfl); (case hx => exact rfl)
       intro g7 cap7 w7 hown7 hgrow7 hat7 hlt7
       have hb7 : Below g1 w1 w7 := (Below.refl _ _).grown hgrow7 (by have := HB1.out.2.2; omega) (fun k hk => by cases hk)
       have hc7 : w7.cell? ⟨rm, 1, none⟩ = some (.slice none 0 0) := by rw [hb7.cell (p := ⟨rm, 1, none⟩) HG1.out.2, HB1.out.1.cell (p := ⟨rm, 1, none⟩) HG1.out.2]; exact hf1
       have hd7 : w7.frozen? ⟨rm, 1, none⟩ = false := by rw [hb7.frozen (p := ⟨rm, 1, none⟩) HG1.out.2, HB1.out.1.frozen (p := ⟨rm, 1, none⟩) HG1.out.2]; exact hf2))
  have hb7 : Below w.heap.size w w7 := by
    have h := (Below.refl w1.heap.size w1).grown hgrow7 (Nat.le_refl _) (fun k hk => by cases hk)
    rw [← HG1.out.1]
    exact HB1.out.1.trans (h.mono (by rw [HB1.out.2.2]; omega))
  have HR := Lib.hid (show RS c w n [] (World.setCell w7 ⟨rm, 1, none⟩ (.slice (some ⟨g7, 0, none⟩) 1 cap7)) from by
    rw [HN.out.1, HN.out.2.2.1]
    exact RS.start HOK.out (by rw [← HN.out.1, ← HN.out.2.2.2]; exact HF0.out) HRW.out.1 HRW.out.2.1 HRW.out.2.2 hb7 _)
  generalize World.setCell w7 _ _ = w2 at *
  clear hb7 hown7 hgrow7 hat7 hlt7 hc7 hd7 hf0 hf1 hf2 hb1 hbs
  as_aux_lemma =>
  have hn4 : n ≤ 4096 := by rw [HN.out.2.2.1]; exact HOK.out.nn
  go_wp2_with fail
  go_step3
  go_upto_block 0 with fail
  refine wp_block ?_
  have HSN := Lib.hid (show n = c.st n from by rw [HN.out.2.2.1]; unfold Cf.st Cf.K; rw [kl_end]; rfl)
  go_loopw [11, 12] (fun sv iv wr => ∃ (k : Nat) (G : List Bu), k ≤ n ∧ sv = .int .i64 (c.st k : Nat) ∧ iv = .int .i64 ((k : Int) - 1) ∧ Hid (RS c w k G wr)) (fun _ iv _ => (intOf iv + 1).toNat)
  case atStart => exact ⟨n, [], Nat.le_refl _, by rw [← HSN.out], by go_num, HR⟩
  case round =>
    clear HR
    obtain ⟨k, G, hk, rfl, rfl, HV⟩ := hrel
    obtain ⟨s, hs⟩ : ∃ s, s = c.st k := ⟨_, rfl⟩
    rw [← hs]
    have hsn : s ≤ n := by rw [hs, HN.out.2.2.1]; exact Nat.sub_le _ _
    have HSS := Lib.hid hs
    clear hs
    cases k with
    | zero =>
      -- <part
      as_aux_lemma =>
      have q0 : ¬ ((0 : Int) ≤ ((0 : Nat) : Int) - 1) := by omega
      have HKL := Lib.hid (show n - s = (c.K 0).length from by rw [HSS.out, HN.out.2.2.1]; unfold Cf.st; have := K_len c 0; omega)
      have HH := Lib.hid (show ∀ t (h : t < (c.K 0).length), wr.rangeAt gr ((s + t) * 2) (c.rulc (c.K 0)[t]) from by rw [HSS.out, HN.out.2.1]; exact HV.out.hig)
      go_wp2_with fail
      · have h0 : n - s = 0 := by omega
        go_ret
        refine ⟨some ⟨gr, 0, none⟩, 0, by rw [← HKL.out]; rfl, HV.out.out, fun t ht => ?_⟩
        have := HKL.out
        omega
      · go_ret
        refine ⟨some ⟨gr, s * 2, none⟩, cap - s, by rw [← HKL.out]; rfl, HV.out.out, fun t ht => ⟨gr, s * 2, rfl, ?_⟩⟩
        have := HH.out t ht
        rwa [Nat.add_mul] at this
      -- part>
    | succ i =>
      as_aux_lemma =>
      have e1 : ((i + 1 : Nat) : Int) - 1 = (i : Nat) := by omega
      rw [e1]
      clear e1
      have q0 : (0 : Int) ≤ (i : Nat) := by omega
      have q1 : (i : Int) < (n : Nat) := by omega
      have q2 : i < n := hk
      obtain ⟨dR', hR, hR2⟩ := tyRul
      have hlow := HV.out.low i (Nat.lt_succ_self i)
      rw [← HN.out.2.1] at hlow
      have HL := Lib.hid hlow
      clear hlow
      obtain ⟨p, hp⟩ : ∃ p, p = c.P i := ⟨_, rfl⟩
      have hrl : c.rulc i = ruc p (i : Nat) := by rw [hp]; rfl
      rw [hrl] at HL
      have HP := Lib.hid hp
      clear hp hrl
      go_upto_region 9 with (first
        | (refine wpList_load_mid rfl 56 _ rfl gr (i * 2) rfl (ruc p (i : Nat)) dR' HL.out hR hR2 szRul ?_)
        | (refine wpList_store_mid rfl 56 _ _ rfl wr.heap.size 0 (ruc p (i : Nat)).toArray rfl rfl (th_new wr _ _ rfl) szRul (ruc_all _ _) ?_))
      have hbS : Below wr.heap.size wr ((wr.alloc (.cells #[.nilIface, .int .i32 0] 56)).setCells wr.heap.size 0 (ruc p (i : Nat))) := below_setCells (Nat.le_refl _) _ _ ((Below.refl _ _).alloc (Nat.le_refl _) _)
      have hrS : ((wr.alloc (.cells #[.nilIface, .int .i32 0] 56)).setCells wr.heap.size 0 (ruc p (i : Nat))).rangeAt wr.heap.size 0 (ruc p (i : Nat)) := World.rangeAt_setCells_same _ _ _ _ (th_new wr _ _ rfl)
      generalize World.setCells _ _ _ _ = w5 at *
      have HT5 := Lib.hid (show ∀ x ∈ G, ∀ b, x.v.ownBlock = some b → b < wr.heap.size from fun x hx b hb => ((HV.out.mem.row x hx).1.lt b hb).2)
      have HT5L := Lib.hid (show w.heap.size ≤ wr.heap.size from HV.out.out.size)
      have HV5 := Lib.hid (HV.out.keep HOK.out hbS)
      have HBX := Lib.hid hrS
      have c0 := hrS 0 _ rfl
      simp only [Nat.zero_add] at c0
      clear hbS hrS HL HV
      generalize wr.heap.size = b5 at *
      clear wr
      as_aux_lemma =>
      have h1 := fun W => ta_rr p W
      obtain ⟨v, hpX, a0, a1, hm⟩ := HV5.out.rule HOK.out (r := i) (by rw [← HN.out.2.2.1]; exact q2)
      rw [← HP.out] at a0 a1
      obtain ⟨va, vc, hva⟩ := RowV.slice hm
      obtain ⟨vn, hvn⟩ : ∃ n, n = (c.m i).length := ⟨_, rfl⟩
      rw [← hvn] at hva
      subst hva
      have HM := Lib.hid (d14 X _ _ w5 (HV5.out.xs HOK.out) hm (HOK.out.sm i (by rw [← HN.out.2.2.1]; exact q2)))
      clear hpX a1 hm hvn
      go_upto_region 10 with fail
      clear c0 h1
      go_wp2_with fail
      refine HM.out.mono ?_
      rintro e w6 ⟨rfl, hf⟩
      have HV6 := Lib.hid (HV5.out.keep HOK.out hf)
      have HB6 := Lib.hid (rg_keep hf HBX.out)
      clear hf HV5 HBX a0 HM
      have hic : i < c.n := by rw [← HN.out.2.2.1]; exact q2
      have HIC := Lib.hid hic
      clear hic
      obtain ⟨dd, hdd⟩ : ∃ d, d = dR (c.m i) := ⟨_, rfl⟩
      rw [← hdd]
      have HDD := Lib.hid hdd
      clear hdd
      cases dd with
      | true =>
        -- <part
        as_aux_lemma =>
        have HK := Lib.hid (kq_dead HDD.out.symm (c := c) (i := i))
        have HS := Lib.hid (HV6.out.skip HIC.out HK.out)
        have HST := Lib.hid (st_skip HIC.out HK.out)
        go_wp2_with fail
        exact ⟨⟨i, G, by omega, by rw [HST.out, ← HSS.out], by go_num, HS⟩, by simp [intOf]⟩
        -- part>
      | false =>
        as_aux_lemma =>
        have hmt := fun W => mh_r (.pointer (some ⟨p, 0, none⟩)) W
        have hct := fun A W => ch_r A W
        have c0 := HB6.out 0 _ rfl
        simp only [Nat.zero_add] at c0
        have HC := Lib.hid (h44 Sb1 hS1 loc1 ha1 X p (c.m i) w6 (HV6.out.xs HOK.out) (by rw [HP.out]; exact HV6.out.rule HOK.out HIC.out) (HOK.out.sm i HIC.out))
        go_wp2_with fail
        refine HC.out.mono ?_
        rintro e w7 ⟨rfl, hf⟩
        have HV7 := Lib.hid (HV6.out.keep HOK.out hf)
        have HB7 := Lib.hid (rg_keep hf HB6.out)
        clear hf HV6 HB6 HC c0 hmt hct
        obtain ⟨hh, hhh⟩ : ∃ x, x = hRu hS1 (c.m i) := ⟨_, rfl⟩
        rw [← hhh]
        have HHH := Lib.hid (show hh = c.H i from hhh)
        clear hhh
        obtain ⟨va, vc, hval⟩ := own_slice (HV7.out.mem.look hh).1
        obtain ⟨L, hL⟩ : ∃ L, L = lstG hh G := ⟨_, rfl⟩
        obtain ⟨ln, hln⟩ : ∃ l, l = L.length := ⟨_, rfl⟩
        rw [← hL, ← hln] at hval
        have hln4 : ln ≤ 4096 := by
          have h1 := (HV7.out.mem.look hh).2
          rw [← hL, ← hln] at h1
          have h2 := K_len c (i + 1)
          have := HOK.out.nn
          omega
        have hlk := lookG_run w7 bm G hh (by rw [HN.out.2.2.2]; exact HV7.out.map)
        rw [hval] at hlk
        have HLK := Lib.hid hlk
        have HLL := Lib.hid (And.intro hL (And.intro hln hval))
        have f0 := HV7.out.fld
        rw [← HN.out.1, ← HN.out.2.2.2] at f0
        clear hL hln hval hlk
        go_upto_region 14 with (first
          | (at_lookup; refine wpl_lookup _ rfl _ _ _ _ rfl _ _ _ rfl rfl HLK.out ?_)
          | (refine wpList_store_mid rfl 71 _ _ rfl w7.heap.size 0 (one (.slice va ln vc)).toArray rfl rfl (th_new w7 _ _ rfl) szHe (one_all _ _ _) ?_))
        have hbS : Below w7.heap.size w7 ((w7.alloc (.cells #[.slice none 0 0] 71)).setCells w7.heap.size 0 (one (.slice va ln vc))) := below_setCells (Nat.le_refl _) _ _ ((Below.refl _ _).alloc (Nat.le_refl _) _)
        have hrS : ((w7.alloc (.cells #[.slice none 0 0] 71)).setCells w7.heap.size 0 (one (.slice va ln vc))).rangeAt w7.heap.size 0 (one (.slice va ln vc)) := World.rangeAt_setCells_same _ _ _ _ (th_new w7 _ _ rfl)
        have htS : ((w7.alloc (.cells #[.slice none 0 0] 71)).setCells w7.heap.size 0 (one (.slice va ln vc))).there w7.heap.size 0 1 := World.there_setCells (th_new w7 _ _ rfl) _ _ _
        have hlt8 : ∀ x ∈ G, ∀ b, x.v.ownBlock = some b → b < w7.heap.size := fun x hx b hb => ((HV7.out.mem.row x hx).1.lt b hb).2
        change Code.wp _ _ _ _ (World.setCells _ w7.heap.size 0 (one (.slice va ln vc)))
        generalize World.setCells _ _ _ _ = w8 at *
        have c0 := hrS 0 _ rfl
        simp only [Nat.zero_add] at c0
        have HV8 := Lib.hid (And.intro (HV7.out.keep HOK.out hbS) (And.intro (rg_keep hbS HB7.out) (And.intro hrS htS)))
        have HT8 := Lib.hid (And.intro hlt8 (And.intro HV7.out.out.size (And.intro (th_lt htS (by decide)) (rg_lt HB7.out (by show 0 < 2; decide)))))
        clear hbS hrS htS hlt8 HV7 HB7 HLK f0
        generalize w7.heap.size = b8 at *
        clear w7
        as_aux_lemma =>
        go_upto_block 2 with fail
        clear c0
        refine wp_block ?_
        go_loopw [84] (fun iv wr => ∃ (q : Nat), q ≤ ln ∧ iv = .int .i64 (q : Nat) ∧ Hid (∀ r ∈ L.take q, c.m i ≠ c.m r) ∧ Hid (RS c w (i + 1) G wr ∧ wr.rangeAt b5 0 (ruc p (i : Nat)) ∧ wr.rangeAt b8 0 (one (.slice va ln vc)) ∧ wr.there b8 0 1)) (fun iv _ => ln - (intOf iv).toNat)
        case atStart => exact ⟨0, Nat.zero_le _, rfl, Lib.hid (fun r hr => by cases hr), HV8⟩
        case round =>
          clear HV8
          obtain ⟨q, hq, rfl, HQ, HU⟩ := hrel
          by_cases hlq : q < ln
          · -- <part
            as_aux_lemma =>
            have z0 : (0 : Int) ≤ q := by omega
            have z1 : (q : Int) < (ln : Nat) := by omega
            have qL : q < L.length := by have := HLL.out.2.1; omega
            have hown := (HU.out.1.mem.look hh).1
            rw [HLL.out.2.2, ← HLL.out.1] at hown
            have hrv : RowV (fun _ => True) wr 73 2 (reC c.P) (fun x a => x = a) (.slice va ln vc) L := ⟨L, rfl, own_zero hown, fun _ _ => trivial, fun _ _ _ => rfl⟩
            obtain ⟨g2, cp2, x, hve, -, hr, hx⟩ := RowV.at hrv (fun _ => rfl) qL
            simp only [Value.slice.injEq] at hve
            obtain ⟨rfl, hz, rfl⟩ := hve
            subst hx
            clear hz hrv hown
            obtain ⟨r, hrr⟩ : ∃ r, r = L[q] := ⟨_, rfl⟩
            rw [← hrr] at hr
            have hrK : r ∈ c.K (i + 1) := ((HU.out.1.sem hh r).1 (by rw [← HLL.out.1, hrr]; exact List.getElem_mem qL)).1
            have HRK := Lib.hid (And.intro hrK (And.intro (kl_mem.1 hrK).2.1 hrr))
            clear hrK hrr
            obtain ⟨pr, hpr⟩ : ∃ x, x = c.P r := ⟨_, rfl⟩
            have hre : reC c.P r = [ifR pr, .int .u32 0] := by rw [hpr]; rfl
            rw [hre] at hr
            have HPR := Lib.hid hpr
            have HR := Lib.hid hr
            clear hr hre hpr
            obtain ⟨dE, hE, hE2⟩ := tyRue
            go_upto_region 17 with (first
              | (refine wpList_load_mid rfl 73 _ rfl g2 (q * 2) rfl [ifR pr, .int .u32 0] dE HR.out hE hE2 szRue ?_)
              | (refine wpList_store_mid rfl 73 _ _ rfl wr.heap.size 0 [ifR pr, .int .u32 0].toArray rfl rfl (th_new wr _ _ rfl) szRue (rue_all _) ?_))
            have hbS : Below wr.heap.size wr ((wr.alloc (.cells #[.nilIface, .int .u32 0] 73)).setCells wr.heap.size 0 [ifR pr, .int .u32 0]) := below_setCells (Nat.le_refl _) _ _ ((Below.refl _ _).alloc (Nat.le_refl _) _)
            have hrS : ((wr.alloc (.cells #[.nilIface, .int .u32 0] 73)).setCells wr.heap.size 0 [ifR pr, .int .u32 0]).rangeAt wr.heap.size 0 [ifR pr, .int .u32 0] := World.rangeAt_setCells_same _ _ _ _ (th_new wr _ _ rfl)
            generalize World.setCells _ _ _ _ = w9 at *
            have HU9 := Lib.hid (And.intro (HU.out.1.keep HOK.out hbS) (And.intro (rg_keep hbS HU.out.2.1) (And.intro (rg_keep hbS HU.out.2.2.1) (th_keep hbS HU.out.2.2.2))))
            have c9 := hrS 0 _ rfl
            have d9 := hrS 1 _ rfl
            have c5 := HU9.out.2.1 0 _ rfl
            simp only [Nat.zero_add] at c9 d9 c5
            clear hbS hrS HR HU
            generalize wr.heap.size = b9 at *
            clear wr
            as_aux_lemma =>
            have hmt := fun W => met_r (.pointer (some ⟨p, 0, none⟩)) W
            have hct := fun A W => cf_r A W
            have HC := Lib.hid (c43 Sb1 loc1 eq1 X p pr (c.m i) (c.m r) w9 (HU9.out.1.xs HOK.out) (by rw [HP.out]; exact HU9.out.1.rule HOK.out HIC.out) (by rw [HPR.out]; exact HU9.out.1.rule HOK.out HRK.out.2.1) (HOK.out.sm i HIC.out))
            go_wp2_with fail
            refine HC.out.mono ?_
            rintro e w10 ⟨rfl, hf⟩
            have HU10 := Lib.hid (And.intro (HU9.out.1.keep HOK.out hf) (And.intro (rg_keep hf HU9.out.2.1) (And.intro (rg_keep hf HU9.out.2.2.1) (th_keep hf HU9.out.2.2.2))))
            clear hf HU9 HC c9 d9 c5 hmt hct
            obtain ⟨dd, hdd⟩ : ∃ d, d = decide (c.m i = c.m r) := ⟨_, rfl⟩
            rw [← hdd]
            have HDE := Lib.hid hdd
            clear hdd
            cases dd with
            | true =>
              have HK := Lib.hid (kq_dup HIC.out HRK.out.1 (of_decide_eq_true HDE.out.symm))
              have HS := Lib.hid (HU10.out.1.skip HIC.out HK.out)
              have HST := Lib.hid (st_skip HIC.out HK.out)
              go_wp2_with fail
              exact ⟨⟨i, G, by omega, by rw [HST.out, ← HSS.out], by go_num, HS⟩, by simp [intOf]⟩
            | false =>
              have HQ2 : Hid (∀ r ∈ L.take (q + 1), c.m i ≠ c.m r) := Lib.hid (fun x hx => by
                rw [List.take_succ_eq_append_getElem qL, List.mem_append, List.mem_singleton] at hx
                rcases hx with hx | hx
                · exact HQ.out x hx
                · rw [hx, ← HRK.out.2.2]
                  exact of_decide_eq_false HDE.out.symm)
              go_wp2_with fail
              exact ⟨⟨q + 1, by omega, by go_num, HQ2, HU10⟩, by simp [intOf]; omega⟩
            -- part>
          · as_aux_lemma =>
            obtain rfl : q = ln := by omega
            have HLV := Lib.hid (kq_live HIC.out HDD.out.symm (fun r hr => by
              by_cases he : c.H r = hh
              · exact HQ.out r (by rw [List.take_of_length_le (by have := HLL.out.2.1; omega), HLL.out.1]; exact (HU.out.1.sem hh r).2 ⟨hr, he⟩)
              · intro e
                refine he ?_
                rw [HHH.out]
                unfold Cf.H
                rw [e]))
            clear HQ hlq hq
            have hbs := bs_rue p wr
            have hal : Below wr.heap.size wr (wr.alloc (.cells #[ifR p, .int .u32 0] 73)) := (Below.refl _ _).alloc (Nat.le_refl _) _
            obtain ⟨wA, hwA⟩ : ∃ x, x = wr.alloc (.cells #[ifR p, .int .u32 0] 73) := ⟨_, rfl⟩
            have hblk := heap_alloc_new wr (.cells #[ifR p, .int .u32 0] 73)
            have hzA : wA.heap.size = wr.heap.size + 1 := by rw [hwA, World.size_alloc]
            rw [← hwA] at hal hbs hblk
            have HUA := Lib.hid (And.intro (HU.out.1.keep HOK.out hal) (And.intro (rg_keep hal HU.out.2.1) (And.intro (rg_keep hal HU.out.2.2.1) (th_keep hal HU.out.2.2.2))))
            have hown := (HUA.out.1.mem.look hh).1
            rw [HLL.out.2.2, ← HLL.out.1, ← HLL.out.2.1] at hown
            have HOA := Lib.hid hown
            have HBL := Lib.hid (And.intro hblk hzA)
            have c5 := HU.out.2.1 0 _ rfl
            have c8 := HU.out.2.2.1 0 _ rfl
            have hb8 : b8 < wA.heap.size := th_lt HUA.out.2.2.2 (by decide)
            have hne : ∀ x ∈ G, x.v.ownBlock ≠ some b8 := fun x hx e => Nat.lt_irrefl _ (HT8.out.1 x hx b8 e)
            have hne8 : some b8 ≠ (Value.slice va q vc).ownBlock := by
              rw [← HLL.out.2.2]
              intro e
              rcases look_case hh G with ⟨h1, -, -⟩ | ⟨y, hy, -, h2, -⟩
              · rw [h1] at e; cases e
              · rw [← h2] at e; exact hne y hy e.symm
            have hne5 : some b5 ≠ (Value.slice va q vc).ownBlock := by
              rw [← HLL.out.2.2]
              intro e
              rcases look_case hh G with ⟨h1, -, -⟩ | ⟨y, hy, -, h2, -⟩
              · rw [h1] at e; cases e
              · rw [← h2] at e
                have := HT5.out y hy b5 e.symm
                omega
            have HB8 := Lib.hid (And.intro hb8 (And.intro hne (And.intro hne8 hne5)))
            have HSZ := Lib.hid (show w.heap.size ≤ wA.heap.size from HUA.out.1.out.size)
            simp only [Nat.zero_add] at c5 c8
            clear hwA hblk hzA hal hown hb8 hne hne8 HU
            obtain ⟨gA, hgA⟩ : ∃ x, x = wr.heap.size := ⟨_, rfl⟩
            rw [← hgA] at hbs HBL
            clear hgA
            go_upto_region 28 with (first
              | (refine wpl_bs1 rfl 69 (.tmp 133) rfl _ _ _ ?hx hbs ?_; case hx => (show _ = _; rfl))
              | (at_builtin
                 refine wpList_append_lies _ rfl (.tmp 129) (.tmp 134) _ rfl w.heap.size 73 i1 _ 2 24 Try.underlying69 HJ.out.1 HJ.out.2.1 HJ.out.2.2.1 HJ.out.2.2.2 rfl (by omega) (.slice va q vc) q (L.flatMap (reC c.P)) ?hs HOA.out ⟨gA, 0, none⟩ 1 1 [ifR p, .int .u32 0] ?hx (by rfl) (World.news_of_block HBL.out.1) (by intro u hu; simp at hu; rcases hu with rfl | rfl <;> rfl) (by omega) (by unfold maxLen; omega) (by omega) HSZ.out (gA + 1) (by rw [HBL.out.2]) ?_; (case hs => exact rfl); (case hx => exact rfl)
                 intro gB capB wB hownB hgrowB hatB hltB
                 have hcB : wB.cell? ⟨b8, 0, none⟩ = some (.slice va q vc) := cell_ag (hgrowB.block b8 HB8.out.1 HB8.out.2.2.1) (HUA.out.2.2.1 0 _ rfl)
                 have hdB : wB.frozen? ⟨b8, 0, none⟩ = false := (th_ag (hgrowB.block b8 HB8.out.1 HB8.out.2.2.1) HUA.out.2.2.2 0 (by decide)).2))
            have hU : (World.setCell wB ⟨b8, 0, none⟩ (.slice (some ⟨gB, 0, none⟩) (q + 1) capB)) = wB.setCells b8 0 [.slice (some ⟨gB, 0, none⟩) (q + 1) capB] := rfl
            have hb8B : b8 < wB.heap.size := Nat.lt_of_lt_of_le HB8.out.1 hgrowB.size
            have hthB : wB.there b8 0 1 := th_ag (hgrowB.block b8 HB8.out.1 HB8.out.2.2.1) HUA.out.2.2.2
            have hlo : ∀ b, (Value.slice va q vc).ownBlock = some b → w.heap.size ≤ b := fun b hb => (HOA.out.lt b hb).1
            have hrlo : rm < w.heap.size := by have := HG1.out; omega
            obtain ⟨wC, hwC⟩ : ∃ x, x = World.setCell wB ⟨b8, 0, none⟩ (.slice (some ⟨gB, 0, none⟩) (q + 1) capB) := ⟨_, rfl⟩
            have hC0 : wC.cell? ⟨rm, 0, none⟩ = some (.map (some bm)) := by
              have h1 : wC.heap[rm]? = wA.heap[rm]? := by
                rw [hwC, hU, heap_setCells _ _ _ _ _ (by have := HT8.out.2.1; omega)]
                exact hgrowB.block rm (by have := HSZ.out; omega) (fun e => by have := hlo rm e.symm; omega)
              refine cell_ag (w := wA) h1 ?_
              rw [HN.out.1, HN.out.2.2.2]
              exact HUA.out.1.fld
            have hC5 : wC.rangeAt b5 0 (ruc p (i : Nat)) := by
              have h1 : wC.heap[b5]? = wA.heap[b5]? := by
                rw [hwC, hU, heap_setCells _ _ _ _ _ (by have := HT8.out.2.2.2; omega)]
                exact hgrowB.block b5 (rg_lt HUA.out.2.1 (by show 0 < 2; decide)) HB8.out.2.2.2
              exact rg_ag h1 HUA.out.2.1
            have hC8 : wC.rangeAt b8 0 (one (.slice (some ⟨gB, 0, none⟩) (q + 1) capB)) := by
              rw [hwC]
              exact World.rangeAt_setCells_same _ _ _ _ hthB
            have hszC : wB.heap.size ≤ wC.heap.size := by rw [hwC, hU, size_setCells]; exact Nat.le_refl _
            have hD : Below wC.heap.size wC wC.drew := (Below.refl _ _).drew
            have hmC : wC.drew.heap[bm]? = some (mapG G) := by
              show wC.heap[bm]? = _
              have hbl := HOK.out.bl
              rw [← HN.out.2.2.2] at hbl
              rw [hwC, hU, heap_setCells _ _ _ _ _ (by have := HT8.out.2.1; omega), hgrowB.block bm (by have := HSZ.out; omega) (fun e => by have := hlo bm e.symm; omega), HN.out.2.2.2]
              exact HUA.out.1.map
            have hup := updG_run wC.drew bm G hh (.slice (some ⟨gB, 0, none⟩) (q + 1) capB) (L ++ [i]) hmC
            have HUP := Lib.hid hup
            have hnew : RS c w i (upG (c.H i) (.slice (some ⟨gB, 0, none⟩) (q + 1) capB) (lstG (c.H i) G ++ [i]) G) ((setBlock wC.drew bm (mapG (upG hh (.slice (some ⟨gB, 0, none⟩) (q + 1) capB) (L ++ [i]) G))).setCells c.gr (c.st i * 2) (c.rulc i)) := by
              have e1 : lstG (c.H i) G = L := by rw [← HHH.out, HLL.out.1]
              have e2 : valG (c.H i) G = .slice va q vc := by rw [← HHH.out]; exact HLL.out.2.2
              refine RS.new (w7 := wB) (wm := wC.drew) (u := .slice (some ⟨gB, 0, none⟩) (q + 1) capB) (g := gB) (b8 := b8) HOK.out HUA.out.1 HIC.out HLV.out ?_ ?_ rfl ?_ (Nat.le_trans HT8.out.2.1 (Nat.le_refl _)) HB8.out.1 HB8.out.2.1 ?_ ?_
              · rw [e1, ← HLL.out.2.1]
                have : reC c.P i = [ifR p, .int .u32 0] := by rw [HP.out]; rfl
                rw [this]
                exact hownB
              · rw [e2]; exact hgrowB
              · rw [e2]
                rcases hatB with h | h
                · exact .inl h
                · exact .inr (by rw [h, HBL.out.2]; exact Nat.le_refl _)
              · rw [← hU, ← hwC]
                exact (Below.refl wC.heap.size wC).drew.mono hszC
              · rw [e1, ← HHH.out, ← HN.out.2.2.2]
            rw [← HHH.out, ← HLL.out.1] at hnew
            have HNEW := Lib.hid hnew
            have HS0 := Lib.hid (show wC.drew.cell? ⟨rm, 0, none⟩ = some (.map (some bm)) ∧ wC.drew.rangeAt b8 0 (one (.slice (some ⟨gB, 0, none⟩) (q + 1) capB)) from ⟨hC0, hC8⟩)
            have HR5 := Lib.hid (show (setBlock wC.drew bm (mapG (upG hh (.slice (some ⟨gB, 0, none⟩) (q + 1) capB) (L ++ [i]) G))).rangeAt b5 0 (ruc p (i : Nat)) ∧ (setBlock wC.drew bm (mapG (upG hh (.slice (some ⟨gB, 0, none⟩) (q + 1) capB) (L ++ [i]) G))).there gr 0 (n * 2) from by
              have hbl := HOK.out.bl
              have hgl := HOK.out.gl
              have hgb := HOK.out.gb
              rw [← HN.out.2.2.2] at hbl hgb
              rw [← HN.out.2.1] at hgl hgb
              refine ⟨rg_ag (sb_other _ _ _ (by have := HT8.out.2.1; have := HT5L.out; omega)) hC5, th_ag (w := wA) ?_ (by rw [HN.out.2.1, HN.out.2.2.1]; exact HUA.out.1.the)⟩
              rw [sb_other _ _ _ hgb]
              show wC.heap[gr]? = _
              rw [hwC, hU, heap_setCells _ _ _ _ _ (by have := HT8.out.2.1; omega)]
              exact hgrowB.block gr (by have := HSZ.out; omega) (fun e => by have := hlo gr e.symm; omega))
            have HS1 := Lib.hid (show (setBlock wC.drew bm (mapG (upG hh (.slice (some ⟨gB, 0, none⟩) (q + 1) capB) (L ++ [i]) G))).cell? ⟨rm, 0, none⟩ = some (.map (some bm)) ∧ (setBlock wC.drew bm (mapG (upG hh (.slice (some ⟨gB, 0, none⟩) (q + 1) capB) (L ++ [i]) G))).rangeAt b8 0 (one (.slice (some ⟨gB, 0, none⟩) (q + 1) capB)) from by
              have hbl := HOK.out.bl
              have hrb := HOK.out.rb
              rw [← HN.out.2.2.2] at hbl hrb
              rw [← HN.out.1] at hrb
              exact ⟨cell_ag (sb_other _ _ _ hrb) hC0, rg_ag (sb_other _ _ _ (by have := HT8.out.2.1; omega)) hC8⟩)
            clear hnew hup hmC hszC hD hC0 hC5 hC8 hlo hrlo hthB hb8B hU hcB hdB hownB hgrowB hatB hltB HOA HBL HUA
            rw [← hwC]
            clear hwC c5 c8
            as_aux_lemma =>
            obtain ⟨dH, hH, hH2⟩ := tyHe
            refine wp_region_held_drew (S := fun w' => w'.cell? ⟨rm, 0, none⟩ = some (.map (some bm)) ∧ w'.rangeAt b8 0 (one (.slice (some ⟨gB, 0, none⟩) (q + 1) capB))) (by kernel_rfl) HS0.out (fun hHeld => ?_)
            show wpAnyH _ _ _ _ _ 7 (Array.replicate 7 false) _ _
            refine Pl.take_l (i := 0) (v := ?v1) rfl (by kernel_rfl) (by kernel_rfl) (by kernel_rfl) (fun _ _ _ h => h) rfl ?hy1 hHeld ?rest1
            case hy1 => (intro w hSw; (try dsimp only at hSw); (try obtain ⟨_, _⟩ := hSw); go_simp <;> (try with_reducible rfl))
            try simp only [Act.put, List.setIfInBounds_toArray, List.set_cons_zero, List.set_cons_succ]
            refine Pl.take_l (i := 1) (v := ?v2) rfl (by kernel_rfl) (by kernel_rfl) (by kernel_rfl) (fun _ _ _ h => h) rfl ?hy2 hHeld ?rest2
            case hy2 => (intro w hSw; (try dsimp only at hSw); (try obtain ⟨_, _⟩ := hSw); go_simp <;> (try with_reducible rfl))
            try simp only [Act.put, List.setIfInBounds_toArray, List.set_cons_zero, List.set_cons_succ]
            refine Pl.take_l (i := 2) (v := ?v3) rfl (by kernel_rfl) (by kernel_rfl) (by kernel_rfl) (fun _ _ _ h => h) rfl ?hy3 hHeld ?rest3
            case hy3 => (intro w hSw; (try dsimp only at hSw); (try obtain ⟨_, _⟩ := hSw); go_simp <;> (try with_reducible rfl))
            try simp only [Act.put, List.setIfInBounds_toArray, List.set_cons_zero, List.set_cons_succ]
            refine Pl.take_l (i := 3) (v := ?v4) rfl (by kernel_rfl) (by kernel_rfl) (by kernel_rfl) (fun _ _ _ h => h) rfl ?hy4 hHeld ?rest4
            case hy4 => (intro w hSw; (try dsimp only at hSw); (try obtain ⟨_, _⟩ := hSw); go_simp <;> (try with_reducible rfl))
            try simp only [Act.put, List.setIfInBounds_toArray, List.set_cons_zero, List.set_cons_succ]
            refine Pl.take_l (i := 4) (v := ?v5) rfl (by kernel_rfl) (by kernel_rfl) (by kernel_rfl) (fun _ _ _ h => h) rfl ?hy5 hHeld ?rest5
            case hy5 => (intro w hSw; (try dsimp only at hSw); (try obtain ⟨_, _⟩ := hSw); go_simp <;> (try with_reducible rfl))
            try simp only [Act.put, List.setIfInBounds_toArray, List.set_cons_zero, List.set_cons_succ]
            refine Pl.take_l (i := 5) (v := .agg #[.slice (some ⟨gB, 0, none⟩) (q + 1) capB]) rfl (by kernel_rfl) (by kernel_rfl) (by kernel_rfl) (fun _ _ _ h => h) rfl (fun w hSw => ex_load 71 (.tmp 18) rfl b8 0 rfl (one (.slice (some ⟨gB, 0, none⟩) (q + 1) capB)) dH (hSw.2) hH hH2 szHe) hHeld ?_
            try simp only [Act.put, List.setIfInBounds_toArray, List.set_cons_zero, List.set_cons_succ]
            refine Pl.alone_l (i := 6) (by kernel_rfl) rfl (fun K hK => ?_)
            go_simp; rw [HUP.out]; go_simp
            refine hK.out _ _ HS1.out (fun hHeld2 => ?_)
            clear hK K hHeld
            have hHeld := hHeld2
            clear hHeld2
            try simp only [Act.put, List.setIfInBounds_toArray, List.set_cons_zero, List.set_cons_succ]
            refine wpAnyH_done (by kernel_rfl) ?_ _
            clear hHeld HUP HS0 HS1
            generalize setBlock _ _ _ = wD at *
            obtain ⟨t, ht⟩ : ∃ t, t = c.st i := ⟨_, rfl⟩
            have hst : s = t + 1 := by rw [HSS.out, ht]; exact st_new HIC.out HLV.out
            have htn : t < n := by omega
            have e3 : ((s : Nat) : Int) - 1 = (t : Nat) := by omega
            have hfin := HNEW.out
            rw [← ht, ← HN.out.2.1, show c.rulc i = ruc p (i : Nat) from by rw [HP.out]; rfl] at hfin
            have HFIN := Lib.hid hfin
            have HT := Lib.hid (And.intro ht (And.intro hst htn))
            have q5 : (0 : Int) ≤ (t : Nat) := by omega
            have q6 : (t : Int) < (n : Nat) := by omega
            clear hfin ht hst htn HNEW
            go_upto_region 30 with fail
            have hth : wD.there gr (t * 2) 2 := th_sub HR5.out.2 (Nat.zero_le _) (by have := HT.out.2.2; omega)
            have HTH := Lib.hid hth
            clear hth
            go_wp2_with (first
              | (refine wpList_load_mid rfl 56 _ rfl b5 0 rfl (ruc p (i : Nat)) dR' HR5.out.1 hR hR2 szRul ?_)
              | (refine wpList_store_mid rfl 56 _ _ rfl gr (t * 2) (ruc p (i : Nat)).toArray rfl rfl HTH.out szRul (ruc_all _ _) ?_))
            exact ⟨⟨i, _, by omega, by rw [← HT.out.1], by go_num, HFIN⟩, by simp [intOf]⟩
end Go.Proofs.Ythokeojpmbdbmaa.Dr
