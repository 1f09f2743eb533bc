/-
  The builders of a list of compounds and of a complex selector.
-/
import Derived.Test.YtaiofdgiabmelaaFmtUj
namespace Go.Proofs.YtaiofdgiabmelaaFmt.Sb
open Go.ChangeShapes Go.WideShapes Go.ChangeAt Go.RowKit Rg
set_option linter.unusedVariables false
set_option linter.unusedSimpArgs false
theorem tyIc : ∃ d, Tryf.prog.underlying 24 = some d ∧ d.isRow = true := ⟨_, Tryf.underlying24, rfl⟩
theorem szIc : (Tryf.prog.info? 24).map (·.size) = some 3 := by kernel_rfl
/-- the first k compounds are built -/
def BR (L : List Cm) (k : Nat) (v : Value) (w0 w : World) : Prop :=
  (∃ R : List Cr, R.map (·.m) = L.take k ∧ ownC w w0.heap.size v k (R.flatMap Cr.cells) ∧ ∀ r ∈ R, FCm (fun b => (w0.heap.size ≤ b ∧ b < w.heap.size) ∧ some b ≠ v.ownBlock) w r) ∧ Below w0.heap.size w0 w
theorem BR.done {L : List Cm} {v : Value} {w0 w : World} (h : BR L L.length v w0 w) : FCms (fun b => w0.heap.size ≤ b ∧ b < w.heap.size) w v L := by
  obtain ⟨⟨R, h1, h2, h3⟩, h4⟩ := h
  rw [List.take_length] at h1
  have hl : R.length = L.length := by rw [← h1, List.length_map]
  exact ⟨R, by rw [hl]; exact own_zero h2, h1, fun g hg => h2.lt g hg, fun r hr => (h3 r hr).more (fun b hb => hb.1)⟩
/-- a finished list of compounds in a row that no compound leads to -/
def FarCms (D : Nat) (w : World) (v : Value) (L : List Cm) : Prop := ∃ R : List Cr, R.map (·.m) = L ∧ ownC w D v L.length (R.flatMap Cr.cells) ∧ ∀ r ∈ R, FCm (fun b => (D ≤ b ∧ b < w.heap.size) ∧ some b ≠ v.ownBlock) w r
theorem FarCms.fcms {D : Nat} {w : World} {v : Value} {L : List Cm} (h : FarCms D w v L) : FCms (fun b => D ≤ b ∧ b < w.heap.size) w v L := by
  obtain ⟨R, h1, h2, h3⟩ := h
  have hl : R.length = L.length := by rw [← h1, List.length_map]
  exact ⟨R, by rw [hl]; exact own_zero h2, h1, fun g hg => h2.lt g hg, fun r hr => (h3 r hr).more (fun b hb => hb.1)⟩
theorem FarCms.keep {D : Nat} {w w' : World} {v : Value} {L : List Cm} (h : FarCms D w v L) (hb : Below w.heap.size w w') : FarCms D w' v L := by
  obtain ⟨R, h1, h2, h3⟩ := h
  exact ⟨R, h1, own_keep h2 hb, fun r hr => ((h3 r hr).ag (ag_below (fun b hb' => hb'.1.2) hb)).more (fun b hb' => ⟨⟨hb'.1.1, Nat.lt_of_lt_of_le hb'.1.2 hb.size⟩, hb'.2⟩)⟩
theorem FarCms.low {D D' : Nat} {w : World} {v : Value} {L : List Cm} (h : FarCms D w v L) (hd : D' ≤ D) : FarCms D' w v L := by
  obtain ⟨R, h1, h2, h3⟩ := h
  exact ⟨R, h1, own_mono h2 hd, fun r hr => (h3 r hr).more (fun b hb' => ⟨⟨Nat.le_trans hd hb'.1.1, hb'.1.2⟩, hb'.2⟩)⟩
theorem BR.far {L : List Cm} {v : Value} {w0 w : World} (h : BR L L.length v w0 w) : FarCms w0.heap.size w v L := by
  obtain ⟨⟨R, h1, h2, h3⟩, h4⟩ := h
  rw [List.take_length] at h1
  exact ⟨R, h1, h2, h3⟩
/-- one compound more: w at the call, w6 behind it, w9 behind the append -/
theorem BR.put {L : List Cm} {k : Nat} {v v' : Value} {w0 w w6 w9 : World} (h : BR L k v w0 w) (hk : k < L.length) {r : Cr} (hm : r.m = L[k]) (hr : FCm (fun b => w.heap.size ≤ b ∧ b < w6.heap.size) w6 r) (hb : Below w.heap.size w w6)
    {R : List Cr} (hR : R.map (·.m) = L.take k) (hf : ∀ x ∈ R, FCm (fun b => (w0.heap.size ≤ b ∧ b < w.heap.size) ∧ some b ≠ v.ownBlock) w x) (hv0 : ∀ g, v.ownBlock = some g → g < w.heap.size)
    (ho : ownC w9 w0.heap.size v' (k + 1) (R.flatMap Cr.cells ++ r.cells)) (hg : w6.grownBy w9 v.ownBlock) (hv : v'.ownBlock = v.ownBlock ∨ ∀ g, v'.ownBlock = some g → w6.heap.size ≤ g) : BR L (k + 1) v' w0 w9 := by
  have hz : w0.heap.size ≤ w.heap.size := h.2.size
  have hb9 : ∀ b, b < w0.heap.size → w9.heap[b]? = w0.heap[b]? := fun b hb' => by
    have hne : some b ≠ v.ownBlock := fun e => by
      obtain ⟨R', _, h2, _⟩ := h.1
      have := (h2.lt b e.symm).1
      omega
    rw [hg.block b (by have := hb.size; omega) hne, hb.block b (by omega), h.2.block b hb']
  refine ⟨⟨R ++ [r], ?_, ?_, fun x hx => ?_⟩, ⟨hg.os.trans (hb.os.trans h.2.os), hg.tape.trans (hb.tape.trans h.2.tape), hg.output.trans (hb.output.trans h.2.output), Nat.le_trans hz (Nat.le_trans hb.size hg.size), hb9⟩⟩
  · rw [List.map_append, hR, List.take_succ_eq_append_getElem hk, ← hm]
    rfl
  · rw [List.flatMap_append]
    simpa using ho
  · have hz6 := hb.size
    have hz9 := hg.size
    rcases List.mem_append.1 hx with hx | hx
    · refine ((hf x hx).ag (fun b hb' => ?_)).more (fun b hb' => ⟨⟨hb'.1.1, by omega⟩, fun e => ?_⟩)
      · rw [hg.block b (by omega) hb'.2, hb.block b hb'.1.2]
      · rcases hv with h1 | h1
        · exact hb'.2 (by rw [← h1]; exact e)
        · have := h1 b e.symm
          omega
    · obtain rfl : x = r := by simpa using hx
      refine (hr.ag (fun b hb' => ?_)).more (fun b hb' => ⟨⟨by omega, by omega⟩, fun e => ?_⟩)
      · exact hg.block b hb'.2 (fun e => by have := hv0 b e.symm; omega)
      · rcases hv with h1 | h1
        · have := hv0 b (by rw [← h1]; exact e.symm)
          omega
        · have := h1 b e.symm
          omega
set_option maxRecDepth 100000 in
set_option maxHeartbeats 4000000 in
theorem bcs_far (X : Nat → Prop) (u : Value) (L : List Cm) (w : World) (hL : L.length ≤ 1048576) (h0 : ∀ c ∈ L, c.am ≤ 255 ∧ c.N.length ≤ 1048576) (hX : ∀ b, X b → b < w.heap.size) (hu : CmV X w u L) :
    Calls Tryf.prog 10 #[u] w (fun e w' => ∃ a c, e = .returned (.slice a L.length c) ∧ FarCms w.heap.size w' (.slice a L.length c) L ∧ Below w.heap.size w w') := by
  obtain ⟨a, c, rfl, hn⟩ := hu
  have HU := Lib.hid (And.intro hn (And.intro hX h0))
  obtain ⟨n, hnn⟩ : ∃ n, n = L.length := ⟨_, rfl⟩
  have HN := Lib.hid hnn
  rw [← hnn] at hL ⊢
  clear hn hX hnn h0
  obtain ⟨i0, hi, hz0, hz1, hz2⟩ := info_parts infoCmp
  have hmk : ∀ W : World, (Instr.makeSlice 31 (.int .i64 0) (.int .i64 (n : Int))).run Tryf.prog W = .ok (.slice (some ⟨W.heap.size, 0, none⟩) 0 n) (W.alloc (.cells (madeCells #[.pointer none, .slice none 0 0, .slice none 0 0, .int .i32 0, .int .u8 0, .bool false] (n * 6)) 41)) := fun W => by
    have h := run_make_rowN (P := Tryf.prog) 31 41 i0 _ (by kernel_rfl) hi hz0 .i64 .i64 0 n (by omega) (by rw [hz2]; omega) (by omega) W
    rw [hz1] at h
    exact h
  have HI := Lib.hid (And.intro hi (And.intro hz0 (And.intro hz1 hz2)))
  clear hi hz0 hz1 hz2
  obtain ⟨dI, hI, hI2⟩ := tyIc
  go_enter Tryf.func10, Tryf.ntmps10
  go_upto_block 0 with fail
  have HB0 := Lib.hid (show BR L 0 (.slice (some ⟨w.heap.size, 0, none⟩) 0 n) w (w.alloc (.cells (madeCells #[.pointer none, .slice none 0 0, .slice none 0 0, .int .i32 0, .int .u8 0, .bool false] (n * 6)) 41)) from
    ⟨⟨[], by simp, World.ownsRow_made w _ n (Nat.le_refl _) (by unfold maxLen; omega) (by simp [madeCells]), fun r hr => by cases hr⟩, (Below.refl _ _).alloc (Nat.le_refl _) _⟩)
  generalize w.alloc _ = w1 at *
  obtain ⟨g1, hg1⟩ : ∃ g, g = w.heap.size := ⟨_, rfl⟩
  have HB1 := Lib.hid (show BR L 0 (.slice (some ⟨g1, 0, none⟩) 0 n) w w1 by rw [hg1]; exact HB0.out)
  rw [← hg1]
  clear hmk HB0 hg1
  refine wp_block ?_
  go_loopw [3, 4] (fun v i wr => ∃ (k : Nat) (va : Option Addr) (vc : Nat), k ≤ n ∧ i = .int .i64 (k : Nat) ∧ v = .slice va k vc ∧ Hid (BR L k (.slice va k vc) w wr)) (fun _ i _ => n - (intOf i).toNat)
  case atStart => exact ⟨0, some ⟨g1, 0, none⟩, n, Nat.zero_le _, rfl, rfl, HB1⟩
  case round =>
    clear HB1
    obtain ⟨k, va, vc, hk, rfl, rfl, HV⟩ := hrel
    by_cases hlt : k < n
    · as_aux_lemma =>
      have q0 : (0 : Int) ≤ k := by omega
      have q1 : (k : Int) < (n : Nat) := by omega
      have kL : k < L.length := by have := HN.out; omega
      obtain ⟨g, o, u, rfl, hXg, hrg, hnm⟩ := HU.out.1 k kL
      have h00 := HU.out.2.2 _ (List.getElem_mem kL)
      obtain ⟨m, hm⟩ : ∃ m, m = L[k] := ⟨_, rfl⟩
      rw [← hm] at hrg hnm h00
      have HM := Lib.hid hm
      obtain ⟨cb, am, N⟩ := m
      dsimp only at hrg hnm h00
      have HRG := Lib.hid (rg_ag (HV.out.2.block g (HU.out.2.1 g hXg)) hrg)
      have HNM := Lib.hid (And.intro (hnm.ag (ag_below HU.out.2.1 HV.out.2)) h00)
      obtain ⟨⟨R, hR, hRo, hRf⟩, hbw⟩ := id HV.out
      have HR := Lib.hid (And.intro hR (And.intro hRo (And.intro hRf hbw)))
      clear hrg hnm hXg h00 hm hR hRo hRf hbw
      go_upto_region 5 with fail
      go_wp2_with (first
        | (refine wpList_load_mid rfl 24 _ rfl g (o + k * 3) rfl [.int .u8 cb, .int .u8 (am : Nat), u] dI HRG.out hI hI2 szIc ?_))
      refine (bc_any X cb am u N wr HNM.out.2.1 HNM.out.2.2 (fun b h => Nat.lt_of_lt_of_le (HU.out.2.1 b h) HR.out.2.2.2.size) HNM.out.1).mono ?_
      rintro e w6 ⟨sa, sn, sc, an, cn, rfl, hf, hb⟩
      have HF := Lib.hid (And.intro hf hb)
      have hal : Below w6.heap.size w6 (w6.alloc (.cells #[.pointer none, .slice sa sn sc, .slice an am cn, .int .i32 0, .int .u8 cb, .bool false] 41)) := (Below.refl _ _).alloc (Nat.le_refl _) _
      have HO8 := Lib.hid (And.intro (own_keep (own_keep HR.out.2.1 hb) hal) hal)
      clear hf hb hal
      go_wp2_with (first
        | (refine wpl_bs1 rfl 31 (.tmp 19) rfl _ _ _ ?hx (bs_cmp sa an sn sc am cn cb w6) ?_; case hx => (show _ = _; rfl))
        | (at_builtin
           refine wpList_append_lies _ rfl (.tmp 14) (.tmp 20) _ rfl w.heap.size 41 i0 _ 6 72 Tryf.underlying31 HI.out.1 HI.out.2.1 HI.out.2.2.1 HI.out.2.2.2 rfl (by omega) (.slice va k vc) k (R.flatMap Cr.cells) ?hs HO8.out.1 ⟨w6.heap.size, 0, none⟩ 1 1 (cmc (.slice sa sn sc) (.slice an am cn) cb) ?hx (by rfl) (World.news_of_block (heap_alloc_new w6 _)) (cmc_one _ _ _ _ _ _ _) (by omega) (by unfold maxLen; omega) (by omega) (by have := HR.out.2.2.2.size; have := HF.out.2.size; simp; omega) (w6.heap.size + 1) (by simp) ?_; (case hs => exact rfl); (case hx => exact rfl)
           intro g3 cap3 w9 hown9 hgrow9 hat9 hlt9))
      have hN := Lib.hid (HV.out.put (v' := .slice (some ⟨g3, 0, none⟩) (k + 1) cap3) kL (r := ⟨.slice sa sn sc, .slice an am cn, ⟨cb, am, N⟩⟩) HM.out (HF.out.1) HF.out.2 HR.out.1 HR.out.2.2.1 (fun g hg => (HR.out.2.1.lt g hg).2) hown9 ((grown_below HO8.out.2 _).trans hgrow9) (by
        rcases hat9 with h | h
        · exact .inl h.symm
        · refine .inr (fun g hg => ?_)
          have : g3 = g := by simpa [Value.ownBlock] using hg
          omega))
      exact ⟨⟨k + 1, some ⟨g3, 0, none⟩, cap3, by omega, by go_num, rfl, hN⟩, by simp [intOf]; omega⟩
    · as_aux_lemma =>
      have hkn : n = k := by omega
      subst hkn
      go_wp2_with fail
      go_ret
      have h := HV.out
      rw [HN.out] at h
      exact ⟨va, vc, rfl, by rw [HN.out]; exact h.far, h.2⟩
theorem bcs_any (X : Nat → Prop) (u : Value) (L : List Cm) (w : World) (hL : L.length ≤ 1048576) (h0 : ∀ c ∈ L, c.am ≤ 255 ∧ c.N.length ≤ 1048576) (hX : ∀ b, X b → b < w.heap.size) (hu : CmV X w u L) :
    Calls Tryf.prog 10 #[u] w (fun e w' => ∃ a c, e = .returned (.slice a L.length c) ∧ FCms (fun b => w.heap.size ≤ b ∧ b < w'.heap.size) w' (.slice a L.length c) L ∧ Below w.heap.size w w') :=
  (bcs_far X u L w hL h0 hX hu).mono fun e w' h => by
    obtain ⟨a, c, h1, h2, h3⟩ := h
    exact ⟨a, c, h1, h2.fcms, h3⟩
end Go.Proofs.YtaiofdgiabmelaaFmt.Sb
