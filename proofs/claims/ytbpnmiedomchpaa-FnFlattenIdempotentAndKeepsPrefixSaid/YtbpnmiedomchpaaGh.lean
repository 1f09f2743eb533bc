/-
  What the flattening leaves.
-/
import Derived.Test.YtbpnmiedomchpaaGe
import Derived.Test.YtbpnmiedomchpaaFt
namespace Go.Proofs.Ytbpnmiedomchpaa.Fg
open Go.ChangeShapes Go.WideShapes Go.ChangeAt Go.RowKit Rg
set_option linter.unusedVariables false
set_option linter.unusedSimpArgs false
/-- a prior selector -/
def tP (t : Nat) : Nat := if t = 0 then 1 else t
def pmP (t : Nat) : Cp Su := ⟨some (letr (tP t)), [], 0, 0, false⟩
/-- the prior bytes -/
def PrU (w : World) (v : Value) (P : List Nat) : Prop := RW (Old w) w 1 (fun k : Nat => [.int .u8 (k : Nat)]) (fun k t => k = t ∧ t < 256) v P
/-- the prior list under construction -/
def PrV (X : Nat → Prop) (w : World) (v : Value) (t : Nat) : Prop := CxV e1 X w v [pmP t]
theorem locP : LocE PrV := fun X Y w w' x a ht h => CxV.to loc1 h ht
/-- append to a row that has room -/
theorem wpl_appF {P : Program} {w : World} {ops : Array Oper} {rest : List Oper} {o : Oper} {a : Act} {Q : Exit → Act → World → Prop} (hgd : o.guard = none) (s x : Operand) (t : TypeId)
    (ho : o.op = .call { callee := .builtin .append, args := #[s, x], argTypes := #[t, t] })
    (base : Nat) (e : TypeId) (i : TypeInfo) (size : Nat) (ht : P.underlying t = some (.slice e)) (hi : P.info? e = some i) (hsize : i.size = size)
    (g n cap : Nat) (xs : List Value) (hs : a.eval s = .slice (some ⟨g, 0, none⟩) n cap) (hown : w.ownsRow base e size (.slice (some ⟨g, 0, none⟩) n cap) n xs)
    (aa : Addr) (m c : Nat) (ys : List Value) (hx : a.eval x = .slice (some aa) m c) (hl : ys.length = m * size) (hys : ∀ j u, ys[j]? = some u → w.cell? (aa.add j) = some u) (h1 : ∀ y ∈ ys, y.oneCell' = true)
    (hroom : n + m ≤ cap)
    (h : ∀ w', w'.ownsRow base e size (.slice (some ⟨g, 0, none⟩) (n + m) cap) (n + m) (xs ++ ys) → w.grownBy w' (some g) → wpList P ops Q rest (a.put o.dst (.slice (some ⟨g, 0, none⟩) (n + m) cap)) w') :
    wpList P ops Q (o :: rest) a w := by
  refine wpList_plain hgd fun K hK => ?_
  obtain ⟨w', hr, h2, h3⟩ := run_append_fits (P := P) w base t o.type e i size ht hi hsize g n cap xs hown aa m c ys hl hys h1 hroom
  unfold Oper.wp execOp
  simp only [ho, resolve, invoke, builtin, Sem.run_bind, Sem.run_pure, Result.andThen_ok, List.map_toArray, List.map_cons, List.map_nil, hs, hx, hr]
  exact hK _ _ (h w' h2 h3)
/-- the blocks there are -/
def Yw (W : World) (b : Nat) : Prop := b < W.heap.size
theorem Yw.to {W W' : World} (hb : Below W.heap.size W W') : To (Yw W) W (Yw W') W' := fun b h => ⟨Nat.lt_of_lt_of_le h hb.size, hb.block b h⟩
/-- the state behind the first flattening -/
structure AfS (w : World) (P : List Nat) (g : Nat) (M : List (Cp Su)) (W : World) : Prop where
  bel : Below w.heap.size w W
  row : ∀ k (h : k < P.length), ∃ v, W.rangeAt g k [v] ∧ CxV e1 (Yw W) W v [pmP P[k]]
  last : ∃ v, W.rangeAt g P.length [v] ∧ CxV e1 (Yw W) W v M
theorem AfS.keep {w W W' : World} {P : List Nat} {g : Nat} {M : List (Cp Su)} (h : AfS w P g M W) (hb : Below W.heap.size W W') : AfS w P g M W' :=
  ⟨h.bel.trans (hb.mono h.bel.size), fun k hk => by
    obtain ⟨v, h1, h2⟩ := h.row k hk
    exact ⟨v, rg_keep hb h1, CxV.to loc1 h2 (Yw.to hb)⟩, by
    obtain ⟨v, h1, h2⟩ := h.last
    exact ⟨v, rg_keep hb h1, CxV.to loc1 h2 (Yw.to hb)⟩⟩
theorem fm_one : ∀ B : List Value, B.flatMap one = B
  | [] => rfl
  | v :: r => by rw [List.flatMap_cons, fm_one r]; rfl
theorem AfS.of {w W0 w1 w' : World} {P : List Nat} {g : Nat} {B : List Value} {E : Nat → Prop} {e : Ending} {v' : Value} {M : List (Cp Su)} (hb : Below w.heap.size w W0) (hg : w.heap.size ≤ g) (hB1 : B.length = P.length)
    (hB3 : ∀ i (h : i < B.length) (h' : i < P.length), PrV (fun b => (w.heap.size ≤ b ∧ b < W0.heap.size) ∧ some b ≠ some g) W0 B[i] P[i])
    (hb1 : Below W0.heap.size W0 w1) (hf : Fr E w1 w') (hE : ∀ k, k < W0.heap.size → E k → k = g)
    (hfl : FlR (.slice (some ⟨g, 0, none⟩) P.length (P.length + 1)) P.length (B.flatMap one) v' w1 e w') (hv : CxV e1 (Yw w') w' v' M) :
    ∃ oc, e = .returned (.slice (some ⟨g, 0, none⟩) (P.length + 1) oc) ∧ AfS w P g M w' := by
  obtain ⟨lv', rfl, ho, hat⟩ := hfl
  have hown : lv'.ownBlock = some g := by
    rcases hat with h | ⟨-, h⟩
    · exact h
    · have := h _ _ rfl
      omega
  obtain ⟨g', c, rfl, -, -⟩ := ho.form (by omega)
  obtain rfl : g' = g := by simpa [Value.ownBlock] using hown
  have hcell : ∀ j u, (B ++ [v'])[j]? = some u → w'.rangeAt g' j [u] := fun j u hj => by
    have h := ho.cells hown j u (by rw [fm_one]; exact hj)
    rw [add_at, Nat.zero_add] at h
    intro i x hi
    cases i with
    | zero => simp only [List.getElem?_cons_zero, Option.some.injEq] at hi; subst hi; exact h
    | succ i => simp at hi
  have h0 := hb.size
  have h1 := hb1.size
  refine ⟨c, rfl, ⟨(hb.trans (hb1.mono h0)).trans (hf.below (by omega) (fun k hk q => by have := hE k (by omega) q; omega)), fun k hk => ?_, ⟨v', hcell _ _ (by rw [← hB1]; simp), hv⟩⟩⟩
  have hkB : k < B.length := by omega
  refine ⟨B[k], hcell _ _ (by rw [List.getElem?_append_left hkB, List.getElem?_eq_getElem hkB]), CxV.to loc1 (hB3 k hkB hk) (fun b q => ⟨Nat.lt_of_lt_of_le (Nat.lt_of_lt_of_le q.1.2 h1) hf.size, ?_⟩)⟩
  exact (hf.block b (Nat.lt_of_lt_of_le q.1.2 h1) (fun r => q.2 (by rw [hE b q.1.2 r]))).trans (hb1.block b q.1.2)
theorem SelT.iv {lo : Nat} {v : Value} {M : List (Cp Su)} {zs : List Tc} {w : World} (h : SelT lo v M zs w) {y : Nat} (hy : IvX zs y) : lo ≤ y := by
  obtain ⟨z, hz, x, hx, hin⟩ := hy
  obtain ⟨k', hk', rfl⟩ := List.mem_iff_getElem.1 hz
  have hcp := h.2.2.2.2 k' hk' (by rw [← h.1]; exact hk')
  have a1 := hcp.rng x hx
  have a2 := (h.2.2.2.1 _ hz).1
  have a4 := hin.1
  omega
theorem lgM_no {M : List (Cp Su)} (h : ∀ c ∈ M, lgC c = false) : lgM M = false := by
  unfold lgM
  rw [List.any_eq_false]
  intro c hc
  rw [h c hc]
  exact Bool.false_ne_true
theorem ObM.ofL {M : List (Cp Su)} (h : ∀ c ∈ M, OKL QS c) (hl : M.length ≤ 4194305) : ObM M := ⟨hl, fun c hc => ⟨(h c hc).1.2.1, (h c hc).2, Nat.le_trans (h c hc).1.2.2 (by omega)⟩⟩
theorem ObM.ofM {M : List (Cp Su)} (h : MOK QS M) : ObM M := ⟨Nat.le_trans h.len (by omega), fun c hc => ⟨fun s hs => ((h.sub c hc).2.2 s hs).1, Nat.le_trans (h.sub c hc).1 (by omega), Nat.le_trans (h.sub c hc).2.1 (by omega)⟩⟩
theorem ObM.bd {M : List (Cp Su)} (h : ObM M) : Bd M := ⟨Nat.le_trans h.1 (by unfold big; omega), fun c hc => (h.2 c hc).2.1⟩
/-- the first flattening -/
theorem fl57 (w W0 W1 W2 : World) (P : List Nat) (C : List Co) (g pp md : Nat) (v : Value) (zs : List Tc) (hP : P.length ≤ 4096) (hb : Below w.heap.size w W0)
    (hrow : Bld 40 1 one PrV w.heap.size (fun y => w.heap.size ≤ y ∧ y < W0.heap.size) (.slice (some ⟨g, 0, none⟩) P.length (P.length + 1)) P W0)
    (hb1 : Below W0.heap.size W0 W1) (hp0 : W0.heap.size ≤ pp) (hp1 : pp < W1.heap.size) (hc1 : W1.cell? ⟨pp, 52, none⟩ = some (.int .u8 (md : Nat))) (hc2 : W1.cell? ⟨pp, 53, none⟩ = some (.bool false)) (hc3 : W1.frozen? ⟨pp, 53, none⟩ = false)
    (hb2 : Below W1.heap.size W1 W2) (hS : SelT (W1.heap.size + 1) v (C.map bCo) zs W2) (hwC : wC C ≤ 1048576) (ha : AmC C) (hpm : PmC C) :
    Calls Try.prog 10 #[.pointer (some ⟨pp, 0, none⟩), .slice (some ⟨g, 0, none⟩) P.length (P.length + 1), .agg #[v]] W2
      (fun e w' => ∃ oc M, e = .returned (.slice (some ⟨g, 0, none⟩) (P.length + 1) oc) ∧ AfS w P g M w' ∧ (md = 0 ∨ lgM M = false) ∧ ObM M) := by
  have hlt := hrow.lt (b := g) rfl
  obtain ⟨B, hB1, hB2, hB3⟩ := hrow
  have hM := mok_bco hwC ha hpm
  obtain ⟨va, vc, hva⟩ := own_slice hS.2.1
  have s0 := hb.size
  have s1 := hb1.size
  have s2 := hb2.size
  refine (zfl_any _ _ _ W2 (fun w1 r w' => ∃ oc M, r = .slice (some ⟨g, 0, none⟩) (P.length + 1) oc ∧ AfS w P g M w' ∧ (md = 0 ∨ lgM M = false) ∧ ObM M) (by rw [hva]; rfl) (fun w1 hb3 hs3 => ?_)).mono ?_
  · have hb12 : Below W0.heap.size W0 w1 := (hb1.trans (hb2.mono s1)).trans (hb3.mono (by omega))
    have hb13 : Below W1.heap.size W1 w1 := hb2.trans (hb3.mono s2)
    have hS1 := hS.keep hb3
    have hl : w1.ownsRow 0 40 1 (.slice (some ⟨g, 0, none⟩) P.length (P.length + 1)) P.length (B.flatMap one) := own_mono (own_ag hB2 (fun y hy => by cases hy; exact hb12.block g hlt.2)) (Nat.zero_le _)
    have d1 := later hb13 hc1
    have d2 := later hb13 hc2
    have d3 : w1.frozen? ⟨pp, 53, none⟩ = false := (hb13.frozen (p := ⟨pp, 53, none⟩) hp1).trans hc3
    by_cases hm : md ≠ 0 ∧ lgM (C.map bCo) = true
    · refine (flat_lg QS zs (W1.heap.size + 1) pp md P.length _ v (B.flatMap one) (C.map bCo) w1 hS1 hM hm.2 d1 hm.1 hl (by omega) ⟨by omega, by omega⟩ (fun y hy => by have hy2 : g = y := Option.some.inj hy; exact ⟨by omega, by omega⟩) ⟨d2, d3⟩).mono ?_
      rintro e w' ⟨v', M', hfl, hcx, hok, hlen, hfr⟩
      obtain ⟨oc, rfl, hA⟩ := AfS.of hb hlt.1 hB1 hB3 hb12 hfr (fun k hk q => by
        rcases q with q | q | q
        · cases q; rfl
        · have := hS1.iv q; omega
        · omega) hfl hcx
      exact ⟨_, rfl, oc, M', rfl, hA, .inr (lgM_no fun c hc => (hok c hc).1.1), ObM.ofL hok hlen⟩
    · have hm2 : md = 0 ∨ lgM (C.map bCo) = false := by
        by_cases h0 : md = 0
        · exact .inl h0
        · exact .inr (by cases hq : lgM (C.map bCo) with
            | false => rfl
            | true => exact absurd ⟨h0, hq⟩ hm)
      have hcx : CxV e1 (fun b => W1.heap.size + 1 ≤ b ∧ b < w1.heap.size) w1 v (C.map bCo) := hS1.view (fun b h1 h2 => ⟨h1, h2⟩)
      have hO := ObM.ofM hM
      refine (flat_same pp md P.length _ v (B.flatMap one) _ (C.map bCo) w1 (fun b hb => hb.2) hcx hO.bd d1 hm2 hl (by omega)).mono ?_
      rintro e w' ⟨hfl, hfr⟩
      obtain ⟨oc, rfl, hA⟩ := AfS.of hb hlt.1 hB1 hB3 hb12 hfr (fun k hk q => by cases q; rfl) hfl (CxV.to loc1 hcx (fun b q => ⟨Nat.lt_of_lt_of_le q.2 hfr.size, hfr.block b q.2 (fun r => by have r2 : b = g := Option.some.inj r; have := q.1; omega)⟩))
      exact ⟨_, rfl, oc, C.map bCo, rfl, hA, hm2, hO⟩
  · rintro e w' ⟨w1, r, rfl, -, -, oc, M, rfl, hA⟩
    exact ⟨oc, M, rfl, hA⟩
/-- the wanted row -/
theorem one_grp {X : Nat → Prop} {W : World} {g t : Nat} (hX : X g) (hr : W.rangeAt g 0 (Gp.cells ⟨0, letr (tP t), 0, .slice none 0 0, false⟩)) : GsV X W (.slice (some ⟨g, 0, none⟩) 1 1) [pmP t] := by
  refine ⟨some ⟨g, 0, none⟩, 1, rfl, fun i hi => ?_⟩
  obtain rfl : i = 0 := by
    have : i < 1 := hi
    omega
  exact ⟨g, 0, ⟨0, letr (tP t), 0, .slice none 0 0, false⟩, rfl, hX, hr, rfl, rfl, rfl, rfl, RW.nil _ _ _ _ _ _ _⟩
theorem obM_one (t : Nat) : ObM [pmP t] := ⟨by simp, fun c hc => by
  rw [List.mem_singleton.1 hc]
  exact ⟨fun s hs => (by cases hs), Nat.zero_le _, Nat.zero_le _⟩⟩
theorem GsV.to {X Y : Nat → Prop} {w w' : World} {v : Value} {M : List (Cp Su)} (h : GsV X w v M) (ht : To X w Y w') : GsV Y w' v M := RW.to h ht (fun x a q => locG X Y w w' x a ht q)
/-- the second flattening does nothing -/
theorem fl57b (pp md : Nat) (v : Value) (M : List (Cp Su)) (W : World) (hc : W.cell? ⟨pp, 52, none⟩ = some (.int .u8 (md : Nat))) (h : CxV e1 (Yw W) W v M) (hO : ObM M) (hm : md = 0 ∨ lgM M = false) :
    Calls Try.prog 10 #[.pointer (some ⟨pp, 0, none⟩), .slice none 0 0, .agg #[v]] W
      (fun e w' => ∃ g c, e = .returned (.slice (some ⟨g, 0, none⟩) 1 c) ∧ w'.rangeAt g 0 [v] ∧ Below W.heap.size W w') := by
  obtain ⟨va, vc, hva⟩ := RW.slice h
  refine (zfl_any _ _ _ W (fun w1 r w' => ∃ g c, r = .slice (some ⟨g, 0, none⟩) 1 c ∧ w'.rangeAt g 0 [v] ∧ Below w1.heap.size w1 w') (by rw [hva]; rfl) (fun w1 hb hs => ?_)).mono ?_
  · refine (flat_same pp md 0 (.slice none 0 0) v [] (Yw w1) M w1 (fun _ q => q) (CxV.to loc1 h (Yw.to hb)) hO.bd (later hb hc) hm (World.ownsRow_nil _ _ _ _) (by omega)).mono ?_
    rintro e w' ⟨⟨lv', rfl, ho, -⟩, hfr⟩
    obtain ⟨g, c, rfl, -, -⟩ := ho.form (by omega)
    refine ⟨_, rfl, g, c, rfl, fun i u hi => ?_, hfr.below (Nat.le_refl _) (fun k hk q => by cases q)⟩
    have h0 := ho.cells (g := g) rfl i u (by simpa using hi)
    rwa [add_at] at h0
  · rintro e w' ⟨w1, r, rfl, hb, hs, g, c, rfl, hr, hb2⟩
    exact ⟨g, c, rfl, hr, hb.trans (hb2.mono hb.size)⟩
set_option maxRecDepth 100000 in
set_option maxHeartbeats 4000000 in
theorem zcn_any (v : Value) (M : List (Cp Su)) (w : World) (h : CxV e1 (Yw w) w v M) (hO : ObM M) :
    Calls Try.prog 15 #[.agg #[v]] w (fun e w' => e = .returned (.bool (lgM M)) ∧ Below w.heap.size w w') := by
  obtain ⟨va, vc, hva⟩ := RW.slice h
  have hv : v.oneCell' = true := by rw [hva]; rfl
  obtain ⟨tX, hXx, hX2⟩ := tyCpl
  have HH := Lib.hid (And.intro h hO.bd)
  clear h hO hva
  go_enter Try.func15, Try.ntmps15
  go_upto_region 1 with fail
  have hb : Below w.heap.size w (w.alloc (.cells #[v] 40)) := (Below.refl _ _).alloc (Nat.le_refl _) _
  have hr := rg_new w #[v] 40
  generalize w.alloc _ = w1 at *
  have HC := Lib.hid (con_any (Yw w1) v M w1 (fun _ q => q) (CxV.to loc1 HH.out.1 (Yw.to hb)) HH.out.2)
  have HB := Lib.hid hb
  have HR := Lib.hid hr
  clear hb hr HH
  go_wp2_with (refine wpList_load_mid ?hgd 40 (.tmp 1) ?hoq w.heap.size 0 ?hpa [v] tX ?hrq hXx hX2 szCpl ?_
               case hoq => rfl
               case hgd => rfl
               case hpa => rfl
               case hrq => exact HR.out)
  refine HC.out.mono ?_
  rintro e w2 ⟨rfl, hb2⟩
  have HB2 := Lib.hid (HB.out.trans (hb2.mono HB.out.size))
  clear hb2
  go_wp2_with fail
  go_ret
  exact ⟨rfl, HB2.out⟩
end Go.Proofs.Ytbpnmiedomchpaa.Fg
