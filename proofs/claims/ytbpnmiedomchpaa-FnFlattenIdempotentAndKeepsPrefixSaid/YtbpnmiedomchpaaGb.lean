/-
  What is built is short enough.
-/
import Derived.Test.YtbpnmiedomchpaaGa
namespace Go.Proofs.Ytbpnmiedomchpaa.Fg
open Go.ChangeShapes Go.WideShapes Go.ChangeAt Go.RowKit Rg
set_option linter.unusedVariables false
set_option linter.unusedSimpArgs false
theorem dg_len : ∀ (k n : Nat), n < 10 ^ (k + 1) → (dg n).length ≤ k + 1
  | 0, n, h => by
    rw [dg_lo (by simpa using h)]
    simp
  | k + 1, n, h => by
    by_cases h10 : n < 10
    · rw [dg_lo h10]; simp
    · rw [dg_hi h10, List.length_append, List.length_singleton]
      have := dg_len k (n / 10) (by rw [Nat.pow_succ] at h; omega)
      omega
/-- the counts that are written are small -/
def AmC (C : List Co) : Prop := ∀ c ∈ C, c.am < 256 ∧ ∀ s ∈ c.S, ∀ i ∈ s.I, i.am < 256
theorem CoV.am {X : Nat → Prop} {w : World} {v : Value} {C : List Co} (h : CoV X w v C) : AmC C := fun c hc => by
  obtain ⟨k, hk, rfl⟩ := List.mem_iff_getElem.1 hc
  obtain ⟨g, o, cc, x, -, -, -, h1, h2, h3, h4, h5⟩ := RW.at h hk
  refine ⟨h4, fun s hs => ?_⟩
  obtain ⟨j, hj, rfl⟩ := List.mem_iff_getElem.1 hs
  obtain ⟨g', o', c', x', -, -, -, e1, e2, e3⟩ := RW.at h5 hj
  intro i hi
  obtain ⟨l, hl, rfl⟩ := List.mem_iff_getElem.1 hi
  obtain ⟨g'', o'', c'', x'', -, -, -, f1, f2, f3, f4, f5⟩ := RW.at e3 hl
  exact f4
theorem flat_sum {α β : Type} (f : α → List β) (g : α → Nat) (d : Nat) : ∀ L : List α, (∀ x ∈ L, (f x).length ≤ d + g x) → (L.flatMap f).length ≤ d * L.length + (L.map g).sum
  | [], _ => by simp
  | x :: r, h => by
    have h1 := flat_sum f g d r (fun y hy => h y (List.mem_cons_of_mem _ hy))
    have h2 := h x (List.mem_cons_self ..)
    rw [List.flatMap_cons, List.length_append, List.map_cons, List.sum_cons, List.length_cons, Nat.mul_add]
    omega
theorem sum_lin {α : Type} (f g : α → Nat) (d e : Nat) : ∀ L : List α, (∀ x ∈ L, f x ≤ d + e * g x) → (L.map f).sum ≤ d * L.length + e * (L.map g).sum
  | [], _ => by simp
  | x :: r, h => by
    have h1 := sum_lin f g d e r (fun y hy => h y (List.mem_cons_of_mem _ hy))
    have h2 := h x (List.mem_cons_self ..)
    rw [List.map_cons, List.sum_cons, List.map_cons, List.sum_cons, List.length_cons, Nat.mul_add, Nat.mul_add]
    omega
theorem size_list (n : ByteArray) : n.data.toList.length = n.size := by rw [Array.length_toList]; rfl
theorem encT_len (t : Nat) : (encT (tyO t)).length = 1 := by
  unfold tyO
  split
  · rfl
  · show (letr t).data.toList.length = 1
    rfl
theorem encNs_len (N : List ByteArray) : (N.flatMap encN).length ≤ wN N := by
  have := flat_sum encN (fun n => n.size) 1 N (fun n _ => by unfold encN; rw [List.length_cons, size_list]; omega)
  unfold wN
  omega
theorem encI_len (x : In) (h : x.am < 256) : (encI (bIn x)).length ≤ 10 + wN x.N := by
  have h1 := encNs_len x.N
  have h2 := dg_len 4 x.am (by omega)
  have h3 := encT_len x.ty
  unfold encI
  show (40 :: UInt8.ofNat (cbB (combN x.cb)) :: (encT (tyO x.ty) ++ 35 :: (dg x.am ++ (x.N.flatMap encN ++ [41])))).length ≤ _
  simp only [List.length_cons, List.length_append, List.length_nil]
  omega
theorem encM_len (I : List In) (h : ∀ i ∈ I, i.am < 256) : (encM (I.map bIn)).length ≤ 1 + 10 * wI I := by
  have h1 := flat_sum (fun i => encI (bIn i)) (fun i => wN i.N) 10 I (fun i hi => encI_len i (h i hi))
  unfold encM wI
  rw [List.length_cons, List.flatMap_map]
  omega
theorem kdS_len (k : Nat) : (kdS k).data.toList.length = 1 := by
  unfold kdS
  repeat (first | rfl | split)
theorem encS_len (s : Sj) (h : ∀ i ∈ s.I, i.am < 256) : (encS (bSj s)).length ≤ 3 + s.nm.size + 10 * wI s.I := by
  unfold bSj
  split
  · have h1 := encM_len s.I h
    have h2 := kdS_len (kindN s.kd)
    show (119 :: ((kdS (kindN s.kd)).data.toList ++ [s.I.map bIn].flatMap encM)).length ≤ _
    simp only [List.length_cons, List.length_append, List.flatMap_cons, List.flatMap_nil, List.length_nil]
    omega
  · show (46 :: s.nm.data.toList).length ≤ _
    rw [List.length_cons, size_list]
    omega
theorem qs_sj {C : List Co} (hw : wC C ≤ 1048576) (ha : AmC C) {c : Co} (hc : c ∈ C) {s : Sj} (hs : s ∈ c.S) : QS (bSj s) := by
  have h1 : wS c.S ≤ 1048576 := Nat.le_trans (wC_mem hc) hw
  have h2 : s.nm.size + wI s.I ≤ 1048576 := Nat.le_trans (wS_mem hs) h1
  have h3 := encS_len s ((ha c hc).2 s hs)
  refine ⟨by omega, ?_⟩
  by_cases hwr : s.wr = true
  · have e : bSj s = .wrap (kindN s.kd) [s.I.map bIn] := by unfold bSj; rw [if_pos hwr]
    rw [e]
    intro M hM d hd
    rw [List.mem_singleton.1 hM] at hd
    obtain ⟨i, hi, rfl⟩ := List.mem_map.1 hd
    have := (ha c hc).2 s hs i hi
    show i.am ≤ 65535
    omega
  · have e : bSj s = .bare s.nm := by unfold bSj; rw [if_neg hwr]
    rw [e]
    trivial
theorem kind_lg {k : Nat} (h : kindN k = 0 ∨ kindN k = 3) : lgK k = true := by
  unfold lgK
  unfold kindN at h
  rw [decide_eq_true_iff]
  have := Nat.mod_lt k (show 0 < 6 by decide)
  repeat (first | omega | split at h)
theorem sok_sj {C : List Co} (hw : wC C ≤ 1048576) (ha : AmC C) (hp : PmC C) {c : Co} (hc : c ∈ C) {s : Sj} (hs : s ∈ c.S) : SOK QS (bSj s) := by
  unfold bSj
  split
  · rename_i hwr
    intro hk M0 hM
    have e : s.I.map bIn = M0 := by simpa using hM
    obtain ⟨h1, h2⟩ := hp c hc s hs hwr (kind_lg hk)
    have hwI : wI s.I ≤ 1048576 := by
      have a1 := Nat.le_trans (wC_mem hc) hw
      have a2 := wS_mem hs
      omega
    rw [← e]
    refine ⟨by simpa using h1, fun d hd => ?_⟩
    obtain ⟨i, hi, rfl⟩ := List.mem_map.1 hd
    have hN : wN i.N ≤ 1048576 := Nat.le_trans (wI_mem hi) hwI
    have ham := (ha c hc).2 s hs i hi
    refine ⟨by show i.N.length ≤ _; unfold wN at hN; omega, by show i.am ≤ _; omega, fun n hn => ⟨h2 i hi n hn, ?_, trivial⟩, fun t ht => ⟨?_, fun M hM c' hc' => ?_⟩⟩
    · have : n.size ≤ wN i.N := wN_mem hn
      show (46 :: n.data.toList).length ≤ _
      rw [List.length_cons, size_list]
      omega
    · have ht2 : tyO i.ty = some t := ht
      have h5 := encT_len i.ty
      rw [ht2] at h5
      have h6 : t.data.toList.length = 1 := h5
      show (119 :: ((kdS 2).data.toList ++ (124 :: ((40 :: UInt8.ofNat (cbB 0) :: (t.data.toList ++ 35 :: (dg 0 ++ ([] ++ [41])))) ++ [])) ++ [])).length ≤ _
      have h7 := kdS_len 2
      have h8 := dg_len 0 0 (by decide)
      simp only [List.length_cons, List.length_append, List.length_nil]
      omega
    · rw [List.mem_singleton.1 hM] at hc'
      rw [List.mem_singleton.1 hc']
      show 0 ≤ 65535
      omega
  · trivial
theorem tU_sj (s : Sj) : tU (bSj s) ≤ 2 + 1 * (s.nm.size + wI s.I) := by
  unfold bSj
  split
  · show 2 + ([s.I.map bIn].map (·.length)).sum ≤ _
    have : s.I.length ≤ wI s.I := by unfold wI; omega
    simp only [List.map_cons, List.map_nil, List.sum_cons, List.sum_nil, List.length_map]
    omega
  · show 1 ≤ _
    omega
theorem mok_bco {C : List Co} (hw : wC C ≤ 1048576) (ha : AmC C) (hp : PmC C) : MOK QS (C.map bCo) := by
  have hS : ∀ c ∈ C, wS c.S ≤ 1048576 := fun c hc => Nat.le_trans (wC_mem hc) hw
  refine ⟨by rw [List.length_map]; unfold wC at hw; omega, ?_, fun d hd => ?_⟩
  · have h1 := sum_lin (fun c : Co => tC (bCo c)) (fun c => wS c.S) 1 3 C (fun c hc => by
      show 1 + ((c.S.map bSj).map tU).sum ≤ _
      have h2 := sum_lin (fun s : Sj => tU (bSj s)) (fun s => s.nm.size + wI s.I) 2 1 c.S (fun s _ => tU_sj s)
      rw [List.map_map]
      unfold wS
      have h3 : ((c.S.map (tU ∘ bSj))).sum = (c.S.map fun s => tU (bSj s)).sum := rfl
      omega)
    rw [List.map_map]
    have h3 : (C.map (tC ∘ bCo)).sum = (C.map fun c => tC (bCo c)).sum := rfl
    unfold wC at hw
    omega
  · obtain ⟨c, hc, rfl⟩ := List.mem_map.1 hd
    have h1 := hS c hc
    refine ⟨by show (c.S.map bSj).length ≤ _; rw [List.length_map]; unfold wS at h1; omega, by show c.am ≤ _; have := (ha c hc).1; omega, fun s hs => ?_⟩
    obtain ⟨s', hs', rfl⟩ := List.mem_map.1 hs
    exact ⟨qs_sj hw ha hc hs', sok_sj hw ha hp hc hs'⟩
end Go.Proofs.Ytbpnmiedomchpaa.Fg
