/-
  compactTokenQuad with the whitespace; TokensEqualIgnoringWhitespace.
-/
import Derived.Test.YtnihlfldlkkobaaDoorCa
import Derived.StillTailTactics
import Derived.Laws.Rows
namespace Go.Proofs.YtnihlfldlkkobaaDoor.Bx
open Go.ChangeShapes Go.WideShapes Go.ChangeAt Go.RowKit Rg Quad
set_option linter.unusedVariables false
set_option linter.unusedSimpArgs false
def tqF (q : Nat → Int) (S : Nat → Int) (j : Nat) : List Value := tyR (q j, S j)
/-- block g: four tokens -/
def QC (B g : Nat) (q S : Nat → Int) (w0 w : World) : Prop := Bk w g 43 (rowg (tqF q S) 4).toArray ∧ B ≤ g ∧ Below B w0 w
def upS (S : Nat → Int) (i : Nat) (x : Int) (j : Nat) : Int := if j = i then x else S j
section
variable {B g : Nat} {q S : Nat → Int} {w0 w w' : World}
theorem QC.keep (h : QC B g q S w0 w) (hb : Below w.heap.size w w') : QC B g q S w0 w' :=
  ⟨Bk.keep h.1 hb, h.2.1, h.2.2.trans (hb.mono (Nat.le_trans h.2.1 (Nat.le_of_lt h.1.lt)))⟩
theorem QC.drewN (h : QC B g q S w0 w) (k : Nat) : QC B g q S w0 (w.drewN k) := ⟨h.1, h.2.1, below_drewN h.2.2 k⟩
theorem QC.ws (h : QC B g q S w0 w) {i : Nat} (hi : i < 4) (x : Int) : QC B g q (upS S i x) w0 (w.setCell ⟨g, i * 7 + 6, none⟩ (.int .u8 x)) := by
  refine ⟨?_, h.2.1, h.2.2.setCell h.2.1 _⟩
  have h2 := h.1.set_ (i * 7 + 6) (.int .u8 x)
  have hr := rowg_set (f := tqF q S) (f' := tqF q (upS S i x)) (s := 7) (fun j => rfl) (i := i) (j := 6) (u := .int .u8 x) (by
    unfold tqF upS; rw [if_pos rfl]; rfl) (by omega) (fun k hk => by unfold tqF upS; rw [if_neg hk]) 4 hi
  rw [← hr]
  simpa using h2
theorem QC.at_ (h : QC B g q S w0 w) {i : Nat} (hi : i < 4) {j : Nat} {u : Value} (hj : (tyR (q i, S i))[j]? = some u) : w.cell? ⟨g, i * 7 + j, none⟩ = some u := by
  have hj7 : j < 7 := by have := (List.getElem?_eq_some_iff.1 hj).1; rw [tyR_len] at this; exact this
  exact Bk.cell h.1 (i * 7 + j) (by rw [List.getElem?_toArray, rowg_at (tqF q S) (s := 7) (fun _ => rfl) 4 i j hi hj7]; exact hj)
theorem QC.cells (h : QC B g q S w0 w) {i : Nat} (hi : i < 4) : w.cell? ⟨g, i * 7, none⟩ = some (.pointer none) ∧ w.cell? ⟨g, i * 7 + 1, none⟩ = some (.string (tT (q i))) ∧ w.cell? ⟨g, i * 7 + 2, none⟩ = some (.int .i32 0) ∧ w.cell? ⟨g, i * 7 + 3, none⟩ = some (.int .u32 0) ∧
    w.cell? ⟨g, i * 7 + 4, none⟩ = some (.int .u16 0) ∧ w.cell? ⟨g, i * 7 + 5, none⟩ = some (.int .u8 (tK (q i))) ∧ w.cell? ⟨g, i * 7 + 6, none⟩ = some (.int .u8 (S i)) :=
  ⟨h.at_ hi (j := 0) rfl, h.at_ hi (j := 1) rfl, h.at_ hi (j := 2) rfl, h.at_ hi (j := 3) rfl, h.at_ hi (j := 4) rfl, h.at_ hi (j := 5) rfl, h.at_ hi (j := 6) rfl⟩
theorem QC.made (w0 w : World) (B : Nat) (q S : Nat → Int) (hb : Below B w0 w) (hB : B ≤ w.heap.size) : QC B w.heap.size q S w0 (w.alloc (.cells (rowg (tqF q S) 4).toArray 43)) :=
  ⟨heap_alloc_new w _, hB, hb.alloc hB _⟩
end
/-- how many tokens the shortest spelling has -/
def mN (q : Nat → Int) : Nat := if q 3 = q 1 then (if q 2 = q 0 then (if q 1 = q 0 then 1 else 2) else 3) else 4
theorem mN_le (q : Nat → Int) : 1 ≤ mN q ∧ mN q ≤ 4 := by unfold mN; split <;> (try split) <;> (try split) <;> omega
/-- the whitespace of token j of n -/
def wsv (mf : Bool) (n j : Nat) : Int := (if mf = false ∨ 0 < j then 1 else 0) + (if j + 1 < n then 2 else 0)
/-- the whitespace behind k rounds -/
def wsk (mf : Bool) (n k j : Nat) : Int := if j < k then wsv mf n j else 0
theorem wsk_next (mf : Bool) (n k : Nat) : upS (wsk mf n k) k (wsv mf n k) = wsk mf n (k + 1) := by
  funext j
  unfold upS wsk
  by_cases e : j = k
  · subst e; rw [if_pos rfl, if_pos (by omega)]
  · rw [if_neg e]
    by_cases h : j < k
    · rw [if_pos h, if_pos (by omega)]
    · rw [if_neg h, if_neg (by omega)]
theorem QC.next {B g : Nat} {q : Nat → Int} {w0 w : World} {mf : Bool} {n k : Nat} (h : QC B g q (wsk mf n k) w0 w) (hk : k < 4) (x : Int) (hx : x = wsv mf n k) : QC B g q (wsk mf n (k + 1)) w0 (w.setCell ⟨g, k * 7 + 6, none⟩ (.int .u8 x)) := by
  rw [← wsk_next, ← hx]
  exact h.ws hk x
def CqP (q : Nat → Int) (mf : Bool) (w : World) (e : Ending) (w' : World) : Prop := ∃ g, e = .returned (.slice (some ⟨g, 0, none⟩) (mN q) 4) ∧ QC w.heap.size g q (wsk mf (mN q) (mN q)) w w'
set_option maxRecDepth 100000 in
set_option maxHeartbeats 4000000 in
theorem cq_any (q : Nat → Int) (hq : ∀ j, j < 4 → 0 ≤ q j ∧ q j < 8) (mf : Bool) (w : World) :
    Calls Tryd.prog 30 #[tyV (q 0, 0), tyV (q 1, 0), tyV (q 2, 0), tyV (q 3, 0), .bool mf] w (CqP q mf w) := by
  unfold CqP
  obtain ⟨n, hn⟩ : ∃ n, n = mN q := ⟨_, rfl⟩
  rw [← hn]
  have hn2 : n = (if decide (q 3 = q 1) = true then (if decide (q 2 = q 0) = true then (if decide (q 1 = q 0) = true then 1 else 2) else 3) else 4) := by rw [hn]; unfold mN; simp only [decide_eq_true_eq]
  have HN := Lib.hid hn2
  clear hn hn2
  unfold tyV
  go_enter Tryd.func30, Tryd.ntmps30
  go_wp2_with fail
  have hA : Below w.heap.size w ((((w.alloc (.cells (tyR (q 0, 0)).toArray 43)).alloc (.cells (tyR (q 1, 0)).toArray 43)).alloc (.cells (tyR (q 2, 0)).toArray 43)).alloc (.cells (tyR (q 3, 0)).toArray 43)) :=
    ((((Below.refl _ _).alloc (Nat.le_refl _) _).alloc (by simp) _).alloc (by simp; omega) _).alloc (by simp; omega) _
  have HQ0 := QC.made w _ w.heap.size q (fun _ => 0) hA hA.size
  have hrow : rowg (tqF q fun _ => 0) 4 = tyR (q 0, 0) ++ (tyR (q 1, 0) ++ (tyR (q 2, 0) ++ tyR (q 3, 0))) := by rfl
  rw [hrow] at HQ0
  unfold tyR at HQ0
  obtain ⟨g, hg⟩ : ∃ g, w.heap.size + 4 = g := ⟨_, rfl⟩
  rw [show ((((w.alloc _).alloc _).alloc _).alloc _).heap.size = w.heap.size + 4 by simp, hg] at HQ0
  simp only [List.cons_append, List.nil_append] at HQ0
  clear hA hrow
  generalize (World.alloc _ _ : World) = w1 at HQ0 ⊢
  have HQ : Hid (QC w.heap.size g q (wsk mf n 0) w w1) := Lib.hid HQ0
  clear HQ0
  try rw [hg]
  obtain ⟨a0, a1, a2, a3, a4, a5, a6⟩ := HQ.out.cells (i := 3) (by omega)
  obtain ⟨b0, b1, b2, b3, b4, b5, b6⟩ := HQ.out.cells (i := 1) (by omega)
  simp only [Nat.reduceMul, Nat.reduceAdd, Nat.zero_add, Nat.zero_mul] at a0 a1 a2 a3 a4 a5 a6 b0 b1 b2 b3 b4 b5 b6
  go_still_tail 6, (by kernel_rfl)
  change wpList _ _ _ _ _ _
  go_wp2_with fail
  refine (eqt_any _ _ _ _ _ _ _ _ _ _ _ _ _).mono ?_
  rintro e w1 ⟨rfl, hb⟩
  have HQ' := Lib.hid ((HQ.out.drewN 1).keep hb)
  clear hb a0 a1 a2 a3 a4 a5 a6 b0 b1 b2 b3 b4 b5 b6 HQ
  have HQ := HQ'
  clear HQ'
  rw [eq_code (hq 3 (by omega)) (hq 1 (by omega))]
  generalize decide (q 3 = q 1) = c1 at HN ⊢
  cases c1
  · go_wp2_with fail
    have hn : n = 4 := HN.out
    subst hn
    clear HN
    go_loopw [48] (fun i wr => ∃ k : Nat, k ≤ 4 ∧ i = .int .i64 k ∧ Hid (QC w.heap.size g q (wsk mf 4 k) w wr)) (fun i _ => 4 - (intOf i).toNat)
    case atStart => exact ⟨0, Nat.zero_le _, rfl, HQ⟩
    case round =>
      clear HQ
      obtain ⟨k, hk, rfl, HT⟩ := hrel
      by_cases hlt : k < 4
      · have hf := Bk.frozen HT.out.1 (k * 7 + 6)
        have c6 := (HT.out.cells (i := k) (by omega)).2.2.2.2.2.2
        have hkk : k = 0 ∨ k = 1 ∨ k = 2 ∨ k = 3 := by omega
        rcases hkk with rfl | rfl | rfl | rfl
        all_goals cases mf
        all_goals have HP := Lib.hid (HT.out.next (by omega) _ rfl)
        all_goals clear HT
        all_goals go_wp2_with fail
        all_goals refine ⟨⟨_, ?_, rfl, HP⟩, by simp [intOf]⟩
        all_goals first | decide | omega
      · obtain rfl : k = 4 := by omega
        go_wp2_with fail
        go_ret
        exact ⟨g, rfl, HT.out⟩
  · go_wp2_with fail
    obtain ⟨a0, a1, a2, a3, a4, a5, a6⟩ := HQ.out.cells (i := 2) (by omega)
    obtain ⟨b0, b1, b2, b3, b4, b5, b6⟩ := HQ.out.cells (i := 0) (by omega)
    simp only [Nat.reduceMul, Nat.reduceAdd, Nat.zero_add, Nat.zero_mul] at a0 a1 a2 a3 a4 a5 a6 b0 b1 b2 b3 b4 b5 b6
    go_still_tail 6, (by kernel_rfl)
    change wpList _ _ _ _ _ _
    go_wp2_with fail
    refine (eqt_any _ _ _ _ _ _ _ _ _ _ _ _ _).mono ?_
    rintro e w2 ⟨rfl, hb⟩
    have HQ' := Lib.hid ((HQ.out.drewN 1).keep hb)
    clear hb a0 a1 a2 a3 a4 a5 a6 b0 b1 b2 b3 b4 b5 b6 HQ
    have HQ := HQ'
    clear HQ'
    rw [eq_code (hq 2 (by omega)) (hq 0 (by omega))]
    generalize decide (q 2 = q 0) = c2 at HN ⊢
    cases c2
    · go_wp2_with fail
      have hn : n = 3 := HN.out
      subst hn
      clear HN
      go_loopw [48] (fun i wr => ∃ k : Nat, k ≤ 3 ∧ i = .int .i64 k ∧ Hid (QC w.heap.size g q (wsk mf 3 k) w wr)) (fun i _ => 3 - (intOf i).toNat)
      case atStart => exact ⟨0, Nat.zero_le _, rfl, HQ⟩
      case round =>
        clear HQ
        obtain ⟨k, hk, rfl, HT⟩ := hrel
        by_cases hlt : k < 3
        · have hf := Bk.frozen HT.out.1 (k * 7 + 6)
          have c6 := (HT.out.cells (i := k) (by omega)).2.2.2.2.2.2
          have hkk : k = 0 ∨ k = 1 ∨ k = 2 := by omega
          rcases hkk with rfl | rfl | rfl
          all_goals cases mf
          all_goals have HP := Lib.hid (HT.out.next (by omega) _ rfl)
          all_goals clear HT
          all_goals go_wp2_with fail
          all_goals refine ⟨⟨_, ?_, rfl, HP⟩, by simp [intOf]⟩
          all_goals first | decide | omega
        · obtain rfl : k = 3 := by omega
          go_wp2_with fail
          go_ret
          exact ⟨g, rfl, HT.out⟩
    · go_wp2_with fail
      obtain ⟨a0, a1, a2, a3, a4, a5, a6⟩ := HQ.out.cells (i := 1) (by omega)
      obtain ⟨b0, b1, b2, b3, b4, b5, b6⟩ := HQ.out.cells (i := 0) (by omega)
      simp only [Nat.reduceMul, Nat.reduceAdd, Nat.zero_add, Nat.zero_mul] at a0 a1 a2 a3 a4 a5 a6 b0 b1 b2 b3 b4 b5 b6
      go_still_tail 6, (by kernel_rfl)
      change wpList _ _ _ _ _ _
      go_wp2_with fail
      refine (eqt_any _ _ _ _ _ _ _ _ _ _ _ _ _).mono ?_
      rintro e w3 ⟨rfl, hb⟩
      have HQ' := Lib.hid ((HQ.out.drewN 1).keep hb)
      clear hb a0 a1 a2 a3 a4 a5 a6 b0 b1 b2 b3 b4 b5 b6 HQ
      have HQ := HQ'
      clear HQ'
      rw [eq_code (hq 1 (by omega)) (hq 0 (by omega))]
      generalize decide (q 1 = q 0) = c3 at HN ⊢
      cases c3
      · go_wp2_with fail
        have hn : n = 2 := HN.out
        subst hn
        clear HN
        go_loopw [48] (fun i wr => ∃ k : Nat, k ≤ 2 ∧ i = .int .i64 k ∧ Hid (QC w.heap.size g q (wsk mf 2 k) w wr)) (fun i _ => 2 - (intOf i).toNat)
        case atStart => exact ⟨0, Nat.zero_le _, rfl, HQ⟩
        case round =>
          clear HQ
          obtain ⟨k, hk, rfl, HT⟩ := hrel
          by_cases hlt : k < 2
          · have hf := Bk.frozen HT.out.1 (k * 7 + 6)
            have c6 := (HT.out.cells (i := k) (by omega)).2.2.2.2.2.2
            have hkk : k = 0 ∨ k = 1 := by omega
            rcases hkk with rfl | rfl
            all_goals cases mf
            all_goals have HP := Lib.hid (HT.out.next (by omega) _ rfl)
            all_goals clear HT
            all_goals go_wp2_with fail
            all_goals refine ⟨⟨_, ?_, rfl, HP⟩, by simp [intOf]⟩
            all_goals first | decide | omega
          · obtain rfl : k = 2 := by omega
            go_wp2_with fail
            go_ret
            exact ⟨g, rfl, HT.out⟩
      · go_wp2_with fail
        have hn : n = 1 := HN.out
        subst hn
        clear HN
        go_loopw [48] (fun i wr => ∃ k : Nat, k ≤ 1 ∧ i = .int .i64 k ∧ Hid (QC w.heap.size g q (wsk mf 1 k) w wr)) (fun i _ => 1 - (intOf i).toNat)
        case atStart => exact ⟨0, Nat.zero_le _, rfl, HQ⟩
        case round =>
          clear HQ
          obtain ⟨k, hk, rfl, HT⟩ := hrel
          by_cases hlt : k < 1
          · have hf := Bk.frozen HT.out.1 (k * 7 + 6)
            have c6 := (HT.out.cells (i := k) (by omega)).2.2.2.2.2.2
            have hkk : k = 0 := by omega
            rcases hkk with rfl
            all_goals cases mf
            all_goals have HP := Lib.hid (HT.out.next (by omega) _ rfl)
            all_goals clear HT
            all_goals go_wp2_with fail
            all_goals refine ⟨⟨_, ?_, rfl, HP⟩, by simp [intOf]⟩
            all_goals first | decide | omega
          · obtain rfl : k = 1 := by omega
            go_wp2_with fail
            go_ret
            exact ⟨g, rfl, HT.out⟩
end Go.Proofs.YtnihlfldlkkobaaDoor.Bx
