/-
  The scan of 64 counters.
-/
import Derived.Test.YtgcohfmbdfohoaaRows
import Derived.OpenShut
import Derived.Outline
import Derived.Deep.Cut
import Derived.Deep.Fields
import Derived.Deep.Slices
import Derived.OwnWalk
import Derived.Test.YtgcohfmbdfohoaaRg
namespace Go.Proofs.Ytgcohfmbdfohoaa.Fq
open Go.ChangeShapes Go.WideShapes Go.ChangeAt Go.RowKit Rg
set_option linter.unusedVariables false
/-- the counter that a byte moves (64: none) -/
def slot (c : Nat) : Nat :=
  if 97 ≤ c ∧ c ≤ 122 then c - 97 else if 65 ≤ c ∧ c ≤ 90 then c - 39 else if 48 ≤ c ∧ c ≤ 57 then c + 4 else if c = 95 then 62 else if c = 36 then 63 else 64
def up (f : Nat → Int) (d : Int) (k : Nat) : Nat → Int := fun j => if j = k then wrap32 (f k + d) else f j
def scanL (d : Int) : List UInt8 → (Nat → Int) → (Nat → Int)
  | [], f => f
  | c :: l, f => scanL d l (up f d (slot c.toNat))
def scanD (d : Int) (s : ByteArray) (f : Nat → Int) : Nat → Int := if d = 0 then f else scanL d s.data.toList f
/-- the 64 counters at block b -/
def Row (w : World) (b : Nat) (f : Nat → Int) : Prop := ∀ j, j < 64 → w.cell? ⟨b, j, none⟩ = some (.int .i32 (f j)) ∧ w.frozen? ⟨b, j, none⟩ = false
theorem Row.keep {w w' : World} {b : Nat} {f : Nat → Int} (hr : Row w b f) (hb : Below w.heap.size w w') : Row w' b f := fun j hj => by
  have hlt : b < w.heap.size := World.block_lt_of_cell? w ⟨b, j, none⟩ (hr j hj).1
  exact ⟨by rw [hb.cell (p := ⟨b, j, none⟩) hlt]; exact (hr j hj).1, by rw [hb.frozen (p := ⟨b, j, none⟩) hlt]; exact (hr j hj).2⟩
theorem Row.set {w : World} {b : Nat} {f : Nat → Int} (hr : Row w b f) (d : Int) {k : Nat} (hk : k < 64) : Row (w.setCell ⟨b, k, none⟩ (.int .i32 (wrap32 (f k + d)))) b (up f d k) := fun j hj => by
  have h1 := (hr j hj).1
  have h2 := (hr j hj).2
  refine ⟨?_, by rw [World.frozen?_setCell]; exact h2⟩
  by_cases hjk : j = k
  · subst hjk
    rw [show up f d j j = wrap32 (f j + d) from if_pos rfl]
    exact World.cell?_setCell_same' w _ _ (by rw [h1]; rfl)
  · rw [show up f d k j = f j from if_neg hjk, World.cell?_setCell_other]
    · exact h1
    · intro e; injection e with _ e2; exact hjk e2.symm
theorem Row.none {w : World} {b : Nat} {f : Nat → Int} (hr : Row w b f) (d : Int) {k : Nat} (hk : 64 ≤ k) : Row w b (up f d k) := fun j hj => by
  have : up f d k j = f j := by unfold up; rw [if_neg (by omega)]
  rw [this]; exact hr j hj
theorem step {b k : Nat} {f g : Nat → Int} {d : Int} {l l0 : List UInt8} {w wr : World} (H : Hid (Row wr b g ∧ scanL d l0 f = scanL d l (up g d k) ∧ Below b w wr ∧ wr.heap.size = w.heap.size)) (hk : k < 64) :
    Hid (Row ((wr.setCell ⟨b, k, none⟩ (.int .i32 (wrap32 (g k + d)))).drew) b (up g d k) ∧ scanL d l0 f = scanL d l (up g d k) ∧ Below b w ((wr.setCell ⟨b, k, none⟩ (.int .i32 (wrap32 (g k + d)))).drew) ∧ ((wr.setCell ⟨b, k, none⟩ (.int .i32 (wrap32 (g k + d)))).drew).heap.size = w.heap.size) :=
  Lib.hid ⟨H.out.1.set d hk, H.out.2.1, below_drewN (H.out.2.2.1.setCell (Nat.le_refl _) _) 1, by simpa [World.setCell] using H.out.2.2.2⟩
theorem none_step {b : Nat} {f g : Nat → Int} {d : Int} {l l0 : List UInt8} {w wr : World} (H : Hid (Row wr b g ∧ scanL d l0 f = scanL d l (up g d 64) ∧ Below b w wr ∧ wr.heap.size = w.heap.size)) :
    Hid (Row wr b (up g d 64) ∧ scanL d l0 f = scanL d l (up g d 64) ∧ Below b w wr ∧ wr.heap.size = w.heap.size) :=
  Lib.hid ⟨H.out.1.none d (Nat.le_refl _), H.out.2⟩
def SPost (b : Nat) (g : Nat → Int) (w : World) (e : Ending) (w' : World) : Prop := e = .returned (.tuple #[]) ∧ Row w' b g ∧ Below b w w' ∧ w'.heap.size = w.heap.size
set_option maxRecDepth 100000 in
set_option maxHeartbeats 1000000 in
theorem scan_any (b : Nat) (f : Nat → Int) (d : Int) (s : ByteArray) (hs : (s.size : Int) ≤ 9223372036854775807) (w : World) (hr : Row w b f) :
    Calls Try.prog 9 #[.pointer (some ⟨b, 0, none⟩), .string s, .int .i32 d] w (SPost b (scanD d s f) w) := by
  have HR := Lib.hid hr
  clear hr
  by_cases hd : d = 0
  · subst hd
    go_enter Try.func9, Try.ntmps9
    go_wp2_with fail
    (try simp only [Exit.inBlock, Exit.then]); refine bodyPost_ret (results_none rfl _ _ _) rfl ?_
    exact ⟨rfl, HR.out, Below.refl _ _, rfl⟩
  have hsd : scanD d s f = scanL d s.data.toList f := if_neg hd
  rw [hsd]
  have hdz : (d == 0) = false := by simpa using hd
  go_enter Try.func9, Try.ntmps9
  go_wp2_with fail
  go_loopw [6] (fun i wr => ∃ (k : Nat) (g : Nat → Int), k ≤ s.size ∧ i = .int .i64 k ∧ Hid (Row wr b g ∧ scanL d s.data.toList f = scanL d (s.data.toList.drop k) g ∧ Below b w wr ∧ wr.heap.size = w.heap.size)) (fun i _ => s.size - (intOf i).toNat)
  case atStart => exact ⟨0, f, Nat.zero_le _, rfl, Lib.hid ⟨HR.out, rfl, Below.refl _ _, rfl⟩⟩
  case round =>
    clear HR
    obtain ⟨k, g, hk, rfl, H⟩ := hrel
    by_cases hlt : k < s.size
    · have q0 : (0 : Int) ≤ k := by omega
      have q1 : (k : Int) < s.size := by omega
      have e1 : s.data.toList.drop k = s[k] :: s.data.toList.drop (k + 1) := by rw [List.drop_eq_getElem_cons (by simpa using hlt)]; rfl
      rw [e1] at H
      have hc : ∃ c : Nat, c = s[k].toNat := ⟨_, rfl⟩
      obtain ⟨c, hc⟩ := hc
      have hg : scanL d (s[k] :: s.data.toList.drop (k + 1)) g = scanL d (s.data.toList.drop (k + 1)) (up g d (slot c)) := by rw [hc]; rfl
      rw [hg] at H
      clear hg e1
      by_cases a1 : 97 ≤ c ∧ c ≤ 122
      · obtain ⟨m, hm⟩ : ∃ m, c = 97 + m := ⟨c - 97, by omega⟩
        have hsl : slot c = m := by unfold slot; rw [if_pos a1]; omega
        rw [hsl] at H
        have hcm : s[k].toNat = 97 + m := by omega
        have i1 : (97 + (m : Int)) ≤ 122 := by omega
        have i2 : ((97 : Int)) ≤ (97 + (m : Int)) := by omega
        have i3 : (97 + (m : Int)) - 97 = (m : Int) := by omega
        have i4 : (m : Int) < 64 := by omega
        have i6 : (m : Int).toNat = m := by omega
        clear hc
        have hm64 : m < 64 := by omega
        have hrow := (H.out.1 m hm64).1
        have hfro := (H.out.1 m hm64).2
        have i5 : (0 : Int) ≤ (m : Int) := by omega
        go_upto_region 6 with (fail)
        go_region
        have H2 := step H hm64
        clear H
        go_wp2_with fail
        go_roundw
        case rel => exact ⟨k + 1, _, by omega, by go_num, H2⟩
        case measure => simp [intOf]; omega
      by_cases a2 : 65 ≤ c ∧ c ≤ 90
      · obtain ⟨m, hm⟩ : ∃ m, c = 39 + m := ⟨c - 39, by omega⟩
        have hsl : slot c = m := by unfold slot; rw [if_neg a1]; rw [if_pos a2]; omega
        rw [hsl] at H
        have hcm : s[k].toNat = 39 + m := by omega
        have i1 : (39 + (m : Int)) ≤ 90 := by omega
        have i2 : ((65 : Int)) ≤ (39 + (m : Int)) := by omega
        have i3 : (39 + (m : Int)) - 39 = (m : Int) := by omega
        have i4 : (m : Int) < 64 := by omega
        clear hc
        have hm64 : m < 64 := by omega
        have hrow := (H.out.1 m hm64).1
        have hfro := (H.out.1 m hm64).2
        have i5 : (0 : Int) ≤ (m : Int) := by omega
        have n1 : (39 + (m : Int)) < 97 := by omega
        go_upto_region 8 with (fail)
        go_region
        have H2 := step H hm64
        clear H
        go_wp2_with fail
        go_roundw
        case rel => exact ⟨k + 1, _, by omega, by go_num, H2⟩
        case measure => simp [intOf]; omega
      by_cases a3 : 48 ≤ c ∧ c ≤ 57
      · obtain ⟨m, hm⟩ : ∃ m, c + 4 = m := ⟨c + 4, by omega⟩
        have hsl : slot c = m := by unfold slot; rw [if_neg a1, if_neg a2]; rw [if_pos a3]; omega
        rw [hsl] at H
        have hcm : s[k].toNat = c := by omega
        have i1 : (c : Int) ≤ 57 := by omega
        have i2 : ((48 : Int)) ≤ (c : Int) := by omega
        have i3 : (c : Int) + 4 = (m : Int) := by omega
        have i4 : (m : Int) < 64 := by omega
        clear hc
        have hm64 : m < 64 := by omega
        have hrow := (H.out.1 m hm64).1
        have hfro := (H.out.1 m hm64).2
        have i5 : (0 : Int) ≤ (m : Int) := by omega
        have n1 : (c : Int) < 97 := by omega
        have n2 : (c : Int) < 65 := by omega
        go_upto_region 10 with (fail)
        go_region
        have H2 := step H hm64
        clear H
        go_wp2_with fail
        go_roundw
        case rel => exact ⟨k + 1, _, by omega, by go_num, H2⟩
        case measure => simp [intOf]; omega
      by_cases a4 : c = 95
      · have hsl : slot c = 62 := by unfold slot; rw [if_neg a1, if_neg a2, if_neg a3]; rw [if_pos a4]
        rw [hsl] at H
        have hcm : s[k].toNat = 95 := by omega
        clear hc
        have hm64 : 62 < 64 := by omega
        have hrow := (H.out.1 62 hm64).1
        have hfro := (H.out.1 62 hm64).2
        go_upto_region 12 with (fail)
        go_region
        have H2 := step H hm64
        clear H
        go_wp2_with fail
        go_roundw
        case rel => exact ⟨k + 1, _, by omega, by go_num, H2⟩
        case measure => simp [intOf]; omega
      by_cases a5 : c = 36
      · have hsl : slot c = 63 := by unfold slot; rw [if_neg a1, if_neg a2, if_neg a3, if_neg a4]; rw [if_pos a5]
        rw [hsl] at H
        have hcm : s[k].toNat = 36 := by omega
        clear hc
        have hm64 : 63 < 64 := by omega
        have hrow := (H.out.1 63 hm64).1
        have hfro := (H.out.1 63 hm64).2
        go_upto_region 14 with (fail)
        go_region
        have H2 := step H hm64
        clear H
        go_wp2_with fail
        go_roundw
        case rel => exact ⟨k + 1, _, by omega, by go_num, H2⟩
        case measure => simp [intOf]; omega
      have hsl : slot c = 64 := by unfold slot; rw [if_neg a1, if_neg a2, if_neg a3, if_neg a4, if_neg a5]
      rw [hsl] at H
      have hcm : s[k].toNat = c := by omega
      clear hc hsl
      have c1 : ((c : Int) == 95) = false := by simp; omega
      have c2 : ((c : Int) == 36) = false := by simp; omega
      by_cases d1 : 122 < c
      · have e0 : (97 : Int) ≤ c := by omega
        have e1 : (122 : Int) < c := by omega
        have e2 : (65 : Int) ≤ c := by omega
        have e3 : (90 : Int) < c := by omega
        have e4 : (48 : Int) ≤ c := by omega
        have e5 : (57 : Int) < c := by omega
        have H2 := none_step H
        clear H
        go_wp2_with fail
        go_roundw
        case rel => exact ⟨k + 1, _, by omega, by go_num, H2⟩
        case measure => simp [intOf]; omega
      by_cases d2 : 90 < c
      · have e0 : (c : Int) < 97 := by omega
        have e1 : (65 : Int) ≤ c := by omega
        have e2 : (90 : Int) < c := by omega
        have e3 : (48 : Int) ≤ c := by omega
        have e4 : (57 : Int) < c := by omega
        have H2 := none_step H
        clear H
        go_wp2_with fail
        go_roundw
        case rel => exact ⟨k + 1, _, by omega, by go_num, H2⟩
        case measure => simp [intOf]; omega
      by_cases d3 : 57 < c
      · have e0 : (c : Int) < 97 := by omega
        have e1 : (c : Int) < 65 := by omega
        have e2 : (48 : Int) ≤ c := by omega
        have e3 : (57 : Int) < c := by omega
        have H2 := none_step H
        clear H
        go_wp2_with fail
        go_roundw
        case rel => exact ⟨k + 1, _, by omega, by go_num, H2⟩
        case measure => simp [intOf]; omega
      · have e0 : (c : Int) < 97 := by omega
        have e1 : (c : Int) < 65 := by omega
        have e2 : (c : Int) < 48 := by omega
        have H2 := none_step H
        clear H
        go_wp2_with fail
        go_roundw
        case rel => exact ⟨k + 1, _, by omega, by go_num, H2⟩
        case measure => simp [intOf]; omega
    · have q1 : ¬ (k : Int) < s.size := by omega
      go_wp2_with fail
      go_end0
      have hk' : k = s.size := by omega
      subst hk'
      have e : s.data.toList.drop s.size = [] := List.drop_eq_nil_of_le (by simp)
      rw [e] at H
      exact ⟨rfl, by rw [H.out.2.1]; exact H.out.1, H.out.2.2.1, H.out.2.2.2⟩
end Go.Proofs.Ytgcohfmbdfohoaa.Fq
