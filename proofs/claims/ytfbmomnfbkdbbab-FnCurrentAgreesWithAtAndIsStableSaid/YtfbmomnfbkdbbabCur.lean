import Derived.Test.YtfbmomnfbkdbbabRows
import Derived.WalkKit
import Derived.ProofKit
import Derived.OpenShut
import Derived.Below
import Derived.Lib.Hide
import Derived.Outline
import Derived.WalkLawsBesides
import Derived.RegionTactic
import Derived.Deep.QuietTactic
import Derived.BigQuiet
import Derived.Laws.CopyOwn
import Derived.WalkSpells
import Derived.OwnWalk
import Derived.Test.YtfbmomnfbkdbbabPars
namespace Go.Proofs.Ytfbmomnfbkdbbab.Cur
open Go.ChangeShapes Go.WideShapes Go.ChangeAt Go.RowKit
open Pars
set_option linter.unusedVariables false
def trip (n : Nat) (S L K : Nat → Int) (C : ByteArray) (i : Nat) : Value := .tuple #[.int .u8 (kindAt n K i), .int .i32 (startAt n S C i), .int .i32 (lenAt n L i)]
set_option maxRecDepth 100000 in
set_option maxHeartbeats 1000000 in
theorem next_any (B b g n : Nat) (S L K : Nat → Int) (C : ByteArray) (c : Nat) (w0 w : World) (h : PS B b g n S L K C c w0 w) (hc : (c : Int) ≤ 1048576) :
    Calls Try.prog 19 #[.pointer (some ⟨b, 0, none⟩)] w fun e w' => e = .returned (tokAt n S L K C (c + 1)) ∧ Below w.heap.size w w' := by
  have h1 := alloc_cell h.1.2.1
  have H := Lib.hid h
  clear h
  go_enter Try.func19, Try.ntmps19
  go_wp2_with fail
  clear h1
  refine (at_any B b g n S L K C c w0 _ (H.out.keep ((Below.refl _ _).alloc (Nat.le_refl _) _)) _ (c + 1) (by omega)).mono ?_
  rintro e w1 ⟨rfl, hb⟩
  have q0 := hb.cell (p := ⟨w.heap.size, 0, none⟩) (by simp)
  have q1 := hb.cell (p := ⟨w.heap.size, 1, none⟩) (by simp)
  have q2 := hb.cell (p := ⟨w.heap.size, 2, none⟩) (by simp)
  have q3 := hb.cell (p := ⟨w.heap.size, 3, none⟩) (by simp)
  have q4 := hb.cell (p := ⟨w.heap.size, 4, none⟩) (by simp)
  have f0 := hb.frozen (p := ⟨w.heap.size, 0, none⟩) (by simp)
  have f1 := hb.frozen (p := ⟨w.heap.size, 1, none⟩) (by simp)
  have f2 := hb.frozen (p := ⟨w.heap.size, 2, none⟩) (by simp)
  have f3 := hb.frozen (p := ⟨w.heap.size, 3, none⟩) (by simp)
  have f4 := hb.frozen (p := ⟨w.heap.size, 4, none⟩) (by simp)
  have hz := hb.size
  have hB : Below w.heap.size w w1 := ((Below.refl _ _).alloc (Nat.le_refl _) _).trans (hb.mono (by simp))
  simp [go_sem] at q0 q1 q2 q3 q4 f0 f1 f2 f3 f4 hz
  clear hb H
  obtain ⟨s, hs⟩ : ∃ s, s = startAt n S C (c+1) := ⟨_, rfl⟩
  obtain ⟨l, hl⟩ : ∃ s, s = lenAt n L (c+1) := ⟨_, rfl⟩
  obtain ⟨k, hk⟩ : ∃ s, s = kindAt n K (c+1) := ⟨_, rfl⟩
  have ht : tokAt n S L K C (c+1) = .agg #[.int .i32 s, .int .i32 l, .int .u16 0, .int .u8 k, .int .u8 0] := by rw [hs, hl, hk]; rfl
  rw [ht]
  have HT := Lib.hid ht
  clear ht hs hl hk
  go_wp2
  refine bodyPost_ret (v := .agg #[.int .i32 s, .int .i32 l, .int .u16 0, .int .u8 k, .int .u8 0]) (by simp [results, Try.results19, go_sem, q0, q1, q2, q3, q4]) rfl ⟨by rw [HT.out], ?_⟩
  exact ((((hB.setCell (Nat.le_refl _) _).setCell (Nat.le_refl _) _).setCell (Nat.le_refl _) _).setCell (Nat.le_refl _) _).setCell (Nat.le_refl _) _
set_option maxRecDepth 100000 in
set_option maxHeartbeats 1000000 in
theorem zindex_any (B b g n : Nat) (S L K : Nat → Int) (C : ByteArray) (c : Int) (w0 w : World) (h : PS B b g n S L K C c w0 w) :
    Calls Try.prog 15 #[.pointer (some ⟨b, 0, none⟩)] w fun e w' => e = .returned (.int .i64 c) ∧ w = w' := by
  have h2 := h.1.2.1
  clear h
  go_enter Try.func15, Try.ntmps15
  go_wp2
  go_ret
  exact ⟨rfl, rfl⟩
theorem below_drewN {B : Nat} {a w : World} (h : Below B a w) (n : Nat) : Below B a (w.drewN n) := h.trans ⟨rfl, rfl, rfl, Nat.le_refl _, fun _ _ => rfl⟩
set_option maxRecDepth 100000 in
set_option maxHeartbeats 1000000 in
theorem zcur_any (B b g n : Nat) (S L K : Nat → Int) (C : ByteArray) (c : Nat) (w0 w : World) (h : PS B b g n S L K C c w0 w) :
    Calls Try.prog 12 #[.pointer (some ⟨b, 0, none⟩)] w fun e w' => e = .returned (trip n S L K C (c)) ∧ Below w.heap.size w w' := by
  have H := Lib.hid h
  clear h
  obtain ⟨s, hs⟩ : ∃ s, s = startAt n S C (c) := ⟨_, rfl⟩
  obtain ⟨l, hl⟩ : ∃ s, s = lenAt n L (c) := ⟨_, rfl⟩
  obtain ⟨k, hk⟩ : ∃ s, s = kindAt n K (c) := ⟨_, rfl⟩
  have ht : tokAt n S L K C (c) = .agg #[.int .i32 s, .int .i32 l, .int .u16 0, .int .u8 k, .int .u8 0] := by rw [hs, hl, hk]; rfl
  have ht2 : trip n S L K C (c) = .tuple #[.int .u8 k, .int .i32 s, .int .i32 l] := by rw [hs, hl, hk]; rfl
  rw [ht2]
  have HT := Lib.hid ht
  clear ht ht2 hs hl hk
  go_enter Try.func12, Try.ntmps12
  go_wp2_with fail
  refine (current_any B b g n S L K C c w0 _ H.out).mono ?_
  rintro e w1 ⟨rfl, hb⟩
  rw [HT.out]
  clear H HT
  go_wp2
  go_quiet (fail)
  all_goals go_wp2
  refine bodyPost_ret (v := .tuple #[.int .u8 k, .int .i32 s, .int .i32 l]) (by simp [results, Try.results12, go_sem]) rfl ⟨rfl, ?_⟩
  have hz := hb.size
  exact below_drewN (hb.alloc (by omega) _) _
set_option maxRecDepth 100000 in
set_option maxHeartbeats 1000000 in
theorem zat_any (B b g n : Nat) (S L K : Nat → Int) (C : ByteArray) (c : Int) (w0 w : World) (h : PS B b g n S L K C c w0 w) (x : Int) (i : Nat) (hx : x = i) :
    Calls Try.prog 13 #[.pointer (some ⟨b, 0, none⟩), .int .i64 x] w fun e w' => e = .returned (trip n S L K C (i)) ∧ Below w.heap.size w w' := by
  have H := Lib.hid h
  clear h
  have HX := Lib.hid hx
  clear hx
  obtain ⟨s, hs⟩ : ∃ s, s = startAt n S C (i) := ⟨_, rfl⟩
  obtain ⟨l, hl⟩ : ∃ s, s = lenAt n L (i) := ⟨_, rfl⟩
  obtain ⟨k, hk⟩ : ∃ s, s = kindAt n K (i) := ⟨_, rfl⟩
  have ht : tokAt n S L K C (i) = .agg #[.int .i32 s, .int .i32 l, .int .u16 0, .int .u8 k, .int .u8 0] := by rw [hs, hl, hk]; rfl
  have ht2 : trip n S L K C (i) = .tuple #[.int .u8 k, .int .i32 s, .int .i32 l] := by rw [hs, hl, hk]; rfl
  rw [ht2]
  have HT := Lib.hid ht
  clear ht ht2 hs hl hk
  go_enter Try.func13, Try.ntmps13
  go_wp2_with fail
  refine (at_any B b g n S L K C c w0 _ H.out x i HX.out).mono ?_
  rintro e w1 ⟨rfl, hb⟩
  rw [HT.out]
  clear H HT
  go_wp2
  go_quiet (fail)
  all_goals go_wp2
  refine bodyPost_ret (v := .tuple #[.int .u8 k, .int .i32 s, .int .i32 l]) (by simp [results, Try.results13, go_sem]) rfl ⟨rfl, ?_⟩
  have hz := hb.size
  exact below_drewN (hb.alloc (by omega) _) _
set_option maxRecDepth 100000 in
set_option maxHeartbeats 1000000 in
theorem znext_any (B b g n : Nat) (S L K : Nat → Int) (C : ByteArray) (c : Nat) (w0 w : World) (h : PS B b g n S L K C c w0 w) (hc : (c : Int) ≤ 1048576) :
    Calls Try.prog 14 #[.pointer (some ⟨b, 0, none⟩)] w fun e w' => e = .returned (trip n S L K C (c + 1)) ∧ Below w.heap.size w w' := by
  have H := Lib.hid h
  clear h
  obtain ⟨s, hs⟩ : ∃ s, s = startAt n S C (c + 1) := ⟨_, rfl⟩
  obtain ⟨l, hl⟩ : ∃ s, s = lenAt n L (c + 1) := ⟨_, rfl⟩
  obtain ⟨k, hk⟩ : ∃ s, s = kindAt n K (c + 1) := ⟨_, rfl⟩
  have ht : tokAt n S L K C (c + 1) = .agg #[.int .i32 s, .int .i32 l, .int .u16 0, .int .u8 k, .int .u8 0] := by rw [hs, hl, hk]; rfl
  have ht2 : trip n S L K C (c + 1) = .tuple #[.int .u8 k, .int .i32 s, .int .i32 l] := by rw [hs, hl, hk]; rfl
  rw [ht2]
  have HT := Lib.hid ht
  clear ht ht2 hs hl hk
  go_enter Try.func14, Try.ntmps14
  go_wp2_with fail
  refine (next_any B b g n S L K C c w0 _ H.out hc).mono ?_
  rintro e w1 ⟨rfl, hb⟩
  rw [HT.out]
  clear H HT
  go_wp2
  go_quiet (fail)
  all_goals go_wp2
  refine bodyPost_ret (v := .tuple #[.int .u8 k, .int .i32 s, .int .i32 l]) (by simp [results, Try.results14, go_sem]) rfl ⟨rfl, ?_⟩
  have hz := hb.size
  exact below_drewN (hb.alloc (by omega) _) _
set_option maxRecDepth 100000 in
set_option maxHeartbeats 1000000 in
theorem zzb_yes (C : ByteArray) (a1 a2 a3 : Option Addr) (n1 n2 n3 c1 c2 c3 : Nat) (x y : Int) (h : (C.size : Int) + n1 + n2 + n3 ≤ 1048576) (w : World) :
    Calls Try.prog 10 #[.string C, .slice a1 n1 c1, .slice a2 n2 c2, .slice a3 n3 c3, .int .i64 x, .int .i64 y] w fun e w' => e = .returned (.bool true) ∧ w = w' := by
  go_enter Try.func10, Try.ntmps10
  go_wp2
  go_ret
  exact ⟨rfl, rfl⟩
set_option maxRecDepth 100000 in
set_option maxHeartbeats 1000000 in
theorem zzb_no (C : ByteArray) (a1 a2 a3 : Option Addr) (n1 n2 n3 c1 c2 c3 : Nat) (x y : Int) (h : 1048576 < (C.size : Int) + n1 + n2 + n3) (w : World) :
    Calls Try.prog 10 #[.string C, .slice a1 n1 c1, .slice a2 n2 c2, .slice a3 n3 c3, .int .i64 x, .int .i64 y] w fun e w' => e = .returned (.bool false) ∧ w = w' := by
  by_cases q0 : (1048576 : Int) < C.size
  · go_enter Try.func10, Try.ntmps10
    go_wp2
    go_ret
    exact ⟨rfl, rfl⟩
  by_cases q1 : (1048576 : Int) < n1
  · go_enter Try.func10, Try.ntmps10
    go_wp2
    go_ret
    exact ⟨rfl, rfl⟩
  by_cases q2 : (1048576 : Int) < C.size + n1
  · go_enter Try.func10, Try.ntmps10
    go_wp2
    go_ret
    exact ⟨rfl, rfl⟩
  by_cases q3 : (1048576 : Int) < n2
  · go_enter Try.func10, Try.ntmps10
    go_wp2
    go_ret
    exact ⟨rfl, rfl⟩
  by_cases q4 : (1048576 : Int) < C.size + n1 + n2
  · go_enter Try.func10, Try.ntmps10
    go_wp2
    go_ret
    exact ⟨rfl, rfl⟩
  by_cases q5 : (1048576 : Int) < n3
  · go_enter Try.func10, Try.ntmps10
    go_wp2
    go_ret
    exact ⟨rfl, rfl⟩
  go_enter Try.func10, Try.ntmps10
  go_wp2
  go_ret
  exact ⟨rfl, rfl⟩
theorem run_make_rowN {P : Program} (t e : TypeId) (i : TypeInfo) (z : Value) (ht : P.underlying t = some (.slice e)) (hi : P.info? e = some i) (hz : i.zero = some z)
    (kl kc : IntKind) (n c : Nat) (hnc : n ≤ c) (hbytes : i.bytes * c ≤ 281474976710656) (h63 : c ≤ 9223372036854775807) (w : World) :
    (Instr.makeSlice t (.int kl (n : Int)) (.int kc (c : Int))).run P w = .ok (.slice (some ⟨w.heap.size, 0, none⟩) n c) (w.alloc (.cells (madeCells z.cells (c * i.size)) e)) := by
  have hb : (i.bytes : Int) * (c : Int) ≤ 281474976710656 := by
    have h : ((i.bytes * c : Nat) : Int) ≤ 281474976710656 := by omega
    rwa [Int.natCast_mul] at h
  have hr := run_make (P := P) w t e i z ht hi hz kl kc n c (by omega) (by omega) hb (by omega)
  simp only [Int.toNat_natCast] at hr
  exact hr
theorem info33 : (Try.prog.info? 33).map (fun i => (i.zero, i.size, i.bytes)) = some (some (.agg #[.int .i32 0, .int .i32 0, .int .u16 0, .int .u8 0, .int .u8 0]), 5, 12) := by kernel_rfl
/-- block g: a row of n tokens, of which the first k are set -/
def TR (B g n k : Nat) (S L K : Nat → Int) (w0 w : World) : Prop :=
  (∀ j, j < k → w.cell? ⟨g, j * 5, none⟩ = some (.int .i32 (S j)) ∧ w.cell? ⟨g, j * 5 + 1, none⟩ = some (.int .i32 (L j)) ∧ w.cell? ⟨g, j * 5 + 2, none⟩ = some (.int .u16 0) ∧ w.cell? ⟨g, j * 5 + 3, none⟩ = some (.int .u8 (K j)) ∧ w.cell? ⟨g, j * 5 + 4, none⟩ = some (.int .u8 0)) ∧
  (∀ o, o < n * 5 → (w.cell? ⟨g, o, none⟩).isSome = true) ∧ (∀ o, w.frozen? ⟨g, o, none⟩ = false) ∧ B ≤ g ∧ g < w.heap.size ∧ Below B w0 w
section
variable {B g n k : Nat} {S L K : Nat → Int} {w0 w w' : World}
theorem TR.keep (h : TR B g n k S L K w0 w) (hb : Below w.heap.size w w') : TR B g n k S L K w0 w' := by
  obtain ⟨h1, h2, h3, h4, h5, h6⟩ := h
  refine ⟨fun j hj => ?_, fun o ho => ?_, fun o => ?_, h4, Nat.lt_of_lt_of_le h5 hb.size, h6.trans (hb.mono (by omega))⟩
  · obtain ⟨a, b, c, d, e⟩ := h1 j hj
    exact ⟨later hb a, later hb b, later hb c, later hb d, later hb e⟩
  · obtain ⟨v, hv⟩ := Option.isSome_iff_exists.1 (h2 o ho)
    rw [later hb hv]; rfl
  · rw [hb.frozen (p := ⟨g, o, none⟩) h5]; exact h3 o
theorem set_same {w : World} {g o : Nat} {v : Value} (h : (w.cell? ⟨g, o, none⟩).isSome = true) : (w.setCell ⟨g, o, none⟩ v).cell? ⟨g, o, none⟩ = some v := World.cell?_setCell_same' w _ v h
theorem set_far {w : World} {g o o' : Nat} {v x : Value} (hne : o' ≠ o) (h : w.cell? ⟨g, o, none⟩ = some v) : (w.setCell ⟨g, o', none⟩ x).cell? ⟨g, o, none⟩ = some v := by
  rw [World.cell?_setCell_other]
  · exact h
  · intro e; injection e with _ e2; exact hne e2
theorem set_some {w : World} {p q : Addr} {x : Value} (h : (w.cell? q).isSome = true) : ((w.setCell p x).cell? q).isSome = true := by
  obtain ⟨v, hv⟩ := Option.isSome_iff_exists.1 h
  obtain ⟨v', hv'⟩ := cell?_setCell_some (p := p) (x := x) hv
  rw [hv']; rfl
theorem TR.put (h : TR B g n k S L K w0 w) (hk : k < n) : TR B g n (k + 1) S L K w0 (((((w.setCell ⟨g, k * 5, none⟩ (.int .i32 (S k))).setCell ⟨g, k * 5 + 1, none⟩ (.int .i32 (L k))).setCell ⟨g, k * 5 + 2, none⟩ (.int .u16 0)).setCell ⟨g, k * 5 + 3, none⟩ (.int .u8 (K k))).setCell ⟨g, k * 5 + 4, none⟩ (.int .u8 0)) := by
  obtain ⟨h1, h2, h3, h4, h5, h6⟩ := h
  have s0 := h2 (k * 5) (by omega)
  have s1 := h2 (k * 5 + 1) (by omega)
  have s2 := h2 (k * 5 + 2) (by omega)
  have s3 := h2 (k * 5 + 3) (by omega)
  have s4 := h2 (k * 5 + 4) (by omega)
  refine ⟨fun j hj => ?_, fun o ho => set_some (set_some (set_some (set_some (set_some (h2 o ho))))), fun o => by simp only [World.frozen?_setCell]; exact h3 o, h4, by simpa [World.setCell] using h5, ((((h6.setCell h4 _).setCell h4 _).setCell h4 _).setCell h4 _).setCell h4 _⟩
  by_cases hjk : j = k
  · subst hjk
    exact ⟨set_far (by omega) (set_far (by omega) (set_far (by omega) (set_far (by omega) (set_same s0)))), set_far (by omega) (set_far (by omega) (set_far (by omega) (set_same (set_some s1)))), set_far (by omega) (set_far (by omega) (set_same (set_some (set_some s2)))), set_far (by omega) (set_same (set_some (set_some (set_some s3)))), set_same (set_some (set_some (set_some (set_some s4))))⟩
  · obtain ⟨a, b, c, d, e⟩ := h1 j (by omega)
    exact ⟨set_far (by omega) (set_far (by omega) (set_far (by omega) (set_far (by omega) (set_far (by omega) a)))), set_far (by omega) (set_far (by omega) (set_far (by omega) (set_far (by omega) (set_far (by omega) b)))), set_far (by omega) (set_far (by omega) (set_far (by omega) (set_far (by omega) (set_far (by omega) c)))), set_far (by omega) (set_far (by omega) (set_far (by omega) (set_far (by omega) (set_far (by omega) d)))), set_far (by omega) (set_far (by omega) (set_far (by omega) (set_far (by omega) (set_far (by omega) e))))⟩
end
theorem TR.drewP {B g n k : Nat} {S L K : Nat → Int} {w0 w : World} (h : TR B g n k S L K w0 w) : TR B g n k S L K w0 w.drew := by
  obtain ⟨h1, h2, h3, h4, h5, h6⟩ := h
  exact ⟨h1, h2, h3, h4, h5, h6.drew⟩
/-- a slice of n integers that reads as Z -/
def RowOf (k : IntKind) (w : World) (a : Option Addr) (n : Nat) (Z : Nat → Int) : Prop :=
  ∀ j, j < n → ∃ ab ao, a = some ⟨ab, ao, none⟩ ∧ w.cell? ⟨ab, ao + j, none⟩ = some (.int k (Z j))
theorem RowOf.keep {k : IntKind} {w w' : World} {a : Option Addr} {n : Nat} {Z : Nat → Int} (h : RowOf k w a n Z) (hb : Below w.heap.size w w') : RowOf k w' a n Z := by
  intro j hj
  obtain ⟨ab, ao, e, hc⟩ := h j hj
  exact ⟨ab, ao, e, later hb hc⟩
def NewP (n : Nat) (S L K : Nat → Int) (C : ByteArray) (c : Int) (w0 : World) (e : Ending) (w' : World) : Prop := ∃ b g, e = .returned (.pointer (some ⟨b, 0, none⟩)) ∧ PS w0.heap.size b g n S L K C c w0 w'
set_option maxRecDepth 100000 in
set_option maxHeartbeats 2000000 in
theorem new_any (C : ByteArray) (a1 a2 a3 : Option Addr) (n c1 c2 c3 : Nat) (c : Int) (S L K : Nat → Int) (w : World) (h1 : RowOf .u8 w a1 n K) (h2 : RowOf .i32 w a2 n S) (h3 : RowOf .i32 w a3 n L) (hn : (n : Int) ≤ 1048576) :
    Calls Try.prog 11 #[.string C, .slice a1 n c1, .slice a2 n c2, .slice a3 n c3, .int .i64 c] w (NewP n S L K C c w) := by
  obtain ⟨i0, hi, hz0, hz1, hz2⟩ := info_parts info33
  have hmk := fun W => run_make_rowN (P := Try.prog) 24 33 i0 _ Try.underlying24 hi hz0 .i64 .i64 n n (Nat.le_refl _) (by rw [hz2]; omega) (by omega) W
  have H1 := Lib.hid h1
  have H2 := Lib.hid h2
  have H3 := Lib.hid h3
  clear h1 h2 h3
  go_enter Try.func11, Try.ntmps11
  go_wp2
  have hT0 : TR w.heap.size w.heap.size n 0 S L K w (w.alloc (.cells (madeCells #[.int .i32 0, .int .i32 0, .int .u16 0, .int .u8 0, .int .u8 0] (n * 5)) 33)) := by
    refine ⟨fun j hj => by omega, fun o ho => ?_, fun o => by simp, Nat.le_refl _, by simp, (Below.refl _ _).alloc (Nat.le_refl _) _⟩
    simp [madeCells, ho]
  generalize World.alloc w _ = w1 at hT0 ⊢
  have HT0 := Lib.hid hT0
  clear hT0 hmk hi hz0 hz1 hz2
  go_loopw [12] (fun i wr => ∃ k : Nat, k ≤ n ∧ i = .int .i64 k ∧ Hid (TR w.heap.size w.heap.size n k S L K w wr)) (fun i _ => n - (intOf i).toNat)
  case atStart => exact ⟨0, Nat.zero_le _, rfl, HT0⟩
  case round =>
    clear HT0
    obtain ⟨k, hk, rfl, HT⟩ := hrel
    by_cases hlt : k < n
    · obtain ⟨b1, o1, rfl, r1⟩ := H1.out k hlt
      obtain ⟨b2, o2, rfl, r2⟩ := H2.out k hlt
      obtain ⟨b3, o3, rfl, r3⟩ := H3.out k hlt
      have t1 : wr.cell? ⟨b1, o1 + k, none⟩ = some (.int .u8 (K k)) := (HT.out.2.2.2.2.2.cell (p := ⟨b1, o1 + k, none⟩) (World.block_lt_of_cell? w _ r1)).trans r1
      have t2 : wr.cell? ⟨b2, o2 + k, none⟩ = some (.int .i32 (S k)) := (HT.out.2.2.2.2.2.cell (p := ⟨b2, o2 + k, none⟩) (World.block_lt_of_cell? w _ r2)).trans r2
      have t3 : wr.cell? ⟨b3, o3 + k, none⟩ = some (.int .i32 (L k)) := (HT.out.2.2.2.2.2.cell (p := ⟨b3, o3 + k, none⟩) (World.block_lt_of_cell? w _ r3)).trans r3
      have q0 : (0 : Int) ≤ k := by omega
      have q1 : (k : Int) < n := by omega
      clear r1 r2 r3
      obtain ⟨v0, e0⟩ := Option.isSome_iff_exists.1 (HT.out.2.1 (k * 5) (by omega))
      obtain ⟨v1, e1⟩ := Option.isSome_iff_exists.1 (HT.out.2.1 (k * 5 + 1) (by omega))
      obtain ⟨v2, e2⟩ := Option.isSome_iff_exists.1 (HT.out.2.1 (k * 5 + 2) (by omega))
      obtain ⟨v3, e3⟩ := Option.isSome_iff_exists.1 (HT.out.2.1 (k * 5 + 3) (by omega))
      obtain ⟨v4, e4⟩ := Option.isSome_iff_exists.1 (HT.out.2.1 (k * 5 + 4) (by omega))
      have hf := HT.out.2.2.1
      have HP := Lib.hid ((HT.out.put hlt).drewP)
      go_wp2
      go_region
      all_goals go_wp2
      all_goals exact ⟨⟨k + 1, by omega, by go_num, HP⟩, by simp [intOf]; omega⟩
    · obtain rfl : k = n := by omega
      go_wp2
      go_ret
      have h := HT.out
      obtain ⟨h1, h2, h3, h4, h5, h6⟩ := h
      refine ⟨wr.heap.size, w.heap.size, rfl, ⟨by simp, by simp, by simp, by simp⟩, fun j hj => ?_, by omega, by have := h6.size; omega, h6.alloc (by omega) _⟩
      obtain ⟨a, b, c, d, e⟩ := h1 j hj
      exact ⟨alloc_cell a _, alloc_cell b _, alloc_cell c _, alloc_cell d _, alloc_cell e _⟩
theorem add_none (ab ao j : Nat) : (⟨ab, ao, none⟩ : Addr).add j = ⟨ab, ao + j, none⟩ := by
  unfold Addr.add
  split
  · rename_i h0; subst h0; rfl
  · rfl
theorem copy_row {w : World} {ops : Array Oper} {rest : List Oper} {o : Oper} {a : Act} {Q : Exit → Act → World → Prop} (hgd : o.guard = none) (d s : Operand) (dT elem : TypeId)
    (ho : o.op = .call { callee := .builtin .copy, args := #[d, s], argTypes := #[dT, dT] }) (hu : Try.prog.underlying dT = some (.slice elem)) (hsz : (Try.prog.info? elem).map (·.size) = some 1)
    (n sCap : Nat) (sp : Option Addr) (k : IntKind) (z : Value) (Z : Nat → Int) (hd : a.eval d = .slice (some ⟨w.heap.size, 0, none⟩) n n) (hs : a.eval s = .slice sp n sCap) (hr : RowOf k w sp n Z)
    (h : ∀ w', Below w.heap.size w w' → Hid (RowOf k w' (some ⟨w.heap.size, 0, none⟩) n Z) → wpList Try.prog ops Q rest (a.put o.dst (goInt n)) w') :
    wpList Try.prog ops Q (o :: rest) a (w.alloc (.cells (madeCells #[z] n) elem)) := by
  refine wpList_copy_splice hgd d s dT dT ho elem hu hsz _ sp n n n sCap hd hs w.heap.size 0 (madeCells #[z] n).toList elem (by show (w.heap.push _)[w.heap.size]? = _; simp) ((List.range n).map fun j => .int k (Z j)) (by simp) ?_ (by simp [madeCells]) (by
    intro v hv
    simp at hv
    obtain ⟨j, _, rfl⟩ := hv
    rfl) w.heap.size w ((Below.refl _ _).alloc (Nat.le_refl _) _) (Nat.le_refl _) ?_
  · intro hp
    refine ⟨rfl, ?_⟩
    obtain ⟨ab, ao, rfl, hc⟩ := hr 0 (by simpa using hp)
    refine ⟨_, rfl, fun j v hj => ?_⟩
    have hjn : j < n := by
      by_cases hh : j < n
      · exact hh
      · simp [hh] at hj
    simp [hjn] at hj
    subst hj
    obtain ⟨ab', ao', e, hc'⟩ := hr j hjn
    simp only [Option.some.injEq, Addr.mk.injEq, and_true] at e
    obtain ⟨rfl, rfl⟩ := e
    rw [add_none]
    exact alloc_cell hc' _
  · intro w' hg hb
    have hg := hg.out
    have e : goInt ((List.range n).map fun j => Value.int k (Z j)).length = goInt n := by simp
    rw [e]
    refine h w' hb (Lib.hid ?_)
    intro j hj
    refine ⟨_, _, rfl, ?_⟩
    have hjl : j < ((List.range n).map fun j => Value.int k (Z j)).length := by simpa using hj
    simp [World.cell?, hg, splice]
    rw [List.getElem?_append_left hjl]
    simp [hj]
end Go.Proofs.Ytfbmomnfbkdbbab.Cur
