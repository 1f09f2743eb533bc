/-
  Over any list of kinds of at most 1 MiB: at each token a wrong kind is refused without moving and the right kind is taken, moving one step; at the end a kind other than end-of-file is refused and end-of-file is accepted without passing the end: the Go law FnEatWalksTheTokenStream returns true for every input. No condition.
-/
import Derived.Test.YtfbmomnfbkdbbabRows
import Derived.WalkKit
import Derived.ProofKit
import Derived.OpenShut
import Derived.ShutString
import Derived.ChangeOld
import Derived.Below
import Derived.Lib.Hide
import Derived.Outline
import Derived.Test.YtfbmomnfbkdbbabPars
import Derived.OwnWalk
import Derived.Laws.BitsAllLaws
namespace Go.Proofs.Ytfbmomnfbkdbbab.fnEatWalksTheTokenStream
open Go.ChangeShapes Go.WideShapes Go.ChangeAt Go.RowKit
open Go.ChangeMaps (open_string shut_string)
set_option linter.unusedVariables false

theorem own : ownKnob Try.prog.godebug = none := by kernel_rfl
theorem laidOut : laidOutB Try.prog = true := by kernel_rfl

/-- What the walk is told of a slice that came in: it is nil; or it leads to a row of 'cap' cells that hold 'zs'. -/
def IsRow {α : Type} [Inhabited α] (mk : α → Value) (ok : α → Prop) (w : World) (a : Option Addr) (len cap : Nat) (zs : List α) : Prop :=
  (a = none ∧ len = 0 ∧ cap = 0 ∧ zs = []) ∨
  ∃ x, a = some x ∧ len ≤ cap ∧ cap ≤ maxLen ∧ zs.length = cap ∧ (∀ i (h : i < zs.length), w.cell? (x.add i) = some (mk zs[i])) ∧ ∀ n ∈ zs, ok n
section
variable {H : Type} {enc : TypeId × Value → H} {P : Program} {w : World} {base : Nat} {hd : Bool}
theorem row_of_int {t e : TypeId} {k : IntKind} {fuel : Nat} {a : Option Addr} {len cap : Nat} {x : DataW H × List MemPlace} (ht : P.underlying t = some (.slice e)) (he : P.underlying e = some (.int k)) (hc : P.cellsOf e = 1)
    (hf : DataW.trod enc P w base (fun _ => true) hd fuel t (Value.slice a len cap).cells.toList = some x) : ∃ zs, IsRow (.int k) (fun n => (Lit.int k n).wf = true) w a len cap zs := by
  rcases open_ints ht he hc hf with ⟨hcs, _⟩ | ⟨y, l, c, zs, hcs, _, hl, hm, hz, _, hcell, hwz⟩
  · simp [Value.cells] at hcs
    obtain ⟨rfl, rfl, rfl⟩ := hcs
    exact ⟨[], .inl ⟨rfl, rfl, rfl, rfl⟩⟩
  · simp [Value.cells] at hcs
    obtain ⟨rfl, rfl, rfl⟩ := hcs
    exact ⟨zs, .inr ⟨_, rfl, hl, hm, by simpa using hz, fun i h => by have := hcell i h; simpa [List.getD, h] using this, hwz⟩⟩
end

open Pars
theorem run_make_rowN {P : Program} (t e : TypeId) (i : TypeInfo) (z : Value) (ht : P.underlying t = some (.slice e)) (hi : P.info? e = some i) (hz : i.zero = some z)
    (kl kc : IntKind) (n c : Nat) (hnc : n ≤ c) (hbytes : i.bytes * c ≤ 281474976710656) (h63 : c ≤ 9223372036854775807) (w : World) :
    (Instr.makeSlice t (.int kl (n : Int)) (.int kc (c : Int))).run P w = .ok (.slice (some ⟨w.heap.size, 0, none⟩) n c) (w.alloc (.cells (madeCells z.cells (c * i.size)) e)) := by
  have hb : (i.bytes : Int) * (c : Int) ≤ 281474976710656 := by
    have h : ((i.bytes * c : Nat) : Int) ≤ 281474976710656 := by omega
    rwa [Int.natCast_mul] at h
  have hr := run_make (P := P) w t e i z ht hi hz kl kc n c (by omega) (by omega) hb (by omega)
  simp only [Int.toNat_natCast] at hr
  exact hr
theorem info33 : (Try.prog.info? 33).map (fun i => (i.zero, i.size, i.bytes)) = some (some (.agg #[.int .i32 0, .int .i32 0, .int .u16 0, .int .u8 0, .int .u8 0]), 5, 12) := by kernel_rfl
/-- block g: a row of n tokens, of which the first k are set -/
def TR (B g n k : Nat) (K : Nat → Int) (w0 w : World) : Prop :=
  (∀ j, j < k → w.cell? ⟨g, j * 5, none⟩ = some (.int .i32 0) ∧ w.cell? ⟨g, j * 5 + 1, none⟩ = some (.int .i32 0) ∧ w.cell? ⟨g, j * 5 + 2, none⟩ = some (.int .u16 0) ∧ w.cell? ⟨g, j * 5 + 3, none⟩ = some (.int .u8 (K j)) ∧ w.cell? ⟨g, j * 5 + 4, none⟩ = some (.int .u8 0)) ∧
  (∀ o, o < n * 5 → (w.cell? ⟨g, o, none⟩).isSome = true) ∧ (∀ o, w.frozen? ⟨g, o, none⟩ = false) ∧ B ≤ g ∧ g < w.heap.size ∧ Below B w0 w
section
variable {B g n k : Nat} {K : Nat → Int} {w0 w w' : World}
theorem TR.keep (h : TR B g n k K w0 w) (hb : Below w.heap.size w w') : TR B g n k K w0 w' := by
  obtain ⟨h1, h2, h3, h4, h5, h6⟩ := h
  refine ⟨fun j hj => ?_, fun o ho => ?_, fun o => ?_, h4, Nat.lt_of_lt_of_le h5 hb.size, h6.trans (hb.mono (by omega))⟩
  · obtain ⟨a, b, c, d, e⟩ := h1 j hj
    exact ⟨later hb a, later hb b, later hb c, later hb d, later hb e⟩
  · obtain ⟨v, hv⟩ := Option.isSome_iff_exists.1 (h2 o ho)
    rw [later hb hv]; rfl
  · rw [hb.frozen (p := ⟨g, o, none⟩) h5]; exact h3 o
theorem set_same {w : World} {g o : Nat} {v : Value} (h : (w.cell? ⟨g, o, none⟩).isSome = true) : (w.setCell ⟨g, o, none⟩ v).cell? ⟨g, o, none⟩ = some v := World.cell?_setCell_same' w _ v h
theorem set_far {w : World} {g o o' : Nat} {v x : Value} (hne : o' ≠ o) (h : w.cell? ⟨g, o, none⟩ = some v) : (w.setCell ⟨g, o', none⟩ x).cell? ⟨g, o, none⟩ = some v := by
  rw [World.cell?_setCell_other]
  · exact h
  · intro e; injection e with _ e2; exact hne e2
theorem set_some {w : World} {p q : Addr} {x : Value} (h : (w.cell? q).isSome = true) : ((w.setCell p x).cell? q).isSome = true := by
  obtain ⟨v, hv⟩ := Option.isSome_iff_exists.1 h
  obtain ⟨v', hv'⟩ := cell?_setCell_some (p := p) (x := x) hv
  rw [hv']; rfl
theorem TR.put (h : TR B g n k K w0 w) (hk : k < n) : TR B g n (k + 1) K w0 (((((w.setCell ⟨g, k * 5, none⟩ (.int .i32 0)).setCell ⟨g, k * 5 + 1, none⟩ (.int .i32 0)).setCell ⟨g, k * 5 + 2, none⟩ (.int .u16 0)).setCell ⟨g, k * 5 + 3, none⟩ (.int .u8 (K k))).setCell ⟨g, k * 5 + 4, none⟩ (.int .u8 0)) := by
  obtain ⟨h1, h2, h3, h4, h5, h6⟩ := h
  have s0 := h2 (k * 5) (by omega)
  have s1 := h2 (k * 5 + 1) (by omega)
  have s2 := h2 (k * 5 + 2) (by omega)
  have s3 := h2 (k * 5 + 3) (by omega)
  have s4 := h2 (k * 5 + 4) (by omega)
  refine ⟨fun j hj => ?_, fun o ho => set_some (set_some (set_some (set_some (set_some (h2 o ho))))), fun o => by simp only [World.frozen?_setCell]; exact h3 o, h4, by simpa [World.setCell] using h5, ((((h6.setCell h4 _).setCell h4 _).setCell h4 _).setCell h4 _).setCell h4 _⟩
  by_cases hjk : j = k
  · subst hjk
    exact ⟨set_far (by omega) (set_far (by omega) (set_far (by omega) (set_far (by omega) (set_same s0)))), set_far (by omega) (set_far (by omega) (set_far (by omega) (set_same (set_some s1)))), set_far (by omega) (set_far (by omega) (set_same (set_some (set_some s2)))), set_far (by omega) (set_same (set_some (set_some (set_some s3)))), set_same (set_some (set_some (set_some (set_some s4))))⟩
  · obtain ⟨a, b, c, d, e⟩ := h1 j (by omega)
    exact ⟨set_far (by omega) (set_far (by omega) (set_far (by omega) (set_far (by omega) (set_far (by omega) a)))), set_far (by omega) (set_far (by omega) (set_far (by omega) (set_far (by omega) (set_far (by omega) b)))), set_far (by omega) (set_far (by omega) (set_far (by omega) (set_far (by omega) (set_far (by omega) c)))), set_far (by omega) (set_far (by omega) (set_far (by omega) (set_far (by omega) (set_far (by omega) d)))), set_far (by omega) (set_far (by omega) (set_far (by omega) (set_far (by omega) (set_far (by omega) e))))⟩
end
set_option maxRecDepth 100000 in
set_option maxHeartbeats 1000000 in
theorem tok_any (k : Int) (w : World) : Calls Try.prog 6 #[.int .u8 k, .int .i32 0, .int .i32 0] w fun e w' => e = .returned (.agg #[.int .i32 0, .int .i32 0, .int .u16 0, .int .u8 k, .int .u8 0]) ∧ Below w.heap.size w w' := by
  go_enter Try.func6, Try.ntmps6
  go_wp2
  refine bodyPost_ret (v := .agg #[.int .i32 0, .int .i32 0, .int .u16 0, .int .u8 k, .int .u8 0]) (by simp [results, Try.results6, go_sem]) rfl ⟨rfl, ?_⟩
  exact (Below.refl _ _).alloc (Nat.le_refl _) _
def NewP (B g n : Nat) (K : Nat → Int) (w0 : World) (e : Ending) (w' : World) : Prop := ∃ b, e = .returned (.pointer (some ⟨b, 0, none⟩)) ∧ PS B b g n (fun _ => 0) (fun _ => 0) K ⟨#[]⟩ 0 w0 w'
set_option maxRecDepth 100000 in
set_option maxHeartbeats 1000000 in
theorem new_any (B g n : Nat) (K : Nat → Int) (w0 w : World) (h : TR B g n n K w0 w) :
    Calls Try.prog 7 #[.string ⟨#[]⟩, .slice (some ⟨g, 0, none⟩) n n, .int .i64 0] w (NewP B g n K w0) := by
  have H := Lib.hid h
  clear h
  go_enter Try.func7, Try.ntmps7
  go_wp2
  go_ret
  have h := H.out
  obtain ⟨h1, h2, h3, h4, h5, h6⟩ := h
  refine ⟨w.heap.size, rfl, ⟨by simp, by simp, by simp, by simp⟩, fun j hj => ?_, by omega, by have := h6.size; omega, h6.alloc (by omega) _⟩
  obtain ⟨a, b, c, d, e⟩ := h1 j hj
  exact ⟨alloc_cell a _, alloc_cell b _, alloc_cell c _, alloc_cell d _, alloc_cell e _⟩
set_option maxHeartbeats 400000 in
theorem zzb_yes (a : Option Addr) (n c : Nat) (h : (n : Int) ≤ 1048576) (w : World) : Calls Try.prog 5 #[.slice a n c] w fun e w' => e = .returned (.bool true) ∧ w = w' := by
  go_enter Try.func5, Try.ntmps5
  go_wp2
  go_ret
  exact ⟨rfl, rfl⟩
theorem xor_one (x : Int) (h0 : 0 ≤ x) (h1 : x ≤ 255) : (bits BinOp.xor IntKind.u8 x 1 == x) = false ∧ 0 ≤ bits BinOp.xor IntKind.u8 x 1 ∧ bits BinOp.xor IntKind.u8 x 1 ≤ 255 := by
  obtain ⟨n, rfl⟩ := Int.eq_ofNat_of_zero_le h0
  have e := u8_xor_nat n 1 (by omega) (by decide)
  simp only [Int.cast_ofNat_Int] at e
  have hx : n ^^^ 1 < 2 ^ 8 := Nat.xor_lt_two_pow (by omega) (by decide)
  have hne : n ^^^ 1 ≠ n := by
    intro hc
    have : (n ^^^ 1).testBit 0 = n.testBit 0 := by rw [hc]
    rw [Nat.testBit_xor] at this
    cases hb : n.testBit 0 <;> rw [hb] at this <;> simp at this
  have e' : bits BinOp.xor IntKind.u8 (n : Int) 1 = ((n ^^^ 1 : Nat) : Int) := e
  rw [e']
  exact ⟨beq_eq_false_iff_ne.2 (by omega), by omega, by omega⟩

set_option maxRecDepth 100000 in
set_option maxHeartbeats 4000000 in
/-- THE WALK -/
theorem walk (a0 : Option Addr) (len0 cap0 : Nat) (z0 : List Int) (w : World) (w0 : IsRow (.int .u8) (fun n => (Lit.int .u8 n).wf = true) w a0 len0 cap0 z0) :
    Calls Try.prog 3 #[.slice a0 len0 cap0] w fun e w' => e = .returned (.bool true) ∧ Below w.heap.size w w' := by
  by_cases c0 : (len0 : Int) ≤ 1048576
  case neg =>
    go_enter Try.func3, Try.ntmps3
    go_wp2
    go_ret
    exact ⟨rfl, Below.refl _ _⟩
  obtain ⟨i0, hi, hz0, hz1, hz2⟩ := info_parts info33
  have hmk := fun W => run_make_rowN (P := Try.prog) 24 33 i0 _ Try.underlying24 hi hz0 .i64 .i64 len0 len0 (Nat.le_refl _) (by rw [hz2]; omega) (by omega) W
  -- the kinds, as a function of the place
  obtain ⟨K, hK⟩ : ∃ K : Nat → Int, K = fun j => z0.getD j 0 := ⟨_, rfl⟩
  have hrow : ∀ j, j < len0 → ∃ ab ao, a0 = some ⟨ab, ao, none⟩ ∧ w.cell? ⟨ab, ao + j, none⟩ = some (.int .u8 (K j)) ∧ 0 ≤ K j ∧ K j ≤ 255 := by
    intro j hj
    rcases w0 with ⟨rfl, rfl, rfl, rfl⟩ | ⟨x, rfl, hl, hm, hz, hcell, hwz⟩
    · omega
    · obtain ⟨ab, ao, sp⟩ := x
      have hjz : j < z0.length := by omega
      have hc := hcell j hjz
      have hs : sp = none := by simpa [Addr.add] using World.cell?_spot (hcell 0 (by omega))
      subst hs
      have e : K j = z0[j] := by rw [hK]; simp [List.getD, hjz]
      have hb : 0 ≤ z0[j] ∧ z0[j] ≤ 255 := by simpa [Lit.wf, IntKind.min, IntKind.max, IntKind.bits, IntKind.signed] using hwz _ (List.getElem_mem hjz)
      refine ⟨ab, ao, rfl, ?_, by rw [e]; exact hb.1, by rw [e]; exact hb.2⟩
      rw [e]
      have ha : (⟨ab, ao, none⟩ : Addr).add j = ⟨ab, ao + j, none⟩ := by
        unfold Addr.add
        split
        · rename_i h0; subst h0; rfl
        · rfl
      rw [← ha]; exact hc
  have HR := Lib.hid hrow
  have hd : decide ((1048576 : Int) < (len0 : Int)) = false := by simp; omega
  have hd2 : ¬ ((1048576 : Int) < (len0 : Int)) := by omega
  clear hrow w0 hK
  go_enter Try.func3, Try.ntmps3
  go_wp2_with fail
  refine (zzb_yes a0 len0 cap0 c0 _).mono ?_
  rintro e w' ⟨rfl, rfl⟩
  go_wp2
  have hT0 : TR w.heap.size w.heap.size len0 0 K w (w.alloc (.cells (madeCells #[.int .i32 0, .int .i32 0, .int .u16 0, .int .u8 0, .int .u8 0] (len0 * 5)) 33)) := by
    refine ⟨fun j hj => by omega, fun o ho => ?_, fun o => by simp, Nat.le_refl _, by simp, (Below.refl _ _).alloc (Nat.le_refl _) _⟩
    simp [madeCells, ho]
  generalize World.alloc w _ = w1 at hT0 ⊢
  have HT0 := Lib.hid hT0
  clear hT0 hmk hi hz0 hz1 hz2
  go_loopw [5] (fun i wr => ∃ k : Nat, k ≤ len0 ∧ i = .int .i64 k ∧ Hid (TR w.heap.size w.heap.size len0 k K w wr)) (fun i _ => len0 - (intOf i).toNat)
  case atStart => exact ⟨0, Nat.zero_le _, rfl, HT0⟩
  case round =>
    clear HT0
    obtain ⟨k, hk, rfl, HT⟩ := hrel
    by_cases hlt : k < len0
    · obtain ⟨ab, ao, rfl, hc, hK0, hK1⟩ := HR.out k hlt
      have hc1 : wr.cell? ⟨ab, ao + k, none⟩ = some (.int .u8 (K k)) := (HT.out.2.2.2.2.2.cell (p := ⟨ab, ao + k, none⟩) (World.block_lt_of_cell? w _ hc)).trans hc
      have q0 : (0 : Int) ≤ k := by omega
      have q1 : (k : Int) < len0 := by omega
      clear hc
      go_wp2_with fail
      refine (tok_any (K k) _).mono ?_
      rintro e w2 ⟨rfl, hb⟩
      have HT2 := Lib.hid (HT.out.keep hb)
      clear HT hb hc1
      obtain ⟨v0, e0⟩ := Option.isSome_iff_exists.1 (HT2.out.2.1 (k * 5) (by omega))
      obtain ⟨v1, e1⟩ := Option.isSome_iff_exists.1 (HT2.out.2.1 (k * 5 + 1) (by omega))
      obtain ⟨v2, e2⟩ := Option.isSome_iff_exists.1 (HT2.out.2.1 (k * 5 + 2) (by omega))
      obtain ⟨v3, e3⟩ := Option.isSome_iff_exists.1 (HT2.out.2.1 (k * 5 + 3) (by omega))
      obtain ⟨v4, e4⟩ := Option.isSome_iff_exists.1 (HT2.out.2.1 (k * 5 + 4) (by omega))
      have hf := HT2.out.2.2.1
      have HP := Lib.hid (HT2.out.put hlt)
      go_wp2
      go_roundw
      case rel => exact ⟨k + 1, by omega, by go_num, HP⟩
      case measure => simp [intOf]; omega
    · obtain rfl : k = len0 := by omega
      go_wp2_with fail
      refine (new_any w.heap.size w.heap.size k K w _ HT.out).mono ?_
      rintro e w2 ⟨b, rfl, hp⟩
      have HP := Lib.hid hp
      clear hp HT
      obtain ⟨wo, rfl⟩ : ∃ wo : World, wo = wr := ⟨_, rfl⟩
      go_wp2
      go_loopw [7] (fun i wr => ∃ j : Nat, j ≤ k ∧ i = .int .i64 j ∧ Hid (PS w.heap.size b w.heap.size k (fun _ => 0) (fun _ => 0) K ⟨#[]⟩ (j : Int) w wr)) (fun i _ => k - (intOf i).toNat)
      case atStart => exact ⟨0, Nat.zero_le _, rfl, HP⟩
      case round =>
        clear HP
        obtain ⟨j, hj, rfl, HP⟩ := hrel
        by_cases hlt : j < k
        · obtain ⟨ab, ao, rfl, hc, hK0, hK1⟩ := HR.out j hlt
          have hblt := World.block_lt_of_cell? w _ hc
          have hc1 : wr.cell? ⟨ab, ao + j, none⟩ = some (.int .u8 (K j)) := (HP.out.2.2.2.2.cell (p := ⟨ab, ao + j, none⟩) hblt).trans hc
          have q0 : (0 : Int) ≤ j := by omega
          have q1 : (j : Int) < k := by omega
          obtain ⟨x1, x2, x3⟩ := xor_one (K j) hK0 hK1
          generalize hy : bits BinOp.xor IntKind.u8 (K j) 1 = y at x1 x2 x3
          have hkj : kindAt k K j = K j := if_pos hlt
          have hnj : nextI k j = j + 1 := if_pos hlt
          have X1 := Lib.hid (show (y == kindAt k K j) = false by rw [hkj]; exact x1)
          have X2 := Lib.hid (show (K j == kindAt k K j) = true by rw [hkj]; simp)
          have HN := Lib.hid hnj
          have HC := Lib.hid hc
          clear x1 hkj hnj hc
          go_wp2_with fail
          clear hc1
          refine (zeat_no w.heap.size b w.heap.size k (fun _ => 0) (fun _ => 0) K ⟨#[]⟩ j w _ HP.out y X1.out).mono ?_
          rintro e w3 ⟨rfl, hp3⟩
          have HP3 := Lib.hid hp3
          clear HP hp3
          go_wp2_with fail
          refine (zindex w.heap.size b w.heap.size k (fun _ => 0) (fun _ => 0) K ⟨#[]⟩ j w _ HP3.out).mono ?_
          rintro e w' ⟨rfl, rfl⟩
          have hc3 : w3.cell? ⟨ab, ao + j, none⟩ = some (.int .u8 (K j)) := (HP3.out.2.2.2.2.cell (p := ⟨ab, ao + j, none⟩) hblt).trans HC.out
          go_wp2_with fail
          clear hc3
          refine (zeat_yes w.heap.size b w.heap.size k (fun _ => 0) (fun _ => 0) K ⟨#[]⟩ j w _ HP3.out c0 (K j) X2.out).mono ?_
          rintro e w4 ⟨rfl, hp4⟩
          rw [HN.out] at hp4
          have HP4 := Lib.hid hp4
          clear HP3 hp4
          go_wp2_with fail
          refine (zindex w.heap.size b w.heap.size k (fun _ => 0) (fun _ => 0) K ⟨#[]⟩ _ w _ HP4.out).mono ?_
          rintro e w' ⟨rfl, rfl⟩
          have ec : ((j + 1 : Nat) : Int) = (j : Int) + 1 := by omega
          rw [ec]
          clear ec
          go_wp2
          go_roundw
          case rel => exact ⟨j + 1, by omega, by go_num, HP4⟩
          case measure => simp [intOf]; omega
        · obtain rfl : j = k := by omega
          have hkj : kindAt j K j = 0 := if_neg (by omega)
          have hnj : nextI j j = j := if_neg (by omega)
          have X1 := Lib.hid (show ((1 : Int) == kindAt j K j) = false by rw [hkj]; rfl)
          have X2 := Lib.hid (show ((0 : Int) == kindAt j K j) = true by rw [hkj]; rfl)
          have HN := Lib.hid hnj
          clear hkj hnj
          go_wp2_with fail
          refine (zeat_no w.heap.size b w.heap.size j (fun _ => 0) (fun _ => 0) K ⟨#[]⟩ j w _ HP.out 1 X1.out).mono ?_
          rintro e w3 ⟨rfl, hp3⟩
          have HP3 := Lib.hid hp3
          clear HP hp3
          go_wp2_with fail
          refine (zindex w.heap.size b w.heap.size j (fun _ => 0) (fun _ => 0) K ⟨#[]⟩ j w _ HP3.out).mono ?_
          rintro e w' ⟨rfl, rfl⟩
          go_wp2_with fail
          refine (zeat_yes w.heap.size b w.heap.size j (fun _ => 0) (fun _ => 0) K ⟨#[]⟩ j w _ HP3.out c0 0 X2.out).mono ?_
          rintro e w4 ⟨rfl, hp4⟩
          rw [HN.out] at hp4
          have HP4 := Lib.hid hp4
          clear HP3 hp4
          go_wp2_with fail
          refine (zindex w.heap.size b w.heap.size j (fun _ => 0) (fun _ => 0) K ⟨#[]⟩ j w _ HP4.out).mono ?_
          rintro e w' ⟨rfl, rfl⟩
          go_wp2_with fail
          refine (zeat_yes w.heap.size b w.heap.size j (fun _ => 0) (fun _ => 0) K ⟨#[]⟩ j w _ HP4.out c0 0 X2.out).mono ?_
          rintro e w5 ⟨rfl, hp5⟩
          rw [HN.out] at hp5
          have HP5 := Lib.hid hp5
          clear HP4 hp5
          go_wp2_with fail
          refine (zindex w.heap.size b w.heap.size j (fun _ => 0) (fun _ => 0) K ⟨#[]⟩ j w _ HP5.out).mono ?_
          rintro e w' ⟨rfl, rfl⟩
          go_wp2
          go_ret
          exact ⟨rfl, HP5.out.2.2.2.2⟩

set_option maxRecDepth 100000 in
theorem lifted (os : Os) (started : os.Started) (H : Type) (enc : TypeId × Value → H) :
    ReturnsInHanded {} Try.checked os 3 .any (Rows.fnEatWalksTheTokenStreamSpec.pre6 enc Try.prog Try.f3 Rows.fnEatWalksTheTokenStreamRow.domain false) (Rows.fnEatWalksTheTokenStreamSpec.post enc Try.prog Try.f3 false true false false) := by
  refine returnsInHanded_of_change (C := Try.checked) own started (by kernel_rfl) Try.func3
    (ChangeSpec.witness6 (enc := enc) (C := Try.checked) false ⟨#[], #[.slice none 0 0], []⟩ 8 (by kernel_rfl) (by kernel_rfl) (by kernel_rfl) (by kernel_rfl)) ?_
  intro W base args ds gs before hval0 hW hcnd _
  have hval : ∀ (j : Nat) t v, Try.f3.params[j]? = some t → args[j]? = some v → Value.okWide Try.prog W .any base t v := hval0
  have hW' := hW
  obtain ⟨p, q, hA0, hV, rfl, hfz, hnd⟩ := hW
  have hA : DataW.TrodAll enc Try.prog W 0 (fun _ => true) true Try.f3.params.toList args.toList ds p := hA0
  rw [Try.params3] at hA hval
  obtain ⟨v0, vs0, d0, ds0, p0, q0, hargs, rfl, rfl, h0, r0⟩ := trodAll_cons hA
  obtain ⟨rfl, rfl, rfl⟩ := trodAll_nil r0
  obtain rfl : args = #[v0] := by cases args; simp_all
  obtain ⟨rfl, rfl⟩ := trodVars_none hV
  obtain ⟨a0, len0, cap0, rfl⟩ := okWide_slice Try.underlying22 (hval 0 22 v0 rfl rfl)
  have k0 := h0
  have lt0 : ∀ x ∈ p0, x.block < W.heap.size := by obtain ⟨m, hm⟩ := k0; exact DataW.trod_lt m _ _ _ hm
  obtain ⟨z0, w0⟩ : ∃ zs, IsRow (.int .u8) (fun n => (Lit.int .u8 n).wf = true) W a0 len0 cap0 zs := by
    obtain ⟨fuel, hf⟩ := h0
    exact row_of_int Try.underlying22 Try.underlying5 (by kernel_rfl) hf
  clear hA0 hval0
  refine (walk a0 len0 cap0 z0 W w0).mono fun e W' ⟨he, bel⟩ => ?_
  subst he
  exact ⟨_, rfl, _, _, _, [], _, [], hW', trodAll_mk1 (shut_bool Try.underlying4 _), (trodAll_cons_mk (Below.trod laidOut (by kernel_rfl) (of_decide_eq_true (by kernel_rfl)) k0 bel lt0) trodAll_mk0), rfl, bel.frame _, fun h => by cases h⟩

theorem over : Rows.fnEatWalksTheTokenStreamRow.holds Try.pinned (OpenSpec.ofChange Rows.fnEatWalksTheTokenStreamSpec) :=
  OpenClaim.holds_of_wide 3 Try.f3 rfl rfl rfl rfl rfl rfl rfl ⟨rfl, rfl, rfl, rfl, rfl⟩ rfl rfl rfl rfl rfl (by kernel_rfl) Try.func3 (by kernel_rfl)
    (of_decide_eq_true (by kernel_rfl)) (by unfold Func.isWrapper; first | (rw [if_pos (by decide +kernel)]; kernel_rfl) | (rw [if_neg (by decide +kernel)]; exact ⟨rfl, rfl⟩))
    (fun os started H enc _ => lifted os started H enc)

/-- THE STATEMENT -/
theorem proved : Rows.FnEatWalksTheTokenStreamSaid := over
#print axioms proved
end Go.Proofs.Ytfbmomnfbkdbbab.fnEatWalksTheTokenStream
