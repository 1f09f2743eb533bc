/-
  For every four kinds, texts, payloads and whitespace flags, expandTokenQuad takes what compactTokenQuad wrote for four allowed tokens and gives the four sides back, equal but for whitespace. Conditions: none beyond the given statement's own.
-/
import Derived.Test.YtbjcolglkegicacRows
import Derived.WalkKit
import Derived.ProofKit
import Derived.OpenShut
import Derived.ShutString
import Derived.ChangeOld
import Derived.Below
import Derived.Lib.Hide
import Derived.Outline
import Derived.Laws.IdiomArrays
import Derived.Test.YtbjcolglkegicacQl
namespace Go.Proofs.Ytbjcolglkegicac.fnCompactThenExpandGivesBackTheQuad
open Go.ChangeShapes Go.WideShapes Go.ChangeAt Go.RowKit
open Go.ChangeMaps (open_string shut_string)
set_option linter.unusedVariables false

theorem own : ownKnob Try.prog.godebug = none := by kernel_rfl
theorem laidOut : laidOutB Try.prog = true := by kernel_rfl
section
variable {H : Type} {enc : TypeId × Value → H} {P : Program} {w : World} {base : Nat} {spare : Nat → Bool} {hd : Bool}
theorem open_arr4_int {r : Reach} {b0 : Nat} {t e : TypeId} {k : IntKind} {v : Value} {d : DataW H} {p : List MemPlace} (ht : P.underlying t = some (.array 4 e)) (he : P.underlying e = some (.int k)) (hce : P.cellsOf e = 1) (hC : P.cellsOf t = 4)
    (hv : Value.okWide P w r b0 t v) (h : DataW.Trod enc P w base spare hd t v d p) : ∃ z : Nat → Int, v = .agg #[.int k (z 0), .int k (z 1), .int k (z 2), .int k (z 3)] ∧ ∀ j, j < 4 → (Lit.int k (z j)).wf = true := by
  simp only [Value.okWide, ht] at hv
  obtain ⟨cs, rfl, hsz, _⟩ := hv
  obtain ⟨l⟩ := cs
  match l, hsz.trans hC with
  | [c0, c1, c2, c3], _ =>
    obtain ⟨fuel, hf⟩ := h
    obtain ⟨y0, y1, y2, y3, n, -, g0, g1, g2, g3⟩ := trod_array4 ht hce hf
    obtain ⟨n0, e0, -, q0⟩ := DataW.trod_int he g0
    obtain rfl : c0 = .int k n0 := by simpa using e0
    obtain ⟨n1, e1, -, q1⟩ := DataW.trod_int he g1
    obtain rfl : c1 = .int k n1 := by simpa using e1
    obtain ⟨n2, e2, -, q2⟩ := DataW.trod_int he g2
    obtain rfl : c2 = .int k n2 := by simpa using e2
    obtain ⟨n3, e3, -, q3⟩ := DataW.trod_int he g3
    obtain rfl : c3 = .int k n3 := by simpa using e3
    exact ⟨fun | 0 => n0 | 1 => n1 | 2 => n2 | _ => n3, rfl, fun j hj => by
      have : j = 0 ∨ j = 1 ∨ j = 2 ∨ j = 3 := by omega
      rcases this with rfl | rfl | rfl | rfl <;> assumption⟩
theorem open_arr4_string {r : Reach} {b0 : Nat} {t e : TypeId} {v : Value} {d : DataW H} {p : List MemPlace} (ht : P.underlying t = some (.array 4 e)) (he : P.underlying e = some (.string)) (hce : P.cellsOf e = 1) (hC : P.cellsOf t = 4)
    (hv : Value.okWide P w r b0 t v) (h : DataW.Trod enc P w base spare hd t v d p) : ∃ z : Nat → ByteArray, v = .agg #[.string (z 0), .string (z 1), .string (z 2), .string (z 3)] ∧ ∀ j, j < 4 → (z j).size ≤ maxLen := by
  simp only [Value.okWide, ht] at hv
  obtain ⟨cs, rfl, hsz, _⟩ := hv
  obtain ⟨l⟩ := cs
  match l, hsz.trans hC with
  | [c0, c1, c2, c3], _ =>
    obtain ⟨fuel, hf⟩ := h
    obtain ⟨y0, y1, y2, y3, n, -, g0, g1, g2, g3⟩ := trod_array4 ht hce hf
    obtain ⟨n0, e0, -, q0⟩ := DataW.trod_string he g0
    obtain rfl : c0 = .string n0 := by simpa using e0
    obtain ⟨n1, e1, -, q1⟩ := DataW.trod_string he g1
    obtain rfl : c1 = .string n1 := by simpa using e1
    obtain ⟨n2, e2, -, q2⟩ := DataW.trod_string he g2
    obtain rfl : c2 = .string n2 := by simpa using e2
    obtain ⟨n3, e3, -, q3⟩ := DataW.trod_string he g3
    obtain rfl : c3 = .string n3 := by simpa using e3
    exact ⟨fun | 0 => n0 | 1 => n1 | 2 => n2 | _ => n3, rfl, fun j hj => by
      have : j = 0 ∨ j = 1 ∨ j = 2 ∨ j = 3 := by omega
      rcases this with rfl | rfl | rfl | rfl <;> assumption⟩
end

open Quad Rg

set_option maxRecDepth 100000 in
set_option maxHeartbeats 4000000 in
/-- THE WALK -/
theorem walk (z0 : Nat → Int) (z1 : Nat → ByteArray) (z2 : Nat → Int) (z3 : Nat → Int) (a4 : Bool) (a5 : ByteArray) (w : World) (w0 : ∀ j, j < 4 → (Lit.int .u8 (z0 j)).wf = true) (w1 : ∀ j, j < 4 → (z1 j).size ≤ maxLen) (w2 : ∀ j, j < 4 → (Lit.int .u32 (z2 j)).wf = true) (w3 : ∀ j, j < 4 → (Lit.int .u8 (z3 j)).wf = true) (w5 : a5.size ≤ maxLen) :
    Calls Try.prog 3 #[.agg #[.int .u8 (z0 0), .int .u8 (z0 1), .int .u8 (z0 2), .int .u8 (z0 3)], .agg #[.string (z1 0), .string (z1 1), .string (z1 2), .string (z1 3)], .agg #[.int .u32 (z2 0), .int .u32 (z2 1), .int .u32 (z2 2), .int .u32 (z2 3)], .agg #[.int .u8 (z3 0), .int .u8 (z3 1), .int .u8 (z3 2), .int .u8 (z3 3)], .bool a4, .string a5] w fun e w' => e = .returned (.bool true) ∧ Below w.heap.size w w' := by
  have HS := Lib.hid (show ∀ j, j < 4 → ((z1 j).size : Int) ≤ 9223372036854775807 from fun j hj => by have := w1 j hj; unfold maxLen at this; omega)
  have HA := Lib.hid (show (a5.size : Int) ≤ 9223372036854775807 by have := w5; unfold maxLen at this; omega)
  have hX : BX w.heap.size z0 z2 z3 z1 w ((((w.alloc (.cells #[.int .u8 (z0 0), .int .u8 (z0 1), .int .u8 (z0 2), .int .u8 (z0 3)] 22)).alloc (.cells #[.string (z1 0), .string (z1 1), .string (z1 2), .string (z1 3)] 23)).alloc (.cells #[.int .u32 (z2 0), .int .u32 (z2 1), .int .u32 (z2 2), .int .u32 (z2 3)] 25)).alloc (.cells #[.int .u8 (z3 0), .int .u8 (z3 1), .int .u8 (z3 2), .int .u8 (z3 3)] 22)) := by
    refine ⟨?_, ?_, ?_, ?_, ((((Below.refl _ _).alloc (Nat.le_refl _) _).alloc (by simp) _).alloc (by simp; omega) _).alloc (by simp; omega) _, by simp; omega⟩
    all_goals
      intro j v hv
      have hj : j < 4 := (List.getElem?_eq_some_iff.1 hv).1
      have hj4 : j = 0 ∨ j = 1 ∨ j = 2 ∨ j = 3 := by omega
      rcases hj4 with rfl | rfl | rfl | rfl <;> (simp at hv; subst hv; go_simp)
  have HW := Lib.hid w5
  clear w0 w1 w2 w3 w5
  go_enter Try.func3, Try.ntmps3
  go_wp2_with fail
  generalize (((((w.alloc (.cells #[.int .u8 (z0 0), .int .u8 (z0 1), .int .u8 (z0 2), .int .u8 (z0 3)] 22)).alloc (.cells #[.string (z1 0), .string (z1 1), .string (z1 2), .string (z1 3)] 23)).alloc (.cells #[.int .u32 (z2 0), .int .u32 (z2 1), .int .u32 (z2 2), .int .u32 (z2 3)] 25)).alloc (.cells #[.int .u8 (z3 0), .int .u8 (z3 1), .int .u8 (z3 2), .int .u8 (z3 3)] 22)) : World) = wA at hX ⊢
  have HX := Lib.hid hX
  clear hX
  refine (bytes_any z0 z2 z3 z1 a4 a5 wA HS.out HA.out).mono ?_
  rintro e w1 ⟨⟨r, rfl⟩, hb⟩
  have HX1 := Lib.hid (HX.out.keep hb)
  clear HX hb
  cases r
  · have HB := Lib.hid HX1.out.2.2.2.2.1
    clear HX1
    go_wp2_with fail
    go_ret
    exact ⟨rfl, HB.out⟩
  obtain ⟨⟨k0, k1, k2, k3⟩, ⟨t0, t1, t2, t3⟩, ⟨p0, p1, p2, p3⟩, s0, s1, s2, s3⟩ := HX1.out.at_
  go_wp2_with fail
  refine (texts_any z1 w1 HS.out).mono ?_
  rintro e w2 ⟨⟨r, rfl⟩, hb⟩
  have HX2 := Lib.hid (HX1.out.keep hb)
  clear HX1 hb k0 k1 k2 k3 t0 t1 t2 t3 p0 p1 p2 p3 s0 s1 s2 s3
  cases r
  case true =>
    have HB := Lib.hid HX2.out.2.2.2.2.1
    clear HX2
    go_wp2_with fail
    go_ret
    exact ⟨rfl, HB.out⟩
  by_cases hlen : (65536 : Int) < a5.size
  · have HB := Lib.hid HX2.out.2.2.2.2.1
    clear HX2
    go_wp2_with fail
    go_ret
    exact ⟨rfl, HB.out⟩
  obtain ⟨⟨k0, k1, k2, k3⟩, ⟨t0, t1, t2, t3⟩, ⟨p0, p1, p2, p3⟩, s0, s1, s2, s3⟩ := HX2.out.at_
  go_wp2_with fail
  refine (quad_any z0 z2 z3 z1 w2).mono ?_
  rintro e w3 ⟨rfl, hb⟩
  have HX3 := Lib.hid (HX2.out.keep hb)
  clear HX2 hb k0 k1 k2 k3 t0 t1 t2 t3 p0 p1 p2 p3 s0 s1 s2 s3 hlen
  have HT := Lib.hid (th_new w3 (zeros 28) 36 (n := 28) rfl)
  have HX4 := Lib.hid (HX3.out.keep ((Below.refl _ _).alloc (Nat.le_refl _) (.cells (zeros 28) 36)))
  unfold zeros at HT HX4
  go_wp2_with (refine wpList_store_mid rfl 36 _ _ rfl w3.heap.size 0 (quadc z0 z2 z3 z1).toArray rfl rfl HT.out szQuad (quadc_one _ _ _ _) ?_)
  have HQ := Lib.hid (QS.of (q := fun j => j) (World.rangeAt_setCells_same _ w3.heap.size 0 (quadc z0 z2 z3 z1) HT.out))
  have HB := Lib.hid (show Below w.heap.size w _ from below_setCells (b := w3.heap.size) HX3.out.2.2.2.2.2 (quadc z0 z2 z3 z1) 0 HX4.out.2.2.2.2.1)
  have HL := Lib.hid (show w.heap.size ≤ _ from HB.out.size)
  clear HT HX4 HX3
  generalize World.setCells _ _ _ _ = w4 at *
  generalize w3.heap.size = g at *
  go_loop [14] (fun i => ∃ k : Nat, k ≤ 4 ∧ i = .int .i64 k ∧ Hid (∀ j, j < k → okT (z0 j) (z1 j) a5)) (fun i => 4 - (intOf i).toNat)
  case atStart => exact ⟨0, Nat.zero_le _, rfl, Lib.hid (fun j hj => absurd hj (by omega))⟩
  case round =>
    obtain ⟨k, hk, rfl, HO⟩ := hrel
    by_cases hlt : k < 4
    · as_aux_lemma =>
      obtain ⟨d0, d1, d2, d3, d4, d5, d6⟩ := HQ.out k hlt
      have q0 : (0 : Int) ≤ k := by omega
      have q1 : (k : Int) < 4 := by omega
      by_cases hok : okT (z0 k) (z1 k) a5
      · have HN : Hid (∀ j, j < k + 1 → okT (z0 j) (z1 j) a5) := Lib.hid fun j hj => by
          by_cases e : j = k
          · subst e; exact hok
          · exact HO.out j (by omega)
        rcases hok with hb | ⟨hb, h29, hA, hT⟩
        · go_wp2_with (go_at_call 7; refine (num_any _ _).mono ?_; rintro e w1 ⟨rfl, rfl⟩; rw [hb])
          go_round
          case rel => exact ⟨k + 1, by omega, by go_num, HN⟩
          case measure => simp [intOf]; omega
        · have hx : (z0 k == 29) = true := by rw [h29]; rfl
          clear h29
          go_wp2_with (go_at_call 7; refine (num_any _ _).mono ?_; rintro e w1 ⟨rfl, rfl⟩; rw [hb])
          go_round
          case rel => exact ⟨k + 1, by omega, by go_num, HN⟩
          case measure => simp [intOf]; omega
      · obtain ⟨hb, h⟩ := not_okT hok
        clear hok
        rcases h with hx | ⟨hx, hA⟩ | ⟨hx, hA, hT⟩
        all_goals
          go_wp2_with (go_at_call 7; refine (num_any _ _).mono ?_; rintro e w1 ⟨rfl, rfl⟩; rw [hb])
          go_ret
          exact ⟨rfl, HB.out⟩
    · as_aux_lemma =>
      obtain rfl : k = 4 := by omega
      obtain ⟨x0, x1, x2, x3, x4, x5, x6⟩ : w4.cell? ⟨g, 0, none⟩ = some (.pointer none) ∧ w4.cell? ⟨g, 1, none⟩ = some (.string (z1 0)) ∧ w4.cell? ⟨g, 2, none⟩ = some (.int .i32 (Li 0)) ∧ w4.cell? ⟨g, 3, none⟩ = some (.int .u32 (z2 0)) ∧ w4.cell? ⟨g, 4, none⟩ = some (.int .u16 0) ∧ w4.cell? ⟨g, 5, none⟩ = some (.int .u8 (z0 0)) ∧ w4.cell? ⟨g, 6, none⟩ = some (.int .u8 (z3 0)) := HQ.out 0 (by omega)
      obtain ⟨b0, b1, b2, b3, b4, b5, b6⟩ : w4.cell? ⟨g, 7, none⟩ = some (.pointer none) ∧ w4.cell? ⟨g, 8, none⟩ = some (.string (z1 1)) ∧ w4.cell? ⟨g, 9, none⟩ = some (.int .i32 (Li 1)) ∧ w4.cell? ⟨g, 10, none⟩ = some (.int .u32 (z2 1)) ∧ w4.cell? ⟨g, 11, none⟩ = some (.int .u16 0) ∧ w4.cell? ⟨g, 12, none⟩ = some (.int .u8 (z0 1)) ∧ w4.cell? ⟨g, 13, none⟩ = some (.int .u8 (z3 1)) := HQ.out 1 (by omega)
      obtain ⟨c0, c1, c2, c3, c4, c5, c6⟩ : w4.cell? ⟨g, 14, none⟩ = some (.pointer none) ∧ w4.cell? ⟨g, 15, none⟩ = some (.string (z1 2)) ∧ w4.cell? ⟨g, 16, none⟩ = some (.int .i32 (Li 2)) ∧ w4.cell? ⟨g, 17, none⟩ = some (.int .u32 (z2 2)) ∧ w4.cell? ⟨g, 18, none⟩ = some (.int .u16 0) ∧ w4.cell? ⟨g, 19, none⟩ = some (.int .u8 (z0 2)) ∧ w4.cell? ⟨g, 20, none⟩ = some (.int .u8 (z3 2)) := HQ.out 2 (by omega)
      obtain ⟨d0, d1, d2, d3, d4, d5, d6⟩ : w4.cell? ⟨g, 21, none⟩ = some (.pointer none) ∧ w4.cell? ⟨g, 22, none⟩ = some (.string (z1 3)) ∧ w4.cell? ⟨g, 23, none⟩ = some (.int .i32 (Li 3)) ∧ w4.cell? ⟨g, 24, none⟩ = some (.int .u32 (z2 3)) ∧ w4.cell? ⟨g, 25, none⟩ = some (.int .u16 0) ∧ w4.cell? ⟨g, 26, none⟩ = some (.int .u8 (z0 3)) ∧ w4.cell? ⟨g, 27, none⟩ = some (.int .u8 (z3 3)) := HQ.out 3 (by omega)
      go_wp2_with fail
      refine (zcompact_any z0 z2 Li z3 z1 a4 w4).mono ?_
      rintro e w5 ⟨g2, rfl, hq⟩
      have HQ5 := Lib.hid (HQ.out.keep hq.2.2.2.2)
      have HB5 := Lib.hid (HB.out.trans (hq.2.2.2.2.mono HL.out))
      have HC5 := Lib.hid hq.self
      have HN := Lib.hid (cN_le z0 z2 z1)
      have HE := Lib.hid (fun j hj => eq_ix z0 z2 z1 j hj)
      clear x0 x1 x2 x3 x4 x5 x6 b0 b1 b2 b3 b4 b5 b6 c0 c1 c2 c3 c4 c5 c6 d0 d1 d2 d3 d4 d5 d6 hq HQ HB HL
      generalize cN z0 z2 z1 = n at *
      go_wp2_with fail
      refine (zexpand_any g2 n z0 z2 Li z1 a5 w5 HN.out.1 HN.out.2 HC5.out (fun j hj => HO.out j (by have := HN.out.2; omega))).mono ?_
      rintro e w6 ⟨S, rfl, hb⟩
      have HQ6 := Lib.hid (HQ5.out.keep hb)
      have HB6 := Lib.hid (HB5.out.trans (hb.mono HB5.out.size))
      clear HQ5 HB5 hb HC5
      generalize hcs : tokc z0 z2 Li S z1 (ix n 0) ++ (tokc z0 z2 Li S z1 (ix n 1) ++ (tokc z0 z2 Li S z1 (ix n 2) ++ tokc z0 z2 Li S z1 (ix n 3))) = cs
      have HCS := Lib.hid hcs
      have HLen := Lib.hid (show cs.length = 28 by rw [← hcs]; simp [tokc])
      have HOne := Lib.hid (show (cs.toArray.all fun x => x.oneCell') = true by rw [← hcs]; exact quad_one _ _ _ _ _ _ _ _ _)
      clear hcs
      have HT := Lib.hid (th_new w6 (zeros 28) 36 (n := 28) rfl)
      have HQ7 := Lib.hid (HQ6.out.keep ((Below.refl _ _).alloc (Nat.le_refl _) (.cells (zeros 28) 36)))
      have HB7 := Lib.hid (HB6.out.alloc HB6.out.size (.cells (zeros 28) 36))
      have HF := Lib.hid (show g ≠ w6.heap.size from Nat.ne_of_lt (World.block_lt_of_cell? w6 _ (HQ6.out 0 (by omega)).1))
      unfold zeros at HT HQ7 HB7
      clear HQ6
      go_wp2_with (refine wpList_store_mid rfl 36 _ _ rfl w6.heap.size 0 cs.toArray rfl rfl (by simpa [HLen.out] using HT.out) (by simp [HLen.out, szQuad]) HOne.out ?_)
      have HR8 := Lib.hid (QS.of (S := S) (q := ix n) (w := _) (by rw [HCS.out]; exact World.rangeAt_setCells_same _ w6.heap.size 0 cs (by rw [HLen.out]; exact HT.out)))
      have HQ8 := Lib.hid (HQ7.out.set (b := w6.heap.size) HF.out 0 cs)
      have HB8 := Lib.hid (below_setCells (b := w6.heap.size) HB6.out.size cs 0 HB7.out)
      clear HT HQ7 HB7 HF HB6 HCS HLen HOne
      generalize World.setCells _ _ _ _ = w7 at *
      generalize w6.heap.size = g3 at *
      have HK : Hid (QS g z0 z2 z3 z1 (fun j => j) w7 ∧ QS g3 z0 z2 S z1 (ix n) w7 ∧ Below w.heap.size w w7 ∧ w.heap.size ≤ w7.heap.size) := ⟨HQ8.out, HR8.out, HB8.out, HB8.out.size⟩
      clear HR8 HQ8 HB8
      go_loopw [18] (fun i wr => ∃ k : Nat, k ≤ 4 ∧ i = .int .i64 k ∧ Hid (QS g z0 z2 z3 z1 (fun j => j) wr ∧ QS g3 z0 z2 S z1 (ix n) wr ∧ Below w.heap.size w wr ∧ w.heap.size ≤ wr.heap.size)) (fun i _ => 4 - (intOf i).toNat)
      case atStart => exact ⟨0, Nat.zero_le _, rfl, HK⟩
      case round =>
        clear HK
        obtain ⟨k, hk, rfl, HK⟩ := hrel
        by_cases hlt : k < 4
        · obtain ⟨d0, d1, d2, d3, d4, d5, d6⟩ := HK.out.1 k hlt
          obtain ⟨e0, e1, e2, e3, e4, e5, e6⟩ := HK.out.2.1 k hlt
          have q0 : (0 : Int) ≤ k := by omega
          have q1 : (k : Int) < 4 := by omega
          have heq := HE.out k hlt
          go_wp2_with fail
          go_still_tail 6, (by kernel_rfl)
          have HD := Lib.hid (show QS g z0 z2 z3 z1 (fun j => j) wr.drew ∧ QS g3 z0 z2 S z1 (ix n) wr.drew ∧ Below w.heap.size w wr.drew ∧ w.heap.size ≤ wr.drew.heap.size from ⟨HK.out.1, HK.out.2.1, HK.out.2.2.1.drew, HK.out.2.2.2⟩)
          change wpList _ _ _ _ _ wr.drew
          clear HK d0 d1 d2 d3 d4 d5 d6 e0 e1 e2 e3 e4 e5 e6
          generalize World.drew _ = w8 at *
          go_wp2_with fail
          refine (eqt_any _ _ _ _ _ _ _ _ _ _ _ _ _).mono ?_
          rintro e w9 ⟨rfl, hb⟩
          rw [heq]
          have HN2 := Lib.hid (show QS g z0 z2 z3 z1 (fun j => j) w9 ∧ QS g3 z0 z2 S z1 (ix n) w9 ∧ Below w.heap.size w w9 ∧ w.heap.size ≤ w9.heap.size from ⟨HD.out.1.keep hb, HD.out.2.1.keep hb, HD.out.2.2.1.trans (hb.mono HD.out.2.2.2), Nat.le_trans HD.out.2.2.2 hb.size⟩)
          clear HD hb heq
          go_wp2
          exact ⟨⟨k + 1, by omega, by go_num, HN2⟩, by simp [intOf]; omega⟩
        · have q1 : (4 : Int) ≤ k := by omega
          have HB := Lib.hid HK.out.2.2.1
          clear HK hlt
          go_wp2
          go_ret
          exact ⟨rfl, HB.out⟩

set_option maxRecDepth 100000 in
theorem lifted (os : Os) (started : os.Started) (H : Type) (enc : TypeId × Value → H) :
    ReturnsInHanded {} Try.checked os 3 .any (Rows.fnCompactThenExpandGivesBackTheQuadSpec.pre6 enc Try.prog Try.f3 Rows.fnCompactThenExpandGivesBackTheQuadRow.domain false) (Rows.fnCompactThenExpandGivesBackTheQuadSpec.post enc Try.prog Try.f3 false true false false) := by
  refine returnsInHanded_of_change (C := Try.checked) own started (by kernel_rfl) Try.func3
    (ChangeSpec.witness6 (enc := enc) (C := Try.checked) false ⟨#[], #[.agg #[.int .u8 0, .int .u8 0, .int .u8 0, .int .u8 0], .agg #[.string ByteArray.empty, .string ByteArray.empty, .string ByteArray.empty, .string ByteArray.empty], .agg #[.int .u32 0, .int .u32 0, .int .u32 0, .int .u32 0], .agg #[.int .u8 0, .int .u8 0, .int .u8 0, .int .u8 0], .bool false, .string ByteArray.empty], []⟩ 8 (by kernel_rfl) (by kernel_rfl) (by kernel_rfl) (by kernel_rfl)) ?_
  intro W base args ds gs before hval0 hW hcnd _
  have hval : ∀ (j : Nat) t v, Try.f3.params[j]? = some t → args[j]? = some v → Value.okWide Try.prog W .any base t v := hval0
  have hW' := hW
  obtain ⟨p, q, hA0, hV, rfl, hfz, hnd⟩ := hW
  have hA : DataW.TrodAll enc Try.prog W 0 (fun _ => true) true Try.f3.params.toList args.toList ds p := hA0
  rw [Try.params3] at hA hval
  obtain ⟨v0, vs0, d0, ds0, p0, q0, hargs, rfl, rfl, h0, r0⟩ := trodAll_cons hA
  obtain ⟨v1, vs1, d1, ds1, p1, q1, rfl, rfl, rfl, h1, r1⟩ := trodAll_cons r0
  obtain ⟨v2, vs2, d2, ds2, p2, q2, rfl, rfl, rfl, h2, r2⟩ := trodAll_cons r1
  obtain ⟨v3, vs3, d3, ds3, p3, q3, rfl, rfl, rfl, h3, r3⟩ := trodAll_cons r2
  obtain ⟨v4, vs4, d4, ds4, p4, q4, rfl, rfl, rfl, h4, r4⟩ := trodAll_cons r3
  obtain ⟨v5, vs5, d5, ds5, p5, q5, rfl, rfl, rfl, h5, r5⟩ := trodAll_cons r4
  obtain ⟨rfl, rfl, rfl⟩ := trodAll_nil r5
  obtain rfl : args = #[v0, v1, v2, v3, v4, v5] := by cases args; simp_all
  obtain ⟨rfl, rfl⟩ := trodVars_none hV
  have k0 := h0
  have lt0 : ∀ x ∈ p0, x.block < W.heap.size := by obtain ⟨m, hm⟩ := k0; exact DataW.trod_lt m _ _ _ hm
  obtain ⟨z0, rfl, w0⟩ := open_arr4_int Try.underlying22 Try.underlying5 (by kernel_rfl) (by kernel_rfl) (hval 0 22 v0 rfl rfl) h0
  have k1 := h1
  have lt1 : ∀ x ∈ p1, x.block < W.heap.size := by obtain ⟨m, hm⟩ := k1; exact DataW.trod_lt m _ _ _ hm
  obtain ⟨z1, rfl, w1⟩ := open_arr4_string Try.underlying23 Try.underlying9 (by kernel_rfl) (by kernel_rfl) (hval 1 23 v1 rfl rfl) h1
  have k2 := h2
  have lt2 : ∀ x ∈ p2, x.block < W.heap.size := by obtain ⟨m, hm⟩ := k2; exact DataW.trod_lt m _ _ _ hm
  obtain ⟨z2, rfl, w2⟩ := open_arr4_int Try.underlying25 Try.underlying24 (by kernel_rfl) (by kernel_rfl) (hval 2 25 v2 rfl rfl) h2
  have k3 := h3
  have lt3 : ∀ x ∈ p3, x.block < W.heap.size := by obtain ⟨m, hm⟩ := k3; exact DataW.trod_lt m _ _ _ hm
  obtain ⟨z3, rfl, w3⟩ := open_arr4_int Try.underlying22 Try.underlying5 (by kernel_rfl) (by kernel_rfl) (hval 3 22 v3 rfl rfl) h3
  obtain ⟨a4, rfl, rfl, rfl⟩ := open_bool Try.underlying4 (hval 4 4 v4 rfl rfl) h4
  obtain ⟨a5, rfl, rfl, rfl, w5⟩ := open_string Try.underlying9 (hval 5 9 v5 rfl rfl) h5
  clear hA0 hval0
  refine (walk z0 z1 z2 z3 a4 a5 W w0 w1 w2 w3 w5).mono fun e W' ⟨he, bel⟩ => ?_
  subst he
  exact ⟨_, rfl, _, _, _, [], _, [], hW', trodAll_mk1 (shut_bool Try.underlying4 _), (trodAll_cons_mk (Below.trod laidOut (by kernel_rfl) (of_decide_eq_true (by kernel_rfl)) k0 bel lt0) (trodAll_cons_mk (Below.trod laidOut (by kernel_rfl) (of_decide_eq_true (by kernel_rfl)) k1 bel lt1) (trodAll_cons_mk (Below.trod laidOut (by kernel_rfl) (of_decide_eq_true (by kernel_rfl)) k2 bel lt2) (trodAll_cons_mk (Below.trod laidOut (by kernel_rfl) (of_decide_eq_true (by kernel_rfl)) k3 bel lt3) (trodAll_cons_mk (shut_bool Try.underlying4 a4) (trodAll_cons_mk (shut_string Try.underlying9 w5) trodAll_mk0)))))), rfl, bel.frame _, fun h => by cases h⟩

theorem over : Rows.fnCompactThenExpandGivesBackTheQuadRow.holds Try.pinned (OpenSpec.ofChange Rows.fnCompactThenExpandGivesBackTheQuadSpec) :=
  OpenClaim.holds_of_wide 3 Try.f3 rfl rfl rfl rfl rfl rfl rfl ⟨rfl, rfl, rfl, rfl, rfl⟩ rfl rfl rfl rfl rfl (by kernel_rfl) Try.func3 (by kernel_rfl)
    (of_decide_eq_true (by kernel_rfl)) (by unfold Func.isWrapper; first | (rw [if_pos (by decide +kernel)]; kernel_rfl) | (rw [if_neg (by decide +kernel)]; exact ⟨rfl, rfl⟩))
    (fun os started H enc _ => lifted os started H enc)

/-- THE STATEMENT -/
theorem proved : Rows.FnCompactThenExpandGivesBackTheQuadSaid := over
#print axioms proved
end Go.Proofs.Ytbjcolglkegicac.fnCompactThenExpandGivesBackTheQuad
