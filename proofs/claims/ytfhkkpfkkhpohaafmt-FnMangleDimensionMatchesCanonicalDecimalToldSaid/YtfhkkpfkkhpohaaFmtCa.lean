/-
  canon.
-/
import Derived.Test.YtfhkkpfkkhpohaaFmtPd
import Derived.Lib.AppendStr
namespace Go.Proofs.YtfhkkpfkkhpohaaFmt.Sd
open Go.ChangeShapes Go.WideShapes Go.ChangeAt Go.RowKit Rg
set_option linter.unusedVariables false
/-- first and last nonzero digit among the first k -/
def fNZ (A : List UInt8) : Nat → Int
  | 0 => -1
  | k + 1 => if fNZ A k < 0 ∧ atU A k ≠ 48 then k else fNZ A k
def lNZ (A : List UInt8) : Nat → Int
  | 0 => -1
  | k + 1 => if atU A k ≠ 48 then k else lNZ A k
theorem fNZ_le (A : List UInt8) : ∀ k, -1 ≤ fNZ A k ∧ fNZ A k < k
  | 0 => ⟨Int.le_refl _, by show (-1 : Int) < 0; decide⟩
  | k + 1 => by have := fNZ_le A k; unfold fNZ; split <;> omega
theorem lNZ_le (A : List UInt8) : ∀ k, -1 ≤ lNZ A k ∧ lNZ A k < k
  | 0 => ⟨Int.le_refl _, by show (-1 : Int) < 0; decide⟩
  | k + 1 => by have := lNZ_le A k; unfold lNZ; split <;> omega
theorem seg_snoc (A : List UInt8) (a : Int) (n : Nat) : seg A a (n + 1) = seg A a n ++ [vd A (a + n)] := by simp [seg, List.range_succ]
theorem strCells_eq (s : ByteArray) : Lib.strCells s = Lib.byteCells s.data.toList := rfl
theorem vd_L (a : Option Addr) (A : List UInt8) (L c : Nat) (i : Int) (w : World) (hL : L = A.length) (h : DS w a A) (hA : (L : Int) ≤ 1048576) (h0 : -10 ≤ i) (h1 : i ≤ 2000000) :
    Calls Tryf.prog 12 #[.slice a L c, .int .i64 i] w fun e w' => e = .returned (.int .u8 ((vd A i).toNat : Int)) ∧ w = w' := by
  subst hL; exact vd_any a A c i w h hA h0 h1
theorem DS_lt {w : World} {a : Option Addr} {A : List UInt8} (h : DS w a A) {y : Addr} (hy : a = some y) (h0 : 0 < A.length) : y.block < w.heap.size := by
  obtain ⟨ab, ao, e, hc⟩ := h 0 h0
  rw [e] at hy
  injection hy with hy
  subst hy
  exact World.block_lt_of_cell? w _ hc
theorem DS_below {w w' : World} {a : Option Addr} {A : List UInt8} (h : DS w a A) (hb : Below w.heap.size w w') : DS w' a A := h.keep hb
def CaP (r0 : List UInt8) (w : World) (e : Ending) (w' : World) : Prop := ∃ r : ByteArray, e = .returned (.string r) ∧ r.data.toList = r0 ∧ Below w.heap.size w w'
set_option maxRecDepth 100000 in
set_option maxHeartbeats 4000000 in
theorem canon_any (sg : ByteArray) (a : Option Addr) (A : List UInt8) (c : Nat) (q : Int) (w : World) (h : DS w a A) (hA : (A.length : Int) ≤ 1048576) (hfl : fNZ A A.length ≤ lNZ A A.length) (hsg : (sg.size : Int) ≤ 1) (hq0 : -3 ≤ q) (hq1 : q ≤ 1048580) :
    Calls Tryf.prog 9 #[.string sg, .slice a A.length c, .int .i64 q] w (CaP (sg.data.toList ++ can A (fNZ A A.length) (lNZ A A.length) q) w) := by
  obtain ⟨L, hL⟩ : ∃ L, L = A.length := ⟨_, rfl⟩
  have HL := Lib.hid hL
  have H := Lib.hid h
  rw [← hL] at hA hfl ⊢
  have HFL := Lib.hid hfl
  clear h hL hfl
  go_enter Tryf.func9, Tryf.ntmps9
  go_upto_block 0 with fail
  go_cut [7, 8, 9] (fun s7 s8 s9 wc => ∃ f l : Int, s7 = .int .i64 f ∧ s8 = .int .i64 l ∧ Hid (f = fNZ A L) ∧ Hid (l = lNZ A L) ∧ wc = w)
  case first =>
    go_wp2_with fail
    go_loop [7, 8, 9] (fun s7 s8 s9 => ∃ (k : Nat) (f l : Int), k ≤ L ∧ s9 = .int .i64 k ∧ s7 = .int .i64 f ∧ s8 = .int .i64 l ∧ Hid (f = fNZ A k) ∧ Hid (l = lNZ A k)) (fun _ _ s9 => L - (intOf s9).toNat)
    case atStart => exact ⟨0, -1, -1, Nat.zero_le _, rfl, rfl, rfl, Lib.hid rfl, Lib.hid rfl⟩
    case round =>
      obtain ⟨k, f, l, hk, rfl, rfl, rfl, HF, HLZ⟩ := hrel
      by_cases hlt : k < L
      · obtain ⟨ab, ao, rfl, hc⟩ := H.out k (by rw [← HL.out]; exact hlt)
        have hc2 : w.cell? ⟨ab, ao + k, none⟩ = some (.int .u8 ((atU A k).toNat : Int)) := hc
        clear hc
        have q0 : (0 : Int) ≤ k := by omega
        have q1 : (k : Int) < L := by omega
        by_cases hz : atU A k = 48
        · have HN1 : Hid (f = fNZ A (k + 1)) := Lib.hid (by rw [fNZ, if_neg (fun c => c.2 hz)]; exact HF.out)
          have HN2 : Hid (l = lNZ A (k + 1)) := Lib.hid (by rw [lNZ, if_neg (fun c => c hz)]; exact HLZ.out)
          have hb : (((atU A k).toNat : Int) != 48) = false := by rw [hz]; rfl
          generalize (atU A k).toNat = x at *
          clear hz HF HLZ
          go_wp2_with fail
          go_round
          case rel => exact ⟨k + 1, _, _, by omega, by go_num, rfl, rfl, HN1, HN2⟩
          case measure => simp [intOf]; omega
        · have HN2 : Hid ((k : Int) = lNZ A (k + 1)) := Lib.hid (by rw [lNZ, if_pos hz])
          have hb : (((atU A k).toNat : Int) != 48) = true := by
            rw [bne_iff_ne]; intro e; exact hz (UInt8.toNat_inj.1 (by have : (atU A k).toNat = 48 := by omega
                                                                      simpa using this))
          by_cases hf : f < 0
          · have HN1 : Hid ((k : Int) = fNZ A (k + 1)) := Lib.hid (by rw [fNZ, if_pos ⟨by rw [← HF.out]; exact hf, hz⟩])
            generalize (atU A k).toNat = x at *
            clear hz HF HLZ
            go_wp2_with fail
            go_round
            case rel => exact ⟨k + 1, _, _, by omega, by go_num, rfl, rfl, HN1, HN2⟩
            case measure => simp [intOf]; omega
          · have HN1 : Hid (f = fNZ A (k + 1)) := Lib.hid (by rw [fNZ, if_neg (fun c => hf (by rw [HF.out]; exact c.1))]; exact HF.out)
            generalize (atU A k).toNat = x at *
            clear hz HF HLZ
            go_wp2_with fail
            go_round
            case rel => exact ⟨k + 1, _, _, by omega, by go_num, rfl, rfl, HN1, HN2⟩
            case measure => simp [intOf]; omega
      · obtain rfl : k = L := by omega
        go_wp2_with fail
        go_meet
        exact ⟨_, _, rfl, rfl, HF, HLZ, rfl⟩
  case rest =>
    obtain ⟨f, l, rfl, rfl, HF, HLZ, hw⟩ := hcut
    obtain rfl : w = wc := hw.symm
    have hf1 := fNZ_le A L
    have hl1 := lNZ_le A L
    rw [← HF.out] at hf1
    rw [← HLZ.out] at hl1
    obtain ⟨hf0, hf1⟩ := hf1
    obtain ⟨hl0, hl1⟩ := hl1
    have hfl : f ≤ l := by rw [HF.out, HLZ.out]; exact HFL.out
    have HP : Hid (can A (fNZ A L) (lNZ A L) q = can A f l q) := Lib.hid (by rw [← HF.out, ← HLZ.out])
    clear HF HLZ
    obtain ⟨i0, hi, hz0, hz1, hz2⟩ := info_parts infoU8
    have HI := Lib.hid (And.intro hi (And.intro hz0 (And.intro hz1 hz2)))
    obtain ⟨C, hC⟩ : ∃ C : Nat, (C : Int) = (sg.size : Int) + L + 8 := ⟨sg.size + L + 8, by omega⟩
    have HC := Lib.hid hC
    have hCb : C ≤ 1048600 := by omega
    clear hC
    go_upto_region 10 with fail
    go_wp2_with (at_make; rw [← HC.out]; refine wpList_make_own _ rfl _ _ 23 rfl w.heap.size 5 i0 (.int .u8 0) 1 Tryf.underlying23 hi hz0 hz1 .i64 .i64 _ C rfl rfl ?c1 ?c2 ?c3 (Nat.le_refl _) ?_)
    case c1 => simp
    case c2 => first | (rw [hz2]; omega) | omega
    case c3 => unfold maxLen; omega
    intro w1 hown1 hg1
    have hb1 : Below w.heap.size w w1 := (Below.refl _ _).grown hg1 (Nat.le_refl _) (fun k hk => by simp at hk)
    have HO := Lib.hid hown1
    have HB := Lib.hid hb1
    have hsz1 := hb1.size
    clear hg1 hown1 hb1
    go_wp2_with (at_builtin; refine Lib.wpList_append_own_string _ rfl _ _ 23 9 rfl w.heap.size 5 i0 Tryf.underlying23 Tryf.underlying9 hi hz0 hz1 hz2 _ _ _ rfl HO.out sg rfl ?d1 ?d2 ?d3 ?_)
    case d1 => unfold maxLen; omega
    case d2 => omega
    case d3 => omega
    intro v2 w2 hown2 hg2 _
    have hb2 : Below w.heap.size w w2 := HB.out.grown hg2 (by omega) (fun k hk => (HO.out.lt k hk).1)
    obtain ⟨N0, hN0⟩ : ∃ N0, N0 = sg.size := ⟨_, rfl⟩
    rw [← hN0, strCells_eq] at hown2
    have HO2 := Lib.hid (show w2.ownsRow w.heap.size 5 1 v2 N0 (Lib.byteCells (sg.data.toList ++ seg A f 0)) by simpa [seg] using hown2)
    have HB2 := Lib.hid hb2
    have hN01 : N0 ≤ 1 := by omega
    clear hg2 hown2 hb2 hN0 hi hz0 hz1 hz2 HO HB hsz1
    go_upto_block 2 with fail
    go_cut [10] (fun s10 wr => ∃ (v : Value) (N : Nat), s10 = v ∧ (N : Int) ≤ 1048595 ∧ Hid (wr.ownsRow w.heap.size 5 1 v N (Lib.byteCells (sg.data.toList ++ seg A f (q - f).toNat))) ∧ Hid (Below w.heap.size w wr))
    case first =>
      go_wp2_with fail
      go_loopw [10, 11] (fun s10 s11 wr => ∃ (j N : Nat) (x : Int) (v : Value), s10 = v ∧ s11 = .int .i64 x ∧ Hid (x = f + j) ∧ -1 ≤ x ∧ N ≤ j + 1 ∧ j ≤ 1048590 ∧ (x ≤ q ∨ j = 0) ∧ Hid (wr.ownsRow w.heap.size 5 1 v N (Lib.byteCells (sg.data.toList ++ seg A f j))) ∧ Hid (Below w.heap.size w wr)) (fun _ s11 _ => (q - intOf s11).toNat)
      case atStart => exact ⟨0, N0, f, v2, rfl, rfl, Lib.hid (by omega), by omega, by omega, by omega, .inr rfl, HO2, HB2⟩
      case round =>
        clear HO2 HB2
        obtain ⟨j, N, x, v, rfl, rfl, HX, hx0, hN, hj, hor, HO, HB⟩ := hrel
        have hsz := HB.out.size
        by_cases hlt : x < q
        · have HDS := Lib.hid (DS_below H.out HB.out)
          have hj2 : j + 1 ≤ 1048590 := by have := HX.out; omega
          have hx2 : x ≤ 1048590 := by omega
          obtain ⟨hi, hz0, hz1, hz2⟩ := HI.out
          clear hor
          go_wp2_with (first | (go_at_call 12; (with_reducible refine (vd_L a A L c _ _ HL.out HDS.out hA (by omega) (by omega)).mono ?_); rintro e wz ⟨rfl, rfl⟩) | (at_builtin; refine wpList_append_own _ rfl _ _ 23 rfl w.heap.size 5 i0 (.int .u8 0) 1 1 Tryf.underlying23 hi hz0 hz1 hz2 rfl (by decide) _ _ _ rfl (HO.out.alloc _) ⟨wr.heap.size, 0, none⟩ 1 1 [Value.int .u8 ((vd A x).toNat : Int)] rfl rfl (cell_one _ _ _) (one_one _) ?c1 ?c2 ?c3 ?_))
          case c1 => unfold maxLen; omega
          case c2 => omega
          case c3 => first | omega | (simp; omega)
          intro v' w3 hown3 hgrow _
          have hb3 : Below w.heap.size w w3 := (HB.out.alloc (by omega) _).grown hgrow (by simp; omega) (fun k hk => (HO.out.lt k hk).1)
          rw [← byte_snoc, List.append_assoc, show x = f + j from HX.out, ← seg_snoc] at hown3
          have HO3 := Lib.hid hown3
          have HB3 := Lib.hid hb3
          have HX3 : Hid (x + 1 = f + ((j + 1 : Nat) : Int)) := Lib.hid (by have := HX.out; omega)
          clear hown3 hb3 hgrow hi hz0 hz1 hz2
          go_wp2_with fail
          go_roundw
          case rel => exact ⟨j + 1, N + 1, x + 1, _, rfl, rfl, HX3, by omega, by omega, hj2, .inl (by omega), HO3, HB3⟩
          case measure => simp [intOf]; omega
        · have HJ : Hid (j = (q - f).toNat) := Lib.hid (by have := HX.out; omega)
          clear hor
          go_wp2_with fail
          go_meet
          exact ⟨_, N, rfl, by omega, Lib.hid (by rw [← HJ.out]; exact HO.out), HB⟩
    case rest =>
      clear HO2 HB2
      obtain ⟨v, N, rfl, hN, HO, HB⟩ := hcut
      by_cases hql : q ≤ l
      · have HCE : Hid (sg.data.toList ++ can A f l q = sg.data.toList ++ seg A f (q - f).toNat ++ (([46] : List UInt8) ++ seg A q (l + 1 - q).toNat)) := Lib.hid (by rw [can, if_pos hql]; simp)
        have hsz := HB.out.size
        obtain ⟨hi, hz0, hz1, hz2⟩ := HI.out
        go_wp2_with (at_builtin; refine wpList_append_own _ rfl _ _ 23 rfl w.heap.size 5 i0 (.int .u8 0) 1 1 Tryf.underlying23 hi hz0 hz1 hz2 rfl (by decide) _ _ _ rfl (HO.out.alloc _) ⟨wc.heap.size, 0, none⟩ 1 1 [Value.int .u8 46] rfl rfl (cell_one _ _ _) (one_one _) ?c1 ?c2 ?c3 ?_)
        case c1 => unfold maxLen; omega
        case c2 => omega
        case c3 => first | omega | (simp; omega)
        intro v' w3 hown3 hgrow _
        have hb3 : Below w.heap.size w w3 := (HB.out.alloc (by omega) _).grown hgrow (by simp; omega) (fun k hk => (HO.out.lt k hk).1)
        have e46 : Lib.byteCells (sg.data.toList ++ seg A f (q - f).toNat) ++ [Value.int .u8 46] = Lib.byteCells (sg.data.toList ++ seg A f (q - f).toNat ++ ([46] ++ seg A q 0)) := by simp [Lib.byteCells, seg]
        rw [e46] at hown3
        have HO3 := Lib.hid hown3
        have HB3 := Lib.hid hb3
        clear hown3 hb3 hgrow hi hz0 hz1 hz2 e46 HO HB hsz
        obtain ⟨N1, hN1⟩ : ∃ N1, N1 = N + 1 := ⟨_, rfl⟩
        rw [← hN1] at HO3
        have hN1b : (N1 : Int) ≤ 1048600 := by omega
        clear hN1
        go_upto_block 4 with fail
        go_cut [10] (fun s10 wr => ∃ (v : Value) (N : Nat), s10 = v ∧ Hid (wr.ownsRow w.heap.size 5 1 v N (Lib.byteCells (sg.data.toList ++ seg A f (q - f).toNat ++ (([46] : List UInt8) ++ seg A q (l + 1 - q).toNat)))) ∧ Hid (Below w.heap.size w wr))
        case first =>
          go_wp2_with fail
          go_loopw [10, 12] (fun s10 s12 wr => ∃ (j N : Nat) (x : Int) (v : Value), s10 = v ∧ s12 = .int .i64 x ∧ Hid (x = q + j) ∧ (N : Int) ≤ 1048600 + j ∧ (j : Int) ≤ 1048590 ∧ x ≤ l + 1 ∧ Hid (wr.ownsRow w.heap.size 5 1 v N (Lib.byteCells (sg.data.toList ++ seg A f (q - f).toNat ++ ([46] ++ seg A q j)))) ∧ Hid (Below w.heap.size w wr)) (fun _ s12 _ => (l + 1 - intOf s12).toNat)
          case atStart => exact ⟨0, N1, q, v', rfl, rfl, Lib.hid (by omega), by omega, by omega, by omega, HO3, HB3⟩
          case round =>
            clear HO3 HB3
            obtain ⟨j, N, x, v, rfl, rfl, HX, hN, hj, hxl, HO, HB⟩ := hrel
            have hsz := HB.out.size
            by_cases hlt : x ≤ l
            · have HDS := Lib.hid (DS_below H.out HB.out)
              have hj2 : (j : Int) + 1 ≤ 1048590 := by have := HX.out; omega
              have hx0 : -3 ≤ x := by have := HX.out; omega
              obtain ⟨hi, hz0, hz1, hz2⟩ := HI.out
              go_wp2_with (first | (go_at_call 12; (with_reducible refine (vd_L a A L c _ _ HL.out HDS.out hA (by omega) (by omega)).mono ?_); rintro e wz ⟨rfl, rfl⟩) | (at_builtin; refine wpList_append_own _ rfl _ _ 23 rfl w.heap.size 5 i0 (.int .u8 0) 1 1 Tryf.underlying23 hi hz0 hz1 hz2 rfl (by decide) _ _ _ rfl (HO.out.alloc _) ⟨wr.heap.size, 0, none⟩ 1 1 [Value.int .u8 ((vd A x).toNat : Int)] rfl rfl (cell_one _ _ _) (one_one _) ?c1 ?c2 ?c3 ?_))
              case c1 => unfold maxLen; omega
              case c2 => omega
              case c3 => first | omega | (simp; omega)
              intro v' w3 hown3 hgrow _
              have hb3 : Below w.heap.size w w3 := (HB.out.alloc (by omega) _).grown hgrow (by simp; omega) (fun k hk => (HO.out.lt k hk).1)
              have HO3 : Hid (w3.ownsRow w.heap.size 5 1 v' (N + 1) (Lib.byteCells (sg.data.toList ++ seg A f (q - f).toNat ++ ([46] ++ seg A q (j + 1))))) := Lib.hid (by
                rw [seg_snoc, ← List.append_assoc [46], ← List.append_assoc, byte_snoc, ← HX.out]
                simp only [List.append_assoc, List.cons_append, List.nil_append] at hown3 ⊢
                exact hown3)
              have HB3 := Lib.hid hb3
              have HX3 : Hid (x + 1 = q + ((j + 1 : Nat) : Int)) := Lib.hid (by have := HX.out; omega)
              clear hown3 hb3 hgrow hi hz0 hz1 hz2
              go_wp2_with fail
              go_roundw
              case rel => exact ⟨j + 1, N + 1, x + 1, _, rfl, rfl, HX3, by omega, by omega, by omega, HO3, HB3⟩
              case measure => simp [intOf]; omega
            · have HJ : Hid (j = (l + 1 - q).toNat) := Lib.hid (by have := HX.out; omega)
              go_wp2_with fail
              go_meet
              exact ⟨_, N, rfl, Lib.hid (by rw [← HJ.out]; exact HO.out), HB⟩
        case rest =>
          clear HO3 HB3
          obtain ⟨v, N, rfl, HO, HB⟩ := hcut
          rcases HO.out.2 with ⟨hv, h0⟩ | ⟨g, cap, cur, hv, -, -, -, -, -, -⟩
          · exfalso
            have h1 := HO.out.1
            rw [h0, Lib.byteCells, List.length_map] at h1
            simp at h1
          · subst hv
            have hcv := run_convert_bytes_back (P := Tryf.prog) wc 23 9 5 ⟨g, 0, none⟩ cap (sg.data.toList ++ seg A f (q - f).toNat ++ (([46] : List UInt8) ++ seg A q (l + 1 - q).toNat)) Tryf.underlying23 Tryf.underlying5 Tryf.underlying9 (fun j hj => HO.out.cells (g := g) rfl j _ (by
              rw [Lib.byteCells, List.getElem?_map, List.getElem?_eq_getElem hj]; rfl))
            rw [show (sg.data.toList ++ seg A f (q - f).toNat ++ (([46] : List UInt8) ++ seg A q (l + 1 - q).toNat)).length = N by have := HO.out.1; rw [Lib.byteCells, List.length_map] at this; omega] at hcv
            obtain ⟨R, hR⟩ : ∃ R : ByteArray, R = ⟨(sg.data.toList ++ seg A f (q - f).toNat ++ (([46] : List UInt8) ++ seg A q (l + 1 - q).toNat)).toArray⟩ := ⟨_, rfl⟩
            rw [← hR] at hcv
            have HR := Lib.hid hR
            clear hR
            go_wp2_with fail
            go_ret
            exact ⟨R, rfl, by rw [HP.out, HCE.out, HR.out], HB.out⟩
      · have HCE : Hid (sg.data.toList ++ can A f l q = sg.data.toList ++ seg A f (q - f).toNat) := Lib.hid (by rw [can, if_neg hql]; simp)
        rcases HO.out.2 with ⟨hv, h0⟩ | ⟨g, cap, cur, hv, -, -, -, -, -, -⟩
        · exfalso
          have h1 := HO.out.1
          rw [h0, Lib.byteCells, List.length_map, List.length_append, seg_len] at h1
          omega
        · subst hv
          have hcv := run_convert_bytes_back (P := Tryf.prog) wc 23 9 5 ⟨g, 0, none⟩ cap (sg.data.toList ++ seg A f (q - f).toNat) Tryf.underlying23 Tryf.underlying5 Tryf.underlying9 (fun j hj => HO.out.cells (g := g) rfl j _ (by
            rw [Lib.byteCells, List.getElem?_map, List.getElem?_eq_getElem hj]; rfl))
          rw [show (sg.data.toList ++ seg A f (q - f).toNat).length = N by have := HO.out.1; rw [Lib.byteCells, List.length_map] at this; omega] at hcv
          obtain ⟨R, hR⟩ : ∃ R : ByteArray, R = ⟨(sg.data.toList ++ seg A f (q - f).toNat).toArray⟩ := ⟨_, rfl⟩
          rw [← hR] at hcv
          have HR := Lib.hid hR
          clear hR
          go_wp2_with fail
          go_ret
          exact ⟨R, rfl, by rw [HP.out, HCE.out, HR.out], HB.out⟩
end Go.Proofs.YtfhkkpfkkhpohaaFmt.Sd
