/-
  FnMangleSidesRefusalResetsBox: the walk.
-/
import Derived.Test.YtnihlfldlkkobaaDoorLh
import Derived.Test.YtnihlfldlkkobaaDoorPn
namespace Go.Proofs.YtnihlfldlkkobaaDoor.Bx
open Go.ChangeShapes Go.WideShapes Go.ChangeAt Go.RowKit Rg Quad
set_option linter.unusedVariables false
set_option linter.unusedSimpArgs false
theorem i32_info : (Tryd.prog.info? 21).map (fun i => (i.zero, i.size, i.bytes)) = some (some (.int .i32 0), 1, 4) := by kernel_rfl
theorem pd_info : (Tryd.prog.info? 44).map (fun i => (i.zero, i.size, i.bytes)) = some (some (.pointer none), 1, 8) := by kernel_rfl
theorem bo_info : (Tryd.prog.info? 4).map (fun i => (i.zero, i.size, i.bytes)) = some (some (.bool false), 1, 1) := by kernel_rfl
theorem tk_info : (Tryd.prog.info? 43).map (fun i => (i.zero, i.size, i.bytes)) = some (some (.agg #[.pointer none, .string ⟨#[]⟩, .int .i32 0, .int .u32 0, .int .u16 0, .int .u8 0, .int .u8 0]), 7, 40) := by kernel_rfl
def mg : ByteArray := ⟨#[109, 97, 114, 103, 105, 110]⟩
theorem mk1 (W : World) : (Instr.makeSlice 35 (.int .i64 1) (.int .i64 1)).run Tryd.prog W = .ok (.slice (some ⟨W.heap.size, 0, none⟩) 1 1) (W.alloc (.cells #[.pointer none, .string ⟨#[]⟩, .int .i32 0, .int .u32 0, .int .u16 0, .int .u8 0, .int .u8 0] 43)) := by kernel_rfl
def t1 : List Value := [.pointer none, .string ⟨#[49, 37]⟩, .int .i32 0, .int .u32 0, .int .u16 0, .int .u8 34, .int .u8 0]
theorem t1_eq : t1 = tyR (0, 0) := rfl
theorem t1_one : t1.toArray.all (·.oneCell') = true := by simp [t1, Value.oneCell']
theorem szT1 : (Tryd.prog.info? 43).map (·.size) = some t1.toArray.size := by kernel_rfl
set_option maxRecDepth 100000 in
set_option maxHeartbeats 8000000 in
theorem law15 (n : Int) (ka ta : Option Addr) (nk ck nt ct : Nat) (C : Nat → Int) (T : Nat → ByteArray) (aa i1 i2 : Bool) (w : World) (hk : Sl w ka nk (fun i => .int .u8 (C i))) (hC : ∀ i, i < nk → 0 ≤ C i ∧ C i < 256) (hk0 : ka = none → nk = 0) (hnk : (nk : Int) ≤ 9223372036854775807)
    (ht : Sl w ta nt (fun i => .string (T i))) (ht0 : ta = none → nt = 0) (hnt : (nt : Int) ≤ 9223372036854775807) (hz : ∀ i, i < nt → ((T i).size : Int) ≤ 9223372036854775807) :
    Calls Tryd.prog 3 #[.int .i64 n, .slice ka nk ck, .slice ta nt ct, .bool aa, .bool i1, .bool i2] w fun e w' => e = .returned (.bool true) ∧ Below w.heap.size w w' := by
  have HK := Lib.hid (And.intro hk (And.intro hC (And.intro hk0 (And.intro ht (And.intro ht0 hz)))))
  clear hk hC hk0 ht ht0 hz
  go_enter Tryd.func3, Tryd.ntmps3
  go_upto_if 35 with (first | (go_at_call 4; refine (zb15 n ka ta nk ck nt ct aa i1 i2 T w hnk hnt HK.out.2.2.2.1 HK.out.2.2.2.2.2).mono ?_; rintro e wk ⟨⟨rb, rfl, hrb⟩, hwk⟩; rw [hwk]; clear hwk))
  cases rb with
  | false =>
    go_wp2_with fail
    go_ret
    exact ⟨rfl, Below.refl _ _⟩
  | true =>
  have HZ := Lib.hid (hrb rfl)
  clear hrb
  by_cases k1 : (65536 : Int) < nk
  · go_wp2_with fail
    go_ret
    exact ⟨rfl, Below.refl _ _⟩
  by_cases k2 : (65536 : Int) < nt
  · go_wp2_with fail
    go_ret
    exact ⟨rfl, Below.refl _ _⟩
  go_upto_region 5 with fail
  go_upto_if 49 with (first | (go_at_call 5; refine (tb_any ta nt ct T w (by omega) HK.out.2.2.2.1 HZ.out).mono ?_; rintro e wk ⟨⟨s, rfl, hs0, hs1⟩, hwk⟩; rw [hwk]; clear hwk))
  by_cases k3 : (1048576 : Int) < (nk : Int) + s
  · go_wp2_with fail
    go_ret
    exact ⟨rfl, Below.refl _ _⟩
  by_cases k4 : n < 1
  · go_wp2_with fail
    go_ret
    exact ⟨rfl, Below.refl _ _⟩
  by_cases k5 : (4096 : Int) < n
  · go_wp2_with fail
    go_ret
    exact ⟨rfl, Below.refl _ _⟩
  go_upto_if 61 with fail
  go_cut [13] (fun x wx => ∃ m : Nat, x = .int .i64 m ∧ m ≤ nk ∧ m ≤ nt ∧ wx = w)
  case first =>
    by_cases k6 : (nt : Int) < nk
    · go_wp2_with fail
      go_meet
      exact ⟨nt, rfl, by omega, by omega, rfl⟩
    · go_wp2_with fail
      go_meet
      exact ⟨nk, rfl, by omega, by omega, rfl⟩
  case rest =>
  obtain ⟨m, rfl, hm1, hm2, hwc⟩ := hcut
  rw [hwc]
  clear hwc
  clear k3 hs0 hs1
  go_upto_if 69 with (first | (go_at_call 6; refine (rf_any ka ta nk ck nt ct m aa C T _ (by omega) hm1 hm2 HK.out.1 HK.out.2.1 HK.out.2.2.2.1).mono ?_; rintro e wk ⟨⟨rf, rfl, hrf⟩, hwk⟩; rw [hwk]; clear hwk))
  cases rf with
  | false =>
    go_wp2_with fail
    go_ret
    exact ⟨rfl, Below.refl _ _⟩
  | true =>
  have HRF := Lib.hid (hrf rfl)
  clear hrf
  obtain ⟨N, rfl⟩ : ∃ N : Nat, n = N := ⟨n.toNat, by omega⟩
  obtain ⟨x, hx⟩ : ∃ x, N = x + 1 := ⟨N - 1, by omega⟩
  have hN4 : N ≤ 4096 := by omega
  have HN := Lib.hid (And.intro hx hN4)
  clear hx k4
  have hmk := mk1
  go_upto_region 18 with (first
    | (go_at_call 7; refine (cu8 ka nk ck C w HK.out.1 HK.out.2.2.1 (by omega)).mono ?_; rintro e w2 ⟨al2, c2, rfl, hS2, hn2, ho2, hb2⟩; have HA2 := Lib.hid hS2; have HB2 := Lib.hid hb2; clear hS2 hn2 ho2 hb2)
    | (go_at_call 8; refine (cst ta nt ct T w2 (HK.out.2.2.2.1.keep HB2.out) HK.out.2.2.2.2.1 (by omega)).mono ?_; rintro e w3 ⟨al3, c3, rfl, hS3, hn3, ho3, hb3⟩; have HA3 := Lib.hid (And.intro (HA2.out.keep hb3) hS3); have HB3 := Lib.hid (HB2.out.trans (hb3.mono HB2.out.size)); clear hS3 hn3 ho3 hb3)
    | (go_at_call 9; refine (mr_any N w3 HN.out.2).mono ?_; rintro e w4 ⟨r, rfl, hMR⟩; have HM4 := Lib.hid hMR; clear hMR)
    | (go_at_call 10; refine (nb_any ⟨#[109, 97, 114, 103, 105, 110]⟩ aa false 189 w4).mono ?_; rintro e w5 ⟨b, rfl, hB5, hb5, hbw5⟩))
  have hth5 : w5.there r 0 (N * 2) := th_keep hbw5 HM4.out.2.1
  have hrl5 : r < w4.heap.size := th_lt HM4.out.2.1 (by have := HN.out.1; omega)
  have hLS5 : LS w3.heap.size al2 al3 nk nt C T r N b (fun j => (none, (j : Int) + 1)) mg aa false (fun _ => z0) w w5 := by
    have h4 := HM4.out.2.2.2
    have h45 := h4.trans (hbw5.mono h4.size)
    refine ⟨(Su.of HA3.out.1).keep h45, (Su.of HA3.out.2).keep h45, fun j hj => ?_, hB5, HB3.out.trans (h45.mono HB3.out.size), HB3.out.size, HM4.out.2.2.1, Nat.le_trans h4.size hb5, by omega, Nat.le_trans h4.size hbw5.size⟩
    have := rg_keep hbw5 (HM4.out.1 j hj)
    dsimp only at this ⊢
    rw [show (if j < N then (j : Int) + 1 else 0) = (j : Int) + 1 from if_pos hj] at this
    exact this
  have HL5 := Lib.hid hLS5
  have HT5 := Lib.hid hth5
  clear HA2 HA3 HB2 HB3 HM4 hLS5 hth5 hB5 hb5 hbw5 hrl5
  generalize w3.heap.size = B0 at *
  have hv6 : (w5.alloc (.cells #[.pointer none, .string ⟨#[]⟩, .int .i32 0, .int .u32 0, .int .u16 0, .int .u8 0, .int .u8 0] 43)).there w5.heap.size 0 7 := th_new w5 _ _ rfl
  have hal6 : Below w5.heap.size w5 (w5.alloc (.cells #[.pointer none, .string ⟨#[]⟩, .int .i32 0, .int .u32 0, .int .u16 0, .int .u8 0, .int .u8 0] 43)) := (Below.refl _ _).alloc (Nat.le_refl _) _
  have HV6 := Lib.hid hv6
  have HL6 := Lib.hid (HL5.out.keep hal6)
  have HT6 := Lib.hid (th_keep hal6 HT5.out)
  have HBV := Lib.hid (And.intro hal6.size (show b < w5.heap.size from World.block_lt_of_cell? w5 _ HL5.out.2.2.2.1.1))
  have HRV : Hid (r < w5.heap.size) := Lib.hid (th_lt HT5.out (by have := HN.out.1; omega))
  clear hv6 hal6 HL5 HT5
  go_upto_region 19 with fail
  clear hmk
  generalize World.alloc w5 _ = w6 at *
  generalize hv : w5.heap.size = v at *
  have HVW : Hid (v < w6.heap.size) := Lib.hid (th_lt HV6.out (by omega))
  clear hv
  go_upto_region 20 with (first | (refine wpList_store_mid rfl 43 _ _ rfl v 0 #[.pointer none, .string ⟨#[49, 37]⟩, .int .i32 0, .int .u32 0, .int .u16 0, .int .u8 34, .int .u8 0] rfl rfl HV6.out szT1 t1_one ?_))
  change Code.wp _ _ _ _ (World.setCells w6 v 0 t1)
  have hr7 : (w6.setCells v 0 t1).rangeAt v 0 t1 := World.rangeAt_setCells_same _ _ _ _ HV6.out
  have hk7 : KX (fun j => j = v) w6 (w6.setCells v 0 t1) := KX.of_grown (gb_sets (gb_refl w6 v) _ _) rfl
  have hbv : b ≠ v ∧ r ≠ v := ⟨by have := HBV.out.2; omega, by have := HRV.out; omega⟩
  have hL7 : LS B0 al2 al3 nk nt C T r N b (fun j => (none, (j : Int) + 1)) mg aa false (fun _ => z0) w (w6.setCells v 0 t1) := by
    obtain ⟨h1, h2, h3, h5, h6, h7⟩ := HL6.out
    have hBv : B0 ≤ v := by have := HBV.out.2; omega
    exact ⟨h1.kx hk7 (fun j e => by omega), h2.kx hk7 (fun j e => by omega), fun j hj => hk7.rg (h3 j hj) hbv.2, h5.sets hbv.1 _ _, below_setCells (by omega) _ _ h6, by rw [size_setCells]; exact h7⟩
  have ht7 : (w6.setCells v 0 t1).there r 0 (N * 2) := World.there_setCells HT6.out _ _ _
  have hs7 : (w6.setCells v 0 t1).heap.size = w6.heap.size := size_setCells _ _ _ _
  have HL7 := Lib.hid hL7
  have HT7 := Lib.hid (And.intro ht7 (And.intro hr7 hs7))
  clear hr7 hk7 hL7 ht7 hs7 HL6 HT6 HV6
  generalize World.setCells w6 v 0 t1 = w7 at *
  have hal8 : Below w7.heap.size w7 (w7.alloc (.cells (dcR mg (.slice (some ⟨v, 0, none⟩) 1 1) 0 0 189 i1).toArray 48)) := (Below.refl _ _).alloc (Nat.le_refl _) _
  have hr8 : (w7.alloc (.cells (dcR mg (.slice (some ⟨v, 0, none⟩) 1 1) 0 0 189 i1).toArray 48)).rangeAt w7.heap.size 0 (dcR mg (.slice (some ⟨v, 0, none⟩) 1 1) 0 0 189 i1) := rg_new w7 (dcR mg (.slice (some ⟨v, 0, none⟩) 1 1) 0 0 189 i1).toArray 48
  have HL8 := Lib.hid (HL7.out.keep hal8)
  have HT8 := Lib.hid (And.intro (th_keep hal8 HT7.out.1) (And.intro (rg_keep hal8 HT7.out.2.1) hr8))
  have HD8 : Hid (b ≠ w7.heap.size ∧ r ≠ w7.heap.size) := Lib.hid (by have h1 := HBV.out; have h2 := HRV.out; have h3 := HT7.out.2.2; omega)
  unfold dcR mg at HL8 HT8
  clear hal8 hr8 HL7 HT7
  go_upto_region 21 with fail
  generalize World.alloc w7 _ = w8 at *
  generalize w7.heap.size = d1 at *
  have hw32 : IntKind.i32.wrap (N : Int) = (N : Int) := by rw [IntKind.wrap_i32]; have := HN.out.2; omega
  have hsub : (N : Int) - 1 = (x : Int) := by have := HN.out.1; omega
  have p0 : (0 : Int) ≤ x := by omega
  have p1 : (x : Int) < N := by have := HN.out.1; omega
  have hon : (#[Value.iface 44 (.pointer (some ⟨d1, 0, none⟩)), .int .i32 (N : Int)].all (·.oneCell')) = true := by simp [Value.oneCell']
  have HON := Lib.hid hon
  clear hon
  go_upto_region 22 with (first
    | (go_at_call 11; refine (dr_any (N : Int) d1 w8).mono ?_; rintro e w9 ⟨rfl, hb9⟩; have HL9 := Lib.hid (HL8.out.keep hb9); have HT9 := Lib.hid (And.intro (th_keep hb9 HT8.out.1) (And.intro (rg_keep hb9 HT8.out.2.1) (rg_keep hb9 HT8.out.2.2))); have HS9 := Lib.hid (th_sub (o' := x * 2) (m := 2) HT9.out.1 (by omega) (by have := HN.out.1; omega)); clear hb9)
    | (refine wpList_store_mid rfl 52 _ _ rfl r (x * 2) #[.iface 44 (.pointer (some ⟨d1, 0, none⟩)), .int .i32 (N : Int)] rfl rfl HS9.out szRu HON.out ?_))
  change Code.wp _ _ _ _ (World.setCells w9 r (x * 2) (ruR (some d1, (N : Int))))
  have hxN : x < N := by omega
  have hL10 := HL9.out.rule HT9.out.1 hxN (some d1, (N : Int))
  have ht10 : (w9.setCells r (x * 2) (ruR (some d1, (N : Int)))).there r 0 (N * 2) := World.there_setCells HT9.out.1 _ _ _
  have hv10 : (w9.setCells r (x * 2) (ruR (some d1, (N : Int)))).rangeAt v 0 (tyR (0, 0)) := World.rangeAt_setCells_apart HT9.out.2.1 _ _ _ (.inl (fun e => hbv.2 e.symm))
  have hd10 : (w9.setCells r (x * 2) (ruR (some d1, (N : Int)))).rangeAt d1 0 (dcR mg (.slice (some ⟨v, 0, none⟩) 1 1) 0 0 189 i1) := World.rangeAt_setCells_apart HT9.out.2.2 _ _ _ (.inl (fun e => HD8.out.2 e.symm))
  clear HL9 HT9 HS9
  generalize World.setCells w9 r (x * 2) (ruR (some d1, (N : Int))) = w10 at *
  have hz := zz_one b r N N d1 v x mg mg aa false i1 false 189 189 0 0 _ w10 hL10.2.2.2.1 (by decide) hL10.2.2.1 ht10 HN.out.1 HN.out.2 hd10 hv10 (fun e => hL10.2.2.2.2.2.2.2.2.1 e.symm) HD8.out.1 hbv.1
  have HZZ := Lib.hid hz
  have HL10 := Lib.hid hL10
  clear hz hL10 ht10 hv10 hd10 hw32 hsub HON HL8 HT8 HD8 hbv HVW HBV HRV
  go_upto_block 0 with (first | (go_at_call 12; refine HZZ.out.mono ?_; rintro e w11 ⟨rfl, hMo⟩))
  obtain ⟨d', m', hL11⟩ := HL10.out.one hMo
  obtain ⟨R2, hR2⟩ : ∃ R : Nat → RU, upR (upR (fun j => (none, (j : Int) + 1)) x (some d1, (N : Int))) x (some d', m') = R := ⟨_, rfl⟩
  rw [hR2] at hL11
  have HL11 := Lib.hid hL11
  clear hR2 hL11 hMo HL10 HZZ
  go_cut [] (fun wq => Hid (LS B0 al2 al3 nk nt C T r N b R2 mg aa i1 (fun _ => s1 x) w wq))
  case first =>
    -- <part
    go_wp2_with fail
    go_loopw [18] (fun iv wr => ∃ k : Nat, k ≤ 4 ∧ iv = .int .i64 k ∧ Hid (LS B0 al2 al3 nk nt C T r N b R2 mg aa i1 (fun _ => s1 x) w wr)) (fun iv _ => 4 - (intOf iv).toNat)
    case atStart => exact ⟨0, by omega, rfl, HL11⟩
    case round =>
      clear HL11
      obtain ⟨k, hk, rfl, HL⟩ := hrel
      by_cases hlt : k < 4
      case neg =>
        obtain rfl : k = 4 := by omega
        go_wp2_with fail
        go_meet
        exact HL
      have q0 : (0 : Int) ≤ k := by omega
      have q1 : (k : Int) < 4 := by omega
      have hsk : Calls Tryd.prog 13 #[.pointer (some ⟨b, 0, none⟩), .int .i64 (k : Int)] wr fun e w' => e = .returned (.int .u8 34) ∧ w' = wr := sk_any b k mg aa i1 189 (fun _ => s1 x) wr HL.out.2.2.2.1 hlt
      have HSK := Lib.hid hsk
      clear hsk
      go_wp2_with (first | (go_at_call 13; refine HSK.out.mono ?_; rintro e wk ⟨rfl, hwk⟩; rw [hwk]; clear hwk))
      exact ⟨⟨k + 1, by omega, by go_num, HL⟩, by simp [intOf]; omega⟩
    -- part>
  case rest =>
  clear HL11
  have HL := hcut
  clear hcut
  obtain ⟨j0, hi0, hz0, hz1, hz2⟩ := info_parts i32_info
  obtain ⟨j1, hi1, hy0, hy1, hy2⟩ := info_parts pd_info
  obtain ⟨j2, hi2, hx0, hx1, hx2⟩ := info_parts bo_info
  have hmkl := fun W => run_make_rowN (P := Tryd.prog) 56 21 j0 _ (by kernel_rfl) hi0 hz0 .i64 .i64 N N (Nat.le_refl _) (by rw [hz2]; omega) (by omega) W
  have hmkd := fun W => run_make_rowN (P := Tryd.prog) 57 44 j1 _ (by kernel_rfl) hi1 hy0 .i64 .i64 N N (Nat.le_refl _) (by rw [hy2]; omega) (by omega) W
  have hmkh := fun W => run_make_rowN (P := Tryd.prog) 58 4 j2 _ (by kernel_rfl) hi2 hx0 .i64 .i64 N N (Nat.le_refl _) (by rw [hx2]; omega) (by omega) W
  rw [hz1] at hmkl
  rw [hy1] at hmkd
  rw [hx1] at hmkh
  clear hi0 hz0 hz1 hz2 hi1 hy0 hy1 hy2 hi2 hx0 hx1 hx2
  obtain ⟨wE, hwE⟩ : ∃ y, wc = y := ⟨_, rfl⟩
  rw [hwE] at HL ⊢
  clear hwE
  have hFL : FL wE.heap.size (wE.heap.size + 1) (wE.heap.size + 1 + 1) N 0 R2 wE (((wE.alloc (.cells (madeCells #[.int .i32 0] N) 21)).alloc (.cells (madeCells #[.pointer none] N) 44)).alloc (.cells (madeCells #[.bool false] N) 4)) := by
    have a1 := th_new (n := N) wE (madeCells #[.int .i32 0] N) 21 (by rw [size_madeCells])
    have b1 := (Below.refl wE.heap.size wE).alloc (Nat.le_refl _) (.cells (madeCells #[.int .i32 0] N) 21)
    have s1' : (wE.alloc (.cells (madeCells #[.int .i32 0] N) 21)).heap.size = wE.heap.size + 1 := by simp
    generalize wE.alloc (.cells (madeCells #[.int .i32 0] N) 21) = x1 at *
    have a2 := th_new (n := N) x1 (madeCells #[.pointer none] N) 44 (by rw [size_madeCells])
    have b2 := (Below.refl x1.heap.size x1).alloc (Nat.le_refl _) (.cells (madeCells #[.pointer none] N) 44)
    have s2 : (x1.alloc (.cells (madeCells #[.pointer none] N) 44)).heap.size = wE.heap.size + 1 + 1 := by simp [s1']
    generalize x1.alloc (.cells (madeCells #[.pointer none] N) 44) = x2 at *
    have a3 := th_new (n := N) x2 (madeCells #[.bool false] N) 4 (by rw [size_madeCells])
    have b3 := (Below.refl x2.heap.size x2).alloc (Nat.le_refl _) (.cells (madeCells #[.bool false] N) 4)
    have hbb : Below wE.heap.size wE (x2.alloc (.cells (madeCells #[.bool false] N) 4)) := (b1.trans (b2.mono (by omega))).trans (b3.mono (by omega))
    rw [s1'] at a2
    rw [s2] at a3
    exact ⟨fun j hj => absurd hj (by omega), th_keep b3 (th_keep b2 a1), th_keep b3 a2, a3, hbb, hbb.size⟩
  have HLE := HL
  have HLB : Hid (∀ W : World, Below wE.heap.size wE W → LS B0 al2 al3 nk nt C T r N b R2 mg aa i1 (fun _ => s1 x) w W) := Lib.hid fun W hb => HL.out.keep hb
  go_upto_block 2 with fail
  clear hmkl hmkd hmkh HL
  obtain ⟨w12, hw12⟩ : ∃ y, (((wE.alloc (.cells (madeCells #[.int .i32 0] N) 21)).alloc (.cells (madeCells #[.pointer none] N) 44)).alloc (.cells (madeCells #[.bool false] N) 4)) = y := ⟨_, rfl⟩
  rw [hw12] at hFL ⊢
  clear hw12
  obtain ⟨gh, hgh⟩ : ∃ y, wE.heap.size + 1 + 1 = y := ⟨_, rfl⟩
  try rw [hgh]
  rw [hgh] at hFL
  obtain ⟨gd, hgd⟩ : ∃ y, wE.heap.size + 1 = y := ⟨_, rfl⟩
  try rw [hgd]
  rw [hgd] at hFL
  obtain ⟨gl, hgl⟩ : ∃ y, wE.heap.size = y := ⟨_, rfl⟩
  have HG : Hid ((gl ≠ gd ∧ gl ≠ gh ∧ gd ≠ gh) ∧ wE.heap.size ≤ gl ∧ wE.heap.size ≤ gd ∧ wE.heap.size ≤ gh) := Lib.hid (by omega)
  have HFL : Hid (FL gl gd gh N 0 R2 wE w12) := Lib.hid (by rw [← hgl]; exact hFL)
  try rw [hgl]
  clear hgh hgd hgl hFL
  go_cut [] (fun wq => Hid (FL gl gd gh N N R2 wE wq))
  case first =>
    -- <part
    go_wp2_with fail
    go_loopw [22] (fun iv wr => ∃ k : Nat, k ≤ N ∧ iv = .int .i64 k ∧ Hid (FL gl gd gh N k R2 wE wr)) (fun iv _ => N - (intOf iv).toNat)
    case atStart => exact ⟨0, by omega, rfl, HFL⟩
    case round =>
      clear HFL
      obtain ⟨k, hk, rfl, HT⟩ := hrel
      by_cases hlt : k < N
      case neg =>
        obtain rfl : k = N := by omega
        go_wp2_with fail
        go_meet
        exact HT
      have q0 : (0 : Int) ≤ k := by omega
      have q1 : (k : Int) < N := by omega
      have HRC : Hid (∀ W : World, Below wE.heap.size wE W → W.cell? ⟨r, k * 2, none⟩ = some (dv (R2 k).1) ∧ W.cell? ⟨r, k * 2 + 1, none⟩ = some (.int .i32 (R2 k).2)) := Lib.hid fun W hb => (HLB.out W hb).2.2.1.cells hlt
      have hrd := fun W => rd_any (R2 k).1 (R2 k).2 W
      have hhd := fun W => hd_any (R2 k).1 (R2 k).2 W
      obtain ⟨l, hl⟩ : ∃ y, (R2 k).2 = y := ⟨_, rfl⟩
      obtain ⟨o, ho⟩ : ∃ y, (R2 k).1 = y := ⟨_, rfl⟩
      rw [hl, ho] at HRC
      rw [hl, ho] at hrd
      rw [hl, ho] at hhd
      have HEQ := Lib.hid (And.intro hl ho)
      clear hl ho
      obtain ⟨v0, ev0⟩ := Option.isSome_iff_exists.1 (HT.out.2.1 k hlt).1
      have fv0 := (HT.out.2.1 k hlt).2
      rw [Nat.zero_add] at ev0 fv0
      rcases o with _ | d2
      · have HRD : Hid (∀ W : World, Calls Tryd.prog 14 #[.agg #[.nilIface, .int .i32 l]] W fun e w' => e = .returned (.pointer none) ∧ Below W.heap.size W w') := Lib.hid hrd
        have HHD : Hid (∀ W : World, Calls Tryd.prog 15 #[.agg #[.nilIface, .int .i32 l]] W fun e w' => e = .returned (.bool false) ∧ Below W.heap.size W w') := Lib.hid hhd
        have HRX : Hid (∀ W : World, Below wE.heap.size wE W → W.cell? ⟨r, k * 2, none⟩ = some (.nilIface) ∧ W.cell? ⟨r, k * 2 + 1, none⟩ = some (.int .i32 l)) := Lib.hid HRC.out
        clear hrd hhd HRC
        obtain ⟨r0, r1⟩ := HRX.out wr HT.out.2.2.2.2.1
        go_upto_region 35 with fail
        have HT1 := Lib.hid (HT.out.junk (.inl rfl) HG.out.2.1 (.int .i32 l))
        have HC1 : Hid ((wr.setCell ⟨gl, k, none⟩ (.int .i32 l)).cell? ⟨gl, k, none⟩ = some (.int .i32 l)) := Lib.hid (set_same (by rw [ev0]; rfl))
        clear ev0 fv0 r0 r1 HT
        generalize World.setCell wr _ _ = wa at *
        obtain ⟨r0, r1⟩ := HRX.out wa HT1.out.2.2.2.2.1
        go_wp2_with fail
        refine (HRD.out wa).mono ?_
        rintro e w5 ⟨rfl, hb5⟩
        have HT2 := Lib.hid (HT1.out.keep hb5)
        have HC2 := Lib.hid (later hb5 HC1.out)
        clear HT1 HC1 hb5 r0 r1
        obtain ⟨v0, ev0⟩ := Option.isSome_iff_exists.1 (HT2.out.2.2.1 k hlt).1
        have fv0 := (HT2.out.2.2.1 k hlt).2
        rw [Nat.zero_add] at ev0 fv0
        go_upto_region 36 with fail
        have HT3 := Lib.hid (HT2.out.junk (.inr (.inl rfl)) HG.out.2.2.1 (.pointer none))
        have HC3 : Hid ((w5.setCell ⟨gd, k, none⟩ (.pointer none)).cell? ⟨gl, k, none⟩ = some (.int .i32 l) ∧ (w5.setCell ⟨gd, k, none⟩ (.pointer none)).cell? ⟨gd, k, none⟩ = some (.pointer none)) := Lib.hid ⟨cell_other HC2.out (fun e => HG.out.1.1 e.symm), set_same (by rw [ev0]; rfl)⟩
        clear ev0 fv0 HT2 HC2
        generalize World.setCell w5 _ _ = w6 at *
        obtain ⟨r0, r1⟩ := HRX.out w6 HT3.out.2.2.2.2.1
        go_wp2_with fail
        refine (HHD.out w6).mono ?_
        rintro e w7 ⟨rfl, hb7⟩
        have HT4 := Lib.hid (HT3.out.keep hb7)
        have HC4 := Lib.hid (And.intro (later hb7 HC3.out.1) (later hb7 HC3.out.2))
        clear HT3 HC3 hb7 r0 r1
        obtain ⟨v0, ev0⟩ := Option.isSome_iff_exists.1 (HT4.out.2.2.2.1 k hlt).1
        have fv0 := (HT4.out.2.2.2.1 k hlt).2
        rw [Nat.zero_add] at ev0 fv0
        have HT5 : Hid (FL gl gd gh N (k + 1) R2 wE (w7.setCell ⟨gh, k, none⟩ (.bool false))) := Lib.hid (by
          refine (HT4.out.junk (.inr (.inr rfl)) HG.out.2.2.2 (.bool false)).next ?_ ?_ ?_
          · rw [HEQ.out.1]; exact cell_other HC4.out.1 (fun e => HG.out.1.2.1 e.symm)
          · rw [HEQ.out.2]; exact cell_other HC4.out.2 (fun e => HG.out.1.2.2 e.symm)
          · rw [HEQ.out.2]; exact set_same (by rw [ev0]; rfl))
        clear HT4 HC4
        go_wp2_with fail
        exact ⟨⟨k + 1, by omega, by go_num, HT5⟩, by simp [intOf]; omega⟩
      · have HRD : Hid (∀ W : World, Calls Tryd.prog 14 #[.agg #[.iface 44 (.pointer (some ⟨d2, 0, none⟩)), .int .i32 l]] W fun e w' => e = .returned (.pointer (some ⟨d2, 0, none⟩)) ∧ Below W.heap.size W w') := Lib.hid hrd
        have HHD : Hid (∀ W : World, Calls Tryd.prog 15 #[.agg #[.iface 44 (.pointer (some ⟨d2, 0, none⟩)), .int .i32 l]] W fun e w' => e = .returned (.bool true) ∧ Below W.heap.size W w') := Lib.hid hhd
        have HRX : Hid (∀ W : World, Below wE.heap.size wE W → W.cell? ⟨r, k * 2, none⟩ = some (.iface 44 (.pointer (some ⟨d2, 0, none⟩))) ∧ W.cell? ⟨r, k * 2 + 1, none⟩ = some (.int .i32 l)) := Lib.hid HRC.out
        clear hrd hhd HRC
        obtain ⟨r0, r1⟩ := HRX.out wr HT.out.2.2.2.2.1
        go_upto_region 35 with fail
        have HT1 := Lib.hid (HT.out.junk (.inl rfl) HG.out.2.1 (.int .i32 l))
        have HC1 : Hid ((wr.setCell ⟨gl, k, none⟩ (.int .i32 l)).cell? ⟨gl, k, none⟩ = some (.int .i32 l)) := Lib.hid (set_same (by rw [ev0]; rfl))
        clear ev0 fv0 r0 r1 HT
        generalize World.setCell wr _ _ = wa at *
        obtain ⟨r0, r1⟩ := HRX.out wa HT1.out.2.2.2.2.1
        go_wp2_with fail
        refine (HRD.out wa).mono ?_
        rintro e w5 ⟨rfl, hb5⟩
        have HT2 := Lib.hid (HT1.out.keep hb5)
        have HC2 := Lib.hid (later hb5 HC1.out)
        clear HT1 HC1 hb5 r0 r1
        obtain ⟨v0, ev0⟩ := Option.isSome_iff_exists.1 (HT2.out.2.2.1 k hlt).1
        have fv0 := (HT2.out.2.2.1 k hlt).2
        rw [Nat.zero_add] at ev0 fv0
        go_upto_region 36 with fail
        have HT3 := Lib.hid (HT2.out.junk (.inr (.inl rfl)) HG.out.2.2.1 (.pointer (some ⟨d2, 0, none⟩)))
        have HC3 : Hid ((w5.setCell ⟨gd, k, none⟩ (.pointer (some ⟨d2, 0, none⟩))).cell? ⟨gl, k, none⟩ = some (.int .i32 l) ∧ (w5.setCell ⟨gd, k, none⟩ (.pointer (some ⟨d2, 0, none⟩))).cell? ⟨gd, k, none⟩ = some (.pointer (some ⟨d2, 0, none⟩))) := Lib.hid ⟨cell_other HC2.out (fun e => HG.out.1.1 e.symm), set_same (by rw [ev0]; rfl)⟩
        clear ev0 fv0 HT2 HC2
        generalize World.setCell w5 _ _ = w6 at *
        obtain ⟨r0, r1⟩ := HRX.out w6 HT3.out.2.2.2.2.1
        go_wp2_with fail
        refine (HHD.out w6).mono ?_
        rintro e w7 ⟨rfl, hb7⟩
        have HT4 := Lib.hid (HT3.out.keep hb7)
        have HC4 := Lib.hid (And.intro (later hb7 HC3.out.1) (later hb7 HC3.out.2))
        clear HT3 HC3 hb7 r0 r1
        obtain ⟨v0, ev0⟩ := Option.isSome_iff_exists.1 (HT4.out.2.2.2.1 k hlt).1
        have fv0 := (HT4.out.2.2.2.1 k hlt).2
        rw [Nat.zero_add] at ev0 fv0
        have HT5 : Hid (FL gl gd gh N (k + 1) R2 wE (w7.setCell ⟨gh, k, none⟩ (.bool true))) := Lib.hid (by
          refine (HT4.out.junk (.inr (.inr rfl)) HG.out.2.2.2 (.bool true)).next ?_ ?_ ?_
          · rw [HEQ.out.1]; exact cell_other HC4.out.1 (fun e => HG.out.1.2.1 e.symm)
          · rw [HEQ.out.2]; exact cell_other HC4.out.2 (fun e => HG.out.1.2.2 e.symm)
          · rw [HEQ.out.2]; exact set_same (by rw [ev0]; rfl))
        clear HT4 HC4
        go_wp2_with fail
        exact ⟨⟨k + 1, by omega, by go_num, HT5⟩, by simp [intOf]; omega⟩
    -- part>
  case rest =>
  clear HFL
  have HFL := hcut
  clear hcut
  obtain ⟨wF, hwF⟩ : ∃ y, wc = y := ⟨_, rfl⟩
  rw [hwF] at HFL ⊢
  clear hwF
  have HWE : Hid (wE.heap.size ≤ wF.heap.size) := Lib.hid HFL.out.2.2.2.2.2
  have HLF : Hid (∀ W : World, Below wF.heap.size wF W → LS B0 al2 al3 nk nt C T r N b R2 mg aa i1 (fun _ => s1 x) w W ∧ FL gl gd gh N N R2 wE W) := Lib.hid fun W hb => ⟨(HLB.out wF HFL.out.2.2.2.2.1).keep hb, HFL.out.keep hb⟩
  obtain ⟨j3, hi3, hz0, hz1, hz2⟩ := info_parts tk_info
  have hmkt := fun W => run_make_rowN (P := Tryd.prog) 35 43 j3 _ (by kernel_rfl) hi3 hz0 .i64 .i64 m m (Nat.le_refl _) (by rw [hz2]; omega) (by omega) W
  rw [hz1] at hmkt
  clear hi3 hz0 hz1 hz2
  have hVL : VL wF.heap.size m 0 T (fun i => kK (C i)) wF (wF.alloc (.cells (madeCells #[.pointer none, .string ⟨#[]⟩, .int .i32 0, .int .u32 0, .int .u16 0, .int .u8 0, .int .u8 0] (m * 7)) 43)) :=
    ⟨fun j hj => absurd hj (by omega), th_new wF _ _ (by rw [size_madeCells]), (Below.refl _ _).alloc (Nat.le_refl _) _, ((Below.refl wF.heap.size wF).alloc (Nat.le_refl _) _).size, Nat.le_refl _⟩
  go_upto_block 4 with fail
  clear hmkt HFL HLB
  generalize World.alloc wF _ = w13 at *
  obtain ⟨gt, hgt⟩ : ∃ y, wF.heap.size = y := ⟨_, rfl⟩
  have HVL : Hid (VL gt m 0 T (fun i => kK (C i)) wF w13) := Lib.hid (by rw [← hgt]; exact hVL)
  rw [hgt]
  have HGT := Lib.hid hgt
  clear hVL hgt
  go_cut [] (fun wq => Hid (VL gt m m T (fun i => kK (C i)) wF wq))
  case first =>
    -- <part
    go_wp2_with fail
    go_loopw [24] (fun iv wr => ∃ k : Nat, k ≤ m ∧ iv = .int .i64 k ∧ Hid (VL gt m k T (fun i => kK (C i)) wF wr)) (fun iv _ => m - (intOf iv).toNat)
    case atStart => exact ⟨0, by omega, rfl, HVL⟩
    case round =>
      clear HVL
      obtain ⟨k, hk, rfl, HT⟩ := hrel
      by_cases hlt : k < m
      case neg =>
        obtain rfl : k = m := by omega
        go_wp2_with fail
        go_meet
        exact HT
      have q0 : (0 : Int) ≤ k := by omega
      have q1 : (k : Int) < m := by omega
      have q2 : (k : Int) < nk := by omega
      have q3 : (k : Int) < nt := by omega
      obtain ⟨ab, ao, hx1, hl1, c1⟩ := (HLF.out wr HT.out.2.2.1).1.1 k (by omega)
      obtain ⟨ab2, ao2, hx2, hl2, c2⟩ := (HLF.out wr HT.out.2.2.1).1.2.1 k (by omega)
      subst hx1
      subst hx2
      dsimp only at c1 c2
      have hkd := fun W => kd_any (C k) W (HK.out.2.1 k (by omega))
      obtain ⟨y, hy⟩ : ∃ y, kK (C k) = y := ⟨_, rfl⟩
      obtain ⟨cc, hcc⟩ : ∃ y, C k = y := ⟨_, rfl⟩
      obtain ⟨tx, htx⟩ : ∃ y, T k = y := ⟨_, rfl⟩
      rw [hy, hcc] at hkd
      rw [hcc] at c1
      rw [htx] at c2
      have HY := Lib.hid (And.intro hy htx)
      have HKD := Lib.hid hkd
      have HS0 : Hid (wr.drew.cell? ⟨ab, ao + k, none⟩ = some (.int .u8 cc) ∧ wr.drew.cell? ⟨ab2, ao2 + k, none⟩ = some (.string tx)) := Lib.hid ⟨c1, c2⟩
      have hdr : Below wr.heap.size wr wr.drew := (Below.refl _ _).drew
      have HTD := Lib.hid (HT.out.keep hdr)
      clear hy hcc htx hkd c1 c2 hl1 hl2 hdr
      go_upto_region 41 with fail
      refine Pl.wp_region_split (fun w' => w'.cell? ⟨ab, ao + k, none⟩ = some (.int .u8 cc) ∧ w'.cell? ⟨ab2, ao2 + k, none⟩ = some (.string tx)) 13 (by kernel_rfl) (by kernel_rfl) ?_
      simp only [List.take_succ_cons, List.take_zero]
      have hHeld := HS0.out
      refine Pl.take_l (i := 0) (v := ?v1) rfl (by kernel_rfl) (by kernel_rfl) (by kernel_rfl) (fun _ _ _ h => h) rfl ?hy1 hHeld ?rest1
      case hy1 => (intro w hSw; (try dsimp only at hSw); (try obtain ⟨_, _⟩ := hSw); go_simp <;> (try with_reducible rfl))
      try simp only [Act.put, List.setIfInBounds_toArray, List.set_cons_zero, List.set_cons_succ]
      refine Pl.take_l (i := 1) (v := ?v2) rfl (by kernel_rfl) (by kernel_rfl) (by kernel_rfl) (fun _ _ _ h => h) rfl ?hy2 hHeld ?rest2
      case hy2 => (intro w hSw; (try dsimp only at hSw); (try obtain ⟨_, _⟩ := hSw); go_simp <;> (try with_reducible rfl))
      try simp only [Act.put, List.setIfInBounds_toArray, List.set_cons_zero, List.set_cons_succ]
      refine Pl.take_l (i := 2) (v := ?v3) rfl (by kernel_rfl) (by kernel_rfl) (by kernel_rfl) (fun _ _ _ h => h) rfl ?hy3 hHeld ?rest3
      case hy3 => (intro w hSw; (try dsimp only at hSw); (try obtain ⟨_, _⟩ := hSw); go_simp <;> (try with_reducible rfl))
      try simp only [Act.put, List.setIfInBounds_toArray, List.set_cons_zero, List.set_cons_succ]
      refine Pl.take_l (i := 3) (v := ?v4) rfl (by kernel_rfl) (by kernel_rfl) (by kernel_rfl) (fun _ _ _ h => h) rfl ?hy4 hHeld ?rest4
      case hy4 => (intro w hSw; (try dsimp only at hSw); (try obtain ⟨_, _⟩ := hSw); go_simp <;> (try with_reducible rfl))
      try simp only [Act.put, List.setIfInBounds_toArray, List.set_cons_zero, List.set_cons_succ]
      refine Pl.take_l (i := 4) (v := ?v5) rfl (by kernel_rfl) (by kernel_rfl) (by kernel_rfl) (fun _ _ _ h => h) rfl ?hy5 hHeld ?rest5
      case hy5 => (intro w hSw; (try dsimp only at hSw); (try obtain ⟨_, _⟩ := hSw); go_simp <;> (try with_reducible rfl))
      try simp only [Act.put, List.setIfInBounds_toArray, List.set_cons_zero, List.set_cons_succ]
      refine Pl.take_l (i := 5) (v := ?v6) rfl (by kernel_rfl) (by kernel_rfl) (by kernel_rfl) (fun _ _ _ h => h) rfl ?hy6 hHeld ?rest6
      case hy6 => (intro w hSw; (try dsimp only at hSw); (try obtain ⟨_, _⟩ := hSw); go_simp <;> (try with_reducible rfl))
      try simp only [Act.put, List.setIfInBounds_toArray, List.set_cons_zero, List.set_cons_succ]
      refine Pl.take_l (i := 7) (v := ?v7) rfl (by kernel_rfl) (by kernel_rfl) (by kernel_rfl) (fun _ _ _ h => h) rfl ?hy7 hHeld ?rest7
      case hy7 => (intro w hSw; (try dsimp only at hSw); (try obtain ⟨_, _⟩ := hSw); go_simp <;> (try with_reducible rfl))
      try simp only [Act.put, List.setIfInBounds_toArray, List.set_cons_zero, List.set_cons_succ]
      refine Pl.take_l (i := 8) (v := ?v8) rfl (by kernel_rfl) (by kernel_rfl) (by kernel_rfl) (fun _ _ _ h => h) rfl ?hy8 hHeld ?rest8
      case hy8 => (intro w hSw; (try dsimp only at hSw); (try obtain ⟨_, _⟩ := hSw); go_simp <;> (try with_reducible rfl))
      try simp only [Act.put, List.setIfInBounds_toArray, List.set_cons_zero, List.set_cons_succ]
      refine Pl.take_l (i := 9) (v := ?v9) rfl (by kernel_rfl) (by kernel_rfl) (by kernel_rfl) (fun _ _ _ h => h) rfl ?hy9 hHeld ?rest9
      case hy9 => (intro w hSw; (try dsimp only at hSw); (try obtain ⟨_, _⟩ := hSw); go_simp <;> (try with_reducible rfl))
      try simp only [Act.put, List.setIfInBounds_toArray, List.set_cons_zero, List.set_cons_succ]
      refine Pl.take_l (i := 10) (v := ?v10) rfl (by kernel_rfl) (by kernel_rfl) (by kernel_rfl) (fun _ _ _ h => h) rfl ?hy10 hHeld ?rest10
      case hy10 => (intro w hSw; (try dsimp only at hSw); (try obtain ⟨_, _⟩ := hSw); go_simp <;> (try with_reducible rfl))
      try simp only [Act.put, List.setIfInBounds_toArray, List.set_cons_zero, List.set_cons_succ]
      refine Pl.alone_l (i := 6) (by kernel_rfl) rfl (fun K hK => ?_)
      go_simp; refine (HKD.out wr.drew).mono ?_; rintro e w5 ⟨rfl, hw5⟩; have HW5 := Lib.hid hw5; clear hw5; dsimp only
      refine hK.out _ _ (by rw [HW5.out]; exact HS0.out) (fun hHeld2 => ?_)
      clear hK K hHeld
      have hHeld := hHeld2
      clear hHeld2
      try simp only [Act.put, List.setIfInBounds_toArray, List.set_cons_zero, List.set_cons_succ]
      refine Pl.take_l (i := 11) (v := ?v11) rfl (by kernel_rfl) (by kernel_rfl) (by kernel_rfl) (fun _ _ _ h => h) rfl ?hy11 hHeld ?rest11
      case hy11 => (intro w hSw; (try dsimp only at hSw); (try obtain ⟨_, _⟩ := hSw); go_simp <;> (try with_reducible rfl))
      try simp only [Act.put, List.setIfInBounds_toArray, List.set_cons_zero, List.set_cons_succ]
      refine Pl.take_l (i := 12) (v := ?v12) rfl (by kernel_rfl) (by kernel_rfl) (by kernel_rfl) (fun _ _ _ h => h) rfl ?hy12 hHeld ?rest12
      case hy12 => (intro w hSw; (try dsimp only at hSw); (try obtain ⟨_, _⟩ := hSw); go_simp <;> (try with_reducible rfl))
      try simp only [Act.put, List.setIfInBounds_toArray, List.set_cons_zero, List.set_cons_succ]
      refine wpAnyH_done (by kernel_rfl) ?_ _
      refine Pl.behind_normal (by decide) ?_
      simp only [List.drop_succ_cons, List.drop_zero]
      clear hHeld
      have HT5 : Hid (VL gt m k T (fun i => kK (C i)) wF w5) := Lib.hid (by rw [HW5.out]; exact HTD.out)
      have HTH : Hid (w5.there gt (k * 7) 7) := Lib.hid (th_sub HT5.out.2.1 (by omega) (by omega))
      have hon : (#[Value.pointer none, .string tx, .int .i32 0, .int .u32 0, .int .u16 0, .int .u8 y, .int .u8 0].all (·.oneCell')) = true := by simp [Value.oneCell']
      have HON := Lib.hid hon
      have HP : Hid (VL gt m (k + 1) T (fun i => kK (C i)) wF (w5.setCells gt (k * 7) [.pointer none, .string tx, .int .i32 0, .int .u32 0, .int .u16 0, .int .u8 y, .int .u8 0])) := Lib.hid (by
        have h := HT5.out.put hlt
        (try dsimp only at h)
        rw [HY.out.1, HY.out.2] at h
        exact h)
      clear hon HT HTD HS0 HKD HW5 HT5
      refine wpList_store_mid rfl 43 _ _ rfl gt (k * 7) #[.pointer none, .string tx, .int .i32 0, .int .u32 0, .int .u16 0, .int .u8 y, .int .u8 0] ?ha ?hv HTH.out szT1 HON.out ?_
      case ha => exact rfl
      case hv => exact rfl
      change wpList _ _ _ _ _ (w5.setCells gt (k * 7) [.pointer none, .string tx, .int .i32 0, .int .u32 0, .int .u16 0, .int .u8 y, .int .u8 0])
      generalize w5.setCells gt (k * 7) [.pointer none, .string tx, .int .i32 0, .int .u32 0, .int .u16 0, .int .u8 y, .int .u8 0] = w6 at *
      go_wp2_with fail
      exact ⟨⟨k + 1, by omega, by go_num, HP⟩, by simp [intOf]; omega⟩
    -- part>
  case rest =>
  clear HVL
  have HVL := hcut
  clear hcut
  obtain ⟨wG, hwG⟩ : ∃ y, wc = y := ⟨_, rfl⟩
  rw [hwG] at HVL ⊢
  clear hwG
  have hal : Below wG.heap.size wG (wG.alloc (.cells (dcR mg (.slice (some ⟨gt, 0, none⟩) m m) 0 0 189 i2).toArray 48)) := (Below.refl _ _).alloc (Nat.le_refl _) _
  have hr14 : (wG.alloc (.cells (dcR mg (.slice (some ⟨gt, 0, none⟩) m m) 0 0 189 i2).toArray 48)).rangeAt wG.heap.size 0 (dcR mg (.slice (some ⟨gt, 0, none⟩) m m) 0 0 189 i2) := rg_new wG (dcR mg (.slice (some ⟨gt, 0, none⟩) m m) 0 0 189 i2).toArray 48
  obtain ⟨hL14, hF14⟩ := HLF.out _ (HVL.out.keep hal).2.2.1
  have hT14 := (HVL.out.keep hal).1
  have hbd : b ≠ wG.heap.size ∧ gt ≠ b ∧ gl ≠ b ∧ gd ≠ b ∧ gh ≠ b := by
    have h1 := World.block_lt_of_cell? wE _ (HLE.out.2.2.2.1.1)
    have h2 := HG.out.2
    have h3 := HWE.out
    have h4 := HVL.out.2.2.2.1
    have h5 := HGT.out
    dsimp only at h1
    omega
  have hz := zz_bad b wG.heap.size m m (.slice (some ⟨r, 0, none⟩) N N) (some ⟨gt, 0, none⟩) mg mg aa i1 i2 false 189 189 0 0 (fun _ => s1 x) T (fun i => kK (C i)) _ hL14.2.2.2.1 hr14 hbd.1 (fun i hi => ⟨gt, rfl⟩) (fun g e => by injection e with e; injection e with e; subst e; exact hT14) (fun g e => by injection e with e; injection e with e; subst e; exact hbd.2.1) (by omega) HRF.out
  have HZB := Lib.hid hz
  have HL14 := Lib.hid hL14
  have HF14 := Lib.hid hF14.1
  have HBD := Lib.hid hbd
  unfold dcR mg at HZB HL14 HF14
  clear hz hL14 hF14 hT14 hr14 hal hbd
  go_upto_region 43 with fail
  generalize World.alloc wG _ = w14 at *
  generalize wG.heap.size = d2 at *
  go_upto_block 6 with (first | (go_at_call 12; refine HZB.out.mono ?_; rintro e w15 ⟨rfl, hB15, hg15⟩))
  have hL15 := HL14.out.bad hB15 hg15
  have hF15 : ∀ j, j < N → w15.cell? ⟨gl, j, none⟩ = some (.int .i32 (R2 j).2) ∧ w15.cell? ⟨gd, j, none⟩ = some (pv (R2 j).1) ∧ w15.cell? ⟨gh, j, none⟩ = some (.bool (R2 j).1.isSome) := fun j hj => by
    obtain ⟨c1, c2, c3⟩ := HF14.out j hj
    have ne : ∀ {q : Nat}, q ≠ b → some q ≠ some b := fun h e => h (by injection e)
    exact ⟨hg15.cell c1 (ne HBD.out.2.2.1), hg15.cell c2 (ne HBD.out.2.2.2.1), hg15.cell c3 (ne HBD.out.2.2.2.2)⟩
  have HL15 := Lib.hid hL15
  have HF15 := Lib.hid hF15
  clear hL15 hF15 hB15 hg15 HZB HL14 HF14 HVL HLF
  go_cut [] (fun wq => Hid (LS B0 al2 al3 nk nt C T r N b R2 mg aa i2 (fun _ => z0) w wq))
  case first =>
    -- <part
    go_wp2_with fail
    go_loopw [26] (fun iv wr => ∃ k : Nat, k ≤ N ∧ iv = .int .i64 k ∧ Hid (Below w15.heap.size w15 wr)) (fun iv _ => N - (intOf iv).toNat)
    case atStart => exact ⟨0, by omega, rfl, Lib.hid (Below.refl _ _)⟩
    case round =>
      obtain ⟨k, hk, rfl, HB⟩ := hrel
      by_cases hlt : k < N
      case neg =>
        obtain rfl : k = N := by omega
        go_wp2_with fail
        go_meet
        exact Lib.hid (HL15.out.keep HB.out)
      have q0 : (0 : Int) ≤ k := by omega
      have q1 : (k : Int) < N := by omega
      have hrd := fun W => rd_any (R2 k).1 (R2 k).2 W
      have hhd := fun W => hd_any (R2 k).1 (R2 k).2 W
      have hpn := fun W => pn_same (R2 k).1 W
      have hcc : ∀ W : World, Below wr.heap.size wr W → W.cell? ⟨r, k * 2, none⟩ = some (dv (R2 k).1) ∧ W.cell? ⟨r, k * 2 + 1, none⟩ = some (.int .i32 (R2 k).2) ∧ W.cell? ⟨gl, k, none⟩ = some (.int .i32 (R2 k).2) ∧ W.cell? ⟨gd, k, none⟩ = some (pv (R2 k).1) ∧ W.cell? ⟨gh, k, none⟩ = some (.bool (R2 k).1.isSome) ∧ Below wr.heap.size wr W := fun W hb => by
        have hbb := HB.out.trans (hb.mono HB.out.size)
        obtain ⟨c1, c2⟩ := (HL15.out.keep hbb).2.2.1.cells hlt
        obtain ⟨c3, c4, c5⟩ := HF15.out k hlt
        exact ⟨c1, c2, later hbb c3, later hbb c4, later hbb c5, hb⟩
      obtain ⟨o, ho⟩ : ∃ y, (R2 k).1 = y := ⟨_, rfl⟩
      rw [ho] at hrd hhd hpn hcc
      generalize (R2 k).2 = l at *
      clear ho
      rcases o with _ | dd
      · have HRD : Hid (∀ W : World, Calls Tryd.prog 14 #[.agg #[.nilIface, .int .i32 l]] W fun e w' => e = .returned (.pointer none) ∧ Below W.heap.size W w') := Lib.hid hrd
        have HHD : Hid (∀ W : World, Calls Tryd.prog 15 #[.agg #[.nilIface, .int .i32 l]] W fun e w' => e = .returned (.bool false) ∧ Below W.heap.size W w') := Lib.hid hhd
        have hpn2 : ∀ W : World, (binOp .neq 44 (.pointer none) (.pointer none)).run Tryd.prog W = .ok (.bool false) W := hpn
        have HQX : Hid (∀ W : World, Below wr.heap.size wr W → W.cell? ⟨r, k * 2, none⟩ = some (.nilIface) ∧ W.cell? ⟨r, k * 2 + 1, none⟩ = some (.int .i32 l) ∧ W.cell? ⟨gl, k, none⟩ = some (.int .i32 l) ∧ W.cell? ⟨gd, k, none⟩ = some (.pointer none) ∧ W.cell? ⟨gh, k, none⟩ = some (.bool false) ∧ Below wr.heap.size wr W) := Lib.hid hcc
        clear hrd hhd hcc hpn
        go_upto_region 47 with fail
        go_region_held3 (fun w' => w'.cell? ⟨r, k * 2, none⟩ = some (.nilIface) ∧ w'.cell? ⟨r, k * 2 + 1, none⟩ = some (.int .i32 l) ∧ w'.cell? ⟨gl, k, none⟩ = some (.int .i32 l) ∧ w'.cell? ⟨gd, k, none⟩ = some (.pointer none) ∧ w'.cell? ⟨gh, k, none⟩ = some (.bool false) ∧ Below wr.heap.size wr w')
          (first | (with_reducible exact HQX.out _ (Below.refl _ _).drew) | (with_reducible exact HQX.out _ HB5) | (with_reducible exact HQX.out _ HB6))
          (first
            | (go_at_call 14; refine (HRD.out _).mono ?_; rintro e w5 ⟨rfl, hb5⟩; have HB5 : Below wr.heap.size wr w5 := below_of hb5 rfl rfl rfl rfl; clear hb5)
            | (go_at_call 15; refine (HHD.out _).mono ?_; rintro e w6 ⟨rfl, hb6⟩; have HB6 := HB5.trans (hb6.mono HB5.size); clear hb6))
        rename_i hH
        have HB9 := Lib.hid (HB.out.trans (HB6.mono HB.out.size))
        clear hH HB5 HB6 HQX HRD HHD hpn2
        go_wp2_with fail
        exact ⟨⟨k + 1, by omega, by go_num, HB9⟩, by simp [intOf]; omega⟩
      · have HRD : Hid (∀ W : World, Calls Tryd.prog 14 #[.agg #[.iface 44 (.pointer (some ⟨dd, 0, none⟩)), .int .i32 l]] W fun e w' => e = .returned (.pointer (some ⟨dd, 0, none⟩)) ∧ Below W.heap.size W w') := Lib.hid hrd
        have HHD : Hid (∀ W : World, Calls Tryd.prog 15 #[.agg #[.iface 44 (.pointer (some ⟨dd, 0, none⟩)), .int .i32 l]] W fun e w' => e = .returned (.bool true) ∧ Below W.heap.size W w') := Lib.hid hhd
        have hpn2 : ∀ W : World, (binOp .neq 44 (.pointer (some ⟨dd, 0, none⟩)) (.pointer (some ⟨dd, 0, none⟩))).run Tryd.prog W = .ok (.bool false) W := hpn
        have HQX : Hid (∀ W : World, Below wr.heap.size wr W → W.cell? ⟨r, k * 2, none⟩ = some (.iface 44 (.pointer (some ⟨dd, 0, none⟩))) ∧ W.cell? ⟨r, k * 2 + 1, none⟩ = some (.int .i32 l) ∧ W.cell? ⟨gl, k, none⟩ = some (.int .i32 l) ∧ W.cell? ⟨gd, k, none⟩ = some (.pointer (some ⟨dd, 0, none⟩)) ∧ W.cell? ⟨gh, k, none⟩ = some (.bool true) ∧ Below wr.heap.size wr W) := Lib.hid hcc
        clear hrd hhd hcc hpn
        go_upto_region 47 with fail
        go_region_held3 (fun w' => w'.cell? ⟨r, k * 2, none⟩ = some (.iface 44 (.pointer (some ⟨dd, 0, none⟩))) ∧ w'.cell? ⟨r, k * 2 + 1, none⟩ = some (.int .i32 l) ∧ w'.cell? ⟨gl, k, none⟩ = some (.int .i32 l) ∧ w'.cell? ⟨gd, k, none⟩ = some (.pointer (some ⟨dd, 0, none⟩)) ∧ w'.cell? ⟨gh, k, none⟩ = some (.bool true) ∧ Below wr.heap.size wr w')
          (first | (with_reducible exact HQX.out _ (Below.refl _ _).drew) | (with_reducible exact HQX.out _ HB5) | (with_reducible exact HQX.out _ HB6))
          (first
            | (go_at_call 14; refine (HRD.out _).mono ?_; rintro e w5 ⟨rfl, hb5⟩; have HB5 : Below wr.heap.size wr w5 := below_of hb5 rfl rfl rfl rfl; clear hb5)
            | (go_at_call 15; refine (HHD.out _).mono ?_; rintro e w6 ⟨rfl, hb6⟩; have HB6 := HB5.trans (hb6.mono HB5.size); clear hb6))
        rename_i hH
        have HB9 := Lib.hid (HB.out.trans (HB6.mono HB.out.size))
        clear hH HB5 HB6 HQX HRD HHD hpn2
        go_wp2_with fail
        exact ⟨⟨k + 1, by omega, by go_num, HB9⟩, by simp [intOf]; omega⟩
    -- part>
  case rest =>
  clear HL15 HF15
  have HL := hcut
  clear hcut
  go_upto_block 8 with fail
  go_cut [] (fun wq => Hid (LS B0 al2 al3 nk nt C T r N b R2 mg aa i2 (fun _ => z0) w wq))
  case first =>
    -- <part
    go_wp2_with fail
    go_loopw [27] (fun iv wr => ∃ k : Nat, k ≤ 4 ∧ iv = .int .i64 k ∧ Hid (LS B0 al2 al3 nk nt C T r N b R2 mg aa i2 (fun _ => z0) w wr)) (fun iv _ => 4 - (intOf iv).toNat)
    case atStart => exact ⟨0, by omega, rfl, HL⟩
    case round =>
      clear HL
      obtain ⟨k, hk, rfl, HL⟩ := hrel
      by_cases hlt : k < 4
      case neg =>
        obtain rfl : k = 4 := by omega
        go_wp2_with fail
        go_meet
        exact HL
      have q0 : (0 : Int) ≤ k := by omega
      have q1 : (k : Int) < 4 := by omega
      have hsk : Calls Tryd.prog 13 #[.pointer (some ⟨b, 0, none⟩), .int .i64 (k : Int)] wr fun e w' => e = .returned (.int .u8 0) ∧ w' = wr := sk_any b k mg aa i2 189 (fun _ => z0) wr HL.out.2.2.2.1 hlt
      have HSK := Lib.hid hsk
      clear hsk
      go_wp2_with (first | (go_at_call 13; refine HSK.out.mono ?_; rintro e wk ⟨rfl, hwk⟩; rw [hwk]; clear hwk))
      exact ⟨⟨k + 1, by omega, by go_num, HL⟩, by simp [intOf]; omega⟩
    -- part>
  case rest =>
  clear HL
  have HL := hcut
  clear hcut
  have HBI := Lib.hid (bi_any b mg aa i2 189 (fun _ => z0) wc HL.out.2.2.2.1)
  go_wp2_with (first | (go_at_call 17; refine HBI.out.mono ?_; rintro e wk ⟨rfl, hwk⟩; rw [hwk]; clear hwk))
  go_ret
  exact ⟨rfl, HL.out.2.2.2.2.1⟩
end Go.Proofs.YtnihlfldlkkobaaDoor.Bx
