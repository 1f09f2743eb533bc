/-
  zzStopEq at two stops that are the same but for where their positions lie.
-/
import Derived.Test.YtfhfeimlikpbpaaDoorTe
namespace Go.Proofs.YtfhfeimlikpbpaaDoor.Cs
open Go.ChangeShapes Go.WideShapes Go.ChangeAt Go.RowKit Rg
set_option linter.unusedVariables false
/-- two stops in boxes b1, b2 -/
def EB (b1 b2 : Nat) (x y : List Value) (x1 x2 : Value) (ps : List Nat) (w0 w : World) : Prop := w.rangeAt b1 0 x ∧ w.rangeAt b2 0 y ∧ PR w 0 x1 ps ∧ PR w 0 x2 ps ∧ Below w0.heap.size w0 w
theorem EB.keep {b1 b2 : Nat} {x y : List Value} {x1 x2 : Value} {ps : List Nat} {w0 w w' : World} (h : EB b1 b2 x y x1 x2 ps w0 w) (hb : Below w.heap.size w w') : EB b1 b2 x y x1 x2 ps w0 w' :=
  ⟨rg_keep hb h.1, rg_keep hb h.2.1, own_keep h.2.2.1 hb, own_keep h.2.2.2.1 hb, h.2.2.2.2.trans (hb.mono h.2.2.2.2.size)⟩
theorem own_le {w : World} {B n s : Nat} {e : TypeId} {v : Value} {xs : List Value} (h : w.ownsRow B e s v n xs) : n ≤ maxLen := by
  rcases h.2 with ⟨_, h0⟩ | ⟨g, cap, cur, _, _, _, h1, h2, _⟩
  · omega
  · omega
set_option maxRecDepth 100000 in
set_option maxHeartbeats 4000000 in
theorem seq_any (a a' : Option Addr) (n cp cp' : Nat) (c m : ByteArray) (ps : List Nat) (w : World) (hn : n = ps.length) (h1 : PR w 0 (.slice a n cp) ps) (h2 : PR w 0 (.slice a' n cp') ps) :
    Calls Tryd.prog 11 #[.agg #[.slice a n cp, .pointer none, .string c, .int .i32 0, .int .u32 0, .int .u16 0, .int .u8 29, .int .u8 2, .pointer none, .string m, .int .i32 0, .int .u32 0, .int .u16 0, .int .u8 (mk m), .int .u8 0], .agg #[.slice a' n cp', .pointer none, .string c, .int .i32 0, .int .u32 0, .int .u16 0, .int .u8 29, .int .u8 2, .pointer none, .string m, .int .i32 0, .int .u32 0, .int .u16 0, .int .u8 (mk m), .int .u8 0]] w fun e w' => e = .returned (.bool true) ∧ Below w.heap.size w w' := by
  obtain ⟨dS, hS, hS2⟩ := tySt
  obtain ⟨dT, hT, hT2⟩ := tyTok
  have HN := Lib.hid hn
  have hB2 : Below w.heap.size w ((w.alloc (.cells #[.slice a n cp, .pointer none, .string c, .int .i32 0, .int .u32 0, .int .u16 0, .int .u8 29, .int .u8 2, .pointer none, .string m, .int .i32 0, .int .u32 0, .int .u16 0, .int .u8 (mk m), .int .u8 0] 44)).alloc (.cells #[.slice a' n cp', .pointer none, .string c, .int .i32 0, .int .u32 0, .int .u16 0, .int .u8 29, .int .u8 2, .pointer none, .string m, .int .i32 0, .int .u32 0, .int .u16 0, .int .u8 (mk m), .int .u8 0] 44)) := ((Below.refl _ _).alloc (Nat.le_refl _) _).alloc (by simp) _
  have hr2 := rg_new (w.alloc (.cells #[.slice a n cp, .pointer none, .string c, .int .i32 0, .int .u32 0, .int .u16 0, .int .u8 29, .int .u8 2, .pointer none, .string m, .int .i32 0, .int .u32 0, .int .u16 0, .int .u8 (mk m), .int .u8 0] 44)) #[.slice a' n cp', .pointer none, .string c, .int .i32 0, .int .u32 0, .int .u16 0, .int .u8 29, .int .u8 2, .pointer none, .string m, .int .i32 0, .int .u32 0, .int .u16 0, .int .u8 (mk m), .int .u8 0] 44
  rw [World.size_alloc] at hr2
  have HE := Lib.hid (show EB w.heap.size (w.heap.size + 1) (st (.slice a n cp) c m) (st (.slice a' n cp') c m) (.slice a n cp) (.slice a' n cp') ps w ((w.alloc (.cells #[.slice a n cp, .pointer none, .string c, .int .i32 0, .int .u32 0, .int .u16 0, .int .u8 29, .int .u8 2, .pointer none, .string m, .int .i32 0, .int .u32 0, .int .u16 0, .int .u8 (mk m), .int .u8 0] 44)).alloc (.cells #[.slice a' n cp', .pointer none, .string c, .int .i32 0, .int .u32 0, .int .u16 0, .int .u8 29, .int .u8 2, .pointer none, .string m, .int .i32 0, .int .u32 0, .int .u16 0, .int .u8 (mk m), .int .u8 0] 44)) from
    ⟨rg_keep ((Below.refl _ _).alloc (Nat.le_refl _) _) (rg_new w #[.slice a n cp, .pointer none, .string c, .int .i32 0, .int .u32 0, .int .u16 0, .int .u8 29, .int .u8 2, .pointer none, .string m, .int .i32 0, .int .u32 0, .int .u16 0, .int .u8 (mk m), .int .u8 0] 44), hr2, own_keep h1 hB2, own_keep h2 hB2, hB2⟩)
  clear hB2 hr2 h1 h2 hn
  go_enter Tryd.func11, Tryd.ntmps11
  go_wp2_with fail
  generalize w.heap.size = b1 at *
  obtain ⟨b2, hb2⟩ : ∃ b2, b2 = b1 + 1 := ⟨_, rfl⟩
  rw [← hb2] at HE ⊢
  clear hb2
  generalize (World.alloc _ _ : World) = w1 at *
  have HE1 := Lib.hid (HE.out.keep (Below.refl _ _).drew)
  refine Pl.wp_region_split (fun w' => EB b1 b2 (st (.slice a n cp) c m) (st (.slice a' n cp') c m) (.slice a n cp) (.slice a' n cp') ps w w') 4 (by kernel_rfl) (by kernel_rfl) ?_
  simp only [List.take_succ_cons, List.take_zero]
  have hHeld := HE1.out
  refine Pl.take_l (i := 0) (v := .agg #[.slice a n cp, .pointer none, .string c, .int .i32 0, .int .u32 0, .int .u16 0, .int .u8 29, .int .u8 2, .pointer none, .string m, .int .i32 0, .int .u32 0, .int .u16 0, .int .u8 (mk m), .int .u8 0]) rfl (by kernel_rfl) (by kernel_rfl) (by kernel_rfl) (fun _ _ _ h => h) rfl (fun w hSw => ex_load 44 (.tmp 2) rfl b1 0 rfl (st (.slice a n cp) c m) dS (hSw.1) hS hS2 szSt) hHeld ?_
  try simp only [Act.put, List.setIfInBounds_toArray, List.set_cons_zero, List.set_cons_succ]
  refine Pl.take_l (i := 2) (v := .agg #[.slice a' n cp', .pointer none, .string c, .int .i32 0, .int .u32 0, .int .u16 0, .int .u8 29, .int .u8 2, .pointer none, .string m, .int .i32 0, .int .u32 0, .int .u16 0, .int .u8 (mk m), .int .u8 0]) rfl (by kernel_rfl) (by kernel_rfl) (by kernel_rfl) (fun _ _ _ h => h) rfl (fun w hSw => ex_load 44 (.tmp 3) rfl b2 0 rfl (st (.slice a' n cp') c m) dS (hSw.2.1) hS hS2 szSt) hHeld ?_
  try simp only [Act.put, List.setIfInBounds_toArray, List.set_cons_zero, List.set_cons_succ]
  refine Pl.alone_l (i := 1) (by kernel_rfl) rfl (fun K hK => ?_)
  go_simp; refine (gcol_any (.slice a n cp) c m (mk m) _).mono ?_; rintro e w2 ⟨rfl, hb⟩; have HE2 := Lib.hid (hHeld.keep hb); clear hb; dsimp only
  refine hK.out _ _ HE2.out (fun hHeld2 => ?_)
  clear hK K hHeld
  have hHeld := hHeld2
  clear hHeld2
  try simp only [Act.put, List.setIfInBounds_toArray, List.set_cons_zero, List.set_cons_succ]
  refine Pl.alone_l (i := 3) (by kernel_rfl) rfl (fun K hK => ?_)
  go_simp; refine (gcol_any (.slice a' n cp') c m (mk m) _).mono ?_; rintro e w3 ⟨rfl, hb⟩; have HE3 := Lib.hid (hHeld.keep hb); clear hb; dsimp only
  refine hK.out _ _ HE3.out (fun hHeld2 => ?_)
  clear hK K hHeld
  have hHeld := hHeld2
  clear hHeld2
  try simp only [Act.put, List.setIfInBounds_toArray, List.set_cons_zero, List.set_cons_succ]
  refine wpAnyH_done (by kernel_rfl) ?_ _
  refine Pl.behind_normal (by decide) ?_
  simp only [List.drop_succ_cons, List.drop_zero]
  clear hHeld
  clear HE HE1 HE2
  go_wp2_with fail
  refine (teq_any 29 2 c w3).mono ?_
  rintro e w1 ⟨rfl, hb⟩
  have HE := Lib.hid (HE3.out.keep hb)
  clear hb HE3
  go_wp2_with fail
  have HE1 := Lib.hid (HE.out.keep (Below.refl _ _).drew)
  refine Pl.wp_region_split (fun w' => EB b1 b2 (st (.slice a n cp) c m) (st (.slice a' n cp') c m) (.slice a n cp) (.slice a' n cp') ps w w') 4 (by kernel_rfl) (by kernel_rfl) ?_
  simp only [List.take_succ_cons, List.take_zero]
  have hHeld := HE1.out
  refine Pl.take_l (i := 0) (v := .agg #[.slice a n cp, .pointer none, .string c, .int .i32 0, .int .u32 0, .int .u16 0, .int .u8 29, .int .u8 2, .pointer none, .string m, .int .i32 0, .int .u32 0, .int .u16 0, .int .u8 (mk m), .int .u8 0]) rfl (by kernel_rfl) (by kernel_rfl) (by kernel_rfl) (fun _ _ _ h => h) rfl (fun w hSw => ex_load 44 (.tmp 2) rfl b1 0 rfl (st (.slice a n cp) c m) dS (hSw.1) hS hS2 szSt) hHeld ?_
  try simp only [Act.put, List.setIfInBounds_toArray, List.set_cons_zero, List.set_cons_succ]
  refine Pl.take_l (i := 2) (v := .agg #[.slice a' n cp', .pointer none, .string c, .int .i32 0, .int .u32 0, .int .u16 0, .int .u8 29, .int .u8 2, .pointer none, .string m, .int .i32 0, .int .u32 0, .int .u16 0, .int .u8 (mk m), .int .u8 0]) rfl (by kernel_rfl) (by kernel_rfl) (by kernel_rfl) (fun _ _ _ h => h) rfl (fun w hSw => ex_load 44 (.tmp 3) rfl b2 0 rfl (st (.slice a' n cp') c m) dS (hSw.2.1) hS hS2 szSt) hHeld ?_
  try simp only [Act.put, List.setIfInBounds_toArray, List.set_cons_zero, List.set_cons_succ]
  refine Pl.alone_l (i := 1) (by kernel_rfl) rfl (fun K hK => ?_)
  go_simp; refine (gmid_any (.slice a n cp) c m (mk m) _).mono ?_; rintro e w2 ⟨rfl, hb⟩; have HE2 := Lib.hid (hHeld.keep hb); clear hb; dsimp only
  refine hK.out _ _ HE2.out (fun hHeld2 => ?_)
  clear hK K hHeld
  have hHeld := hHeld2
  clear hHeld2
  try simp only [Act.put, List.setIfInBounds_toArray, List.set_cons_zero, List.set_cons_succ]
  refine Pl.alone_l (i := 3) (by kernel_rfl) rfl (fun K hK => ?_)
  go_simp; refine (gmid_any (.slice a' n cp') c m (mk m) _).mono ?_; rintro e w3 ⟨rfl, hb⟩; have HE3 := Lib.hid (hHeld.keep hb); clear hb; dsimp only
  refine hK.out _ _ HE3.out (fun hHeld2 => ?_)
  clear hK K hHeld
  have hHeld := hHeld2
  clear hHeld2
  try simp only [Act.put, List.setIfInBounds_toArray, List.set_cons_zero, List.set_cons_succ]
  refine wpAnyH_done (by kernel_rfl) ?_ _
  refine Pl.behind_normal (by decide) ?_
  simp only [List.drop_succ_cons, List.drop_zero]
  clear hHeld
  clear HE HE1 HE2
  go_wp2_with fail
  refine (teq_any (mk m) 0 m w3).mono ?_
  rintro e w1 ⟨rfl, hb⟩
  have HE := Lib.hid (HE3.out.keep hb)
  clear hb HE3
  go_upto_region 7 with (first
    | (refine wpList_load_mid rfl 44 _ rfl b1 0 rfl (st (.slice a n cp) c m) dS HE.out.1 hS hS2 szSt ?_; change wpList _ _ _ _ (Act.put _ _ (Value.agg #[.slice a n cp, .pointer none, .string c, .int .i32 0, .int .u32 0, .int .u16 0, .int .u8 29, .int .u8 2, .pointer none, .string m, .int .i32 0, .int .u32 0, .int .u16 0, .int .u8 (mk m), .int .u8 0])) _)
    | (refine wpList_load_mid rfl 44 _ rfl b2 0 rfl (st (.slice a' n cp') c m) dS HE.out.2.1 hS hS2 szSt ?_; change wpList _ _ _ _ (Act.put _ _ (Value.agg #[.slice a' n cp', .pointer none, .string c, .int .i32 0, .int .u32 0, .int .u16 0, .int .u8 29, .int .u8 2, .pointer none, .string m, .int .i32 0, .int .u32 0, .int .u16 0, .int .u8 (mk m), .int .u8 0])) _)
    | (go_at_call 12
       first
       | (refine (gpos_any (.slice a n cp) c m (mk m) _).mono ?_; rintro e w2 ⟨rfl, hb⟩; have HE2 := Lib.hid (HE.out.keep hb); clear HE hb; have HE := HE2; clear HE2)
       | (refine (gpos_any (.slice a' n cp') c m (mk m) _).mono ?_; rintro e w2 ⟨rfl, hb⟩; have HE2 := Lib.hid (HE.out.keep hb); clear HE hb; have HE := HE2; clear HE2)))
  go_wp2_with fail
  go_loopw [7] (fun i wr => ∃ (k : Nat), k ≤ n ∧ i = .int .i64 k ∧ Hid (EB b1 b2 (st (.slice a n cp) c m) (st (.slice a' n cp') c m) (.slice a n cp) (.slice a' n cp') ps w wr)) (fun i _ => n - (intOf i).toNat)
  case atStart => exact ⟨0, Nat.zero_le _, rfl, HE⟩
  case round =>
    clear HE
    obtain ⟨k, hk, rfl, HE⟩ := hrel
    by_cases hlt : k < n
    · as_aux_lemma =>
      have hnm : n ≤ maxLen := by rw [HN.out]; exact own_le HE.out.2.2.1
      unfold maxLen at hnm
      have q0 : (0 : Int) ≤ k := by omega
      have q1 : (k : Int) < n := by omega
      have hl : k < ps.length := by have := HN.out; omega
      obtain ⟨pg, pc, hve, -, -⟩ := HE.out.2.2.1.form (by omega)
      obtain ⟨pg2, pc2, hve2, -, -⟩ := HE.out.2.2.2.1.form (by omega)
      simp only [Value.slice.injEq] at hve hve2
      obtain ⟨rfl, hx1, rfl⟩ := hve
      obtain ⟨rfl, hx2, rfl⟩ := hve2
      clear hx1 hx2
      have hr1 := own_range (f := pt) (s := 7) (L := ps) (by have h := HE.out.2.2.1; rw [HN.out] at h; exact h) (fun x => rfl) hl
      have hr2 := own_range (f := pt) (s := 7) (L := ps) (by have h := HE.out.2.2.2.1; rw [HN.out] at h; exact h) (fun x => rfl) hl
      obtain ⟨q, hq⟩ : ∃ q, q = ps[k] := ⟨_, rfl⟩
      rw [← hq] at hr1 hr2
      clear hq hl
      have d0 := hr1 0 _ rfl
      have x0 := hr2 0 _ rfl
      have d1 := hr1 1 _ rfl
      have x1 := hr2 1 _ rfl
      have d2 := hr1 2 _ rfl
      have x2 := hr2 2 _ rfl
      have d3 := hr1 3 _ rfl
      have x3 := hr2 3 _ rfl
      have d4 := hr1 4 _ rfl
      have x4 := hr2 4 _ rfl
      have d5 := hr1 5 _ rfl
      have x5 := hr2 5 _ rfl
      have d6 := hr1 6 _ rfl
      have x6 := hr2 6 _ rfl
      clear hr1 hr2
      try simp only [Nat.add_zero] at d0 x0
      go_wp2_with fail
      go_still_tail 8, (by kernel_rfl)
      have HE1 := Lib.hid (HE.out.keep (Below.refl _ _).drew)
      change wpList _ _ _ _ _ (World.drew wr)
      clear HE d0 d1 d2 d3 d4 d5 d6 x0 x1 x2 x3 x4 x5 x6
      generalize World.drew _ = w5 at *
      go_wp2_with fail
      refine (teq_any 34 2 (ptx q) w5).mono ?_
      rintro e w6 ⟨rfl, hb⟩
      have HE := Lib.hid (HE1.out.keep hb)
      clear hb HE1
      go_wp2_with fail
      exact ⟨⟨k + 1, by omega, by go_num, HE⟩, by simp [intOf]; omega⟩
    · as_aux_lemma =>
      obtain rfl : k = n := by omega
      go_wp2_with fail
      go_ret
      exact ⟨rfl, HE.out.2.2.2.2⟩
end Go.Proofs.YtfhfeimlikpbpaaDoor.Cs
