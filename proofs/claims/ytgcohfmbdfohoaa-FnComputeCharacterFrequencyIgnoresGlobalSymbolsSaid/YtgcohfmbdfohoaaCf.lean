/-
  computeCharacterFrequency over a parser that holds no comment and no import.
-/
import Derived.Test.YtgcohfmbdfohoaaSy
namespace Go.Proofs.Ytgcohfmbdfohoaa.Fq
open Go.ChangeShapes Go.WideShapes Go.ChangeAt Go.RowKit Rg
set_option linter.unusedVariables false
/-- n symbols in block g from cell 0 on -/
def Syms (w : World) (g n : Nat) (T : Nat → ByteArray) (U : Nat → Int) (L : Nat → Bool) : Prop := ∀ j, j < n → w.rangeAt g (j * 10) (symc (T j) (U j) (kd (L j)))
set_option maxRecDepth 100000 in
set_option maxHeartbeats 1000000 in
theorem comp_nil (p : Nat) (w : World) (hm : w.cell? ⟨p, 51, none⟩ = some (.bool false)) :
    Calls Try.prog 8 #[.pointer (some ⟨p, 0, none⟩)] w fun e w' => e = .returned (.pointer none) ∧ w' = w := by
  go_enter Try.func8, Try.ntmps8
  go_wp2_with fail
  go_ret
  exact ⟨rfl, rfl⟩
theorem row_zero (w : World) : Row (w.alloc (.cells (Array.replicate 64 (.int .i32 0)) 44)) w.heap.size (fun _ => 0) := fun j hj => by
  have h := heap_alloc_new w (.cells (Array.replicate 64 (.int .i32 0)) 44)
  rw [cell_of_row _ _ j _ _ (0, 0) h, frozen_of_row _ _ j _ _ h]
  simp [hj]
theorem _root_.Go.RowKit.Below.seen {w w' : World} (hb : Below w.heap.size w w') {p : Addr} {v : Value} (h : w.cell? p = some v) : w'.cell? p = some v := later hb h
theorem symc_one (s : ByteArray) (u k : Int) : (symc s u k).toArray.all (·.oneCell') = true := by simp [symc, Value.oneCell']
theorem new_sym (w : World) : (w.alloc (.cells #[.pointer none, .string ⟨#[]⟩, .int .u32 0, .int .u32 0, .int .u32 0, .int .u32 0, .int .u32 0, .int .u16 0, .int .u8 0, .int .u8 0] 39)).there w.heap.size 0 10 := th_new w #[.pointer none, .string ⟨#[]⟩, .int .u32 0, .int .u32 0, .int .u32 0, .int .u32 0, .int .u32 0, .int .u16 0, .int .u8 0, .int .u8 0] 39 (by simp)
def negU (u : Int) : Int := wrap32 (-wrap32 u)
/-- the counters after the symbols from j on -/
def subL (T : Nat → ByteArray) (U : Nat → Int) (L : Nat → Bool) : Nat → (Nat → Int) → (Nat → Int)
  | 0, f => f
  | j + 1, f => if L j = true then scanD (negU (U j)) (T j) (subL T U L j f) else subL T U L j f
def CPost (w : World) (h : Nat → Int) (e : Ending) (w' : World) : Prop := ∃ b, e = .returned (.pointer (some ⟨b, 0, none⟩)) ∧ Row w' b h ∧ Below w.heap.size w w' ∧ w.heap.size ≤ b
set_option maxRecDepth 100000 in
set_option maxHeartbeats 1000000 in
theorem comp_any (p g n c : Nat) (C : ByteArray) (T : Nat → ByteArray) (U : Nat → Int) (L : Nat → Bool) (w : World) (hC : (C.size : Int) ≤ 9223372036854775807) (hn : (n : Int) ≤ 9223372036854775806)
    (hT : ∀ j, j < n → ((T j).size : Int) ≤ 9223372036854775807)
    (hm : w.cell? ⟨p, 51, none⟩ = some (.bool true)) (hc : w.cell? ⟨p, 9, none⟩ = some (.string C)) (h1 : w.cell? ⟨p, 17, none⟩ = some (.slice none 0 0)) (h2 : w.cell? ⟨p, 20, none⟩ = some (.slice none 0 0))
    (a : Option Addr) (ha : 0 < n → a = some ⟨g, 0, none⟩) (h3 : w.cell? ⟨p, 21, none⟩ = some (.slice a n c)) (hs : Syms w g n T U L) :
    Calls Try.prog 8 #[.pointer (some ⟨p, 0, none⟩)] w (CPost w (subL T U L n (scanD 1 C (fun _ => 0)))) := by
  have HS := Lib.hid hs
  have HT := Lib.hid hT
  clear hs hT
  have HP := Lib.hid (And.intro h1 (And.intro h2 h3))
  have hc2 := alloc_cell hc
  clear h1 h2 h3
  go_enter Try.func8, Try.ntmps8
  go_wp2_with fail
  have HB0 := Lib.hid ((Below.refl w.heap.size w).alloc (Nat.le_refl _) (.cells (Array.replicate 64 (.int .i32 0)) 44))
  refine (scan_any w.heap.size (fun _ => 0) 1 C hC _ (row_zero w)).mono ?_
  rintro e w1 ⟨rfl, hr, hb, hz⟩
  have HB1 := Lib.hid (HB0.out.trans hb)
  have HR := Lib.hid hr
  have h1 := HB1.out.seen HP.out.1
  have h2 := HB1.out.seen HP.out.2.1
  have h3 := HB1.out.seen HP.out.2.2
  clear hr hb HB0
  go_wp2_with fail
  refine wp_loop_rounds 1 ?_
  rw [rounds_succ]
  go_wp2_with fail
  refine wp_loop_rounds 1 ?_
  rw [rounds_succ]
  go_wp2_with fail
  clear h1 h2 h3
  obtain ⟨du, hu, hu2⟩ := tySym
  have HU := Lib.hid hu
  clear hu
  have HF := Lib.hid HB1
  go_loopw [67] (fun i wr => ∃ k : Nat, k ≤ n ∧ i = .int .i64 k ∧ Hid (Row wr w.heap.size (subL T U L k (scanD 1 C (fun _ => 0))) ∧ Below w.heap.size w wr)) (fun i _ => n - (intOf i).toNat)
  case atStart => exact ⟨0, Nat.zero_le _, rfl, Lib.hid ⟨HR.out, HB1.out⟩⟩
  case round =>
    clear HR HB1 HF
    obtain ⟨k, hk, rfl, H⟩ := hrel
    by_cases hlt : k < n
    · have q0 : (0 : Int) ≤ k := by omega
      have q1 : (k : Int) < n := by omega
      obtain rfl := ha (by omega)
      have hsc : (T k).size ≤ 9223372036854775807 := by have := HT.out k hlt; omega
      have HL : Hid (wr.rangeAt g (k * 10) [.pointer none, .string (T k), .int .u32 0, .int .u32 0, .int .u32 (U k), .int .u32 0, .int .u32 0, .int .u16 0, .int .u8 (kd (L k)), .int .u8 0]) := Lib.hid (rg_below H.out.2 (rg_lt (HS.out k hlt) (by simp [symc])) (HS.out k hlt))
      cases hL : L k
      · rw [hL] at HL
        go_wp2_with (first | (refine wpList_load_mid rfl 39 _ rfl g (k * 10) rfl _ du HL.out HU.out hu2 szSym ?_))
        go_roundw
        case rel => exact ⟨k + 1, by omega, by go_num, Lib.hid ⟨by rw [subL, hL]; exact H.out.1.keep ((Below.refl _ _).alloc (Nat.le_refl _) _), H.out.2.alloc H.out.2.size _⟩⟩
        case measure => simp [intOf]; omega
      rw [hL] at HL
      go_wp2_with (first | (refine wpList_load_mid rfl 39 _ rfl g (k * 10) rfl _ du HL.out HU.out hu2 szSym ?_))
      refine (scan_any w.heap.size (subL T U L k (scanD 1 C (fun _ => 0))) (negU (U k)) (T k) (HT.out k hlt) _ (H.out.1.keep ((Below.refl _ _).alloc (Nat.le_refl _) _))).mono ?_
      rintro e w2 ⟨rfl, hr, hb, hz⟩
      go_wp2_with fail
      go_roundw
      case rel => exact ⟨k + 1, by omega, by go_num, Lib.hid ⟨by rw [subL, hL]; exact hr, (H.out.2.alloc H.out.2.size _).trans hb⟩⟩
      case measure => simp [intOf]; omega
    · obtain rfl : k = n := by omega
      have q1 : ¬ (k : Int) < k := by omega
      go_wp2_with fail
      go_ret
      exact ⟨_, rfl, H.out.1, H.out.2, Nat.le_refl _⟩
def parc (C : ByteArray) (m : Bool) (a : Option Addr) (n c : Nat) : List Value :=
  [.nilFunc, .nilFunc, .nilFunc, .nilFunc, .int .i8 0, .map none, .string ⟨#[]⟩, .string ⟨#[]⟩, .string ⟨#[]⟩, .string C, .string ⟨#[]⟩, .string ⟨#[]⟩, .string ⟨#[]⟩, .string ⟨#[]⟩, .int .u8 0, .int .u32 0,
   .slice none 0 0, .slice none 0 0, .slice none 0 0, .slice none 0 0, .slice none 0 0, .slice a n c, .map none, .slice none 0 0, .map none, .map none, .map none, .string ⟨#[]⟩, .string ⟨#[]⟩, .string ⟨#[]⟩,
   .int .i32 0, .int .i32 0, .int .i32 0, .int .i32 0, .bool false, .bool false, .bool false, .slice none 0 0, .slice none 0 0, .slice none 0 0, .slice none 0 0, .int .i64 0, .int .i64 0, .int .i64 0, .int .i64 0, .int .i32 0, .map none,
   .string ⟨#[]⟩, .int .u16 0, .bool false, .bool false, .bool m, .int .u8 0, .bool false, .bool false, .bool false]
theorem parc_one (C : ByteArray) (m : Bool) (a : Option Addr) (n c : Nat) : (parc C m a n c).toArray.all (·.oneCell') = true := by simp [parc, Value.oneCell']
theorem szPar : (Try.prog.info? 85).map (·.size) = some 56 := by kernel_rfl
theorem par_new {w wA : World} {zs : Array Value} {t : TypeId} {C : ByteArray} {m : Bool} {a : Option Addr} {n c : Nat} (h : (w.alloc (.cells zs t)).setCells w.heap.size 0 (parc C m a n c).toArray.toList = wA) (hz : zs.size = 56) :
    wA.rangeAt w.heap.size 0 (parc C m a n c) ∧ wA.there w.heap.size 0 56 ∧ Below w.heap.size w wA ∧ w.heap.size < wA.heap.size := by
  subst h
  have ht := th_new (n := 56) w zs t hz.symm
  exact ⟨World.rangeAt_setCells_same _ _ _ _ ht, World.there_setCells ht _ _ _, below_setCells (Nat.le_refl _) _ _ ((Below.refl _ _).alloc (Nat.le_refl _) _), by rw [size_setCells]; simp⟩
/-- the parser struct when its flag is set -/
theorem par_flag {wA : World} {b : Nat} {C : ByteArray} {a : Option Addr} {n c : Nat} (hr : wA.rangeAt b 0 (parc C false a n c)) (ht : wA.there b 0 56) (m : Bool) :
    let wB := wA.setCell ⟨b, 51, none⟩ (.bool m)
    wB.cell? ⟨b, 51, none⟩ = some (.bool m) ∧ wB.cell? ⟨b, 9, none⟩ = some (.string C) ∧ wB.cell? ⟨b, 17, none⟩ = some (.slice none 0 0) ∧ wB.cell? ⟨b, 20, none⟩ = some (.slice none 0 0) ∧ wB.cell? ⟨b, 21, none⟩ = some (.slice a n c) := by
  have h9 := hr 9 (.string C) rfl
  have h17 := hr 17 (.slice none 0 0) rfl
  have h20 := hr 20 (.slice none 0 0) rfl
  have h21 := hr 21 (.slice a n c) rfl
  have h51 := (ht 51 (by omega)).1
  rw [Nat.zero_add] at h9 h17 h20 h21 h51
  exact ⟨set_same h51, set_far (by omega) h9, set_far (by omega) h17, set_far (by omega) h20, set_far (by omega) h21⟩
set_option maxRecDepth 100000 in
set_option maxHeartbeats 1000000 in
theorem zz_nil (C : ByteArray) (a : Option Addr) (n c : Nat) (w : World) :
    Calls Try.prog 7 #[.string C, .bool false, .slice none 0 0, .slice none 0 0, .slice a n c] w fun e w' => e = .returned (.pointer none) ∧ Below w.heap.size w w' := by
  have HO := Lib.hid (parc_one C false a n c)
  go_enter Try.func7, Try.ntmps7
  go_upto_region 2 with (refine wpList_store_mid rfl 85 _ _ rfl w.heap.size 0 (parc C false a n c).toArray rfl rfl (th_new _ _ _ rfl) szPar HO.out ?_)
  generalize hW : World.setCells _ _ _ _ = wA
  have HA := Lib.hid (par_new hW rfl)
  clear hW
  have h51 : (wA.cell? ⟨w.heap.size, 51, none⟩).isSome = true ∧ wA.frozen? ⟨w.heap.size, 51, none⟩ = false := by have := HA.out.2.1 51 (by omega); rwa [Nat.zero_add] at this
  have hc51 : wA.cell? ⟨w.heap.size, 51, none⟩ = some (.bool false) := by have := HA.out.1 51 (.bool false) rfl; rwa [Nat.zero_add] at this
  have hf51 := h51.2
  have HB := Lib.hid (par_flag HA.out.1 HA.out.2.1 false)
  go_wp2_with fail
  refine (comp_nil w.heap.size _ HB.out.1).mono ?_
  rintro e w1 ⟨rfl, rfl⟩
  go_wp2_with fail
  go_ret
  exact ⟨rfl, HA.out.2.2.1.setCell (Nat.le_refl _) _⟩
set_option maxRecDepth 100000 in
set_option maxHeartbeats 1000000 in
theorem zz_any (C : ByteArray) (a : Option Addr) (n c : Nat) (g : Nat) (T : Nat → ByteArray) (U : Nat → Int) (L : Nat → Bool) (w : World) (hC : (C.size : Int) ≤ 9223372036854775807) (hn : (n : Int) ≤ 9223372036854775806) (hT : ∀ j, j < n → ((T j).size : Int) ≤ 9223372036854775807) (ha : 0 < n → a = some ⟨g, 0, none⟩) (hs : Syms w g n T U L) :
    Calls Try.prog 7 #[.string C, .bool true, .slice none 0 0, .slice none 0 0, .slice a n c] w (CPost w (subL T U L n (scanD 1 C (fun _ => 0)))) := by
  have HO := Lib.hid (parc_one C false a n c)
  go_enter Try.func7, Try.ntmps7
  go_upto_region 2 with (refine wpList_store_mid rfl 85 _ _ rfl w.heap.size 0 (parc C false a n c).toArray rfl rfl (th_new _ _ _ rfl) szPar HO.out ?_)
  generalize hW : World.setCells _ _ _ _ = wA
  have HA := Lib.hid (par_new hW rfl)
  clear hW
  have HS : Hid (Syms (wA.setCell ⟨w.heap.size, 51, none⟩ (.bool true)) g n T U L) := Lib.hid (fun j hj => rg_keep (HA.out.2.2.1.setCell (Nat.le_refl _) _) (hs j hj))
  clear hs
  have h51 : (wA.cell? ⟨w.heap.size, 51, none⟩).isSome = true ∧ wA.frozen? ⟨w.heap.size, 51, none⟩ = false := by have := HA.out.2.1 51 (by omega); rwa [Nat.zero_add] at this
  have hc51 : wA.cell? ⟨w.heap.size, 51, none⟩ = some (.bool false) := by have := HA.out.1 51 (.bool false) rfl; rwa [Nat.zero_add] at this
  have hf51 := h51.2
  have HB := Lib.hid (par_flag HA.out.1 HA.out.2.1 true)
  go_wp2_with fail
  refine (comp_any w.heap.size g n c C T U L _ hC hn hT HB.out.1 HB.out.2.1 HB.out.2.2.1 HB.out.2.2.2.1 a ha HB.out.2.2.2.2 HS.out).mono ?_
  rintro e w1 ⟨b, rfl, hr, hb, hlt⟩
  have hsz : (wA.setCell ⟨w.heap.size, 51, none⟩ (.bool true)).heap.size = wA.heap.size := by simp [World.setCell]
  go_wp2_with fail
  go_ret
  have hle : w.heap.size ≤ (wA.setCell ⟨w.heap.size, 51, none⟩ (.bool true)).heap.size := by have := HA.out.2.2.2; omega
  exact ⟨b, rfl, hr, (HA.out.2.2.1.setCell (Nat.le_refl _) _).trans (hb.mono hle), Nat.le_trans hle hlt⟩
end Go.Proofs.Ytgcohfmbdfohoaa.Fq
