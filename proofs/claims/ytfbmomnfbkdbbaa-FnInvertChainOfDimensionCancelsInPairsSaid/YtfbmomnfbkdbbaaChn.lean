import Derived.Test.YtfbmomnfbkdbbaaInv
import Derived.LaidEqlPtr
namespace Go.Proofs.Ytfbmomnfbkdbbaa.Inv
open Go.ChangeShapes Go.WideShapes Go.ChangeAt Go.RowKit
set_option linter.unusedVariables false
set_option maxRecDepth 100000 in
theorem leaf_any (U : ByteArray) (x : Nat) (w : World) :
    Calls Try.prog 33 #[.bool false, .string U, .float .f64 x] w fun e w' => e = .returned (.tuple #[.iface 61 (.pointer (some ⟨w.heap.size, 0, none⟩)), .pointer none, .pointer (some ⟨w.heap.size, 0, none⟩)]) ∧ w' = w.alloc (.cells #[.string U, .float .f64 x, .int .i32 0] 76) := by
  go_enter Try.func33, Try.ntmps33
  go_wp2
  refine bodyPost_ret (v := .tuple #[.iface 61 (.pointer (some ⟨w.heap.size, 0, none⟩)), .pointer none, .pointer (some ⟨w.heap.size, 0, none⟩)]) (by simp [results, Try.results33, go_sem]) rfl ⟨rfl, rfl⟩
theorem below_drewN {B : Nat} {a w : World} (h : Below B a w) (n : Nat) : Below B a (w.drewN n) := h.trans ⟨rfl, rfl, rfl, Nat.le_refl _, fun _ _ => rfl⟩
set_option maxRecDepth 100000 in
set_option maxHeartbeats 1000000 in
theorem desc_any (g : Nat) (U : ByteArray) (x m hi : Nat) (v : Value) (w : World) (hl : LF g U x w) (hm : m < 2) (hch : Chain g m hi w v) :
    Calls Try.prog 34 #[v, .pointer none, .pointer (some ⟨g, 0, none⟩)] w fun e w' => e = .returned (.tuple #[.int .i64 0, .int .i64 m, .int .i64 1, .string U, .float .f64 x, .bool true]) ∧ Below w.heap.size w w' := by
  have ta1 := ta_6161
  have ta2 := ta_6164
  have ta3 := ta_6177
  have ta4 := ta_6477
  have ta5 := ta_6464
  have l1 := hl.1
  have l2 := hl.2
  clear hl
  obtain ⟨i76, h76⟩ : ∃ i, Try.prog.info? 76 = some i := Option.isSome_iff_exists.1 (by kernel_rfl)
  have hp := fun W => run_eql_ptr_same (P := Try.prog) (w := W) (tp := 61) (te := 76) (⟨g, 0, none⟩ : Addr) (by kernel_rfl) h76
  clear h76
  obtain ⟨R, hR⟩ : ∃ R : Value → Value → Prop, R = fun t i => (m = 1 ∧ i = .int .i64 0 ∧ ∃ b, t = .iface 64 (.pointer (some ⟨b, 0, none⟩)) ∧ w.cell? ⟨b, 0, none⟩ = some (.iface 61 (.pointer (some ⟨g, 0, none⟩)))) ∨ (i = .int .i64 m ∧ t = .iface 61 (.pointer (some ⟨g, 0, none⟩))) := ⟨_, rfl⟩
  have hR0 : R v (.int .i64 0) := by
    rw [hR]
    match m, hm, hch with
    | 0, _, ⟨h, _⟩ => exact .inr ⟨rfl, h⟩
    | 1, _, ⟨b, h, _, v', hc, _, h', _⟩ => exact .inl ⟨rfl, rfl, b, h, by rw [hc, h']⟩
  have HR := Lib.hid hR
  have HR0 := Lib.hid hR0
  clear hR hR0 hch
  go_enter Try.func34, Try.ntmps34
  go_wp2
  go_loopw [0, 12, 13] (fun t n i wr => n = .int .i64 0 ∧ wr = w ∧ Hid (R t i)) (fun _ _ i _ => 1 - (intOf i).toNat)
  case atStart => exact ⟨rfl, rfl, HR0⟩
  case round =>
    obtain ⟨rfl, rfl, HRR⟩ := hrel
    have h := HRR.out
    rw [HR.out] at h
    rcases h with ⟨rfl, rfl, b, rfl, hc⟩ | ⟨rfl, rfl⟩
    · go_wp2
      go_roundw
      case rel => exact ⟨by first | rfl | trivial, by first | rfl | trivial, Lib.hid (by rw [HR.out]; exact .inr ⟨by first | rfl | trivial, by first | rfl | trivial⟩)⟩
      case measure => simp [intOf]
    · clear HR HR0 HRR
      go_wp2
      go_quiet (fail)
      all_goals go_wp2
      refine bodyPost_ret (v := .tuple #[.int .i64 0, .int .i64 m, .int .i64 1, .string U, .float .f64 x, .bool true]) (by simp [results, Try.results34, go_sem]) rfl ⟨rfl, below_drewN (Below.refl _ _) _⟩
theorem Chain.alloc {g : Nat} (o : Obj) : ∀ {j hi : Nat} {w : World} {v : Value}, Chain g j hi w v → hi ≤ w.heap.size → Chain g j hi (w.alloc o) v
  | 0, _, _, _, h, _ => h
  | j + 1, hi, w, _, ⟨b, h1, h2, v', h3, h4, h5⟩, hh => ⟨b, h1, h2, v', by rw [World.cell?_alloc_lt w o _ (by exact Nat.lt_of_lt_of_le h2 hh)]; exact h3, by rw [World.frozen?_alloc_past o b 0 (Nat.lt_of_lt_of_le h2 hh)]; exact h4, Chain.alloc o h5 (by omega)⟩
theorem Chain.up {g : Nat} : ∀ {j hi hi' : Nat} {w : World} {v : Value}, Chain g j hi w v → hi ≤ hi' → Chain g j hi' w v
  | 0, _, _, _, _, h, hh => ⟨h.1, by have := h.2; omega⟩
  | j + 1, _, _, _, _, ⟨b, h1, h2, r⟩, hh => ⟨b, h1, by omega, r⟩
/-- the chain is built: i Inverts so far -/
def Made (g i : Nat) (U : ByteArray) (x : Nat) (w w' : World) (t : Value) : Prop := Chain g i w'.heap.size w' t ∧ LF g U x w' ∧ Below g w w'
theorem Chain.shape {g : Nat} : ∀ {j hi : Nat} {w : World} {v : Value}, Chain g j hi w v → ∃ ty b, v = .iface ty (.pointer (some ⟨b, 0, none⟩))
  | 0, _, _, _, h => ⟨61, g, h.1⟩
  | j + 1, _, _, _, ⟨b, h1, _⟩ => ⟨64, b, h1⟩
theorem Made.step {g j : Nat} {U : ByteArray} {x : Nat} {w wr : World} {t : Value} (h : Made g j U x w wr t) (C : Array Value) (hC : C[0]? = some t) : Made g (j + 1) U x w (wr.alloc (.cells C 68)) (.iface 64 (.pointer (some ⟨wr.heap.size, 0, none⟩))) := by
  obtain ⟨h1, h2, h3⟩ := h
  have hz := h3.size
  have hlt := h1.lt
  refine ⟨⟨wr.heap.size, rfl, by simp, t, ?_, by simp, h1.alloc _ (Nat.le_refl _)⟩, h2.keep ((Below.refl _ _).alloc (by omega) _), h3.alloc (by omega) _⟩
  simp [hC]
set_option maxRecDepth 100000 in
set_option maxHeartbeats 1000000 in
theorem chain_any (U : ByteArray) (hU : U.toList.isEmpty = false) (x : Nat) (k : Nat) (hk : (k : Int) ≤ 65536) (w : World) :
    Calls Try.prog 16 #[.bool false, .string U, .float .f64 x, .int .i64 k] w fun e w' => e = .returned (.tuple #[.int .i64 0, .int .i64 (k % 2 : Nat), .int .i64 1, .string U, .float .f64 x, .bool true]) ∧ Below w.heap.size w w' := by
  have HU := Lib.hid hU
  clear hU
  go_enter Try.func16, Try.ntmps16
  go_wp2_with fail
  refine (leaf_any U x w).mono ?_
  rintro e w1 ⟨rfl, hw⟩
  have hM : Made w.heap.size 0 U x w w1 (.iface 61 (.pointer (some ⟨w.heap.size, 0, none⟩))) := by
    subst hw
    exact ⟨⟨rfl, by simp⟩, ⟨by simp, by simp⟩, (Below.refl _ _).alloc (Nat.le_refl _) _⟩
  have HM := Lib.hid hM
  clear hM hw
  generalize hg : w.heap.size = g at *
  have HG := Lib.hid hg
  clear hg
  go_wp2
  go_loopw [14, 17] (fun t i wr => ∃ j : Nat, j ≤ k ∧ i = .int .i64 j ∧ Hid (Made g j U x w wr t)) (fun _ i _ => k - (intOf i).toNat)
  case atStart => exact ⟨0, Nat.zero_le _, rfl, HM⟩
  case round =>
    clear HM
    obtain ⟨j, hj, rfl, HM⟩ := hrel
    rename_i t
    by_cases hlt : j < k
    · have q1 : (j : Int) < k := by omega
      obtain ⟨ty, b, rfl⟩ := HM.out.1.shape
      go_wp2
      go_roundw
      case rel => exact ⟨j + 1, by omega, by go_num, Lib.hid (HM.out.step _ (by simp))⟩
      case measure => simp [intOf]; omega
    · obtain rfl : j = k := by omega
      have hgz := HM.out.2.2.size
      have hgl := HM.out.1.lt
      have HF : ∀ (w2 : World) (v : Value), Chain g (j % 2) wr.heap.size w2 v → Below (g + 1) wr w2 →
          Calls Try.prog 34 #[v, .pointer none, .pointer (some ⟨g, 0, none⟩)] w2 fun e w' => e = .returned (.tuple #[.int .i64 0, .int .i64 (j % 2 : Nat), .int .i64 1, .string U, .float .f64 x, .bool true]) ∧ Below g w w' := by
        intro w2 v hc hb
        refine (desc_any g U x (j % 2) wr.heap.size v w2 (HM.out.2.1.keep hb) (by omega) hc).mono ?_
        rintro e w' ⟨rfl, hb'⟩
        have := hb.size
        exact ⟨rfl, (HM.out.2.2.trans (hb.mono (by omega))).trans (hb'.mono (by omega))⟩
      have HFF := Lib.hid HF
      clear HF
      have hcs : j = 0 ∨ ∃ j', j = j' + 1 := by cases j with
        | zero => exact .inl rfl
        | succ n => exact .inr ⟨n, rfl⟩
      rcases hcs with h0 | ⟨j', hj'⟩
      · have hch := HM.out.1
        rw [h0] at hch
        obtain ⟨rfl, _⟩ := hch
        have HZ := Lib.hid h0
        clear h0
        have hm := m61
        go_wp2_with fail
        refine (num_any g wr).mono ?_
        rintro e w' ⟨rfl, rfl⟩
        clear hm
        go_wp2_with fail
        refine (HFF.out _ _ (by rw [HZ.out]; exact ⟨rfl, hgl⟩) (Below.refl _ _)).mono ?_
        rintro e w3 ⟨rfl, hb3⟩
        go_wp2
        refine bodyPost_ret (v := .tuple #[.int .i64 0, .int .i64 (j % 2 : Nat), .int .i64 1, .string U, .float .f64 x, .bool true]) (by simp [results, Try.results16, go_sem]) rfl ⟨rfl, by rw [HG.out]; exact hb3⟩
      · have hch := HM.out.1
        rw [hj'] at hch
        obtain ⟨b, rfl, hb, v', hc, hf, hch'⟩ := hch
        have HI := Lib.hid (inv_any g U x HU.out j' b wr.heap.size wr v' hc hf hch' hb HM.out.2.1)
        have HZ := Lib.hid hj'
        clear hj' hc hf hch'
        have hm := m64
        go_wp2_with fail
        refine HI.out.mono ?_
        rintro e w2 ⟨v2, rfl, hc2, he2⟩
        rw [← HZ.out] at hc2
        clear hm HI HZ
        have HC2 := Lib.hid hc2
        have HE2 := Lib.hid he2
        clear hc2 he2
        go_wp2_with fail
        refine (HFF.out _ _ HC2.out HE2.out.1).mono ?_
        rintro e w3 ⟨rfl, hb3⟩
        go_wp2
        refine bodyPost_ret (v := .tuple #[.int .i64 0, .int .i64 (j % 2 : Nat), .int .i64 1, .string U, .float .f64 x, .bool true]) (by simp [results, Try.results16, go_sem]) rfl ⟨rfl, by rw [HG.out]; exact hb3⟩
end Go.Proofs.Ytfbmomnfbkdbbaa.Inv
