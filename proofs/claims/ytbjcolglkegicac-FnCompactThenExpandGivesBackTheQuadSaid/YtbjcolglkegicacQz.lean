/-
  zzQuad: four tokens out of plain data.
-/
import Derived.Test.YtbjcolglkegicacQb
import Derived.Test.YtbjcolglkegicacRg
namespace Go.Proofs.Ytbjcolglkegicac.Quad
open Go.ChangeShapes Go.WideShapes Go.ChangeAt Go.RowKit Rg
set_option linter.unusedVariables false
def tokc (K P L S : Nat → Int) (T : Nat → ByteArray) (j : Nat) : List Value := [.pointer none, .string (T j), .int .i32 (L j), .int .u32 (P j), .int .u16 0, .int .u8 (K j), .int .u8 (S j)]
def Li (j : Nat) : Int := j
/-- the four boxes, and the first k tokens of the array -/
def ZQ (h k : Nat) (K P S : Nat → Int) (T : Nat → ByteArray) (w0 w : World) : Prop :=
  (∀ j, j < k → w.rangeAt (h + 5) (j * 7) (tokc K P Li S T j)) ∧ w.there (h + 5) 0 28 ∧ w.there (h + 4) 0 28 ∧
  (∀ j, j < 4 → w.cell? ⟨h, j, none⟩ = some (.int .u8 (K j)) ∧ w.cell? ⟨h + 1, j, none⟩ = some (.string (T j)) ∧ w.cell? ⟨h + 2, j, none⟩ = some (.int .u32 (P j)) ∧ w.cell? ⟨h + 3, j, none⟩ = some (.int .u8 (S j))) ∧ Below h w0 w
theorem ZQ.drew {h k : Nat} {K P S : Nat → Int} {T : Nat → ByteArray} {w0 w : World} (H : ZQ h k K P S T w0 w) : ZQ h k K P S T w0 w.drew := by
  obtain ⟨a, b, c, d, e⟩ := H
  exact ⟨a, b, c, d, e.drew⟩
theorem ZQ.put {h k : Nat} {K P S : Nat → Int} {T : Nat → ByteArray} {w0 w : World} (H : ZQ h k K P S T w0 w) (hk : k < 4) :
    ZQ h (k + 1) K P S T w0 ((w.setCells (h + 5) (k * 7) (tokc K P (fun _ => 0) S T k)).setCell ⟨h + 5, k * 7 + 2, none⟩ (.int .i32 k)) := by
  obtain ⟨a, b, c, d, e⟩ := H
  have e1 : ∀ w : World, w.setCell ⟨h + 5, k * 7 + 2, none⟩ (.int .i32 k) = w.setCells (h + 5) (k * 7 + 2) [.int .i32 k] := fun w => rfl
  rw [e1]
  refine ⟨fun j hj => ?_, World.there_setCells (World.there_setCells b _ _ _) _ _ _, World.there_setCells (World.there_setCells c _ _ _) _ _ _, fun j hj => ?_, below_setCells (by omega) _ _ (below_setCells (by omega) _ _ e)⟩
  · by_cases hjk : j = k
    · subst hjk
      have h1 := World.rangeAt_setCells_same w (h + 5) (j * 7) (tokc K P (fun _ => 0) S T j) (th_sub b (by omega) (by simp [tokc]; omega))
      have h2 := World.rangeAt_setCells_same (w.setCells (h + 5) (j * 7) (tokc K P (fun _ => 0) S T j)) (h + 5) (j * 7 + 2) [.int .i32 j] (th_sub (World.there_setCells b _ _ _) (by omega) (by simp; omega))
      have h3 : ((w.setCells (h + 5) (j * 7) (tokc K P (fun _ => 0) S T j)).setCells (h + 5) (j * 7 + 2) [.int .i32 j]).rangeAt (h + 5) (j * 7) [.pointer none, .string (T j)] :=
        World.rangeAt_setCells_apart (rg_left (ds := [.int .i32 0, .int .u32 (P j), .int .u16 0, .int .u8 (K j), .int .u8 (S j)]) h1) _ _ _ (by simp)
      have h4 : ((w.setCells (h + 5) (j * 7) (tokc K P (fun _ => 0) S T j)).setCells (h + 5) (j * 7 + 2) [.int .i32 j]).rangeAt (h + 5) (j * 7 + 3) [.int .u32 (P j), .int .u16 0, .int .u8 (K j), .int .u8 (S j)] :=
        World.rangeAt_setCells_apart (rg_right (cs := [.pointer none, .string (T j), .int .i32 0]) h1) _ _ _ (by simp)
      exact rg_append (cs := [.pointer none, .string (T j)]) h3 (rg_append (cs := [.int .i32 j]) h2 h4)
    · exact World.rangeAt_setCells_apart (World.rangeAt_setCells_apart (a j (by omega)) _ _ _ (by simp [tokc]; omega)) _ _ _ (by simp [tokc]; omega)
  · obtain ⟨d0, d1, d2, d3⟩ := d j hj
    refine ⟨?_, ?_, ?_, ?_⟩
    all_goals
      rw [World.cell?_setCells_out _ _ _ _ _ (by simp), World.cell?_setCells_out _ _ _ _ _ (by simp)]
      assumption
/-- the array's cells -/
def quadc (K P S : Nat → Int) (T : Nat → ByteArray) : List Value := tokc K P Li S T 0 ++ (tokc K P Li S T 1 ++ (tokc K P Li S T 2 ++ tokc K P Li S T 3))
theorem ZQ.all {h : Nat} {K P S : Nat → Int} {T : Nat → ByteArray} {w0 w : World} (H : ZQ h 4 K P S T w0 w) : w.rangeAt (h + 5) 0 (quadc K P S T) :=
  rg_append (H.1 0 (by omega)) (rg_append (H.1 1 (by omega)) (rg_append (H.1 2 (by omega)) (H.1 3 (by omega))))
def zeros (n : Nat) : Array Value := #[.pointer none, .string ⟨#[]⟩, .int .i32 0, .int .u32 0, .int .u16 0, .int .u8 0, .int .u8 0, .pointer none, .string ⟨#[]⟩, .int .i32 0, .int .u32 0, .int .u16 0, .int .u8 0, .int .u8 0, .pointer none, .string ⟨#[]⟩, .int .i32 0, .int .u32 0, .int .u16 0, .int .u8 0, .int .u8 0, .pointer none, .string ⟨#[]⟩, .int .i32 0, .int .u32 0, .int .u16 0, .int .u8 0, .int .u8 0]
theorem results_cell_mid {fn : Func} {p : Tmp} {ty : TypeId} (h : fn.results = #[.cell p ty]) (tmps : Array Value) (w : World) (g o : Nat) (cs : List Value) (d : TypeDesc)
    (hp : tmps.getD p undef = .pointer (some ⟨g, o, none⟩)) (hc : w.rangeAt g o cs)
    (hu : Try.prog.underlying ty = some d) (hd : d.isRow = true) (hi : (Try.prog.info? ty).map (·.size) = some cs.length) :
    (results fn tmps).run Try.prog w = .ok (.agg cs.toArray) w := by
  have hp' : tmps[p]?.getD undef = .pointer (some ⟨g, o, none⟩) := by simpa using hp
  simp [results, h, hp', asAddr, run_loadVar_mid w g o ty cs d hc hu hd hi]
theorem quadc_one (K P S : Nat → Int) (T : Nat → ByteArray) : ((quadc K P S T).toArray.all fun x => x.oneCell') = true := by simp [quadc, tokc, Value.oneCell']
theorem tyQuad : ∃ d, Try.prog.underlying 36 = some d ∧ d.isRow = true := by
  refine ⟨_, Try.underlying36, rfl⟩
theorem szQuad : (Try.prog.info? 36).map (·.size) = some 28 := by kernel_rfl
set_option maxRecDepth 100000 in
set_option maxHeartbeats 2000000 in
theorem quad_any (K P S : Nat → Int) (T : Nat → ByteArray) (w : World) :
    Calls Try.prog 6 #[.agg #[.int .u8 (K 0), .int .u8 (K 1), .int .u8 (K 2), .int .u8 (K 3)], .agg #[.string (T 0), .string (T 1), .string (T 2), .string (T 3)], .agg #[.int .u32 (P 0), .int .u32 (P 1), .int .u32 (P 2), .int .u32 (P 3)], .agg #[.int .u8 (S 0), .int .u8 (S 1), .int .u8 (S 2), .int .u8 (S 3)]] w fun e w' => e = .returned (.agg (quadc K P S T).toArray) ∧ Below w.heap.size w w' := by
  go_enter Try.func6, Try.ntmps6
  go_wp2_with fail
  have HZ0 : ZQ w.heap.size 0 K P S T w (World.alloc (World.alloc (World.alloc (World.alloc (World.alloc (World.alloc w (.cells #[.int .u8 (K 0), .int .u8 (K 1), .int .u8 (K 2), .int .u8 (K 3)] 22)) (.cells #[.string (T 0), .string (T 1), .string (T 2), .string (T 3)] 23)) (.cells #[.int .u32 (P 0), .int .u32 (P 1), .int .u32 (P 2), .int .u32 (P 3)] 25)) (.cells #[.int .u8 (S 0), .int .u8 (S 1), .int .u8 (S 2), .int .u8 (S 3)] 22)) (.cells (zeros 28) 36)) (.cells (zeros 28) 36)) := by
    refine ⟨fun j hj => by omega, ?_, ?_, fun j hj => ?_, ((((((Below.refl _ _).alloc (Nat.le_refl _) _).alloc (by simp) _).alloc (by simp; omega) _).alloc (by simp; omega) _).alloc (by simp; omega) _).alloc (by simp; omega) _⟩
    · have := th_new (World.alloc (World.alloc (World.alloc (World.alloc (World.alloc w (.cells #[.int .u8 (K 0), .int .u8 (K 1), .int .u8 (K 2), .int .u8 (K 3)] 22)) (.cells #[.string (T 0), .string (T 1), .string (T 2), .string (T 3)] 23)) (.cells #[.int .u32 (P 0), .int .u32 (P 1), .int .u32 (P 2), .int .u32 (P 3)] 25)) (.cells #[.int .u8 (S 0), .int .u8 (S 1), .int .u8 (S 2), .int .u8 (S 3)] 22)) (.cells (zeros 28) 36)) (zeros 28) 36 (n := 28) rfl
      simpa using this
    · have := th_new (World.alloc (World.alloc (World.alloc (World.alloc w (.cells #[.int .u8 (K 0), .int .u8 (K 1), .int .u8 (K 2), .int .u8 (K 3)] 22)) (.cells #[.string (T 0), .string (T 1), .string (T 2), .string (T 3)] 23)) (.cells #[.int .u32 (P 0), .int .u32 (P 1), .int .u32 (P 2), .int .u32 (P 3)] 25)) (.cells #[.int .u8 (S 0), .int .u8 (S 1), .int .u8 (S 2), .int .u8 (S 3)] 22)) (zeros 28) 36 (n := 28) rfl
      exact World.there_alloc (by simpa using this) _
    · have : j = 0 ∨ j = 1 ∨ j = 2 ∨ j = 3 := by omega
      rcases this with rfl | rfl | rfl | rfl <;> (refine ⟨?_, ?_, ?_, ?_⟩ <;> go_simp)
  unfold zeros at HZ0
  generalize (World.alloc _ _ : World) = w1 at HZ0 ⊢
  have HZ := Lib.hid HZ0
  clear HZ0
  go_loopw [10] (fun i wr => ∃ k : Nat, k ≤ 4 ∧ i = .int .i64 k ∧ Hid (ZQ w.heap.size k K P S T w wr)) (fun i _ => 4 - (intOf i).toNat)
  case atStart => exact ⟨0, Nat.zero_le _, rfl, HZ⟩
  case round =>
    clear HZ
    obtain ⟨k, hk, rfl, HT⟩ := hrel
    by_cases hlt : k < 4
    · obtain ⟨d0, d1, d2, d3⟩ := HT.out.2.2.2.1 k hlt
      have q0 : (0 : Int) ≤ k := by omega
      have q1 : (k : Int) < 4 := by omega
      go_wp2_with fail
      go_still_tail 15, (by kernel_rfl)
      have HD := Lib.hid HT.out.drew
      change wpList _ _ _ _ _ wr.drew
      clear d0 d1 d2 d3 HT
      generalize World.drew _ = w2 at HD ⊢
      refine wpList_store_mid rfl 35 _ _ rfl (w.heap.size + 5) (k * 7) (tokc K P (fun _ => 0) S T k).toArray rfl rfl (th_sub HD.out.2.1 (by omega) (by simp [tokc]; omega)) (by kernel_rfl) (by simp [tokc, Value.oneCell']) ?_
      have ht := th_sub (o' := k * 7 + 2) (m := 1) HD.out.2.1 (by omega) (by omega)
      have HP := Lib.hid (HD.out.put hlt)
      have hr := World.rangeAt_setCells_same w2 (w.heap.size + 5) (k * 7) (tokc K P (fun _ => 0) S T k) (th_sub HD.out.2.1 (by omega) (by simp [tokc]; omega))
      have e1 : (w2.setCells (w.heap.size + 5) (k * 7) (tokc K P (fun _ => 0) S T k)).cell? ⟨w.heap.size + 5, k * 7 + 2, none⟩ = some (.int .i32 0) := rg_cell hr 2 rfl
      have e2 : (w2.setCells (w.heap.size + 5) (k * 7) (tokc K P (fun _ => 0) S T k)).frozen? ⟨w.heap.size + 5, k * 7 + 2, none⟩ = false := by rw [World.frozen?_setCells]; exact (ht 0 (by omega)).2
      clear ht hr HD
      change wpList _ _ _ _ _ (w2.setCells (w.heap.size + 5) (k * 7) (tokc K P (fun _ => 0) S T k))
      generalize w2.setCells (w.heap.size + 5) (k * 7) (tokc K P (fun _ => 0) S T k) = w3 at *
      go_wp2_with fail
      exact ⟨⟨k + 1, by omega, by go_num, HP⟩, by simp [intOf]; omega⟩
    · have hk4 : k = 4 := by omega
      obtain ⟨HA, HC, HB⟩ : Hid (wr.rangeAt (w.heap.size + 5) 0 (quadc K P S T)) ∧ Hid (wr.there (w.heap.size + 4) 0 28) ∧ Hid (Below w.heap.size w wr) := by
        subst hk4; exact ⟨HT.out.all, HT.out.2.2.1, HT.out.2.2.2.2⟩
      have q1 : (4 : Int) ≤ k := by omega
      obtain ⟨du, hu, hu2⟩ := tyQuad
      have HU := Lib.hid hu
      clear HT hu hk4 hlt
      go_wp2_with (first | (refine wpList_load_mid rfl 36 _ rfl (w.heap.size + 5) 0 rfl (quadc K P S T) du HA.out HU.out hu2 szQuad ?_) | (refine wpList_store_mid rfl 36 _ _ rfl (w.heap.size + 4) 0 (quadc K P S T).toArray rfl rfl HC.out szQuad (quadc_one K P S T) ?_))
      have HR := Lib.hid (World.rangeAt_setCells_same wr (w.heap.size + 4) 0 (quadc K P S T) HC.out)
      have HB2 := Lib.hid (below_setCells (B := w.heap.size) (b := w.heap.size + 4) (by omega) (quadc K P S T) 0 HB.out)
      exact bodyPost_ret (results_cell_mid rfl _ _ (w.heap.size + 4) 0 (quadc K P S T) du rfl HR.out HU.out hu2 szQuad) rfl ⟨rfl, HB2.out⟩
end Go.Proofs.Ytbjcolglkegicac.Quad
