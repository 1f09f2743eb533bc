/-
  The readers: kinds, names, lists.
-/
import Derived.Test.YtaiofdgiabmelaaFmtUk
import Derived.Test.YtaiofdgiabmelaaFmtUh
namespace Go.Proofs.YtaiofdgiabmelaaFmt.Sb
open Go.ChangeShapes Go.WideShapes Go.ChangeAt Go.RowKit Rg
set_option linter.unusedVariables false
set_option linter.unusedSimpArgs false
theorem tp_yes (p : Nat) (w : World) : (Instr.typeAssert (.iface 124 (.pointer (some ⟨p, 0, none⟩))) 52 124 true).run Tryf.prog w = .ok (.tuple #[.pointer (some ⟨p, 0, none⟩), .bool true]) w := by kernel_rfl
theorem tp_no (p : Nat) (w : World) : (Instr.typeAssert (.iface 115 (.pointer (some ⟨p, 0, none⟩))) 52 124 true).run Tryf.prog w = .ok (.tuple #[.pointer none, .bool false]) w := by kernel_rfl
set_option maxRecDepth 100000 in
set_option maxHeartbeats 1000000 in
theorem kind0 (p : Nat) (w : World) : Calls Tryf.prog 21 #[.agg #[.iface 124 (.pointer (some ⟨p, 0, none⟩)), .int .i32 0, .int .i32 0]] w (fun e w' => e = .returned (.int .i64 0) ∧ Below w.heap.size w w') := by
  have h1 := fun W => tp_yes p W
  go_enter Tryf.func21, Tryf.ntmps21
  go_wp2_with fail
  go_ret
  exact ⟨rfl, (Below.refl _ _).alloc (Nat.le_refl _) _⟩
set_option maxRecDepth 100000 in
set_option maxHeartbeats 1000000 in
theorem kind1 (q : Nat) (v : Value) (w : World) (hq : w.rangeAt q 0 (ilc v)) : Calls Tryf.prog 21 #[.agg (isc q).toArray] w (fun e w' => e = .returned (.int .i64 1) ∧ Below w.heap.size w w') := by
  have h1 := fun W => tp_no q W
  have h2 := fun W => ta_yes q W
  have c3 := fun o => alloc_cell (hq 3 _ rfl) o
  clear hq
  simp only [Nat.zero_add] at c3
  show Calls _ _ #[.agg #[.iface 115 (.pointer (some ⟨q, 0, none⟩)), .int .i32 0, .int .i32 0]] _ _
  go_enter Tryf.func21, Tryf.ntmps21
  go_wp2_with fail
  go_ret
  exact ⟨rfl, (Below.refl _ _).alloc (Nat.le_refl _) _⟩
set_option maxRecDepth 100000 in
set_option maxHeartbeats 1000000 in
theorem pname (p : Nat) (nm : ByteArray) (w : World) (hp : w.rangeAt p 0 (psc nm)) : Calls Tryf.prog 22 #[.agg #[.iface 124 (.pointer (some ⟨p, 0, none⟩)), .int .i32 0, .int .i32 0]] w (fun e w' => e = .returned (.string nm) ∧ Below w.heap.size w w') := by
  have h1 := fun W => tp_yes p W
  have c0 := fun o => alloc_cell (hp 0 _ rfl) o
  clear hp
  simp only [Nat.zero_add] at c0
  go_enter Tryf.func22, Tryf.ntmps22
  go_wp2_with fail
  go_ret
  exact ⟨rfl, (Below.refl _ _).alloc (Nat.le_refl _) _⟩
set_option maxRecDepth 100000 in
set_option maxHeartbeats 1000000 in
theorem islist (q : Nat) (v : Value) (w : World) (a : Option Addr) (n c : Nat) (hv : v = .slice a n c) (hq : w.rangeAt q 0 (ilc v)) : Calls Tryf.prog 24 #[.agg (isc q).toArray] w (fun e w' => e = .returned v ∧ Below w.heap.size w w') := by
  subst hv
  have h2 := fun W => ta_yes q W
  have c3 := fun o => alloc_cell (hq 0 _ rfl) o
  clear hq
  simp only [Nat.zero_add] at c3
  show Calls _ _ #[.agg #[.iface 115 (.pointer (some ⟨q, 0, none⟩)), .int .i32 0, .int .i32 0]] _ _
  go_enter Tryf.func24, Tryf.ntmps24
  go_wp2_with fail
  go_ret
  exact ⟨rfl, (Below.refl _ _).alloc (Nat.le_refl _) _⟩
/-- buildCx -/
theorem tyIx : ∃ d, Tryf.prog.underlying 44 = some d ∧ d.isRow = true := ⟨_, Tryf.underlying44, rfl⟩
theorem szCpl : (Tryf.prog.info? 44).map (·.size) = some 1 := by kernel_rfl
set_option maxRecDepth 100000 in
set_option maxHeartbeats 1000000 in
theorem bcx_any (X : Nat → Prop) (u : Value) (L : List Cm) (w : World) (hL : L.length ≤ 1048576) (h0 : ∀ c ∈ L, c.am ≤ 255 ∧ c.N.length ≤ 1048576) (hX : ∀ b, X b → b < w.heap.size) (hu : CmV X w u L) :
    Calls Tryf.prog 9 #[.agg #[u]] w (fun e w' => ∃ a c, e = .returned (.agg #[.slice a L.length c]) ∧ FCms (fun b => w.heap.size ≤ b ∧ b < w'.heap.size) w' (.slice a L.length c) L ∧ Below w.heap.size w w') := by
  obtain ⟨ua, uc, hue, -⟩ := id hu
  subst hue
  have HU := Lib.hid (And.intro hu (And.intro hX h0))
  obtain ⟨n, hnn⟩ : ∃ n, n = L.length := ⟨_, rfl⟩
  have HN := Lib.hid (And.intro hnn hL)
  rw [← hnn]
  clear hu hX h0 hnn hL
  go_enter Tryf.func9, Tryf.ntmps9
  go_upto_region 1 with fail
  have h1 : Below w.heap.size w (w.alloc (.cells #[.slice ua n uc] 27)) := (Below.refl _ _).alloc (Nat.le_refl _) _
  have r1 := rg_new w #[.slice ua n uc] 27 0 _ rfl
  have s1 : (w.alloc (.cells #[.slice ua n uc] 27)).heap.size = w.heap.size + 1 := World.size_alloc _ _
  generalize w.alloc _ = x1 at *
  have h2 : Below x1.heap.size x1 (x1.alloc (.cells #[.slice none 0 0] 44)) := (Below.refl _ _).alloc (Nat.le_refl _) _
  have t2 := th_new x1 #[.slice none 0 0] 44 (n := 1) rfl
  have s2 : (x1.alloc (.cells #[.slice none 0 0] 44)).heap.size = w.heap.size + 1 + 1 := by rw [World.size_alloc, s1]
  rw [s1] at t2
  have r2 := later h2 r1
  have h12 := h1.trans (h2.mono h1.size)
  generalize x1.alloc _ = x2 at *
  obtain ⟨b1, hb1⟩ : ∃ b, b = w.heap.size := ⟨_, rfl⟩
  obtain ⟨b2, hb2⟩ : ∃ b, b = b1 + 1 := ⟨_, rfl⟩
  rw [← hb1, ← hb2]
  rw [← hb1] at r2 t2
  rw [← hb2] at t2
  rw [Nat.zero_add] at r2
  have H2 := Lib.hid (And.intro h12 (And.intro t2 (show w.heap.size = b1 ∧ b1 < b2 ∧ b2 < x2.heap.size from ⟨hb1.symm, by omega, by omega⟩)))
  clear h1 r1 s1 h2 t2 s2 h12 hb1 hb2
  go_wp2_with fail
  refine (bcs_any X (.slice ua n uc) L x2 HN.out.2 HU.out.2.2 (fun b h => Nat.lt_of_lt_of_le (HU.out.2.1 b h) H2.out.1.size) (by have h := HU.out.1.ag (ag_below HU.out.2.1 H2.out.1); rw [← HN.out.1] at h; exact h)).mono ?_
  rintro e w5 ⟨a, c, rfl, hf, hb⟩
  rw [← HN.out.1] at hf ⊢
  have HF := Lib.hid (And.intro hf hb)
  have t5 := th_keep hb H2.out.2.1
  obtain ⟨u5, hu5⟩ := Option.isSome_iff_exists.1 (t5 0 (by omega)).1
  have z5 := (t5 0 (by omega)).2
  rw [Nat.zero_add] at hu5 z5
  clear hf hb t5
  go_wp2_with fail
  have hset : ∀ b, b ≠ b2 → (w5.setCell ⟨b2, 0, none⟩ (.slice a n c)).heap[b]? = w5.heap[b]? := fun b hb => heap_setCell_other w5 _ b _ hb
  have hsz : (w5.setCell ⟨b2, 0, none⟩ (.slice a n c)).heap.size = w5.heap.size := by simp [World.setCell]
  have hres : (w5.setCell ⟨b2, 0, none⟩ (.slice a n c)).rangeAt b2 0 [.slice a n c] := fun j v hv => by
    cases j with
    | zero => simp at hv; subst hv; exact set_same (by rw [hu5]; rfl)
    | succ j => simp at hv
  obtain ⟨dX, hX, hX2⟩ := tyIx
  refine bodyPost_ret (results_cell_mid rfl _ _ b2 0 [.slice a n c] dX rfl hres hX hX2 szCpl) rfl ⟨a, c, rfl, ?_, ?_⟩
  · exact (HF.out.1.ag (fun b hb => hset b (by have := H2.out.2.2; omega))).more (fun b hb => ⟨by have := H2.out.1.size; omega, by rw [hsz]; exact hb.2⟩)
  · exact (H2.out.1.trans (HF.out.2.mono H2.out.1.size)).setCell (by show w.heap.size ≤ b2; have := H2.out.2.2; omega) _
end Go.Proofs.YtaiofdgiabmelaaFmt.Sb
