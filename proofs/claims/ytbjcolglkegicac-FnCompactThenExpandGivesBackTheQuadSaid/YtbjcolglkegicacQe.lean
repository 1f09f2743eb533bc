/-
  expandTokenQuad over a block of four tokens.
-/
import Derived.Test.YtbjcolglkegicacQz
namespace Go.Proofs.Ytbjcolglkegicac.Quad
open Go.ChangeShapes Go.WideShapes Go.ChangeAt Go.RowKit Rg
set_option linter.unusedVariables false
/-- a token that expandTokenQuad takes -/
def okT (k : Int) (t A : ByteArray) : Prop := numB k = true ∨ (numB k = false ∧ k = 29 ∧ A.toList.isEmpty = false ∧ t.toList = A.toList)
/-- the loop's state: the tokens, the result's block -/
def EX (g r : Nat) (K P L : Nat → Int) (T : Nat → ByteArray) (w0 w : World) : Prop :=
  QB 0 g K P L T w w ∧ w.there r 0 28 ∧ g ≠ r ∧ Below r w0 w
theorem QB.self {B g : Nat} {K P L : Nat → Int} {T : Nat → ByteArray} {w0 w : World} (h : QB B g K P L T w0 w) : QB 0 g K P L T w w := ⟨h.1, h.2.1, Nat.zero_le _, h.2.2.2.1, Below.refl _ _⟩
theorem EX.keep {g r : Nat} {K P L : Nat → Int} {T : Nat → ByteArray} {w0 w w' : World} (h : EX g r K P L T w0 w) (hb : Below w.heap.size w w') : EX g r K P L T w0 w' := by
  obtain ⟨h1, h2, h3, h4⟩ := h
  exact ⟨(h1.keep hb).self, th_keep hb h2, h3, h4.trans (hb.mono (Nat.le_of_lt (th_lt h2 (by omega))))⟩
def ix (n j : Nat) : Nat := if j < n then j else if j = 3 ∧ 1 < n then 1 else 0
def Expd (n : Nat) (K P L : Nat → Int) (T : Nat → ByteArray) (w : World) (e : Ending) (w' : World) : Prop :=
  ∃ S : Nat → Int, e = .returned (.tuple #[.agg (tokc K P L S T (ix n 0) ++ (tokc K P L S T (ix n 1) ++ (tokc K P L S T (ix n 2) ++ tokc K P L S T (ix n 3)))).toArray, .bool true]) ∧ Below w.heap.size w w'
theorem results_cell_mid2 {fn : Func} {p t : Tmp} {ty : TypeId} (h : fn.results = #[.cell p ty, .tmp t]) (tmps : Array Value) (w : World) (g o : Nat) (cs : List Value) (d : TypeDesc)
    (hp : tmps.getD p undef = .pointer (some ⟨g, o, none⟩)) (hc : w.rangeAt g o cs)
    (hu : Try.prog.underlying ty = some d) (hd : d.isRow = true) (hi : (Try.prog.info? ty).map (·.size) = some cs.length) :
    (results fn tmps).run Try.prog w = .ok (.tuple #[.agg cs.toArray, tmps.getD t undef]) w := by
  have hp' : tmps[p]?.getD undef = .pointer (some ⟨g, o, none⟩) := by simpa using hp
  simp [results, h, hp', asAddr, run_loadVar_mid w g o ty cs d hc hu hd hi]
set_option maxRecDepth 100000 in
set_option maxHeartbeats 2000000 in
theorem expand_any (g n : Nat) (K P L : Nat → Int) (T : Nat → ByteArray) (A : ByteArray) (w : World) (h1 : 1 ≤ n) (h4 : n ≤ 4) (hq : QB 0 g K P L T w w) (hok : ∀ j, j < n → okT (K j) (T j) A) :
    Calls Try.prog 12 #[.slice (some ⟨g, 0, none⟩) n 4, .string A] w (Expd n K P L T w) := by
  have HE0 : EX g w.heap.size K P L T w (w.alloc (.cells (zeros 28) 36)) := ⟨(hq.keep ((Below.refl _ _).alloc (Nat.le_refl _) _)).self, by
    have := th_new w (zeros 28) 36 (n := 28) rfl
    exact this, Nat.ne_of_lt hq.2.2.2.1, (Below.refl _ _).alloc (Nat.le_refl _) _⟩
  unfold zeros at HE0
  have HK := Lib.hid hok
  clear hok hq
  have i1 : (1 : Int) ≤ n := by omega
  have i4 : (n : Int) ≤ 4 := by omega
  go_enter Try.func12, Try.ntmps12
  go_wp2_with fail
  generalize (World.alloc _ _ : World) = w1 at HE0 ⊢
  have HE := Lib.hid HE0
  clear HE0
  go_loopw [7] (fun i wr => ∃ k : Nat, k ≤ n ∧ i = .int .i64 k ∧ Hid (EX g w.heap.size K P L T w wr)) (fun i _ => n - (intOf i).toNat)
  case atStart => exact ⟨0, Nat.zero_le _, rfl, HE⟩
  case round =>
    clear HE
    obtain ⟨k, hk, rfl, HT⟩ := hrel
    by_cases hlt : k < n
    · obtain ⟨d0, d1, d2, d3, d4, d5, s, d6⟩ := HT.out.1.1 k (by omega)
      have q0 : (0 : Int) ≤ k := by omega
      have q1 : (k : Int) < n := by omega
      have q2 : (k : Int) < 4 := by omega
      have HN := Lib.hid (HT.out.keep ((Below.refl _ _).alloc (Nat.le_refl _) (.cells #[.pointer none, .string (T k), .int .i32 (L k), .int .u32 (P k), .int .u16 0, .int .u8 (K k), .int .u8 s] 35)))
      rcases HK.out k hlt with hb | ⟨hb, h29, hA, hT⟩
      · go_wp2_with (go_at_call 7; refine (num_any _ _).mono ?_; rintro e w1 ⟨rfl, rfl⟩; rw [hb])
        exact ⟨⟨k + 1, by omega, by go_num, HN⟩, by simp [intOf]; omega⟩
      · have hx : (K k != 29) = false := by rw [h29]; rfl
        clear h29
        go_wp2_with (go_at_call 7; refine (num_any _ _).mono ?_; rintro e w1 ⟨rfl, rfl⟩; rw [hb])
        exact ⟨⟨k + 1, by omega, by go_num, HN⟩, by simp [intOf]; omega⟩
    · obtain rfl : k = n := by omega
      clear i1 i4 hlt hk HK
      have hn : k = 1 ∨ k = 2 ∨ k = 3 ∨ k = 4 := by omega
      rcases hn with rfl | rfl | rfl | rfl
      · obtain ⟨a0, a1, a2, a3, a4, a5, sa, a6⟩ := HT.out.1.at0
        obtain ⟨z0, y0⟩ := Option.isSome_iff_exists.1 (show (wr.cell? ⟨w.heap.size, 0, none⟩).isSome = true from (HT.out.2.1 0 (by omega)).1)
        obtain ⟨z1, y1⟩ := Option.isSome_iff_exists.1 (show (wr.cell? ⟨w.heap.size, 1, none⟩).isSome = true from (HT.out.2.1 1 (by omega)).1)
        obtain ⟨z2, y2⟩ := Option.isSome_iff_exists.1 (show (wr.cell? ⟨w.heap.size, 2, none⟩).isSome = true from (HT.out.2.1 2 (by omega)).1)
        obtain ⟨z3, y3⟩ := Option.isSome_iff_exists.1 (show (wr.cell? ⟨w.heap.size, 3, none⟩).isSome = true from (HT.out.2.1 3 (by omega)).1)
        obtain ⟨z4, y4⟩ := Option.isSome_iff_exists.1 (show (wr.cell? ⟨w.heap.size, 4, none⟩).isSome = true from (HT.out.2.1 4 (by omega)).1)
        obtain ⟨z5, y5⟩ := Option.isSome_iff_exists.1 (show (wr.cell? ⟨w.heap.size, 5, none⟩).isSome = true from (HT.out.2.1 5 (by omega)).1)
        obtain ⟨z6, y6⟩ := Option.isSome_iff_exists.1 (show (wr.cell? ⟨w.heap.size, 6, none⟩).isSome = true from (HT.out.2.1 6 (by omega)).1)
        obtain ⟨z7, y7⟩ := Option.isSome_iff_exists.1 (show (wr.cell? ⟨w.heap.size, 7, none⟩).isSome = true from (HT.out.2.1 7 (by omega)).1)
        obtain ⟨z8, y8⟩ := Option.isSome_iff_exists.1 (show (wr.cell? ⟨w.heap.size, 8, none⟩).isSome = true from (HT.out.2.1 8 (by omega)).1)
        obtain ⟨z9, y9⟩ := Option.isSome_iff_exists.1 (show (wr.cell? ⟨w.heap.size, 9, none⟩).isSome = true from (HT.out.2.1 9 (by omega)).1)
        obtain ⟨z10, y10⟩ := Option.isSome_iff_exists.1 (show (wr.cell? ⟨w.heap.size, 10, none⟩).isSome = true from (HT.out.2.1 10 (by omega)).1)
        obtain ⟨z11, y11⟩ := Option.isSome_iff_exists.1 (show (wr.cell? ⟨w.heap.size, 11, none⟩).isSome = true from (HT.out.2.1 11 (by omega)).1)
        obtain ⟨z12, y12⟩ := Option.isSome_iff_exists.1 (show (wr.cell? ⟨w.heap.size, 12, none⟩).isSome = true from (HT.out.2.1 12 (by omega)).1)
        obtain ⟨z13, y13⟩ := Option.isSome_iff_exists.1 (show (wr.cell? ⟨w.heap.size, 13, none⟩).isSome = true from (HT.out.2.1 13 (by omega)).1)
        obtain ⟨z14, y14⟩ := Option.isSome_iff_exists.1 (show (wr.cell? ⟨w.heap.size, 14, none⟩).isSome = true from (HT.out.2.1 14 (by omega)).1)
        obtain ⟨z15, y15⟩ := Option.isSome_iff_exists.1 (show (wr.cell? ⟨w.heap.size, 15, none⟩).isSome = true from (HT.out.2.1 15 (by omega)).1)
        obtain ⟨z16, y16⟩ := Option.isSome_iff_exists.1 (show (wr.cell? ⟨w.heap.size, 16, none⟩).isSome = true from (HT.out.2.1 16 (by omega)).1)
        obtain ⟨z17, y17⟩ := Option.isSome_iff_exists.1 (show (wr.cell? ⟨w.heap.size, 17, none⟩).isSome = true from (HT.out.2.1 17 (by omega)).1)
        obtain ⟨z18, y18⟩ := Option.isSome_iff_exists.1 (show (wr.cell? ⟨w.heap.size, 18, none⟩).isSome = true from (HT.out.2.1 18 (by omega)).1)
        obtain ⟨z19, y19⟩ := Option.isSome_iff_exists.1 (show (wr.cell? ⟨w.heap.size, 19, none⟩).isSome = true from (HT.out.2.1 19 (by omega)).1)
        obtain ⟨z20, y20⟩ := Option.isSome_iff_exists.1 (show (wr.cell? ⟨w.heap.size, 20, none⟩).isSome = true from (HT.out.2.1 20 (by omega)).1)
        obtain ⟨z21, y21⟩ := Option.isSome_iff_exists.1 (show (wr.cell? ⟨w.heap.size, 21, none⟩).isSome = true from (HT.out.2.1 21 (by omega)).1)
        obtain ⟨z22, y22⟩ := Option.isSome_iff_exists.1 (show (wr.cell? ⟨w.heap.size, 22, none⟩).isSome = true from (HT.out.2.1 22 (by omega)).1)
        obtain ⟨z23, y23⟩ := Option.isSome_iff_exists.1 (show (wr.cell? ⟨w.heap.size, 23, none⟩).isSome = true from (HT.out.2.1 23 (by omega)).1)
        obtain ⟨z24, y24⟩ := Option.isSome_iff_exists.1 (show (wr.cell? ⟨w.heap.size, 24, none⟩).isSome = true from (HT.out.2.1 24 (by omega)).1)
        obtain ⟨z25, y25⟩ := Option.isSome_iff_exists.1 (show (wr.cell? ⟨w.heap.size, 25, none⟩).isSome = true from (HT.out.2.1 25 (by omega)).1)
        obtain ⟨z26, y26⟩ := Option.isSome_iff_exists.1 (show (wr.cell? ⟨w.heap.size, 26, none⟩).isSome = true from (HT.out.2.1 26 (by omega)).1)
        obtain ⟨z27, y27⟩ := Option.isSome_iff_exists.1 (show (wr.cell? ⟨w.heap.size, 27, none⟩).isSome = true from (HT.out.2.1 27 (by omega)).1)
        have hf : ∀ o, o < 28 → wr.frozen? ⟨w.heap.size, o, none⟩ = false := fun o ho => by have := (HT.out.2.1 o ho).2; simpa using this
        have f0 := hf 0 (by omega)
        have f1 := hf 1 (by omega)
        have f2 := hf 2 (by omega)
        have f3 := hf 3 (by omega)
        have f4 := hf 4 (by omega)
        have f5 := hf 5 (by omega)
        have f6 := hf 6 (by omega)
        have f7 := hf 7 (by omega)
        have f8 := hf 8 (by omega)
        have f9 := hf 9 (by omega)
        have f10 := hf 10 (by omega)
        have f11 := hf 11 (by omega)
        have f12 := hf 12 (by omega)
        have f13 := hf 13 (by omega)
        have f14 := hf 14 (by omega)
        have f15 := hf 15 (by omega)
        have f16 := hf 16 (by omega)
        have f17 := hf 17 (by omega)
        have f18 := hf 18 (by omega)
        have f19 := hf 19 (by omega)
        have f20 := hf 20 (by omega)
        have f21 := hf 21 (by omega)
        have f22 := hf 22 (by omega)
        have f23 := hf 23 (by omega)
        have f24 := hf 24 (by omega)
        have f25 := hf 25 (by omega)
        have f26 := hf 26 (by omega)
        have f27 := hf 27 (by omega)
        have hne := HT.out.2.2.1
        have HB := Lib.hid HT.out.2.2.2
        have HH := Lib.hid HT.out.2.1
        clear hf HT
        go_wp2
        obtain ⟨du, hu, hu2⟩ := tyQuad
        change bodyPost _ _ _ _ _ (wr.setCells w.heap.size 0 [.pointer none, .string (T 0), .int .i32 (L 0), .int .u32 (P 0), .int .u16 0, .int .u8 (K 0), .int .u8 sa, .pointer none, .string (T 0), .int .i32 (L 0), .int .u32 (P 0), .int .u16 0, .int .u8 (K 0), .int .u8 sa, .pointer none, .string (T 0), .int .i32 (L 0), .int .u32 (P 0), .int .u16 0, .int .u8 (K 0), .int .u8 sa, .pointer none, .string (T 0), .int .i32 (L 0), .int .u32 (P 0), .int .u16 0, .int .u8 (K 0), .int .u8 sa])
        have hr := World.rangeAt_setCells_same wr w.heap.size 0 [.pointer none, .string (T 0), .int .i32 (L 0), .int .u32 (P 0), .int .u16 0, .int .u8 (K 0), .int .u8 sa, .pointer none, .string (T 0), .int .i32 (L 0), .int .u32 (P 0), .int .u16 0, .int .u8 (K 0), .int .u8 sa, .pointer none, .string (T 0), .int .i32 (L 0), .int .u32 (P 0), .int .u16 0, .int .u8 (K 0), .int .u8 sa, .pointer none, .string (T 0), .int .i32 (L 0), .int .u32 (P 0), .int .u16 0, .int .u8 (K 0), .int .u8 sa] HH.out
        exact bodyPost_ret (results_cell_mid2 rfl _ _ w.heap.size 0 _ du rfl hr hu hu2 szQuad) rfl ⟨fun _ => sa, rfl, below_setCells (Nat.le_refl _) _ _ HB.out⟩
      · obtain ⟨a0, a1, a2, a3, a4, a5, sa, a6⟩ := HT.out.1.at0
        obtain ⟨b0, b1, b2, b3, b4, b5, sb, b6⟩ := HT.out.1.at1
        obtain ⟨z0, y0⟩ := Option.isSome_iff_exists.1 (show (wr.cell? ⟨w.heap.size, 0, none⟩).isSome = true from (HT.out.2.1 0 (by omega)).1)
        obtain ⟨z1, y1⟩ := Option.isSome_iff_exists.1 (show (wr.cell? ⟨w.heap.size, 1, none⟩).isSome = true from (HT.out.2.1 1 (by omega)).1)
        obtain ⟨z2, y2⟩ := Option.isSome_iff_exists.1 (show (wr.cell? ⟨w.heap.size, 2, none⟩).isSome = true from (HT.out.2.1 2 (by omega)).1)
        obtain ⟨z3, y3⟩ := Option.isSome_iff_exists.1 (show (wr.cell? ⟨w.heap.size, 3, none⟩).isSome = true from (HT.out.2.1 3 (by omega)).1)
        obtain ⟨z4, y4⟩ := Option.isSome_iff_exists.1 (show (wr.cell? ⟨w.heap.size, 4, none⟩).isSome = true from (HT.out.2.1 4 (by omega)).1)
        obtain ⟨z5, y5⟩ := Option.isSome_iff_exists.1 (show (wr.cell? ⟨w.heap.size, 5, none⟩).isSome = true from (HT.out.2.1 5 (by omega)).1)
        obtain ⟨z6, y6⟩ := Option.isSome_iff_exists.1 (show (wr.cell? ⟨w.heap.size, 6, none⟩).isSome = true from (HT.out.2.1 6 (by omega)).1)
        obtain ⟨z7, y7⟩ := Option.isSome_iff_exists.1 (show (wr.cell? ⟨w.heap.size, 7, none⟩).isSome = true from (HT.out.2.1 7 (by omega)).1)
        obtain ⟨z8, y8⟩ := Option.isSome_iff_exists.1 (show (wr.cell? ⟨w.heap.size, 8, none⟩).isSome = true from (HT.out.2.1 8 (by omega)).1)
        obtain ⟨z9, y9⟩ := Option.isSome_iff_exists.1 (show (wr.cell? ⟨w.heap.size, 9, none⟩).isSome = true from (HT.out.2.1 9 (by omega)).1)
        obtain ⟨z10, y10⟩ := Option.isSome_iff_exists.1 (show (wr.cell? ⟨w.heap.size, 10, none⟩).isSome = true from (HT.out.2.1 10 (by omega)).1)
        obtain ⟨z11, y11⟩ := Option.isSome_iff_exists.1 (show (wr.cell? ⟨w.heap.size, 11, none⟩).isSome = true from (HT.out.2.1 11 (by omega)).1)
        obtain ⟨z12, y12⟩ := Option.isSome_iff_exists.1 (show (wr.cell? ⟨w.heap.size, 12, none⟩).isSome = true from (HT.out.2.1 12 (by omega)).1)
        obtain ⟨z13, y13⟩ := Option.isSome_iff_exists.1 (show (wr.cell? ⟨w.heap.size, 13, none⟩).isSome = true from (HT.out.2.1 13 (by omega)).1)
        obtain ⟨z14, y14⟩ := Option.isSome_iff_exists.1 (show (wr.cell? ⟨w.heap.size, 14, none⟩).isSome = true from (HT.out.2.1 14 (by omega)).1)
        obtain ⟨z15, y15⟩ := Option.isSome_iff_exists.1 (show (wr.cell? ⟨w.heap.size, 15, none⟩).isSome = true from (HT.out.2.1 15 (by omega)).1)
        obtain ⟨z16, y16⟩ := Option.isSome_iff_exists.1 (show (wr.cell? ⟨w.heap.size, 16, none⟩).isSome = true from (HT.out.2.1 16 (by omega)).1)
        obtain ⟨z17, y17⟩ := Option.isSome_iff_exists.1 (show (wr.cell? ⟨w.heap.size, 17, none⟩).isSome = true from (HT.out.2.1 17 (by omega)).1)
        obtain ⟨z18, y18⟩ := Option.isSome_iff_exists.1 (show (wr.cell? ⟨w.heap.size, 18, none⟩).isSome = true from (HT.out.2.1 18 (by omega)).1)
        obtain ⟨z19, y19⟩ := Option.isSome_iff_exists.1 (show (wr.cell? ⟨w.heap.size, 19, none⟩).isSome = true from (HT.out.2.1 19 (by omega)).1)
        obtain ⟨z20, y20⟩ := Option.isSome_iff_exists.1 (show (wr.cell? ⟨w.heap.size, 20, none⟩).isSome = true from (HT.out.2.1 20 (by omega)).1)
        obtain ⟨z21, y21⟩ := Option.isSome_iff_exists.1 (show (wr.cell? ⟨w.heap.size, 21, none⟩).isSome = true from (HT.out.2.1 21 (by omega)).1)
        obtain ⟨z22, y22⟩ := Option.isSome_iff_exists.1 (show (wr.cell? ⟨w.heap.size, 22, none⟩).isSome = true from (HT.out.2.1 22 (by omega)).1)
        obtain ⟨z23, y23⟩ := Option.isSome_iff_exists.1 (show (wr.cell? ⟨w.heap.size, 23, none⟩).isSome = true from (HT.out.2.1 23 (by omega)).1)
        obtain ⟨z24, y24⟩ := Option.isSome_iff_exists.1 (show (wr.cell? ⟨w.heap.size, 24, none⟩).isSome = true from (HT.out.2.1 24 (by omega)).1)
        obtain ⟨z25, y25⟩ := Option.isSome_iff_exists.1 (show (wr.cell? ⟨w.heap.size, 25, none⟩).isSome = true from (HT.out.2.1 25 (by omega)).1)
        obtain ⟨z26, y26⟩ := Option.isSome_iff_exists.1 (show (wr.cell? ⟨w.heap.size, 26, none⟩).isSome = true from (HT.out.2.1 26 (by omega)).1)
        obtain ⟨z27, y27⟩ := Option.isSome_iff_exists.1 (show (wr.cell? ⟨w.heap.size, 27, none⟩).isSome = true from (HT.out.2.1 27 (by omega)).1)
        have hf : ∀ o, o < 28 → wr.frozen? ⟨w.heap.size, o, none⟩ = false := fun o ho => by have := (HT.out.2.1 o ho).2; simpa using this
        have f0 := hf 0 (by omega)
        have f1 := hf 1 (by omega)
        have f2 := hf 2 (by omega)
        have f3 := hf 3 (by omega)
        have f4 := hf 4 (by omega)
        have f5 := hf 5 (by omega)
        have f6 := hf 6 (by omega)
        have f7 := hf 7 (by omega)
        have f8 := hf 8 (by omega)
        have f9 := hf 9 (by omega)
        have f10 := hf 10 (by omega)
        have f11 := hf 11 (by omega)
        have f12 := hf 12 (by omega)
        have f13 := hf 13 (by omega)
        have f14 := hf 14 (by omega)
        have f15 := hf 15 (by omega)
        have f16 := hf 16 (by omega)
        have f17 := hf 17 (by omega)
        have f18 := hf 18 (by omega)
        have f19 := hf 19 (by omega)
        have f20 := hf 20 (by omega)
        have f21 := hf 21 (by omega)
        have f22 := hf 22 (by omega)
        have f23 := hf 23 (by omega)
        have f24 := hf 24 (by omega)
        have f25 := hf 25 (by omega)
        have f26 := hf 26 (by omega)
        have f27 := hf 27 (by omega)
        have hne := HT.out.2.2.1
        have HB := Lib.hid HT.out.2.2.2
        have HH := Lib.hid HT.out.2.1
        clear hf HT
        go_wp2
        obtain ⟨du, hu, hu2⟩ := tyQuad
        change bodyPost _ _ _ _ _ (wr.setCells w.heap.size 0 [.pointer none, .string (T 0), .int .i32 (L 0), .int .u32 (P 0), .int .u16 0, .int .u8 (K 0), .int .u8 sa, .pointer none, .string (T 1), .int .i32 (L 1), .int .u32 (P 1), .int .u16 0, .int .u8 (K 1), .int .u8 sb, .pointer none, .string (T 0), .int .i32 (L 0), .int .u32 (P 0), .int .u16 0, .int .u8 (K 0), .int .u8 sa, .pointer none, .string (T 1), .int .i32 (L 1), .int .u32 (P 1), .int .u16 0, .int .u8 (K 1), .int .u8 sb])
        have hr := World.rangeAt_setCells_same wr w.heap.size 0 [.pointer none, .string (T 0), .int .i32 (L 0), .int .u32 (P 0), .int .u16 0, .int .u8 (K 0), .int .u8 sa, .pointer none, .string (T 1), .int .i32 (L 1), .int .u32 (P 1), .int .u16 0, .int .u8 (K 1), .int .u8 sb, .pointer none, .string (T 0), .int .i32 (L 0), .int .u32 (P 0), .int .u16 0, .int .u8 (K 0), .int .u8 sa, .pointer none, .string (T 1), .int .i32 (L 1), .int .u32 (P 1), .int .u16 0, .int .u8 (K 1), .int .u8 sb] HH.out
        exact bodyPost_ret (results_cell_mid2 rfl _ _ w.heap.size 0 _ du rfl hr hu hu2 szQuad) rfl ⟨fun j => if j = 0 then sa else sb, rfl, below_setCells (Nat.le_refl _) _ _ HB.out⟩
      · obtain ⟨a0, a1, a2, a3, a4, a5, sa, a6⟩ := HT.out.1.at0
        obtain ⟨b0, b1, b2, b3, b4, b5, sb, b6⟩ := HT.out.1.at1
        obtain ⟨c0, c1, c2, c3, c4, c5, sc, c6⟩ := HT.out.1.at2
        obtain ⟨z0, y0⟩ := Option.isSome_iff_exists.1 (show (wr.cell? ⟨w.heap.size, 0, none⟩).isSome = true from (HT.out.2.1 0 (by omega)).1)
        obtain ⟨z1, y1⟩ := Option.isSome_iff_exists.1 (show (wr.cell? ⟨w.heap.size, 1, none⟩).isSome = true from (HT.out.2.1 1 (by omega)).1)
        obtain ⟨z2, y2⟩ := Option.isSome_iff_exists.1 (show (wr.cell? ⟨w.heap.size, 2, none⟩).isSome = true from (HT.out.2.1 2 (by omega)).1)
        obtain ⟨z3, y3⟩ := Option.isSome_iff_exists.1 (show (wr.cell? ⟨w.heap.size, 3, none⟩).isSome = true from (HT.out.2.1 3 (by omega)).1)
        obtain ⟨z4, y4⟩ := Option.isSome_iff_exists.1 (show (wr.cell? ⟨w.heap.size, 4, none⟩).isSome = true from (HT.out.2.1 4 (by omega)).1)
        obtain ⟨z5, y5⟩ := Option.isSome_iff_exists.1 (show (wr.cell? ⟨w.heap.size, 5, none⟩).isSome = true from (HT.out.2.1 5 (by omega)).1)
        obtain ⟨z6, y6⟩ := Option.isSome_iff_exists.1 (show (wr.cell? ⟨w.heap.size, 6, none⟩).isSome = true from (HT.out.2.1 6 (by omega)).1)
        obtain ⟨z7, y7⟩ := Option.isSome_iff_exists.1 (show (wr.cell? ⟨w.heap.size, 7, none⟩).isSome = true from (HT.out.2.1 7 (by omega)).1)
        obtain ⟨z8, y8⟩ := Option.isSome_iff_exists.1 (show (wr.cell? ⟨w.heap.size, 8, none⟩).isSome = true from (HT.out.2.1 8 (by omega)).1)
        obtain ⟨z9, y9⟩ := Option.isSome_iff_exists.1 (show (wr.cell? ⟨w.heap.size, 9, none⟩).isSome = true from (HT.out.2.1 9 (by omega)).1)
        obtain ⟨z10, y10⟩ := Option.isSome_iff_exists.1 (show (wr.cell? ⟨w.heap.size, 10, none⟩).isSome = true from (HT.out.2.1 10 (by omega)).1)
        obtain ⟨z11, y11⟩ := Option.isSome_iff_exists.1 (show (wr.cell? ⟨w.heap.size, 11, none⟩).isSome = true from (HT.out.2.1 11 (by omega)).1)
        obtain ⟨z12, y12⟩ := Option.isSome_iff_exists.1 (show (wr.cell? ⟨w.heap.size, 12, none⟩).isSome = true from (HT.out.2.1 12 (by omega)).1)
        obtain ⟨z13, y13⟩ := Option.isSome_iff_exists.1 (show (wr.cell? ⟨w.heap.size, 13, none⟩).isSome = true from (HT.out.2.1 13 (by omega)).1)
        obtain ⟨z14, y14⟩ := Option.isSome_iff_exists.1 (show (wr.cell? ⟨w.heap.size, 14, none⟩).isSome = true from (HT.out.2.1 14 (by omega)).1)
        obtain ⟨z15, y15⟩ := Option.isSome_iff_exists.1 (show (wr.cell? ⟨w.heap.size, 15, none⟩).isSome = true from (HT.out.2.1 15 (by omega)).1)
        obtain ⟨z16, y16⟩ := Option.isSome_iff_exists.1 (show (wr.cell? ⟨w.heap.size, 16, none⟩).isSome = true from (HT.out.2.1 16 (by omega)).1)
        obtain ⟨z17, y17⟩ := Option.isSome_iff_exists.1 (show (wr.cell? ⟨w.heap.size, 17, none⟩).isSome = true from (HT.out.2.1 17 (by omega)).1)
        obtain ⟨z18, y18⟩ := Option.isSome_iff_exists.1 (show (wr.cell? ⟨w.heap.size, 18, none⟩).isSome = true from (HT.out.2.1 18 (by omega)).1)
        obtain ⟨z19, y19⟩ := Option.isSome_iff_exists.1 (show (wr.cell? ⟨w.heap.size, 19, none⟩).isSome = true from (HT.out.2.1 19 (by omega)).1)
        obtain ⟨z20, y20⟩ := Option.isSome_iff_exists.1 (show (wr.cell? ⟨w.heap.size, 20, none⟩).isSome = true from (HT.out.2.1 20 (by omega)).1)
        obtain ⟨z21, y21⟩ := Option.isSome_iff_exists.1 (show (wr.cell? ⟨w.heap.size, 21, none⟩).isSome = true from (HT.out.2.1 21 (by omega)).1)
        obtain ⟨z22, y22⟩ := Option.isSome_iff_exists.1 (show (wr.cell? ⟨w.heap.size, 22, none⟩).isSome = true from (HT.out.2.1 22 (by omega)).1)
        obtain ⟨z23, y23⟩ := Option.isSome_iff_exists.1 (show (wr.cell? ⟨w.heap.size, 23, none⟩).isSome = true from (HT.out.2.1 23 (by omega)).1)
        obtain ⟨z24, y24⟩ := Option.isSome_iff_exists.1 (show (wr.cell? ⟨w.heap.size, 24, none⟩).isSome = true from (HT.out.2.1 24 (by omega)).1)
        obtain ⟨z25, y25⟩ := Option.isSome_iff_exists.1 (show (wr.cell? ⟨w.heap.size, 25, none⟩).isSome = true from (HT.out.2.1 25 (by omega)).1)
        obtain ⟨z26, y26⟩ := Option.isSome_iff_exists.1 (show (wr.cell? ⟨w.heap.size, 26, none⟩).isSome = true from (HT.out.2.1 26 (by omega)).1)
        obtain ⟨z27, y27⟩ := Option.isSome_iff_exists.1 (show (wr.cell? ⟨w.heap.size, 27, none⟩).isSome = true from (HT.out.2.1 27 (by omega)).1)
        have hf : ∀ o, o < 28 → wr.frozen? ⟨w.heap.size, o, none⟩ = false := fun o ho => by have := (HT.out.2.1 o ho).2; simpa using this
        have f0 := hf 0 (by omega)
        have f1 := hf 1 (by omega)
        have f2 := hf 2 (by omega)
        have f3 := hf 3 (by omega)
        have f4 := hf 4 (by omega)
        have f5 := hf 5 (by omega)
        have f6 := hf 6 (by omega)
        have f7 := hf 7 (by omega)
        have f8 := hf 8 (by omega)
        have f9 := hf 9 (by omega)
        have f10 := hf 10 (by omega)
        have f11 := hf 11 (by omega)
        have f12 := hf 12 (by omega)
        have f13 := hf 13 (by omega)
        have f14 := hf 14 (by omega)
        have f15 := hf 15 (by omega)
        have f16 := hf 16 (by omega)
        have f17 := hf 17 (by omega)
        have f18 := hf 18 (by omega)
        have f19 := hf 19 (by omega)
        have f20 := hf 20 (by omega)
        have f21 := hf 21 (by omega)
        have f22 := hf 22 (by omega)
        have f23 := hf 23 (by omega)
        have f24 := hf 24 (by omega)
        have f25 := hf 25 (by omega)
        have f26 := hf 26 (by omega)
        have f27 := hf 27 (by omega)
        have hne := HT.out.2.2.1
        have HB := Lib.hid HT.out.2.2.2
        have HH := Lib.hid HT.out.2.1
        clear hf HT
        go_wp2
        obtain ⟨du, hu, hu2⟩ := tyQuad
        change bodyPost _ _ _ _ _ (wr.setCells w.heap.size 0 [.pointer none, .string (T 0), .int .i32 (L 0), .int .u32 (P 0), .int .u16 0, .int .u8 (K 0), .int .u8 sa, .pointer none, .string (T 1), .int .i32 (L 1), .int .u32 (P 1), .int .u16 0, .int .u8 (K 1), .int .u8 sb, .pointer none, .string (T 2), .int .i32 (L 2), .int .u32 (P 2), .int .u16 0, .int .u8 (K 2), .int .u8 sc, .pointer none, .string (T 1), .int .i32 (L 1), .int .u32 (P 1), .int .u16 0, .int .u8 (K 1), .int .u8 sb])
        have hr := World.rangeAt_setCells_same wr w.heap.size 0 [.pointer none, .string (T 0), .int .i32 (L 0), .int .u32 (P 0), .int .u16 0, .int .u8 (K 0), .int .u8 sa, .pointer none, .string (T 1), .int .i32 (L 1), .int .u32 (P 1), .int .u16 0, .int .u8 (K 1), .int .u8 sb, .pointer none, .string (T 2), .int .i32 (L 2), .int .u32 (P 2), .int .u16 0, .int .u8 (K 2), .int .u8 sc, .pointer none, .string (T 1), .int .i32 (L 1), .int .u32 (P 1), .int .u16 0, .int .u8 (K 1), .int .u8 sb] HH.out
        exact bodyPost_ret (results_cell_mid2 rfl _ _ w.heap.size 0 _ du rfl hr hu hu2 szQuad) rfl ⟨fun j => if j = 0 then sa else if j = 1 then sb else sc, rfl, below_setCells (Nat.le_refl _) _ _ HB.out⟩
      · obtain ⟨a0, a1, a2, a3, a4, a5, sa, a6⟩ := HT.out.1.at0
        obtain ⟨b0, b1, b2, b3, b4, b5, sb, b6⟩ := HT.out.1.at1
        obtain ⟨c0, c1, c2, c3, c4, c5, sc, c6⟩ := HT.out.1.at2
        obtain ⟨d0, d1, d2, d3, d4, d5, sd, d6⟩ := HT.out.1.at3
        obtain ⟨z0, y0⟩ := Option.isSome_iff_exists.1 (show (wr.cell? ⟨w.heap.size, 0, none⟩).isSome = true from (HT.out.2.1 0 (by omega)).1)
        obtain ⟨z1, y1⟩ := Option.isSome_iff_exists.1 (show (wr.cell? ⟨w.heap.size, 1, none⟩).isSome = true from (HT.out.2.1 1 (by omega)).1)
        obtain ⟨z2, y2⟩ := Option.isSome_iff_exists.1 (show (wr.cell? ⟨w.heap.size, 2, none⟩).isSome = true from (HT.out.2.1 2 (by omega)).1)
        obtain ⟨z3, y3⟩ := Option.isSome_iff_exists.1 (show (wr.cell? ⟨w.heap.size, 3, none⟩).isSome = true from (HT.out.2.1 3 (by omega)).1)
        obtain ⟨z4, y4⟩ := Option.isSome_iff_exists.1 (show (wr.cell? ⟨w.heap.size, 4, none⟩).isSome = true from (HT.out.2.1 4 (by omega)).1)
        obtain ⟨z5, y5⟩ := Option.isSome_iff_exists.1 (show (wr.cell? ⟨w.heap.size, 5, none⟩).isSome = true from (HT.out.2.1 5 (by omega)).1)
        obtain ⟨z6, y6⟩ := Option.isSome_iff_exists.1 (show (wr.cell? ⟨w.heap.size, 6, none⟩).isSome = true from (HT.out.2.1 6 (by omega)).1)
        obtain ⟨z7, y7⟩ := Option.isSome_iff_exists.1 (show (wr.cell? ⟨w.heap.size, 7, none⟩).isSome = true from (HT.out.2.1 7 (by omega)).1)
        obtain ⟨z8, y8⟩ := Option.isSome_iff_exists.1 (show (wr.cell? ⟨w.heap.size, 8, none⟩).isSome = true from (HT.out.2.1 8 (by omega)).1)
        obtain ⟨z9, y9⟩ := Option.isSome_iff_exists.1 (show (wr.cell? ⟨w.heap.size, 9, none⟩).isSome = true from (HT.out.2.1 9 (by omega)).1)
        obtain ⟨z10, y10⟩ := Option.isSome_iff_exists.1 (show (wr.cell? ⟨w.heap.size, 10, none⟩).isSome = true from (HT.out.2.1 10 (by omega)).1)
        obtain ⟨z11, y11⟩ := Option.isSome_iff_exists.1 (show (wr.cell? ⟨w.heap.size, 11, none⟩).isSome = true from (HT.out.2.1 11 (by omega)).1)
        obtain ⟨z12, y12⟩ := Option.isSome_iff_exists.1 (show (wr.cell? ⟨w.heap.size, 12, none⟩).isSome = true from (HT.out.2.1 12 (by omega)).1)
        obtain ⟨z13, y13⟩ := Option.isSome_iff_exists.1 (show (wr.cell? ⟨w.heap.size, 13, none⟩).isSome = true from (HT.out.2.1 13 (by omega)).1)
        obtain ⟨z14, y14⟩ := Option.isSome_iff_exists.1 (show (wr.cell? ⟨w.heap.size, 14, none⟩).isSome = true from (HT.out.2.1 14 (by omega)).1)
        obtain ⟨z15, y15⟩ := Option.isSome_iff_exists.1 (show (wr.cell? ⟨w.heap.size, 15, none⟩).isSome = true from (HT.out.2.1 15 (by omega)).1)
        obtain ⟨z16, y16⟩ := Option.isSome_iff_exists.1 (show (wr.cell? ⟨w.heap.size, 16, none⟩).isSome = true from (HT.out.2.1 16 (by omega)).1)
        obtain ⟨z17, y17⟩ := Option.isSome_iff_exists.1 (show (wr.cell? ⟨w.heap.size, 17, none⟩).isSome = true from (HT.out.2.1 17 (by omega)).1)
        obtain ⟨z18, y18⟩ := Option.isSome_iff_exists.1 (show (wr.cell? ⟨w.heap.size, 18, none⟩).isSome = true from (HT.out.2.1 18 (by omega)).1)
        obtain ⟨z19, y19⟩ := Option.isSome_iff_exists.1 (show (wr.cell? ⟨w.heap.size, 19, none⟩).isSome = true from (HT.out.2.1 19 (by omega)).1)
        obtain ⟨z20, y20⟩ := Option.isSome_iff_exists.1 (show (wr.cell? ⟨w.heap.size, 20, none⟩).isSome = true from (HT.out.2.1 20 (by omega)).1)
        obtain ⟨z21, y21⟩ := Option.isSome_iff_exists.1 (show (wr.cell? ⟨w.heap.size, 21, none⟩).isSome = true from (HT.out.2.1 21 (by omega)).1)
        obtain ⟨z22, y22⟩ := Option.isSome_iff_exists.1 (show (wr.cell? ⟨w.heap.size, 22, none⟩).isSome = true from (HT.out.2.1 22 (by omega)).1)
        obtain ⟨z23, y23⟩ := Option.isSome_iff_exists.1 (show (wr.cell? ⟨w.heap.size, 23, none⟩).isSome = true from (HT.out.2.1 23 (by omega)).1)
        obtain ⟨z24, y24⟩ := Option.isSome_iff_exists.1 (show (wr.cell? ⟨w.heap.size, 24, none⟩).isSome = true from (HT.out.2.1 24 (by omega)).1)
        obtain ⟨z25, y25⟩ := Option.isSome_iff_exists.1 (show (wr.cell? ⟨w.heap.size, 25, none⟩).isSome = true from (HT.out.2.1 25 (by omega)).1)
        obtain ⟨z26, y26⟩ := Option.isSome_iff_exists.1 (show (wr.cell? ⟨w.heap.size, 26, none⟩).isSome = true from (HT.out.2.1 26 (by omega)).1)
        obtain ⟨z27, y27⟩ := Option.isSome_iff_exists.1 (show (wr.cell? ⟨w.heap.size, 27, none⟩).isSome = true from (HT.out.2.1 27 (by omega)).1)
        have hf : ∀ o, o < 28 → wr.frozen? ⟨w.heap.size, o, none⟩ = false := fun o ho => by have := (HT.out.2.1 o ho).2; simpa using this
        have f0 := hf 0 (by omega)
        have f1 := hf 1 (by omega)
        have f2 := hf 2 (by omega)
        have f3 := hf 3 (by omega)
        have f4 := hf 4 (by omega)
        have f5 := hf 5 (by omega)
        have f6 := hf 6 (by omega)
        have f7 := hf 7 (by omega)
        have f8 := hf 8 (by omega)
        have f9 := hf 9 (by omega)
        have f10 := hf 10 (by omega)
        have f11 := hf 11 (by omega)
        have f12 := hf 12 (by omega)
        have f13 := hf 13 (by omega)
        have f14 := hf 14 (by omega)
        have f15 := hf 15 (by omega)
        have f16 := hf 16 (by omega)
        have f17 := hf 17 (by omega)
        have f18 := hf 18 (by omega)
        have f19 := hf 19 (by omega)
        have f20 := hf 20 (by omega)
        have f21 := hf 21 (by omega)
        have f22 := hf 22 (by omega)
        have f23 := hf 23 (by omega)
        have f24 := hf 24 (by omega)
        have f25 := hf 25 (by omega)
        have f26 := hf 26 (by omega)
        have f27 := hf 27 (by omega)
        have hne := HT.out.2.2.1
        have HB := Lib.hid HT.out.2.2.2
        have HH := Lib.hid HT.out.2.1
        clear hf HT
        go_wp2
        obtain ⟨du, hu, hu2⟩ := tyQuad
        change bodyPost _ _ _ _ _ (wr.setCells w.heap.size 0 [.pointer none, .string (T 0), .int .i32 (L 0), .int .u32 (P 0), .int .u16 0, .int .u8 (K 0), .int .u8 sa, .pointer none, .string (T 1), .int .i32 (L 1), .int .u32 (P 1), .int .u16 0, .int .u8 (K 1), .int .u8 sb, .pointer none, .string (T 2), .int .i32 (L 2), .int .u32 (P 2), .int .u16 0, .int .u8 (K 2), .int .u8 sc, .pointer none, .string (T 3), .int .i32 (L 3), .int .u32 (P 3), .int .u16 0, .int .u8 (K 3), .int .u8 sd])
        have hr := World.rangeAt_setCells_same wr w.heap.size 0 [.pointer none, .string (T 0), .int .i32 (L 0), .int .u32 (P 0), .int .u16 0, .int .u8 (K 0), .int .u8 sa, .pointer none, .string (T 1), .int .i32 (L 1), .int .u32 (P 1), .int .u16 0, .int .u8 (K 1), .int .u8 sb, .pointer none, .string (T 2), .int .i32 (L 2), .int .u32 (P 2), .int .u16 0, .int .u8 (K 2), .int .u8 sc, .pointer none, .string (T 3), .int .i32 (L 3), .int .u32 (P 3), .int .u16 0, .int .u8 (K 3), .int .u8 sd] HH.out
        exact bodyPost_ret (results_cell_mid2 rfl _ _ w.heap.size 0 _ du rfl hr hu hu2 szQuad) rfl ⟨fun j => if j = 0 then sa else if j = 1 then sb else if j = 2 then sc else sd, rfl, below_setCells (Nat.le_refl _) _ _ HB.out⟩
end Go.Proofs.Ytbjcolglkegicac.Quad
