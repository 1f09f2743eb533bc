/-
  Law 22's own pieces: the map of ids, the sizes of texts, the checks of kinds.
-/
import Derived.Test.YtkphnplmjpjbjaaDoorHc
import Derived.Test.YtkphnplmjpjbjaaDoorCt
import Derived.Test.YtkphnplmjpjbjaaDoorNw
import Derived.Test.YtkphnplmjpjbjaaDoorFk
namespace Go.Proofs.YtkphnplmjpjbjaaDoor.Sy
open Go.ChangeShapes Go.WideShapes Go.ChangeAt Go.RowKit Rg
open Go.ChangeMaps (setBlock heap_setBlock_same heap_setBlock_other)
set_option linter.unusedVariables false
set_option linter.unusedSimpArgs false
def entU : Nat → List ByteArray → List MapEntry
  | _, [] => []
  | i, s :: r => ⟨.string s, .int .u32 (i : Int), i⟩ :: entU (i + 1) r
theorem findU (s : ByteArray) : ∀ (ns : List ByteArray) (i k : Nat), Instr.findNow .string (.string s) (entU i ns) k = some ((ixF s ns).map fun j => (k + j, .int .u32 ((i + j : Nat) : Int)))
  | [], i, k => rfl
  | x :: r, i, k => by
    rw [entU, Instr.findNow, sameNow_str, ixF]
    by_cases e : s = x
    · have : (s == x) = true := (MapKept.bytes_beq s x).2 e
      rw [this, if_pos e]; simp
    · have : (s == x) = false := by rcases h : (s == x) with _ | _; rfl; exact absurd ((MapKept.bytes_beq s x).1 h) e
      rw [this, if_neg e]
      simp only
      rw [findU s r (i + 1) (k + 1)]
      cases ixF s r with
      | none => rfl
      | some j => simp only [Option.map_some]; rw [show k + 1 + j = k + (j + 1) by omega, show i + 1 + j = i + (j + 1) by omega]
theorem entU_snoc (s : ByteArray) : ∀ (ns : List ByteArray) (i : Nat), entU i (ns ++ [s]) = entU i ns ++ [⟨.string s, .int .u32 ((i + ns.length : Nat) : Int), i + ns.length⟩]
  | [], i => rfl
  | x :: r, i => by
    rw [List.cons_append, entU, entU, entU_snoc s r (i + 1)]
    simp only [List.cons_append, List.length_cons]
    rw [show i + 1 + r.length = i + (r.length + 1) by omega]
def muO (ns : List ByteArray) : Obj := .map (entU 0 ns).toArray ns.length
theorem zeroU (w : World) : (zeroValue 30).run Tryd.prog w = .ok (.int .u32 0) w := by kernel_rfl
theorem lookU_run (w : World) (b : Nat) (ns : List ByteArray) (s : ByteArray) (h : w.heap[b]? = some (muO ns)) :
    (Instr.lookup 28 (.map (some b)) (.string s) true).run Tryd.prog w = .ok (.tuple #[.int .u32 (ixV s ns), .bool (ixF s ns).isSome]) w := by
  have hf := findU s ns 0 0
  have hk : MapKept.IsKey TypeDesc.string (.string s) := trivial
  have h1 := MapKept.run_findKey (w := w) Tryd.underlying9 hf
  cases hx : ixF s ns with
  | none =>
    rw [hx] at h1
    simp [Instr.lookup, run_underlying Tryd.underlying28, MapKept.run_getObj_map h, MapKept.run_checkKey Tryd.underlying9 hk, h1, zeroU, Result.andThen, ixV, hx]
  | some j =>
    rw [hx] at h1
    simp [Instr.lookup, run_underlying Tryd.underlying28, MapKept.run_getObj_map h, MapKept.run_checkKey Tryd.underlying9 hk, h1, Result.andThen, ixV, hx]
theorem updU_run (w : World) (b : Nat) (ns : List ByteArray) (s : ByteArray) (h : w.heap[b]? = some (muO ns)) (hn : ixF s ns = none) :
    (Instr.mapUpdate 28 (.map (some b)) (.string s) (.int .u32 (ns.length : Int))).run Tryd.prog w = .ok () (setBlock w b (muO (ns ++ [s]))) := by
  have hf := findU s ns 0 0
  rw [hn] at hf
  have hk : MapKept.IsKey TypeDesc.string (.string s) := trivial
  have h1 := MapKept.run_findKey (w := w) Tryd.underlying9 hf
  have e : muO (ns ++ [s]) = .map ((entU 0 ns).toArray.push ⟨.string s, .int .u32 (ns.length : Int), ns.length⟩) (ns.length + 1) := by
    rw [muO, entU_snoc]; simp
  rw [e]
  simp [Instr.mapUpdate, run_underlying Tryd.underlying28, MapKept.run_getObj_map h, MapKept.run_checkKey Tryd.underlying9 hk, h1, MapKept.run_setObj_map _ h, Result.andThen, setBlock]
def ZB (Q : Prop) (w : World) (e : Ending) (w' : World) : Prop := (∃ r : Bool, e = .returned (.bool r) ∧ (r = true → Q)) ∧ w = w'
set_option maxRecDepth 100000 in
set_option maxHeartbeats 2000000 in
theorem zbs_any (a : Option Addr) (n c : Nat) (T : Nat → ByteArray) (ml : Bool) (w : World) (h1 : (n : Int) ≤ 9223372036854775807) (h : Sl w a n (fun i => .string (T i))) (hz : ∀ i, i < n → ((T i).size : Int) ≤ 9223372036854775807) :
    Calls Tryd.prog 4 #[.slice a n c, .bool ml] w (ZB ((n : Int) ≤ 1048576 ∧ ∀ i, i < n → ((T i).size : Int) ≤ 1048576) w) := by
  have HS := Lib.hid h
  have HZ := Lib.hid hz
  clear h hz
  go_enter Tryd.func4, Tryd.ntmps4
  by_cases g1 : (1048576 : Int) < n
  · go_wp2_with fail
    go_ret
    exact ⟨⟨false, rfl, fun h => by cases h⟩, rfl⟩
  go_wp2_with fail
  go_loop [5, 6] (fun t i => ∃ (k : Nat) (s : Int), k ≤ n ∧ i = .int .i64 k ∧ t = .int .i64 s ∧ 0 ≤ s ∧ s ≤ 1048576 ∧ Hid (∀ j, j < k → ((T j).size : Int) ≤ 1048576)) (fun _ i => n - (intOf i).toNat)
  case atStart => exact ⟨0, _, Nat.zero_le _, rfl, rfl, by omega, by omega, Lib.hid fun j hj => by omega⟩
  case round =>
    obtain ⟨k, s, hk, rfl, rfl, hs0, hs1, HJ⟩ := hrel
    by_cases hlt : k < n
    · obtain ⟨ab, ao, rfl, d⟩ := HS.out k hlt
      have q0 : (0 : Int) ≤ k := by omega
      have q1 : (k : Int) < n := by omega
      have q2 := HZ.out k hlt
      by_cases p3 : (1048576 : Int) < (T k).size
      · go_wp2_with fail
        go_ret
        exact ⟨⟨false, rfl, fun h => by cases h⟩, rfl⟩
      by_cases p4 : (1048576 : Int) < s + (T k).size
      · go_wp2_with fail
        go_ret
        exact ⟨⟨false, rfl, fun h => by cases h⟩, rfl⟩
      have HJ2 : Hid (∀ j, j < k + 1 → ((T j).size : Int) ≤ 1048576) := Lib.hid fun j hj => by
        by_cases e : j = k
        · subst e; omega
        · exact HJ.out j (by omega)
      clear HJ
      go_wp2_with fail
      go_round
      case rel => exact ⟨k + 1, _, by omega, by go_num, rfl, by omega, by omega, HJ2⟩
      case measure => simp [intOf]; omega
    · obtain rfl : k = n := by omega
      go_wp2_with fail
      go_ret
      exact ⟨⟨true, rfl, fun _ => by first | exact HJ.out | exact ⟨by omega, HJ.out⟩⟩, rfl⟩
def SbP (n : Nat) (w : World) (e : Ending) (w' : World) : Prop := (∃ r : Int, e = .returned (.int .i64 r) ∧ (r ≤ 1048576 → n ≤ 65536)) ∧ w = w'
set_option maxRecDepth 100000 in
set_option maxHeartbeats 2000000 in
theorem sb_any (a : Option Addr) (n c : Nat) (T : Nat → ByteArray) (w : World) (h : Sl w a n (fun i => .string (T i))) (hz : ∀ i, i < n → ((T i).size : Int) ≤ 1048576) :
    Calls Tryd.prog 5 #[.slice a n c] w (SbP n w) := by
  have HS := Lib.hid h
  have HZ := Lib.hid hz
  clear h hz
  go_enter Tryd.func5, Tryd.ntmps5
  go_wp2_with fail
  go_loop [3, 4] (fun t i => ∃ (k : Nat) (s : Int), k ≤ n ∧ i = .int .i64 k ∧ t = .int .i64 s ∧ 16 * (k : Int) ≤ s ∧ s ≤ 1048576) (fun _ i => n - (intOf i).toNat)
  case atStart => exact ⟨0, 0, Nat.zero_le _, rfl, rfl, by omega, by omega⟩
  case round =>
    obtain ⟨k, s, hk, rfl, rfl, hs0, hs1⟩ := hrel
    by_cases hlt : k < n
    · obtain ⟨ab, ao, rfl, d⟩ := HS.out k hlt
      have q0 : (0 : Int) ≤ k := by omega
      have q1 : (k : Int) < n := by omega
      have q2 := HZ.out k hlt
      by_cases p4 : (1048576 : Int) < s + (16 + (T k).size)
      · go_wp2_with fail
        go_ret
        exact ⟨⟨_, rfl, fun h => by omega⟩, rfl⟩
      go_wp2_with fail
      go_round
      case rel => exact ⟨k + 1, _, by omega, by go_num, rfl, by omega, by omega⟩
      case measure => simp [intOf]; omega
    · obtain rfl : k = n := by omega
      go_wp2_with fail
      go_ret
      exact ⟨⟨_, rfl, fun _ => by omega⟩, rfl⟩
theorem cl22_info : (Tryd.prog.info? 9).map (fun i => (i.zero, i.size, i.bytes)) = some (some (.string ⟨#[]⟩), 1, 16) := by kernel_rfl
set_option maxRecDepth 100000 in
set_option maxHeartbeats 1000000 in
theorem cl22 (a : Option Addr) (n c : Nat) (Z : Nat → ByteArray) (w : World) (h : Sl w a n (fun i => .string (Z i))) (h0 : a = none → n = 0) (hn : (n : Int) ≤ 65536) :
    Calls Tryd.prog 6 #[.slice a n c] w (Clon a n (fun i => .string (Z i)) w) := by
  have hq : ∀ W n' c', (binOp .eql 22 (.slice a n c) (.slice none n' c')).run Tryd.prog W = .ok (.bool a.isNone) W := fun W n' c' => Lib.run_eql_slice_nil W 22 9 a n c n' c' (by kernel_rfl)
  obtain ⟨i0, hi, hz0, hz1, hz2⟩ := info_parts cl22_info
  have hmk := fun W => run_make_rowN (P := Tryd.prog) 22 9 i0 _ (by kernel_rfl) hi hz0 .i64 .i64 n n (Nat.le_refl _) (by rw [hz2]; omega) (by omega) W
  rw [hz1] at hmk
  have H := Lib.hid h
  clear h
  cases a with
  | none =>
    obtain rfl := h0 rfl
    clear hmk hi hz0 hz1 hz2
    go_enter Tryd.func6, Tryd.ntmps6
    go_wp2
    go_ret
    exact ⟨none, 0, rfl, Sl.none_ _ _ _, fun x hx => by simp at hx, Iff.rfl, Below.refl _ _⟩
  | some x =>
    have hT0 : CR w.heap.size w.heap.size n 0 (fun i => .string (Z i)) w (w.alloc (.cells (madeCells #[.string ⟨#[]⟩] n) 9)) := CR.made w n _ _ _ (by simp [madeCells])
    clear h0
    go_enter Tryd.func6, Tryd.ntmps6
    go_wp2
    generalize World.alloc w _ = w1 at hT0 ⊢
    have HT0 := Lib.hid hT0
    clear hT0 hmk hi hz0 hz1 hz2 hq
    go_loopw [4] (fun i wr => ∃ k : Nat, k ≤ n ∧ i = .int .i64 k ∧ Hid (CR w.heap.size w.heap.size n k (fun i => .string (Z i)) w wr)) (fun i _ => n - (intOf i).toNat)
    case atStart => exact ⟨0, Nat.zero_le _, rfl, HT0⟩
    case round =>
      clear HT0
      obtain ⟨k, hk, rfl, HT⟩ := hrel
      by_cases hlt : k < n
      · obtain ⟨ab, ao, hx, r0⟩ := H.out k hlt
        simp only [Option.some.injEq] at hx
        subst hx
        have bel := HT.out.2.2.2.2.2
        have t0 : wr.cell? ⟨ab, ao + k, none⟩ = some (.string (Z k)) := (bel.cell (p := ⟨ab, ao + k, none⟩) (World.block_lt_of_cell? w _ r0)).trans r0
        have hne : ab ≠ w.heap.size := by have := World.block_lt_of_cell? w _ r0; simp at this; omega
        have q0 : (0 : Int) ≤ k := by omega
        have q1 : (k : Int) < n := by omega
        obtain ⟨v0, e0⟩ := Option.isSome_iff_exists.1 (HT.out.2.1 k (by omega))
        have hf := HT.out.2.2.1
        have HP := Lib.hid (HT.out.put hlt)
        clear r0 bel
        go_wp2
        exact ⟨⟨k + 1, by omega, by go_num, HP⟩, by simp [intOf]; omega⟩
      · obtain rfl : k = n := by omega
        go_wp2
        go_ret
        exact ⟨some ⟨w.heap.size, 0, none⟩, k, rfl, HT.out.done, fun y hy => by injection hy with hy; subst hy; exact Nat.le_refl _, by simp, HT.out.2.2.2.2.2⟩
set_option maxRecDepth 100000 in
set_option maxHeartbeats 1000000 in
theorem kind_any {X : Nat → Prop} (p i : Nat) (ml : Bool) (S : SY) (w : World) (h : PS w X p ml S) (hi : i < S.length) :
    Calls Tryd.prog 16 #[.pointer (some ⟨p, 0, none⟩), .int .i64 (i : Int)] w fun e w' => e = .returned (.int .u8 (kdv ml)) ∧ w = w' := by
  obtain ⟨g, cap, hc, c1, c2, c3⟩ := h.use hi
  clear h
  have q0 : (0 : Int) ≤ i := by omega
  have q1 : (i : Int) < S.length := by omega
  go_enter Tryd.func16, Tryd.ntmps16
  go_wp2_with fail
  all_goals go_ret
  all_goals exact ⟨rfl, rfl⟩
theorem PS.loc {w : World} {X : Nat → Prop} {p : Nat} {S : SY} (h : PS w X p true S) {i : Nat} (hi : i < S.length) : ∃ g cap, w.cell? ⟨p, 23, none⟩ = some (.slice (some ⟨g, 0, none⟩) S.length cap) ∧ w.cell? ⟨g, i * 3 + 2, none⟩ = some (.int .u32 (i : Int)) := by
  obtain ⟨v, v2, m1, m2, hp, hX⟩ := h
  have hl := hp.locs
  rw [if_pos rfl] at hl
  obtain ⟨g, cap, rfl, _, hlt⟩ := hl.form (by omega)
  exact ⟨g, cap, hp.c23, own_cell hl lrF_len hi rfl⟩
set_option maxRecDepth 100000 in
set_option maxHeartbeats 1000000 in
theorem inner_any {X : Nat → Prop} (p i : Nat) (S : SY) (w : World) (h : PS w X p true S) (hi : i < S.length) :
    Calls Tryd.prog 18 #[.pointer (some ⟨p, 0, none⟩), .int .i64 (i : Int)] w fun e w' => e = .returned (.int .u32 (i : Int)) ∧ w = w' := by
  obtain ⟨g, cap, hc, c1⟩ := h.loc hi
  clear h
  have q0 : (0 : Int) ≤ i := by omega
  have q1 : (i : Int) < S.length := by omega
  go_enter Tryd.func18, Tryd.ntmps18
  go_wp2_with fail
  all_goals go_ret
  all_goals exact ⟨rfl, rfl⟩
set_option maxRecDepth 100000 in
set_option maxHeartbeats 2000000 in
theorem ck_any {X : Nat → Prop} (p : Nat) (ml : Bool) (S : SY) (w : World) (h : PS w X p ml S) (hn : S.length ≤ 1000000) :
    Calls Tryd.prog 13 #[.pointer (some ⟨p, 0, none⟩), .int .i64 (S.length : Int), .bool ml] w fun e w' => e = .returned (.bool true) ∧ w = w' := by
  have H := Lib.hid h
  clear h
  cases ml with
  | false =>
    have hc := cnt2_any p false S w H.out
    simp only [Bool.false_eq_true, if_false] at hc
    go_enter Tryd.func13, Tryd.ntmps13
    go_wp2_with fail
    go_loopw [7] (fun i wr => ∃ k : Nat, k ≤ S.length ∧ i = .int .i64 k ∧ wr = w) (fun i _ => S.length - (intOf i).toNat)
    case atStart => exact ⟨0, Nat.zero_le _, rfl, rfl⟩
    case round =>
      obtain ⟨k, hk, rfl, rfl⟩ := hrel
      by_cases hlt : k < S.length
      · have q0 : (0 : Int) ≤ k := by omega
        have q1 : (k : Int) < S.length := by omega
        go_wp2_with fail
        refine (kind_any p k false S _ H.out hlt).mono ?_
        rintro e wz ⟨rfl, rfl⟩
        have hkd : kdv false = 25 := rfl
        rw [hkd]
        go_wp2_with fail
        exact ⟨⟨k + 1, by omega, by go_num, trivial⟩, by simp [intOf]; omega⟩
      · obtain rfl : k = S.length := by omega
        go_wp2_with fail
        refine hc.mono ?_
        rintro e wz ⟨rfl, rfl⟩
        go_wp2_with fail
        go_ret
        exact ⟨rfl, rfl⟩
  | true =>
    have hc := cnt2_any p true S w H.out
    simp only [if_true] at hc
    go_enter Tryd.func13, Tryd.ntmps13
    go_wp2_with fail
    go_loopw [7] (fun i wr => ∃ k : Nat, k ≤ S.length ∧ i = .int .i64 k ∧ wr = w) (fun i _ => S.length - (intOf i).toNat)
    case atStart => exact ⟨0, Nat.zero_le _, rfl, rfl⟩
    case round =>
      obtain ⟨k, hk, rfl, rfl⟩ := hrel
      by_cases hlt : k < S.length
      · have q0 : (0 : Int) ≤ k := by omega
        have q1 : (k : Int) < S.length := by omega
        go_wp2_with fail
        refine (kind_any p k true S _ H.out hlt).mono ?_
        rintro e wz ⟨rfl, rfl⟩
        have hkd : kdv true = 26 := rfl
        rw [hkd]
        go_wp2_with fail
        exact ⟨⟨k + 1, by omega, by go_num, trivial⟩, by simp [intOf]; omega⟩
      · obtain ⟨k0, hk0⟩ : ∃ k0 : Nat, k0 = 0 := ⟨_, rfl⟩
        obtain rfl : k = S.length := by omega
        go_wp2_with fail
        refine hc.mono ?_
        rintro e wz ⟨rfl, rfl⟩
        clear hc
        go_wp2_with fail
        go_loopw [9] (fun i wq => ∃ k : Nat, k ≤ S.length ∧ i = .int .i64 k ∧ wq = wr) (fun i _ => S.length - (intOf i).toNat)
        case atStart => exact ⟨0, Nat.zero_le _, rfl, rfl⟩
        case round =>
          obtain ⟨k, hk, rfl, rfl⟩ := hrel
          by_cases hlt : k < S.length
          · have q0 : (0 : Int) ≤ k := by omega
            have q1 : (k : Int) < S.length := by omega
            go_wp2_with fail
            refine (inner_any p k S _ H.out hlt).mono ?_
            rintro e wz ⟨rfl, rfl⟩
            go_wp2_with fail
            exact ⟨⟨k + 1, by omega, by go_num, trivial⟩, by simp [intOf]; omega⟩
          · obtain rfl : k = S.length := by omega
            go_wp2_with fail
            go_ret
            exact ⟨rfl, rfl⟩
/-- the symbols behind the first k texts; how many of them are names -/
def scr (T : Nat → ByteArray) : Nat → SY
  | 0 => []
  | k + 1 => if rsv (T k) then scr T k else addS (T k) (scr T k)
def cv (T : Nat → ByteArray) : Nat → Nat
  | 0 => 0
  | k + 1 => if rsv (T k) then cv T k else cv T k + 1
theorem cv_le (T : Nat → ByteArray) : ∀ k, cv T k ≤ k
  | 0 => Nat.le_refl _
  | k + 1 => by have := cv_le T k; rw [cv]; split <;> omega
theorem scr_bd (T : Nat → ByteArray) : ∀ k, SBd k (scr T k)
  | 0 => SBd.nil 0
  | k + 1 => by
    rw [scr]
    split
    · exact (scr_bd T k).mono (by omega)
    · exact (scr_bd T k).add _
def sumS (S : SY) : Int := (S.map (·.2)).sum
theorem sum_set : ∀ (S : SY) (j : Nat) (x : ByteArray × Int), j < S.length → sumS (S.set j x) = sumS S - (S.getD j (⟨#[]⟩, 0)).2 + x.2
  | [], j, x, h => by simp at h
  | y :: r, 0, x, h => by simp [sumS]; omega
  | y :: r, j + 1, x, h => by
    have ih := sum_set r j x (by simpa using h)
    simp only [sumS, List.set_cons_succ, List.map_cons, List.sum_cons] at ih ⊢
    rw [ih, List.getD_cons_succ]
    omega
theorem sum_add (s : ByteArray) (S : SY) : sumS (addS s S) = sumS S + 1 := by
  unfold addS
  cases hx : ixF s (S.map (·.1)) with
  | none => simp [sumS]
  | some j =>
    have hj : j < S.length := by simpa using (ixF_lt hx).1
    simp only
    rw [sum_set S j _ hj]
    simp only
    omega
theorem sum_scr (T : Nat → ByteArray) : ∀ k, sumS (scr T k) = cv T k
  | 0 => rfl
  | k + 1 => by
    have ih := sum_scr T k
    rw [scr, cv]
    split
    · exact ih
    · rw [sum_add, ih]; omega
theorem pos_add {s : ByteArray} {S : SY} (h : ∀ x ∈ S, 1 ≤ x.2) : ∀ x ∈ addS s S, 1 ≤ x.2 := by
  unfold addS
  intro x hx
  cases he : ixF s (S.map (·.1)) with
  | none =>
    rw [he] at hx
    rcases List.mem_append.1 hx with h1 | h1
    · exact h x h1
    · rw [List.mem_singleton] at h1; rw [h1]; show (1 : Int) ≤ 1; omega
  | some j =>
    rw [he] at hx
    have hj : j < S.length := by simpa using (ixF_lt he).1
    rcases List.mem_or_eq_of_mem_set hx with h1 | h1
    · exact h x h1
    · have hm : S.getD j (⟨#[]⟩, 0) ∈ S := by
        rw [List.getD_eq_getElem?_getD, List.getElem?_eq_getElem hj]
        exact List.getElem_mem hj
      have := h _ hm
      rw [h1]
      show 1 ≤ _ + 1
      omega
theorem pos_scr (T : Nat → ByteArray) : ∀ k, ∀ x ∈ scr T k, 1 ≤ x.2
  | 0 => fun x h => by cases h
  | k + 1 => by
    rw [scr]
    split
    · exact pos_scr T k
    · exact pos_add (pos_scr T k)
/-- the first i counts -/
def preS (S : SY) (i : Nat) : Int := sumS (S.take i)
theorem preS_succ (S : SY) {i : Nat} (h : i < S.length) : preS S (i + 1) = preS S i + (S.getD i (⟨#[]⟩, 0)).2 := by
  unfold preS sumS
  rw [List.take_succ_eq_append_getElem h, List.map_append, List.sum_append, List.getD_eq_getElem?_getD, List.getElem?_eq_getElem h]
  simp
theorem preS_bd {S : SY} {N : Nat} (h : SBd N S) : ∀ i, 0 ≤ preS S i ∧ preS S i ≤ (i : Int) * N
  | 0 => by simp [preS, sumS]
  | i + 1 => by
    have ih := preS_bd h i
    by_cases hi : i < S.length
    · rw [preS_succ S hi]
      have hm : S.getD i (⟨#[]⟩, 0) ∈ S := by
        rw [List.getD_eq_getElem?_getD, List.getElem?_eq_getElem hi]
        exact List.getElem_mem hi
      have h2 := h.2 _ hm
      rw [Int.natCast_add, Int.add_mul]
      omega
    · have e : preS S (i + 1) = preS S i := by unfold preS; rw [List.take_of_length_le (by omega), List.take_of_length_le (by omega)]
      rw [e, Int.natCast_add, Int.add_mul]
      omega
/-- what stands between the turns of the script -/
structure IV (w0 : World) (a : Option Addr) (n : Nat) (T : Nat → ByteArray) (p bm : Nat) (ml : Bool) (S : SY) (M : List ByteArray) (X : Nat → Prop) (w : World) : Prop where
  ev : EV w0.heap.size w
  bw : Below w0.heap.size w0 w
  ps : PS w X p ml S
  mp : w.heap[bm]? = some (muO M)
  sl : Sl w a n (fun i => .string (T i))
  xs : ∀ i, X i → w0.heap.size ≤ i ∧ i < w.heap.size ∧ i ≠ bm ∧ (0 < n → ∀ x, a = some x → x.block ≠ i)
  bb : w0.heap.size ≤ bm ∧ bm < w.heap.size
  ab : 0 < n → ∀ x, a = some x → x.block < w.heap.size ∧ x.block ≠ bm
section
variable {w0 w w1 w2 : World} {a : Option Addr} {n p bm g : Nat} {T : Nat → ByteArray} {ml : Bool} {S S' : SY} {M : List ByteArray} {X X' : Nat → Prop}
theorem IV.keep (h : IV w0 a n T p bm ml S M X w) (hb : Below w.heap.size w w1) : IV w0 a n T p bm ml S M X w1 := by
  have hs := hb.size
  exact ⟨h.ev.keep hb, h.bw.trans (hb.mono h.bw.size), h.ps.keep hb, (hb.block bm h.bb.2).trans h.mp, h.sl.keep hb, fun i hi => ⟨(h.xs i hi).1, by have := (h.xs i hi).2.1; omega, (h.xs i hi).2.2⟩, ⟨h.bb.1, by have := h.bb.2; omega⟩, fun h0 x hx => ⟨by have := (h.ab h0 x hx).1; omega, (h.ab h0 x hx).2⟩⟩
/-- a token of its own -/
theorem IV.tok (h : IV w0 a n T p bm ml S M X w) (x : TK) : ST w0.heap.size X p ml w.heap.size ([x], S) (w.alloc (.cells (tkR x).toArray 37)) := by
  have hb : Below w.heap.size w (w.alloc (.cells (tkR x).toArray 37)) := (Below.refl _ _).alloc (Nat.le_refl _) _
  have hs := hb.size
  have h2 := h.keep hb
  exact ⟨h2.ev, h2.ps, heap_alloc_new w _, h.bw.size, fun i hi => ⟨(h.xs i hi).1, by have := (h.xs i hi).2.1; omega, by have := (h.xs i hi).2.1; omega⟩⟩
theorem IV.go (h : IV w0 a n T p bm ml S M X w) {z : List TK × SY} (hg : bm ≠ g) (ha : 0 < n → ∀ x, a = some x → x.block ≠ g) (hb : w0.heap.size ≤ g) (hst : ST w0.heap.size X' p ml g z w2) (ho : GO X g w X' w2) : IV w0 a n T p bm ml z.2 M X' w2 := by
  have hs := ho.1.2.2.2.1
  refine ⟨hst.ev, h.bw.trans (ho.1.below (fun i hi => ?_) h.bw.size), hst.ps, (ho.1.2.2.2.2 bm h.bb.2 (fun hx => hx.elim (fun hx => (h.xs _ hx).2.2.1 rfl) hg)).trans h.mp, ?_, fun i hi => ⟨(hst.xs i hi).1, (hst.xs i hi).2.1, ?_⟩, ⟨h.bb.1, by have := h.bb.2; omega⟩, fun h0 x hx => ⟨by have := (h.ab h0 x hx).1; omega, (h.ab h0 x hx).2⟩⟩
  · rcases hi with hi | rfl
    · exact (h.xs i hi).1
    · exact hb
  · intro i hi
    obtain ⟨ab, ao, e, c⟩ := h.sl i hi
    refine ⟨ab, ao, e, ?_⟩
    have h0 : 0 < n := by omega
    have hl := (h.ab h0 _ e).1
    have hk := ho.1.2.2.2.2 ab hl (fun hx => hx.elim (fun hx => (h.xs _ hx).2.2.2 h0 _ e rfl) (fun e2 => ha h0 _ e e2))
    unfold World.cell? at c ⊢
    rw [hk]
    exact c
  · rcases ho.2 i hi with h1 | h1
    · exact (h.xs i h1).2.2
    · exact ⟨by have := h.bb.2; omega, fun h0 x hx => by have := (h.ab h0 x hx).1; omega⟩
/-- a name is put into the law's map -/
theorem IV.put (h : IV w0 a n T p bm ml S M X w) (M' : List ByteArray) : IV w0 a n T p bm ml S M' X (setBlock w bm (muO M')) := by
  have hk : ∀ i, i ≠ bm → (setBlock w bm (muO M')).heap[i]? = w.heap[i]? := fun i hi => heap_setBlock_other h.mp _ hi
  have hz : (setBlock w bm (muO M')).heap.size = w.heap.size := by simp [setBlock]
  have hbl : Below w0.heap.size w (setBlock w bm (muO M')) := ⟨rfl, rfl, rfl, by rw [hz]; exact Nat.le_refl _, fun i hi => hk i (by have := h.bb.1; omega)⟩
  refine ⟨h.ev.below hbl, h.bw.trans hbl, ?_, heap_setBlock_same h.mp _, ?_, fun i hi => ⟨(h.xs i hi).1, by rw [hz]; exact (h.xs i hi).2.1, (h.xs i hi).2.2⟩, ⟨h.bb.1, by rw [hz]; exact h.bb.2⟩, fun h0 x hx => ⟨by rw [hz]; exact (h.ab h0 x hx).1, (h.ab h0 x hx).2⟩⟩
  · obtain ⟨v, v2, m1, m2, h1, h2⟩ := h.ps
    exact ⟨v, v2, m1, m2, h1.same fun i hi => hk i (h.xs i (h2 i hi)).2.2.1, h2⟩
  · intro i hi
    obtain ⟨ab, ao, e, c⟩ := h.sl i hi
    refine ⟨ab, ao, e, ?_⟩
    have hk2 := hk ab (h.ab (by omega) _ e).2
    unfold World.cell? at c ⊢
    rw [hk2]
    exact c
end
set_option maxRecDepth 100000 in
set_option maxHeartbeats 1000000 in
theorem wh_any {B : Nat} {X : Nat → Prop} (p g : Nat) (ml : Bool) (s : ByteArray) (K P0 : Int) (S : SY) (w : World) (h : ST B X p ml g ([(s, K, P0)], S) w) (hb : SBd 2000000 S) (hs : (s.size : Int) ≤ 1048576) :
    Calls Tryd.prog 8 #[.pointer (some ⟨p, 0, none⟩), .pointer (some ⟨g, 0, none⟩)] w fun e w' => e = .returned (.tuple #[]) ∧ ∃ X' : Nat → Prop, ST B X' p ml g (stp cC 0 ([(s, K, P0)], S)) w' ∧ GO X g w X' w' := by
  have hc : Calls Tryd.prog 14 #[.pointer (some ⟨p, 0, none⟩), .pointer (some ⟨g, 0, none⟩)] w fun e w' => e = .returned (.tuple #[]) ∧ ∃ X' : Nat → Prop, ST B X' p ml g (stp cC 0 ([(s, K, P0)], S)) w' ∧ GO X g w X' w' := hc_any p g 0 ml ([(s, K, P0)], S) w h (by simp) hb hs
  clear h hb hs
  generalize stp cC 0 ([(s, K, P0)], S) = y at *
  go_enter Tryd.func8, Tryd.ntmps8
  go_wp2_with fail
  refine hc.mono ?_
  rintro e w' ⟨rfl, X', h1, h2⟩
  have H := Lib.hid (And.intro h1 h2)
  clear h1 h2 hc
  go_wp2_with fail
  go_end0
  exact ⟨rfl, X', H.out.1, H.out.2⟩
end Go.Proofs.YtkphnplmjpjbjaaDoor.Sy
