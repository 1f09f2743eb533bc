/-
  A slice of ZTok that came in; its sizes; its clone.
-/
import Derived.Test.YtppgilppnnliiabDoorEn
import Derived.Deep.Slices
import Derived.Deep.Fields
import Derived.ChangeSame
import Derived.Lib.SliceRun
namespace Go.Proofs.YtppgilppnnliiabDoor.Sy
open Go.ChangeShapes Go.WideShapes Go.ChangeAt Go.RowKit Go.Deep Rg
set_option linter.unusedVariables false
/-- a slice of n ZTok -/
def Toks (w : World) (a : Option Addr) (n : Nat) (K : Nat → Int) (T : Nat → ByteArray) : Prop :=
  ∀ i, i < n → ∃ ab ao, a = some ⟨ab, ao, none⟩ ∧ (w.cell? ⟨ab, ao + i * 2, none⟩ = some (.int .u8 (K i)) ∧ w.cell? ⟨ab, ao + i * 2 + 1, none⟩ = some (.string (T i))) ∧ (0 ≤ K i ∧ K i ≤ 255) ∧ (T i).size ≤ maxLen
theorem uZt : (Tryd.prog.underlying 46).map (fun d => match d with | .struct fs => (fs.toList.map fun f => (f.type, f.offset)) | _ => []) = some [(5, 0), (9, 1)] := by kernel_rfl
theorem cZt : Tryd.prog.cellsOf 46 = 2 := by kernel_rfl
set_option maxRecDepth 100000 in
theorem fieldsZt : ∃ f0 f1 : Field, Tryd.prog.underlying 46 = some (.struct #[f0, f1]) ∧ (f0.type = 5 ∧ f0.offset = 0) ∧ (f1.type = 9 ∧ f1.offset = 1) := by
  have h := uZt
  cases hq : Tryd.prog.underlying 46 with
  | none => rw [hq] at h; simp at h
  | some d =>
    rw [hq] at h
    cases d with
    | struct fs =>
      obtain ⟨l⟩ := fs
      simp at h
      match l, h with
      | [f0, f1], h =>
        simp at h
        exact ⟨f0, f1, rfl, h.1, h.2⟩
    | _ => simp at h
section
variable {H : Type} {enc : TypeId × Value → H} {w : World} {base : Nat} {hd : Bool}
set_option maxRecDepth 100000 in
theorem toks_of {fuel : Nat} {a : Option Addr} {len cap : Nat} {x : DataW H × List MemPlace} (ht : Tryd.prog.underlying 22 = some (.slice 46))
    (hf : DataW.trod enc Tryd.prog w base (fun _ => true) hd fuel 22 (Value.slice a len cap).cells.toList = some x) : ∃ K T, Toks w a len K T := by
  rcases open_slice ht hf with ⟨hcs, _⟩ | ⟨y, l, c, m, n, D, Pl, hcs, hb, hl, hm, hmm, hx, hi⟩
  · simp [Value.cells] at hcs
    obtain ⟨rfl, rfl, rfl⟩ := hcs
    exact ⟨fun _ => 0, fun _ => ⟨#[]⟩, fun i hi => by omega⟩
  · simp [Value.cells] at hcs
    obtain ⟨rfl, rfl, rfl⟩ := hcs
    obtain ⟨f0, f1, hu, ⟨t0, o0⟩, ⟨t1, o1⟩⟩ := fieldsZt
    have hall : ∀ i : Nat, ∃ q : Int × ByteArray, i < len → (w.cell? (y.add (i * 2)) = some (.int .u8 q.1) ∧ w.cell? ((y.add (i * 2)).add 1) = some (.string q.2)) ∧ (Lit.int .u8 q.1).wf = true ∧ q.2.size ≤ maxLen := by
      intro i
      by_cases hlt : i < len
      · obtain ⟨cs', hc, ht'⟩ := hi i (by simp at hmm; omega)
        rw [cZt] at hc
        obtain ⟨ys, n', _, _, hlen, hyl, hfl⟩ := DataW.trod_struct hu ht'
        obtain ⟨_, hcl, hat⟩ := World.cells?_some hc
        match cs', hcl with
        | [v0, v1], _ =>
          have g0 := hfl 0 f0 rfl
          have g1 := hfl 1 f1 rfl
          rw [t0, o0, show Tryd.prog.cellsOf 5 = 1 by kernel_rfl] at g0
          rw [t1, o1, show Tryd.prog.cellsOf 9 = 1 by kernel_rfl] at g1
          match ys, hyl with
          | [y0, y1], _ =>
            simp at g0 g1
            obtain ⟨k, e0, _, w0⟩ := DataW.trod_int (k := .u8) (by kernel_rfl) g0
            obtain ⟨s, e1, _, w1⟩ := DataW.trod_string (by kernel_rfl) g1
            simp at e0 e1
            subst e0 e1
            refine ⟨(k, s), fun _ => ⟨⟨?_, hat 1 (by omega)⟩, w0, w1⟩⟩
            have := hat 0 (by omega)
            simpa [Addr.add] using this
      · exact ⟨(0, ⟨#[]⟩), fun h => absurd h hlt⟩
    obtain ⟨q, hq⟩ := Classical.axiomOfChoice hall
    refine ⟨fun i => (q i).1, fun i => (q i).2, ?_⟩
    intro i hi'
    obtain ⟨⟨h0, h1⟩, h4, h6⟩ := hq i hi'
    obtain ⟨ab, ao, sp⟩ := y
    have hs : sp = none := by simpa [Addr.add] using World.cell?_spot (hq 0 (by omega)).1.1
    subst hs
    rw [add_none] at h0 h1
    rw [add_none] at h1
    exact ⟨ab, ao, rfl, ⟨h0, h1⟩, by simpa [Lit.wf, IntKind.min, IntKind.max, IntKind.bits, IntKind.signed] using h4, h6⟩
end
theorem Toks.keep {w w' : World} {a : Option Addr} {n : Nat} {K : Nat → Int} {T : Nat → ByteArray} (h : Toks w a n K T) (hb : Below w.heap.size w w') : Toks w' a n K T := by
  intro i hi
  obtain ⟨ab, ao, e, ⟨c0, c1⟩, r⟩ := h i hi
  exact ⟨ab, ao, e, ⟨later hb c0, later hb c1⟩, r⟩
def ZB (Q : Prop) (w : World) (e : Ending) (w' : World) : Prop := (∃ r : Bool, e = .returned (.bool r) ∧ (r = true → Q)) ∧ w = w'
set_option maxRecDepth 100000 in
set_option maxHeartbeats 1000000 in
theorem zzb_any (a : Option Addr) (n c : Nat) (bf : Bool) (K : Nat → Int) (T : Nat → ByteArray) (w : World) (h : Toks w a n K T) :
    Calls Tryd.prog 4 #[.slice a n c, .bool bf] w (ZB ((n : Int) ≤ 1048576 ∧ ∀ i, i < n → ((T i).size : Int) ≤ 1048576) w) := by
  have H := Lib.hid h
  clear h
  by_cases hn : (n : Int) ≤ 1048576
  case neg =>
    go_enter Tryd.func4, Tryd.ntmps4
    go_wp2
    go_ret
    exact ⟨⟨false, rfl, fun h => by cases h⟩, rfl⟩
  go_enter Tryd.func4, Tryd.ntmps4
  go_wp2
  go_loopw [5, 6] (fun s i wr => wr = w ∧ (∃ j : Nat, j ≤ n ∧ i = .int .i64 j ∧ Hid (∀ k, k < j → ((T k).size : Int) ≤ 1048576)) ∧ ∃ r : Int, s = .int .i64 r ∧ 0 ≤ r ∧ r ≤ 1048576) (fun _ i _ => n - (intOf i).toNat)
  case atStart => exact ⟨rfl, ⟨0, Nat.zero_le _, rfl, Lib.hid fun k hk => by omega⟩, _, rfl, by omega, by omega⟩
  case round =>
    obtain ⟨rfl, ⟨j, hj, rfl, HJ⟩, r, rfl, r0, r1⟩ := hrel
    by_cases hlt : j < n
    · obtain ⟨ab, ao, rfl, ⟨e0, e1⟩, q1, q3⟩ := H.out j hlt
      have p0 : (0 : Int) ≤ j := by omega
      have p1 : (j : Int) < n := by omega
      clear q1 q3 e0 H
      by_cases p2 : ((T j).size : Int) ≤ 1048576
      case neg =>
        go_wp2
        go_ret
        exact ⟨⟨false, rfl, fun h => by cases h⟩, rfl⟩
      by_cases p3 : r + ((T j).size : Int) ≤ 1048576
      case neg =>
        go_wp2
        go_ret
        exact ⟨⟨false, rfl, fun h => by cases h⟩, rfl⟩
      have HJ2 : Hid (∀ k, k < j + 1 → ((T k).size : Int) ≤ 1048576) := Lib.hid fun k hk => by
        by_cases e : k = j
        · subst e; omega
        · exact HJ.out k (by omega)
      clear HJ
      go_wp2
      go_roundw
      case rel => exact ⟨by first | rfl | trivial, ⟨j + 1, by omega, by go_num, HJ2⟩, _, rfl, by omega, by omega⟩
      case measure => simp [intOf]; omega
    · obtain rfl : j = n := by omega
      go_wp2
      go_ret
      exact ⟨⟨true, rfl, fun _ => by first | exact HJ.out | exact ⟨by omega, HJ.out⟩⟩, rfl⟩
def TsP (n : Nat) (w : World) (e : Ending) (w' : World) : Prop := (∃ r : Int, e = .returned (.int .i64 r) ∧ (r ≤ 1048576 → n ≤ 65536)) ∧ w = w'
set_option maxRecDepth 100000 in
set_option maxHeartbeats 1000000 in
theorem tsize_any (a : Option Addr) (n c : Nat) (K : Nat → Int) (T : Nat → ByteArray) (w : World) (h : Toks w a n K T) (hz : ∀ i, i < n → ((T i).size : Int) ≤ 1048576) :
    Calls Tryd.prog 5 #[.slice a n c] w (TsP n w) := by
  have H := Lib.hid h
  have HZ := Lib.hid hz
  clear h hz
  go_enter Tryd.func5, Tryd.ntmps5
  go_wp2
  go_loopw [3, 4] (fun s i wr => wr = w ∧ (∃ j : Nat, j ≤ n ∧ i = .int .i64 j ∧ ∃ r : Int, s = .int .i64 r ∧ (24 * j : Int) ≤ r ∧ r ≤ 1048576)) (fun _ i _ => n - (intOf i).toNat)
  case atStart => exact ⟨rfl, 0, Nat.zero_le _, rfl, _, rfl, by omega, by omega⟩
  case round =>
    obtain ⟨rfl, j, hj, rfl, r, rfl, r0, r1⟩ := hrel
    by_cases hlt : j < n
    · obtain ⟨ab, ao, rfl, ⟨e0, e1⟩, q1, q3⟩ := H.out j hlt
      have p0 : (0 : Int) ≤ j := by omega
      have p1 : (j : Int) < n := by omega
      have q4 := HZ.out j hlt
      by_cases p3 : r + (24 + ((T j).size : Int)) ≤ 1048576
      case neg =>
        clear q1 q3 e0 H
        go_wp2
        go_ret
        exact ⟨⟨_, rfl, fun h => by omega⟩, rfl⟩
      clear q1 q3 e0 H
      go_wp2
      go_roundw
      case rel => exact ⟨by first | rfl | trivial, j + 1, by omega, by go_num, _, rfl, by omega, by omega⟩
      case measure => simp [intOf]; omega
    · obtain rfl : j = n := by omega
      go_wp2
      go_ret
      exact ⟨⟨_, rfl, fun _ => by omega⟩, rfl⟩
theorem infoZt : (Tryd.prog.info? 46).map (fun i => (i.zero, i.size, i.bytes)) = some (some (.agg #[.int .u8 0, .string ⟨#[]⟩]), 2, 24) := by kernel_rfl
/-- block g: a row of n ZTok, of which the first k are set -/
def QR (B g n k : Nat) (K : Nat → Int) (T : Nat → ByteArray) (w0 w : World) : Prop :=
  (∀ j, j < k → w.cell? ⟨g, j * 2, none⟩ = some (.int .u8 (K j)) ∧ w.cell? ⟨g, j * 2 + 1, none⟩ = some (.string (T j))) ∧
  (∀ o, o < n * 2 → (w.cell? ⟨g, o, none⟩).isSome = true) ∧ (∀ o, w.frozen? ⟨g, o, none⟩ = false) ∧ B ≤ g ∧ g < w.heap.size ∧ Below B w0 w
theorem QR.put {B g n k : Nat} {K : Nat → Int} {T : Nat → ByteArray} {w0 w : World} (h : QR B g n k K T w0 w) (hk : k < n) : QR B g n (k + 1) K T w0 ((w.setCell ⟨g, k * 2, none⟩ (.int .u8 (K k))).setCell ⟨g, k * 2 + 1, none⟩ (.string (T k))) := by
  obtain ⟨h1, h2, h3, h4, h5, h6⟩ := h
  have s0 := h2 (k * 2) (by omega)
  have s1 := h2 (k * 2 + 1) (by omega)
  refine ⟨fun j hj => ?_, fun o ho => set_some (set_some (h2 o ho)), fun o => by simp only [World.frozen?_setCell]; exact h3 o, h4, by simpa [World.setCell] using h5, (h6.setCell h4 _).setCell h4 _⟩
  by_cases hjk : j = k
  · subst hjk
    exact ⟨set_far (by omega) (set_same s0), set_same (set_some s1)⟩
  · obtain ⟨a, b⟩ := h1 j (by omega)
    exact ⟨set_far (by omega) (set_far (by omega) a), set_far (by omega) (set_far (by omega) b)⟩
def Cloned (n : Nat) (K : Nat → Int) (T : Nat → ByteArray) (w : World) (e : Ending) (w' : World) : Prop := ∃ a c, e = .returned (.slice a n c) ∧ Toks w' a n K T ∧ Below w.heap.size w w'
set_option maxRecDepth 100000 in
set_option maxHeartbeats 1000000 in
theorem clone_any (a : Option Addr) (n c : Nat) (K : Nat → Int) (T : Nat → ByteArray) (w : World) (h : Toks w a n K T) (hn : (n : Int) ≤ 65536) :
    Calls Tryd.prog 6 #[.slice a n c] w (Cloned n K T w) := by
  have hq : ∀ W n' c', (binOp .eql 22 (.slice a n c) (.slice none n' c')).run Tryd.prog W = .ok (.bool a.isNone) W := fun W n' c' => Lib.run_eql_slice_nil W 22 46 a n c n' c' (by kernel_rfl)
  obtain ⟨i0, hi, hz0, hz1, hz2⟩ := info_parts infoZt
  have hmk := fun W => run_make_rowN (P := Tryd.prog) 22 46 i0 _ (by kernel_rfl) hi hz0 .i64 .i64 n n (Nat.le_refl _) (by rw [hz2]; omega) (by omega) W
  rw [hz1] at hmk
  have H := Lib.hid h
  clear h
  cases a with
  | none =>
    have hn0 : n = 0 := by
      by_cases h0 : n = 0
      · exact h0
      · obtain ⟨_, _, e, _⟩ := H.out 0 (by omega)
        cases e
    subst hn0
    clear hmk
    go_enter Tryd.func6, Tryd.ntmps6
    go_wp2
    go_ret
    exact ⟨none, 0, rfl, fun i hi => by omega, Below.refl _ _⟩
  | some x =>
    go_enter Tryd.func6, Tryd.ntmps6
    go_wp2
    have hT0 : QR w.heap.size w.heap.size n 0 K T w (w.alloc (.cells (madeCells #[.int .u8 0, .string ⟨#[]⟩] (n * 2)) 46)) := by
      refine ⟨fun j hj => by omega, fun o ho => ?_, fun o => by simp, Nat.le_refl _, by simp, (Below.refl _ _).alloc (Nat.le_refl _) _⟩
      simp [madeCells, ho]
    generalize World.alloc w _ = w1 at hT0 ⊢
    have HT0 := Lib.hid hT0
    clear hT0 hmk hi hz0 hz1 hz2 hq
    go_loopw [4] (fun i wr => ∃ k : Nat, k ≤ n ∧ i = .int .i64 k ∧ Hid (QR w.heap.size w.heap.size n k K T w wr)) (fun i _ => n - (intOf i).toNat)
    case atStart => exact ⟨0, Nat.zero_le _, rfl, HT0⟩
    case round =>
      clear HT0
      obtain ⟨k, hk, rfl, HT⟩ := hrel
      by_cases hlt : k < n
      · obtain ⟨ab, ao, hx, ⟨r0, r1⟩, _⟩ := H.out k hlt
        simp only [Option.some.injEq] at hx
        subst hx
        have bel := HT.out.2.2.2.2.2
        have t0 := (bel.cell (p := ⟨ab, ao + k * 2, none⟩) (World.block_lt_of_cell? w _ r0)).trans r0
        have t1 := (bel.cell (p := ⟨ab, ao + k * 2 + 1, none⟩) (World.block_lt_of_cell? w _ r1)).trans r1
        have q0 : (0 : Int) ≤ k := by omega
        have q1 : (k : Int) < n := by omega
        clear r0 r1 bel
        obtain ⟨v0, e0⟩ := Option.isSome_iff_exists.1 (HT.out.2.1 (k * 2) (by omega))
        obtain ⟨v1, e1⟩ := Option.isSome_iff_exists.1 (HT.out.2.1 (k * 2 + 1) (by omega))
        have hf := HT.out.2.2.1
        have HP := Lib.hid (HT.out.put hlt)
        go_wp2
        exact ⟨⟨k + 1, by omega, by go_num, HP⟩, by simp [intOf]; omega⟩
      · obtain rfl : k = n := by omega
        go_wp2
        go_ret
        obtain ⟨h1, h2, h3, h4, h5, h6⟩ := HT.out
        refine ⟨_, _, rfl, fun i hi => ?_, h6⟩
        obtain ⟨_, _, _, _, r⟩ := H.out i hi
        obtain ⟨c0, c1⟩ := h1 i hi
        exact ⟨w.heap.size, 0, rfl, by simp only [Nat.zero_add]; exact ⟨c0, c1⟩, r⟩
theorem infoTok : (Tryd.prog.info? 42).map (fun i => (i.zero, i.size, i.bytes)) = some (some (.agg #[.pointer none, .string ⟨#[]⟩, .int .i32 0, .int .u32 0, .int .u16 0, .int .u8 0, .int .u8 0]), 7, 40) := by kernel_rfl
theorem made_row (z : List Value) (h : 0 < z.length) (n : Nat) : madeCells z.toArray (n * z.length) = (rowg (fun _ => z) n).toArray := by
  apply Array.ext'
  apply List.ext_getElem?
  intro i
  by_cases hi : i < n * z.length
  · have hq : i / z.length < n := Nat.div_lt_of_lt_mul (by rw [Nat.mul_comm]; exact hi)
    have hr : i % z.length < z.length := Nat.mod_lt _ h
    have h2 := rowg_at (fun _ => z) (s := z.length) (fun _ => rfl) n (i / z.length) (i % z.length) hq hr
    rw [show (i / z.length) * z.length + i % z.length = i by rw [Nat.mul_comm]; exact Nat.div_add_mod i z.length, List.getElem?_eq_getElem hr] at h2
    show (madeCells z.toArray (n * z.length)).toList[i]? = _
    rw [h2]
    simp [madeCells, hi, hr]
  · rw [List.getElem?_eq_none, List.getElem?_eq_none]
    · have := rowg_len (fun _ => z) (s := z.length) (fun _ => rfl) n
      show (rowg (fun _ => z) n).length ≤ i
      omega
    · simp [madeCells]; omega
theorem TB.made (w : World) (f : Nat → TK) (n : Nat) : TB (w.alloc (.cells (madeCells #[.pointer none, .string ⟨#[]⟩, .int .i32 0, .int .u32 0, .int .u16 0, .int .u8 0, .int .u8 0] (n * 7)) 42)) w.heap.size (bldN f n 0) := by
  have h := made_row (tkR tk0) (by decide) n
  have e : rowg (fun _ => tkR tk0) n = rowg (tkF (bldN f n 0)) (bldN f n 0).length := by
    rw [bldN_len]
    exact rowg_congr n fun j hj => by unfold tkF; rw [bldN_at f n 0 j (Nat.zero_le _), if_neg (by omega)]
  unfold TB
  rw [← e, ← h]
  exact heap_alloc_new w _
theorem TB.both {w : World} {g k n : Nat} {f : Nat → TK} (h : TB w g (bldN f n k)) (hk : k < n) (hf : (f k).2.2 = 0) :
    TB ((w.setCell ⟨g, k * 7 + 5, none⟩ (.int .u8 (f k).2.1)).setCell ⟨g, k * 7 + 1, none⟩ (.string (f k).1)) g (bldN f n (k + 1)) := by
  have hl : k < (bldN f n k).length := by rw [bldN_len]; exact hk
  have h1 := h.setK hl (f k).2.1
  have h2 := h1.setT (by simpa using hl) (f k).1
  rw [getD_set_eq hl, List.set_set, bldN_at f n k k (by omega), if_neg (by omega)] at h2
  rw [bldN]
  have e : ((f k).1, (f k).2.1, tk0.2.2) = f k := by
    rw [show tk0.2.2 = (0 : Int) from rfl, ← hf]
  rw [e] at h2
  exact h2
/-- the row of tokens that is built -/
def tokT (T : Nat → ByteArray) (K : Nat → Int) (i : Nat) : TK := (T i, K i, 0)
def Built (f : Nat → TK) (n : Nat) (w : World) (e : Ending) (w' : World) : Prop := e = .returned (.slice (some ⟨w.heap.size, 0, none⟩) n n) ∧ TB w' w.heap.size (bldN f n n) ∧ Below w.heap.size w w'
set_option maxRecDepth 100000 in
set_option maxHeartbeats 2000000 in
theorem bt_any (a : Option Addr) (n c : Nat) (K : Nat → Int) (T : Nat → ByteArray) (w : World) (h1 : (n : Int) ≤ 1048576) (h : Toks w a n K T) :
    Calls Tryd.prog 8 #[.slice a n c] w (Built (tokT T K) n w) := by
  obtain ⟨i0, hi, hz0, hz1, hz2⟩ := info_parts infoTok
  have hmk := fun W => run_make_rowN (P := Tryd.prog) 28 42 i0 _ (by kernel_rfl) hi hz0 .i64 .i64 n n (Nat.le_refl _) (by rw [hz2]; omega) (by omega) W
  rw [hz1] at hmk
  have H := Lib.hid h
  have hf : ∀ k, (tokT T K k).2.2 = 0 := fun _ => rfl
  have HF := Lib.hid hf
  clear h hf
  go_enter Tryd.func8, Tryd.ntmps8
  go_wp2_with fail
  have hT0 := TB.made w (tokT T K) n
  have hB0 : Below w.heap.size w (w.alloc (.cells (madeCells #[.pointer none, .string ⟨#[]⟩, .int .i32 0, .int .u32 0, .int .u16 0, .int .u8 0, .int .u8 0] (n * 7)) 42)) := (Below.refl _ _).alloc (Nat.le_refl _) _
  generalize World.alloc w _ = w1 at hT0 hB0 ⊢
  have HT0 := Lib.hid (And.intro hT0 hB0)
  clear hT0 hB0 hmk hi hz0 hz1 hz2
  go_loopw [4] (fun i wr => ∃ k : Nat, k ≤ n ∧ i = .int .i64 k ∧ Hid (TB wr w.heap.size (bldN (tokT T K) n k) ∧ Below w.heap.size w wr)) (fun i _ => n - (intOf i).toNat)
  case atStart => exact ⟨0, Nat.zero_le _, rfl, HT0⟩
  case round =>
    clear HT0
    obtain ⟨k, hk, rfl, HT⟩ := hrel
    by_cases hlt : k < n
    · obtain ⟨ab, ao, rfl, ⟨r0, r1⟩, k01, -⟩ := H.out k hlt
      have t0 := later HT.out.2 r0
      have t1 := later HT.out.2 r1
      have q0 : (0 : Int) ≤ k := by omega
      have q1 : (k : Int) < n := by omega
      have hne : ¬ ab = w.heap.size := by have := World.block_lt_of_cell? w _ r1; simp at this; omega
      have hne2 : ¬ w.heap.size = ab := fun e => hne e.symm
      clear r0 r1 k01
      have hl : k < (bldN (tokT T K) n k).length := by rw [bldN_len]; exact hlt
      have c5 := HT.out.1.cellAt hl (j := 5) rfl
      have c1 := HT.out.1.cellAt hl (j := 1) rfl
      have f5 := Bk.frozen HT.out.1 (k * 7 + 5)
      have f1 := Bk.frozen HT.out.1 (k * 7 + 1)
      have hP := HT.out.1.both hlt (HF.out k)
      have hQ : Below w.heap.size w ((wr.setCell ⟨w.heap.size, k * 7 + 5, none⟩ (.int .u8 (K k))).setCell ⟨w.heap.size, k * 7 + 1, none⟩ (.string (T k))) := (HT.out.2.setCell (Nat.le_refl _) _).setCell (Nat.le_refl _) _
      have HP : Hid (TB ((wr.setCell ⟨w.heap.size, k * 7 + 5, none⟩ (.int .u8 (K k))).setCell ⟨w.heap.size, k * 7 + 1, none⟩ (.string (T k))) w.heap.size (bldN (tokT T K) n (k + 1)) ∧ Below w.heap.size w ((wr.setCell ⟨w.heap.size, k * 7 + 5, none⟩ (.int .u8 (K k))).setCell ⟨w.heap.size, k * 7 + 1, none⟩ (.string (T k)))) := Lib.hid ⟨hP, hQ⟩
      clear hP hQ HT H
      go_wp2_with fail
      exact ⟨⟨k + 1, by omega, by go_num, HP⟩, by simp [intOf]; omega⟩
    · obtain rfl : k = n := by omega
      go_wp2
      go_ret
      exact ⟨rfl, HT.out.1, HT.out.2⟩
end Go.Proofs.YtppgilppnnliiabDoor.Sy
