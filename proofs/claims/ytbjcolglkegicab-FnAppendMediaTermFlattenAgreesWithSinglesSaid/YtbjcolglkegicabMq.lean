/-
  Lists of plain media queries; zzPlainRun.
-/
import Derived.Test.YtbjcolglkegicabRows
import Derived.Test.YtbjcolglkegicabRg
import Derived.OpenShut
import Derived.Outline
import Derived.WalkLawsBesides
import Derived.WalkSpells
import Derived.WalkSmall
import Derived.Laws.MakeOwn
import Derived.Laws.Entries
import Derived.Laws.OwnMore
import Derived.Deep.AppendLies
import Derived.Deep.OwnRows
import Derived.OwnWalk
namespace Go.Proofs.Ytbjcolglkegicab.Mq
open Go.ChangeShapes Go.WideShapes Go.ChangeAt Go.RowKit Rg
set_option linter.unusedVariables false
theorem run_make_rowN {P : Program} (t e : TypeId) (i : TypeInfo) (z : Value) (ht : P.underlying t = some (.slice e)) (hi : P.info? e = some i) (hz : i.zero = some z)
    (kl kc : IntKind) (n c : Nat) (hnc : n ≤ c) (hbytes : i.bytes * c ≤ 281474976710656) (h63 : c ≤ 9223372036854775807) (w : World) :
    (Instr.makeSlice t (.int kl (n : Int)) (.int kc (c : Int))).run P w = .ok (.slice (some ⟨w.heap.size, 0, none⟩) n c) (w.alloc (.cells (madeCells z.cells (c * i.size)) e)) := by
  have hb : (i.bytes : Int) * (c : Int) ≤ 281474976710656 := by
    have h : ((i.bytes * c : Nat) : Int) ≤ 281474976710656 := by omega
    rwa [Int.natCast_mul] at h
  have hr := run_make (P := P) w t e i z ht hi hz kl kc n c (by omega) (by omega) hb (by omega)
  simp only [Int.toNat_natCast] at hr
  exact hr
theorem infoMq : (Try.prog.info? 33).map (fun i => (i.zero, i.size, i.bytes)) = some (some (.agg #[.int .i32 0, .nilIface]), 2, 24) := by kernel_rfl
abbrev fB : ByteArray := ⟨#[102]⟩
/-- one query's two cells -/
def mqc (l : Int) (g : Nat) : List Value := [.int .i32 l, .iface 87 (.pointer (some ⟨g, 0, none⟩))]
def rowc (L : Nat → Int) (G : Nat → Nat) (n : Nat) : List Value := (List.range n).flatMap fun i => mqc (L i) (G i)
theorem rowc_succ (L : Nat → Int) (G : Nat → Nat) (n : Nat) : rowc L G (n + 1) = rowc L G n ++ mqc (L n) (G n) := by
  simp [rowc, List.range_succ, List.flatMap_append]
theorem rowc_len (L : Nat → Int) (G : Nat → Nat) : ∀ n, (rowc L G n).length = n * 2
  | 0 => rfl
  | n + 1 => by rw [rowc_succ, List.length_append, rowc_len L G n]; simp [mqc]; omega
theorem rowc_at (L : Nat → Int) (G : Nat → Nat) : ∀ n i, i < n → (rowc L G n)[i * 2]? = some (.int .i32 (L i)) ∧ (rowc L G n)[i * 2 + 1]? = some (.iface 87 (.pointer (some ⟨G i, 0, none⟩)))
  | 0, _, h => absurd h (by omega)
  | n + 1, i, h => by
    rw [rowc_succ]
    have hl := rowc_len L G n
    by_cases e : i = n
    · subst e
      rw [List.getElem?_append_right (by omega), List.getElem?_append_right (by omega), hl]
      simp [mqc]
    · rw [List.getElem?_append_left (by omega), List.getElem?_append_left (by omega)]
      exact rowc_at L G n i (by omega)
theorem rowc_congr {L L' : Nat → Int} {G G' : Nat → Nat} : ∀ n, (∀ j, j < n → L j = L' j ∧ G j = G' j) → rowc L G n = rowc L' G' n
  | 0, _ => rfl
  | n + 1, h => by rw [rowc_succ, rowc_succ, rowc_congr n (fun j hj => h j (by omega)), (h n (by omega)).1, (h n (by omega)).2]
theorem rowc_one (L : Nat → Int) (G : Nat → Nat) (n : Nat) : ∀ u ∈ rowc L G n, u.oneCell' = true := by
  intro u hu
  simp only [rowc, List.mem_flatMap, mqc] at hu
  obtain ⟨i, _, h⟩ := hu
  simp at h
  rcases h with rfl | rfl <;> rfl
/-- a plain query's block -/
def PB (w : World) (g : Nat) : Prop := w.heap[g]? = some (.cells #[.string fB, .slice none 0 0] 90 (0, 0))
theorem PB.lt {w : World} {g : Nat} (h : PB w g) : g < w.heap.size := by
  rcases Nat.lt_or_ge g w.heap.size with hlt | hge
  · exact hlt
  · unfold PB at h; rw [Array.getElem?_eq_none hge] at h; cases h
theorem PB.below {w w' : World} {g B : Nat} (h : PB w g) (hb : Below B w w') (hg : g < B) : PB w' g := (hb.block g hg).trans h
theorem PB.keep {w w' : World} {g : Nat} (h : PB w g) (hb : Below w.heap.size w w') : PB w' g := h.below hb h.lt
theorem PB.grown {w w' : World} {g : Nat} {row : Option Nat} (h : PB w g) (hb : w.grownBy w' row) (hne : some g ≠ row) : PB w' g := (hb.block g h.lt hne).trans h
theorem PB.ne_row {w : World} {g B n : Nat} {v : Value} {xs : List Value} (h : PB w g) (ho : w.ownsRow B 33 2 v n xs) : some g ≠ v.ownBlock := by
  rcases ho.2 with ⟨rfl, _⟩ | ⟨g', cap, cur, rfl, _, hh, _⟩
  · simp [Value.ownBlock]
  · intro he
    have : g = g' := by simpa [Value.ownBlock] using he
    subst this
    unfold PB at h
    rw [h] at hh
    simp at hh
theorem PB.cell {w : World} {g : Nat} (h : PB w g) : w.cell? ⟨g, 0, none⟩ = some (.string fB) ∧ w.cell? ⟨g, 1, none⟩ = some (.slice none 0 0) := by
  unfold PB at h
  exact ⟨cell_of_row w g 0 _ _ _ h, cell_of_row w g 1 _ _ _ h⟩
/-- what ZZplainQuery answers -/
def PQ (l : Int) (w : World) (e : Ending) (w' : World) : Prop := ∃ g, e = .returned (.agg #[.int .i32 l, .iface 87 (.pointer (some ⟨g, 0, none⟩))]) ∧ PB w' g ∧ w.heap.size ≤ g ∧ Below w.heap.size w w'
set_option maxRecDepth 100000 in
set_option maxHeartbeats 1000000 in
theorem plain_any (l : Int) (w : World) : Calls Try.prog 9 #[.agg #[.int .i32 l], .string fB, .slice none 0 0] w (PQ l w) := by
  go_enter Try.func9, Try.ntmps9
  go_wp2
  refine bodyPost_ret (v := .agg #[.int .i32 l, .iface 87 (.pointer (some ⟨w.heap.size + 2, 0, none⟩))]) (by simp [results, Try.results9, go_sem]) rfl ⟨w.heap.size + 2, rfl, ?_, by omega, ?_⟩
  · have h := heap_alloc_new ((w.alloc (.cells #[.int .i32 l] 29)).alloc (.cells #[.int .i32 l, .iface 87 (.pointer (some ⟨w.heap.size + 1 + 1, 0, none⟩))] 33)) (.cells #[.string fB, .slice none 0 0] 90)
    unfold PB
    simpa using h
  · exact (((Below.refl _ _).alloc (Nat.le_refl _) _).alloc (by simp) _).alloc (by simp; omega) _
theorem own_keep {w w' : World} {B : Nat} {e : TypeId} {s n : Nat} {v : Value} {xs : List Value} (h : w.ownsRow B e s v n xs) (hb : Below w.heap.size w w') : w'.ownsRow B e s v n xs :=
  h.kept (row := none) ⟨hb.os, hb.tape, hb.output, hb.size, fun k hk _ => hb.block k hk⟩ (by cases v.ownBlock <;> simp)
theorem mqc_one (l : Int) (g : Nat) : ∀ u ∈ mqc l g, u.oneCell' = true := by
  intro u hu
  simp [mqc] at hu
  rcases hu with rfl | rfl <;> rfl
/-- a run of n plain queries with locations b, b + 1, .. -/
def RUN (B n : Nat) (b : Int) (v : Value) (G : Nat → Nat) (w0 w : World) : Prop :=
  (∃ g c, v = .slice (some ⟨g, 0, none⟩) n c) ∧ w.ownsRow B 33 2 v n (rowc (fun j => b + j) G n) ∧ (∀ j, j < n → PB w (G j)) ∧ Below B w0 w ∧ B ≤ w.heap.size
def Run (n : Nat) (b : Int) (w : World) (e : Ending) (w' : World) : Prop := ∃ v G, e = .returned v ∧ RUN w.heap.size n b v G w w'
set_option maxRecDepth 100000 in
set_option maxHeartbeats 2000000 in
theorem run_any (n : Nat) (b : Int) (hn : (n : Int) ≤ 4096) (hb0 : 0 ≤ b) (hb1 : b ≤ 1048576) (w : World) :
    Calls Try.prog 5 #[.int .i64 n, .int .i32 b] w (Run n b w) := by
  obtain ⟨i0, hi, hz0, hz1, hz2⟩ := info_parts infoMq
  have hmk := fun W => run_make_rowN (P := Try.prog) 25 33 i0 _ (by kernel_rfl) hi hz0 .i64 .i64 0 n (Nat.zero_le _) (by rw [hz2]; omega) (by omega) W
  rw [hz1] at hmk
  have hmk0 : ∀ W : World, (Instr.makeSlice 25 (.int .i64 0) (.int .i64 n)).run Try.prog W = .ok (.slice (some ⟨W.heap.size, 0, none⟩) 0 n) (W.alloc (.cells (madeCells #[.int .i32 0, .nilIface] (n * 2)) 33)) := hmk
  clear hmk
  have HI := Lib.hid (And.intro hi (And.intro hz0 (And.intro hz1 hz2)))
  have HR0 := Lib.hid (show RUN w.heap.size 0 b (.slice (some ⟨w.heap.size, 0, none⟩) 0 n) (fun _ => 0) w (w.alloc (.cells (madeCells #[.int .i32 0, .nilIface] (n * 2)) 33)) from
    ⟨⟨_, _, rfl⟩, World.ownsRow_made w _ n (Nat.le_refl _) (by unfold maxLen; omega) (by simp [madeCells]), fun j hj => absurd hj (by omega), (Below.refl _ _).alloc (Nat.le_refl _) _, by simp⟩)
  clear hi hz0 hz1 hz2
  go_enter Try.func5, Try.ntmps5
  go_wp2_with fail
  generalize (World.alloc _ _ : World) = wA at HR0 ⊢
  have HR : ∃ (k : Nat) (v : Value) (G : Nat → Nat), k = 0 ∧ v = .slice (some ⟨w.heap.size, 0, none⟩) 0 n ∧ Hid (RUN w.heap.size k b v G w wA) := ⟨0, _, _, rfl, rfl, HR0⟩
  clear HR0 hmk0
  go_loopw [5, 6] (fun v i wr => ∃ (k : Nat) (G : Nat → Nat), k ≤ n ∧ i = .int .i64 k ∧ Hid (RUN w.heap.size k b v G w wr)) (fun _ i _ => n - (intOf i).toNat)
  case atStart =>
    obtain ⟨k, v, G, rfl, rfl, HR⟩ := HR
    exact ⟨0, G, Nat.zero_le _, rfl, HR⟩
  case round =>
    clear HR
    obtain ⟨k, G, hk, rfl, HR⟩ := hrel
    by_cases hlt : k < n
    · have q0 : (0 : Int) ≤ k := by omega
      have q1 : (k : Int) < n := by omega
      have hl : (n : Int) ≤ 4096 := hn
      go_wp2_with fail
      refine (plain_any (b + k) wr).mono ?_
      rintro e w1 ⟨g, rfl, hp, hg, hb⟩
      have HO := Lib.hid ((own_keep HR.out.2.1 hb).alloc (.cells #[.int .i32 (b + k), .iface 87 (.pointer (some ⟨g, 0, none⟩))] 33))
      have HP := Lib.hid (show ∀ j, j < k → PB w1 (G j) from fun j hj => (HR.out.2.2.1 j hj).keep hb)
      have HB := Lib.hid (HR.out.2.2.2.1.trans (hb.mono HR.out.2.2.2.2))
      have HS := Lib.hid (show w.heap.size ≤ w1.heap.size from Nat.le_trans HR.out.2.2.2.2 hb.size)
      have Hp := Lib.hid hp
      clear hp hb hg HR
      go_wp2_with (first
        | (at_builtin
           refine wpList_append_lies _ rfl (.tmp 14) (.tmp 21) _ rfl w.heap.size 33 i0 _ 2 24 Try.underlying25 HI.out.1 HI.out.2.1 HI.out.2.2.1 HI.out.2.2.2 rfl (by omega) u5 k (rowc (fun j => b + j) G k) (by rfl) HO.out ⟨w1.heap.size, 0, none⟩ 1 1 (mqc (b + k) g) (by rfl) (by rfl) (World.news_of_block (heap_alloc_new w1 _)) (mqc_one _ _) (by omega) (by unfold maxLen; omega) (by omega) (by have := HS.out; simp; omega) (w1.heap.size + 1) (by simp) ?_
           intro g2 cap w2 hown hgrow hat hlt2))
      have HN : Hid (RUN w.heap.size (k + 1) b (.slice (some ⟨g2, 0, none⟩) (k + 1) cap) (fun j => if j = k then g else G j) w w2) := by
        have hgr := hgrow
        refine ⟨⟨_, _, rfl⟩, ?_, fun j hj => ?_, ?_, ?_⟩
        · rw [rowc_succ]
          have e1 : rowc (fun j => b + j) (fun j => if j = k then g else G j) k = rowc (fun j => b + j) G k := rowc_congr k fun j hj => ⟨rfl, by simp; omega⟩
          rw [e1]
          simpa using hown
        · have hj2 : PB w1 ((fun j => if j = k then g else G j) j) := by
            by_cases e : j = k
            · simp only [e, if_true]; exact Hp.out
            · simp only [e, if_false]; exact HP.out j (by omega)
          have h3 := hj2.keep ((Below.refl w1.heap.size w1).alloc (Nat.le_refl _) (.cells #[.int .i32 (b + k), .iface 87 (.pointer (some ⟨g, 0, none⟩))] 33))
          exact h3.grown hgrow (h3.ne_row HO.out)
        · exact (HB.out.alloc HS.out _).grown hgrow (by have := HS.out; simp; omega) (fun q hq => (HO.out.lt q hq).1)
        · have := hgrow.size; have := HS.out; simp at *; omega
      clear hown hgrow hat hlt2 HO HP HB HS Hp
      go_roundw
      case rel => exact ⟨k + 1, _, by omega, by go_num, HN⟩
      case measure => simp [intOf]; omega
    · obtain rfl : k = n := by omega
      go_wp2_with fail
      go_ret
      exact ⟨_, G, rfl, HR.out⟩
end Go.Proofs.Ytbjcolglkegicab.Mq
