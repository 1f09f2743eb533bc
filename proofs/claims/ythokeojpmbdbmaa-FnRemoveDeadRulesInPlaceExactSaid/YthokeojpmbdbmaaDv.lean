/-
  The map of rules by their hashes.
-/
import Derived.Test.YthokeojpmbdbmaaDu
import Derived.Maps.OwnOps
import Derived.ChangeMaps5
namespace Go.Proofs.Ythokeojpmbdbmaa.Dr
open Go.ChangeShapes Go.WideShapes Go.ChangeAt Go.RowKit Rg
open Go.ChangeMaps (setBlock heap_setBlock_same heap_setBlock_other)
set_option linter.unusedVariables false
set_option linter.unusedSimpArgs false
/-- the rules of one hash: their row, their numbers -/
structure Bu where
  h : Int
  v : Value
  L : List Nat
def entG : Nat → List Bu → List MapEntry
  | _, [] => []
  | i, b :: r => ⟨.int .u32 b.h, .agg #[b.v], i⟩ :: entG (i + 1) r
def ixG (h : Int) : List Bu → Option Nat
  | [] => none
  | b :: r => if h = b.h then some 0 else (ixG h r).map (· + 1)
def valG (h : Int) : List Bu → Value
  | [] => .slice none 0 0
  | b :: r => if h = b.h then b.v else valG h r
def lstG (h : Int) : List Bu → List Nat
  | [] => []
  | b :: r => if h = b.h then b.L else lstG h r
def upG (h : Int) (v : Value) (L : List Nat) : List Bu → List Bu
  | [] => [⟨h, v, L⟩]
  | b :: r => if h = b.h then ⟨h, v, L⟩ :: r else b :: upG h v L r
theorem sameNow_u32 (a b : Int) : Instr.sameNow (.int .u32) (.int .u32 a) (.int .u32 b) = some (a == b) := rfl
theorem findG (h : Int) : ∀ (G : List Bu) (i k : Nat), Instr.findNow (.int .u32) (.int .u32 h) (entG i G) k = some ((ixG h G).map fun j => (k + j, .agg #[valG h G]))
  | [], i, k => rfl
  | b :: r, i, k => by
    rw [entG, Instr.findNow, sameNow_u32, ixG, valG]
    by_cases e : h = b.h
    · have : (h == b.h) = true := beq_iff_eq.2 e
      rw [this, if_pos e, if_pos e]; simp
    · have : (h == b.h) = false := beq_eq_false_iff_ne.2 e
      rw [this, if_neg e, if_neg e]
      simp only
      rw [findG h r (i + 1) (k + 1)]
      cases ixG h r with
      | none => rfl
      | some j => simp only [Option.map_some]; rw [show k + 1 + j = k + (j + 1) by omega]
theorem up_none {h : Int} (v : Value) (L : List Nat) : ∀ {G : List Bu} (i : Nat), ixG h G = none → entG i (upG h v L G) = entG i G ++ [⟨.int .u32 h, .agg #[v], i + G.length⟩] ∧ (upG h v L G).length = G.length + 1 ∧ valG h G = .slice none 0 0 ∧ lstG h G = [] ∧ ∀ b ∈ G, b.h ≠ h
  | [], i, _ => ⟨rfl, rfl, rfl, rfl, fun b hb => by cases hb⟩
  | b :: r, i, e => by
    rw [ixG] at e
    by_cases he : h = b.h
    · rw [if_pos he] at e; cases e
    · rw [if_neg he] at e
      obtain ⟨h1, h2, h3, h4, h5⟩ := up_none v L (i + 1) (Option.map_eq_none_iff.1 e)
      refine ⟨?_, ?_, ?_, ?_, ?_⟩
      · rw [upG, if_neg he, entG, h1, entG, List.cons_append, List.length_cons, show i + 1 + r.length = i + (r.length + 1) by omega]
      · rw [upG, if_neg he, List.length_cons, h2, List.length_cons]
      · rw [valG, if_neg he, h3]
      · rw [lstG, if_neg he, h4]
      · intro c hc
        rcases List.mem_cons.1 hc with rfl | hc
        · exact fun e => he e.symm
        · exact h5 c hc
theorem up_some {h : Int} (v : Value) (L : List Nat) : ∀ {G : List Bu} (i j : Nat), ixG h G = some j → entG i (upG h v L G) = (entG i G).modify j (fun e => { e with key := .int .u32 h, val := .agg #[v] }) ∧ (upG h v L G).length = G.length ∧ ((entG i G)[j]?).map (·.key) = some (.int .u32 h) ∧ ∃ b ∈ G, b.h = h ∧ b.v = valG h G ∧ b.L = lstG h G
  | [], i, j, e => by cases e
  | b :: r, i, j, e => by
    rw [ixG] at e
    by_cases he : h = b.h
    · rw [if_pos he] at e
      obtain rfl := Option.some.inj e
      refine ⟨?_, ?_, ?_, b, List.mem_cons_self, he.symm, ?_, ?_⟩
      · rw [upG, if_pos he, entG, entG]; rfl
      · rw [upG, if_pos he]; rfl
      · rw [entG, he]; rfl
      · rw [valG, if_pos he]
      · rw [lstG, if_pos he]
    · rw [if_neg he] at e
      obtain ⟨k, hk, rfl⟩ := Option.map_eq_some_iff.1 e
      obtain ⟨h1, h2, h3, c, hc, h4, h5, h6⟩ := up_some v L (i + 1) k hk
      refine ⟨?_, ?_, ?_, c, List.mem_cons_of_mem _ hc, h4, ?_, ?_⟩
      · rw [upG, if_neg he, entG, h1, entG]; rfl
      · rw [upG, if_neg he, List.length_cons, h2, List.length_cons]
      · rw [entG, List.getElem?_cons_succ, h3]
      · rw [valG, if_neg he, h5]
      · rw [lstG, if_neg he, h6]
def mapG (G : List Bu) : Obj := .map (entG 0 G).toArray G.length
theorem zeroHe (w : World) : (zeroValue 71).run Try.prog w = .ok (.agg #[.slice none 0 0]) w := by kernel_rfl
theorem lookG_run (w : World) (b : Nat) (G : List Bu) (h : Int) (hb : w.heap[b]? = some (mapG G)) :
    (Instr.lookup 31 (.map (some b)) (.int .u32 h) false).run Try.prog w = .ok (.agg #[valG h G]) w := by
  have hf := findG h G 0 0
  have hk : MapKept.IsKey (TypeDesc.int .u32) (.int .u32 h) := by first | trivial | rfl
  have h1 := MapKept.run_findKey (w := w) Try.underlying37 hf
  cases hx : ixG h G with
  | none =>
    rw [hx] at h1
    have hv := (up_none .nilIface [] 0 hx).2.2.1
    simp [Instr.lookup, run_underlying Try.underlying31, MapKept.run_getObj_map hb, MapKept.run_checkKey Try.underlying37 hk, h1, zeroHe, Result.andThen, hv]
  | some j =>
    rw [hx] at h1
    simp [Instr.lookup, run_underlying Try.underlying31, MapKept.run_getObj_map hb, MapKept.run_checkKey Try.underlying37 hk, h1, Result.andThen]
theorem updG_run (w : World) (b : Nat) (G : List Bu) (h : Int) (v : Value) (L : List Nat) (hb : w.heap[b]? = some (mapG G)) :
    (Instr.mapUpdate 31 (.map (some b)) (.int .u32 h) (.agg #[v])).run Try.prog w = .ok () (setBlock w b (mapG (upG h v L G))) := by
  have hf := findG h G 0 0
  have hk : MapKept.IsKey (TypeDesc.int .u32) (.int .u32 h) := by first | trivial | rfl
  have h1 := MapKept.run_findKey (w := w) Try.underlying37 hf
  cases hx : ixG h G with
  | none =>
    rw [hx] at h1
    obtain ⟨e1, e2, -, -, -⟩ := up_none v L 0 hx
    have e : mapG (upG h v L G) = .map ((entG 0 G).toArray.push ⟨.int .u32 h, .agg #[v], G.length⟩) (G.length + 1) := by
      rw [mapG, e1, e2]; simp
    rw [e]
    simp [Instr.mapUpdate, run_underlying Try.underlying31, MapKept.run_getObj_map hb, MapKept.run_checkKey Try.underlying37 hk, h1, MapKept.run_setObj_map _ hb, Result.andThen, setBlock]
  | some j =>
    rw [hx] at h1
    obtain ⟨e1, e2, e3, -⟩ := up_some v L 0 j hx
    have e : mapG (upG h v L G) = .map ((entG 0 G).toArray.modify j (fun e => { e with key := .int .u32 h, val := .agg #[v] })) G.length := by
      rw [mapG, e1, e2]; simp
    have hks := MapKept.run_keyThatStays (P := Try.prog) (w := w) hk
    rw [e]
    simp only [Option.map_some, Nat.zero_add] at h1
    simp [Instr.mapUpdate, run_underlying Try.underlying31, MapKept.run_getObj_map hb, MapKept.run_checkKey Try.underlying37 hk, h1, e3, hks, MapKept.run_setObj_map _ hb, Result.andThen, setBlock]
/-! what is in it -/
def ksG (G : List Bu) : List Int := G.map (·.h)
theorem lst_up (h h' : Int) (v : Value) (L : List Nat) : ∀ G : List Bu, lstG h' (upG h v L G) = if h' = h then L else lstG h' G
  | [] => by rw [upG]; simp only [lstG]
  | b :: r => by
    rw [upG]
    by_cases e : h = b.h
    · rw [if_pos e, lstG]
      by_cases e2 : h' = h
      · rw [if_pos e2, if_pos e2]
      · rw [if_neg e2, if_neg e2, lstG, if_neg (by rw [← e]; exact e2)]
    · rw [if_neg e, lstG, lst_up h h' v L r, lstG]
      by_cases e2 : h' = b.h
      · rw [if_pos e2, if_pos e2, if_neg (by rw [e2]; exact fun q => e q.symm)]
      · rw [if_neg e2, if_neg e2]
theorem mem_ks {G : List Bu} {b : Bu} (h : b ∈ G) : b.h ∈ ksG G := List.mem_map_of_mem h
theorem ks_up (h : Int) (v : Value) (L : List Nat) : ∀ (G : List Bu) (k : Int), k ∈ ksG (upG h v L G) ↔ k = h ∨ k ∈ ksG G
  | [], k => by simp [upG, ksG]
  | b :: r, k => by
    rw [upG]
    by_cases e : h = b.h
    · rw [if_pos e]; simp [ksG, e]
    · rw [if_neg e]
      have := ks_up h v L r k
      simp only [ksG, List.map_cons, List.mem_cons] at this ⊢
      rw [this]
      constructor
      · rintro (h | h | h)
        · exact .inr (.inl h)
        · exact .inl h
        · exact .inr (.inr h)
      · rintro (h | h | h)
        · exact .inr (.inl h)
        · exact .inl h
        · exact .inr (.inr h)
theorem nd_up (h : Int) (v : Value) (L : List Nat) : ∀ G : List Bu, (ksG G).Nodup → (ksG (upG h v L G)).Nodup
  | [], _ => by simp [upG, ksG]
  | b :: r, nd => by
    rw [upG]
    have n1 : b.h ∉ ksG r := (List.nodup_cons.1 nd).1
    have n2 : (ksG r).Nodup := (List.nodup_cons.1 nd).2
    by_cases e : h = b.h
    · rw [if_pos e]
      refine List.nodup_cons.2 ⟨?_, n2⟩
      show h ∉ ksG r
      rw [e]; exact n1
    · rw [if_neg e]
      refine List.nodup_cons.2 ⟨fun q => ?_, nd_up h v L r n2⟩
      rcases (ks_up h v L r b.h).1 q with q | q
      · exact e q.symm
      · exact n1 q
theorem mem_up (h : Int) (v : Value) (L : List Nat) : ∀ (G : List Bu) (x : Bu), (ksG G).Nodup → x ∈ upG h v L G → x = ⟨h, v, L⟩ ∨ (x ∈ G ∧ x.h ≠ h)
  | [], x, _, hx => by
    rw [upG] at hx
    exact .inl (List.mem_singleton.1 hx)
  | b :: r, x, nd, hx => by
    have n1 : b.h ∉ ksG r := (List.nodup_cons.1 nd).1
    have n2 : (ksG r).Nodup := (List.nodup_cons.1 nd).2
    rw [upG] at hx
    by_cases e : h = b.h
    · rw [if_pos e] at hx
      rcases List.mem_cons.1 hx with hx | hx
      · exact .inl hx
      · exact .inr ⟨List.mem_cons_of_mem _ hx, fun q => n1 (by rw [← e, ← q]; exact mem_ks hx)⟩
    · rw [if_neg e] at hx
      rcases List.mem_cons.1 hx with hx | hx
      · subst hx; exact .inr ⟨List.mem_cons_self, fun q => e q.symm⟩
      · rcases mem_up h v L r x n2 hx with h | h
        · exact .inl h
        · exact .inr ⟨List.mem_cons_of_mem _ h.1, h.2⟩
theorem look_case (h : Int) (G : List Bu) : (valG h G = .slice none 0 0 ∧ lstG h G = [] ∧ ∀ b ∈ G, b.h ≠ h) ∨ ∃ b ∈ G, b.h = h ∧ b.v = valG h G ∧ b.L = lstG h G := by
  cases hx : ixG h G with
  | none => exact .inl (up_none .nilIface [] 0 hx).2.2
  | some j => exact .inr (up_some .nilIface [] 0 j hx).2.2.2
/-! in memory -/
section
variable (P : Nat → Nat)
def reC (r : Nat) : List Value := [ifR (P r), .int .u32 0]
structure BuM (lo N : Nat) (G : List Bu) (w : World) : Prop where
  nd : (ksG G).Nodup
  row : ∀ b ∈ G, w.ownsRow lo 73 2 b.v b.L.length (b.L.flatMap (reC P)) ∧ b.L ≠ [] ∧ b.L.length ≤ N
  dis : ∀ x ∈ G, ∀ y ∈ G, x.v.ownBlock = y.v.ownBlock → x.h = y.h
end
section
variable {P : Nat → Nat} {lo N : Nat} {G : List Bu} {w w' : World}
theorem BuM.start : BuM P lo N [] w := ⟨by simp [ksG], fun b hb => (by cases hb), fun b hb => (by cases hb)⟩
theorem BuM.more (h : BuM P lo N G w) {M : Nat} (hm : N ≤ M) : BuM P lo M G w := ⟨h.nd, fun b hb => ⟨(h.row b hb).1, (h.row b hb).2.1, Nat.le_trans (h.row b hb).2.2 hm⟩, h.dis⟩
theorem BuM.other (h : BuM P lo N G w) (hb : ∀ b, lo ≤ b → b < w.heap.size → w'.heap[b]? = w.heap[b]?) : BuM P lo N G w' :=
  ⟨h.nd, fun b hm => ⟨own_ag (h.row b hm).1 (fun g hg => hb g ((h.row b hm).1.lt g hg).1 ((h.row b hm).1.lt g hg).2), (h.row b hm).2⟩, h.dis⟩
theorem BuM.keep (h : BuM P lo N G w) (hb : Below w.heap.size w w') : BuM P lo N G w' := h.other fun b _ h2 => hb.block b h2
theorem BuM.look (h : BuM P lo N G w) (k : Int) : w.ownsRow lo 73 2 (valG k G) (lstG k G).length ((lstG k G).flatMap (reC P)) ∧ (lstG k G).length ≤ N := by
  rcases look_case k G with ⟨h1, h2, -⟩ | ⟨b, hb, -, h2, h3⟩
  · rw [h1, h2]
    exact ⟨⟨rfl, .inl ⟨rfl, rfl⟩⟩, Nat.zero_le _⟩
  · rw [← h2, ← h3]
    exact ⟨(h.row b hb).1, (h.row b hb).2.2⟩
theorem BuM.up (h : BuM P lo N G w) {k : Int} {v' : Value} {r g : Nat} (ho : w'.ownsRow lo 73 2 v' ((lstG k G).length + 1) ((lstG k G).flatMap (reC P) ++ reC P r)) (hg : w.grownBy w' (valG k G).ownBlock)
    (hv : v'.ownBlock = some g) (ha : (valG k G).ownBlock = some g ∨ w.heap.size ≤ g) : BuM P lo (N + 1) (upG k v' (lstG k G ++ [r]) G) w' := by
  have hl := (h.look k).2
  -- another bucket's block
  have hne : ∀ x ∈ G, x.h ≠ k → ∀ b, x.v.ownBlock = some b → b < w.heap.size ∧ some b ≠ (valG k G).ownBlock := fun x hx hk b hb => by
    refine ⟨((h.row x hx).1.lt b hb).2, fun e => ?_⟩
    rcases look_case k G with ⟨h1, -, -⟩ | ⟨y, hy, h1, h2, -⟩
    · rw [h1] at e; cases e
    · exact hk ((h.dis x hx y hy (by rw [hb, e, h2])).trans h1)
  have hng : ∀ x ∈ G, x.h ≠ k → x.v.ownBlock ≠ some g := fun x hx hk e => by
    obtain ⟨h1, h2⟩ := hne x hx hk g e
    rcases ha with h | h
    · exact h2 h.symm
    · omega
  refine ⟨nd_up _ _ _ _ h.nd, fun x hx => ?_, fun x hx y hy e => ?_⟩
  · rcases mem_up _ _ _ _ _ h.nd hx with rfl | ⟨hx, hk⟩
    · refine ⟨?_, by simp, by simpa using hl⟩
      simp only [List.length_append, List.length_singleton, List.flatMap_append, List.flatMap_cons, List.flatMap_nil, List.append_nil]
      exact ho
    · have h1 := h.row x hx
      exact ⟨own_ag h1.1 (fun b hb => hg.block b (hne x hx hk b hb).1 (hne x hx hk b hb).2), h1.2.1, by omega⟩
  · rcases mem_up _ _ _ _ _ h.nd hx with rfl | ⟨hx, hk⟩ <;> rcases mem_up _ _ _ _ _ h.nd hy with rfl | ⟨hy, hk2⟩
    · rfl
    · exact absurd (e.symm.trans hv) (hng y hy hk2)
    · exact absurd (e.trans hv) (hng x hx hk)
    · exact h.dis x hx y hy e
end
/-- the buckets hold the kept rules -/
def SemG (H : Nat → Int) (K : List Nat) (G : List Bu) : Prop := ∀ h r, r ∈ lstG h G ↔ r ∈ K ∧ H r = h
theorem SemG.start (H : Nat → Int) : SemG H [] [] := fun h r => by simp [lstG]
theorem SemG.up {H : Nat → Int} {K : List Nat} {G : List Bu} (h : SemG H K G) (v : Value) (r : Nat) : SemG H (r :: K) (upG (H r) v (lstG (H r) G ++ [r]) G) := fun k x => by
  rw [lst_up]
  by_cases e : k = H r
  · rw [if_pos e, List.mem_append, h (H r) x, List.mem_singleton, List.mem_cons, e]
    constructor
    · rintro (⟨a, b⟩ | rfl)
      · exact ⟨.inr a, b⟩
      · exact ⟨.inl rfl, rfl⟩
    · rintro ⟨rfl | a, b⟩
      · exact .inr rfl
      · exact .inl ⟨a, b⟩
  · rw [if_neg e, h k x, List.mem_cons]
    constructor
    · rintro ⟨a, b⟩; exact ⟨.inr a, b⟩
    · rintro ⟨rfl | a, b⟩
      · exact absurd b.symm e
      · exact ⟨a, b⟩
end Go.Proofs.Ythokeojpmbdbmaa.Dr
