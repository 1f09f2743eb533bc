/-
  What is given: names, compounds; the builders of one pseudo-class, of the places.
-/
import Derived.Test.YtaiofdgiabmelaaFmtUg
namespace Go.Proofs.YtaiofdgiabmelaaFmt.Sb
open Go.ChangeShapes Go.WideShapes Go.ChangeAt Go.RowKit Rg
set_option linter.unusedVariables false
set_option linter.unusedSimpArgs false
/-- a given list of names -/
def NmV (X : Nat → Prop) (w : World) (v : Value) (N : List ByteArray) : Prop :=
  ∃ a c, v = .slice a N.length c ∧ ∀ i (h : i < N.length), ∃ g o, a = some ⟨g, o, none⟩ ∧ X g ∧ w.cell? ⟨g, o + i, none⟩ = some (.string N[i])
/-- a given list of compounds -/
def CmV (X : Nat → Prop) (w : World) (v : Value) (L : List Cm) : Prop :=
  ∃ a c, v = .slice a L.length c ∧ ∀ i (h : i < L.length), ∃ g o u, a = some ⟨g, o, none⟩ ∧ X g ∧ w.rangeAt g (o + i * 3) [.int .u8 L[i].cb, .int .u8 L[i].am, u] ∧ NmV X w u L[i].N
theorem NmV.ag {X : Nat → Prop} {w w' : World} {v : Value} {N : List ByteArray} (h : NmV X w v N) (ha : ∀ b, X b → w'.heap[b]? = w.heap[b]?) : NmV X w' v N := by
  obtain ⟨a, c, h1, h2⟩ := h
  refine ⟨a, c, h1, fun i hi => ?_⟩
  obtain ⟨g, o, e, hX, hc⟩ := h2 i hi
  exact ⟨g, o, e, hX, by rw [World.cell?_of_block (a := ⟨g, o + i, none⟩) (ha g hX)]; exact hc⟩
theorem CmV.ag {X : Nat → Prop} {w w' : World} {v : Value} {L : List Cm} (h : CmV X w v L) (ha : ∀ b, X b → w'.heap[b]? = w.heap[b]?) : CmV X w' v L := by
  obtain ⟨a, c, h1, h2⟩ := h
  refine ⟨a, c, h1, fun i hi => ?_⟩
  obtain ⟨g, o, u, e, hX, hc, hn⟩ := h2 i hi
  exact ⟨g, o, u, e, hX, rg_ag (ha g hX) hc, hn.ag ha⟩
section
variable {P : Program}
/-- append of two rows, in a drawn region -/
theorem step_app2 {ops : Array Oper} {o : Oper} {a : Act} {w : World} {K : Act → World → Prop} {Q : Exit → Act → World → Prop} {E : Prop} (hgd : o.guard = none) (s x : Operand) (t : TypeId)
    (ho : o.op = .call { callee := .builtin .append, args := #[s, x], argTypes := #[t, t] })
    (base : Nat) (e : TypeId) (i : TypeInfo) (z : Value) (size bytes : Nat) (ht : P.underlying t = some (.slice e)) (hi : P.info? e = some i) (hz : i.zero = some z)
    (hsize : i.size = size) (hby : i.bytes = bytes) (hzs : z.cells.size = size) (hsz : 0 < size)
    (v : Value) (n : Nat) (xs : List Value) (hs : a.eval s = v) (hown : w.ownsRow base e size v n xs)
    (u : Value) (b2 m : Nat) (ys : List Value) (hx : a.eval x = u) (hown2 : w.ownsRow b2 e size u m ys) (h1 : ∀ y ∈ ys, y.oneCell' = true)
    (h63 : n + m ≤ maxLen) (hbytes : (n + m) * bytes ≤ 140737488355328) (hbase : base ≤ w.heap.size)
    (h : ∀ v' w', w'.ownsRow base e size v' (n + m) (xs ++ ys) → w.grownBy w' v.ownBlock → (v'.ownBlock = v.ownBlock ∨ v'.ownBlock = some w.heap.size) → K (a.put o.dst v') w') :
    if Region.wanted o (yielded ops a.tmps) = true then Oper.wp P o a w K Q else E := by
  have hw : Region.wanted o (yielded ops a.tmps) = true := by simp [Region.wanted, hgd]
  rw [if_pos hw]
  have hex : ∃ v' w', (Builtin.append_ #[t, t] o.type #[v, u]).run P w = .ok v' w' ∧ w'.ownsRow base e size v' (n + m) (xs ++ ys) ∧ w.grownBy w' v.ownBlock ∧ (v'.ownBlock = v.ownBlock ∨ v'.ownBlock = some w.heap.size) := by
    rcases hown2.2 with ⟨rfl, rfl⟩ | ⟨g, cap, cur, rfl, _⟩
    · have hy : ys = [] := List.eq_nil_of_length_eq_zero (by simpa using hown2.1)
      subst hy
      exact ⟨v, w, run_append_nil2 w base t o.type e i size ht hi v n xs hown, by simpa using hown, ⟨rfl, rfl, rfl, Nat.le_refl _, fun _ _ _ => rfl⟩, .inl rfl⟩
    · obtain ⟨v', w', hr, h2, h3, _, h5⟩ := run_append_own_at (P := P) w base t o.type e i z size bytes ht hi hz hsize hby hzs hsz v n xs hown ⟨g, 0, none⟩ m cap ys hown2.1 (hown2.cells rfl) h1 h63 hbytes hbase
      exact ⟨v', w', hr, h2, h3, h5⟩
  obtain ⟨v', w', hr, h2, h3, h5⟩ := hex
  unfold Oper.wp execOp
  simp only [ho, resolve, invoke, builtin, Sem.run_bind, Sem.run_pure, Result.andThen_ok, List.map_toArray, List.map_cons, List.map_nil, hs, hx, hr]
  exact h v' w' h2 h3 h5
end
set_option maxRecDepth 100000 in
set_option maxHeartbeats 1000000 in
theorem loc_any (am : Nat) (ham : am ≤ 255) (w : World) : Calls Tryf.prog 19 #[.int .i64 (am : Nat)] w
    (fun e w' => e = .returned (.slice (some ⟨w.heap.size, 0, none⟩) am am) ∧ w' = w.alloc (.cells (madeCells #[.int .i32 0] (am * 1)) 37)) := by
  obtain ⟨i0, hi0, hz0, hz1, hz2⟩ := info_parts infoLoc
  have hmk : ∀ W : World, (Instr.makeSlice 35 (.int .i64 (am : Int)) (.int .i64 (am : Int))).run Tryf.prog W = .ok (.slice (some ⟨W.heap.size, 0, none⟩) am am) (W.alloc (.cells (madeCells #[.int .i32 0] (am * 1)) 37)) := fun W => by
    have h := run_make_rowN (P := Tryf.prog) 35 37 i0 _ (by kernel_rfl) hi0 hz0 .i64 .i64 am am (by omega) (by rw [hz2]; omega) (by omega) W
    rw [hz1] at h
    exact h
  clear hi0 hz0 hz1 hz2
  go_enter Tryf.func19, Tryf.ntmps19
  go_wp2_with fail
  go_ret
  exact ⟨rfl, by rw [Nat.mul_one]⟩
set_option maxRecDepth 100000 in
set_option maxHeartbeats 1000000 in
theorem psd_any (nm : ByteArray) (w : World) : Calls Tryf.prog 20 #[.string nm] w
    (fun e w' => ∃ q, e = .returned (.agg #[.iface 124 (.pointer (some ⟨q, 0, none⟩)), .int .i32 0, .int .i32 0]) ∧ w'.rangeAt q 0 (psc nm) ∧ w.heap.size ≤ q ∧ q < w'.heap.size ∧ Below w.heap.size w w') := by
  go_enter Tryf.func20, Tryf.ntmps20
  go_upto_region 1 with fail
  go_wp2_with fail
  obtain ⟨b, hb⟩ : ∃ b, b = w.heap.size := ⟨_, rfl⟩
  obtain ⟨q, hq⟩ : ∃ q, q = w.heap.size + 1 := ⟨_, rfl⟩
  rw [← hq, ← hb]
  have h1 : Below w.heap.size w (w.alloc (.cells #[.iface 124 (.pointer (some ⟨q, 0, none⟩)), .int .i32 0, .int .i32 0] 56)) := (Below.refl _ _).alloc (Nat.le_refl _) _
  have r1 := rg_new w #[.iface 124 (.pointer (some ⟨q, 0, none⟩)), .int .i32 0, .int .i32 0] 56
  have s1 : (w.alloc (.cells #[.iface 124 (.pointer (some ⟨q, 0, none⟩)), .int .i32 0, .int .i32 0] 56)).heap.size = q := by rw [World.size_alloc, hq]
  rw [← hb] at r1
  generalize w.alloc (.cells #[.iface 124 (.pointer (some ⟨q, 0, none⟩)), .int .i32 0, .int .i32 0] 56) = x1 at *
  have h2 : Below x1.heap.size x1 (x1.alloc (.cells #[.string nm, .slice none 0 0, .bool false] 127)) := (Below.refl _ _).alloc (Nat.le_refl _) _
  have r2 := rg_new x1 #[.string nm, .slice none 0 0, .bool false] 127
  have s2 : (x1.alloc (.cells #[.string nm, .slice none 0 0, .bool false] 127)).heap.size = q + 1 := by rw [World.size_alloc, s1]
  rw [s1] at r2
  have hr := rg_keep h2 r1
  generalize x1.alloc _ = x2 at *
  obtain ⟨dS, hS, hS2⟩ := tySub
  exact bodyPost_ret (results_cell_mid rfl _ _ b 0 [.iface 124 (.pointer (some ⟨q, 0, none⟩)), .int .i32 0, .int .i32 0] dS rfl hr hS hS2 szSub) rfl ⟨q, rfl, r2, by omega, by omega, by rw [hb]; exact h1.trans (h2.mono h1.size)⟩
/-- the builder's boxes: what is given, what comes out; the names so far -/
def BC (b1 b2 b3 : Nat) (cb : Int) (am : Nat) (u vs vn : Value) (N : List ByteArray) (k : Nat) (w0 w : World) : Prop :=
  (w.rangeAt b1 0 [.int .u8 cb, .int .u8 (am : Nat), u] ∧ w.there b2 0 6 ∧ w.rangeAt b3 0 (cmc vs vn cb) ∧ w.there b3 0 6) ∧ FCm (fun b => b3 < b ∧ b < w.heap.size) w ⟨vs, vn, ⟨cb, am, N.take k⟩⟩ ∧ (vs.ownBlock = none ∨ 0 < k) ∧ Below w0.heap.size w0 w
theorem BC.keep {b1 b2 b3 : Nat} {cb : Int} {am : Nat} {u vs vn : Value} {N : List ByteArray} {k : Nat} {w0 w w' : World} (h : BC b1 b2 b3 cb am u vs vn N k w0 w) (hb : Below w.heap.size w w') : BC b1 b2 b3 cb am u vs vn N k w0 w' := by
  obtain ⟨⟨h1, h2, h3, h4⟩, h5, h6, h7⟩ := h
  exact ⟨⟨rg_keep hb h1, th_keep hb h2, rg_keep hb h3, th_keep hb h4⟩, (h5.ag (ag_below (fun b h => h.2) hb)).more (fun b h => ⟨h.1, Nat.lt_of_lt_of_le h.2 hb.size⟩), h6, h7.trans (hb.mono h7.size)⟩
/-- one name more -/
theorem BC.put {b1 b2 b3 : Nat} {cb : Int} {am : Nat} {u vs vn : Value} {N : List ByteArray} {k q : Nat} {w0 w w' : World} {v' : Value} (h : BC b1 b2 b3 cb am u vs vn N k w0 w) (hk : k < N.length) (hq : w.rangeAt q 0 (psc N[k])) (hq2 : b3 < q ∧ q < w.heap.size)
    (hb : w0.heap.size ≤ b1 ∧ b1 < b2 ∧ b2 < b3) {P : List (Nat × ByteArray)} (hP : w.ownsRow 0 56 3 vs P.length (P.flatMap spc)) (hPN : P.map (·.2) = N.take k) (hPX : ∀ g, vs.ownBlock = some g → b3 < g) (hPp : ∀ x ∈ P, b3 < x.1 ∧ x.1 < w.heap.size ∧ w.rangeAt x.1 0 (psc x.2))
    (ho : w'.ownsRow 0 56 3 v' (P.length + 1) (P.flatMap spc ++ sbc q)) (hg : w.grownBy w' vs.ownBlock) (hv : v'.ownBlock = vs.ownBlock ∨ v'.ownBlock = some w.heap.size) :
    BC b1 b2 b3 cb am u v' vn N (k + 1) w0 (w'.setCell ⟨b3, 1, none⟩ v') := by
  obtain ⟨⟨h1, h2, h3, h4⟩, ⟨-, an, cn, hvn, hloc⟩, h6, h7⟩ := h
  have hPk : P.length = k := by
    have := congrArg List.length hPN
    rw [List.length_map, List.length_take] at this
    omega
  have hb3 : b3 < w.heap.size := by omega
  have hv3 : ∀ g, v'.ownBlock = some g → b3 < g := fun g e => by
    rcases hv with h | h
    · exact hPX g (by rw [← h, e])
    · rw [h] at e; injection e with e; omega
  have hrow0 : ∀ g x, vs.ownBlock = some g → w.cell? ⟨g, 0, none⟩ = some x → ∃ p, x = .iface 124 p := fun g x hg hx => by
    have hk0 : 0 < P.length := by
      rcases h6 with h | h
      · rw [h] at hg; cases hg
      · omega
    obtain ⟨y, P', rfl⟩ : ∃ y P', P = y :: P' := by
      cases P with
      | nil => simp at hk0
      | cons y P' => exact ⟨y, P', rfl⟩
    obtain ⟨g', c', rfl, -, -⟩ := hP.form hk0
    obtain rfl : g' = g := by simpa [Value.ownBlock] using hg
    have h := hP.cellAt 0 (by simp)
    rw [hx] at h
    simp [spc, sbc] at h
    exact ⟨_, h⟩
  have hne : ∀ g x, w.cell? ⟨g, 0, none⟩ = some x → (∀ p, x ≠ .iface 124 p) → some g ≠ vs.ownBlock := fun g x hx hp e => by
    obtain ⟨p, hpe⟩ := hrow0 g x e.symm hx
    exact hp p hpe
  have hset : ∀ b, b ≠ b3 → (w'.setCell ⟨b3, 1, none⟩ v').heap[b]? = w'.heap[b]? := fun b hb => heap_setCell_other w' _ b _ hb
  have hsz : (w'.setCell ⟨b3, 1, none⟩ v').heap.size = w'.heap.size := by simp [World.setCell]
  have hlow : ∀ b, b ≤ b3 → w'.heap[b]? = w.heap[b]? := fun b hb => hg.block b (by omega) (fun e => by have := hPX b e.symm; omega)
  have hkeep : ∀ g x, b3 < g → g < w.heap.size → w.cell? ⟨g, 0, none⟩ = some x → (∀ p, x ≠ .iface 124 p) → (w'.setCell ⟨b3, 1, none⟩ v').heap[g]? = w.heap[g]? := fun g x h1 h2 h3 h4 => (hset g (by omega)).trans (hg.block g h2 (hne g x h3 h4))
  have hps : ∀ g nm, b3 < g → g < w.heap.size → w.rangeAt g 0 (psc nm) → (w'.setCell ⟨b3, 1, none⟩ v').rangeAt g 0 (psc nm) := fun g nm h1 h2 h3 =>
    rg_ag (hkeep g _ h1 h2 (by have := h3 0 _ rfl; simpa using this) (by intro p e; cases e)) h3
  refine ⟨⟨rg_ag ((hset b1 (by omega)).trans (hlow b1 (by omega))) h1, th_ag ((hset b2 (by omega)).trans (hlow b2 (by omega))) h2, cm_set1 (rg_ag (hlow b3 (Nat.le_refl _)) h3), World.there_setCells (th_ag (hlow b3 (Nat.le_refl _)) h4) b3 1 [v']⟩, ⟨⟨P ++ [(q, N[k])], ?_, ?_, fun g e => ?_, fun x hx => ?_⟩, an, cn, hvn, fun j hj => ?_⟩, .inr (by omega), ?_⟩
  · rw [List.length_append, List.flatMap_append]
    have h : (w'.setCell ⟨b3, 1, none⟩ v').ownsRow 0 56 3 v' (P.length + 1) (P.flatMap spc ++ sbc q) := own_fars (b := b3) (fun e => by have := hv3 b3 e; omega) [v'] 1 ho
    simpa [spc] using h
  · rw [List.map_append, hPN, List.take_succ_eq_append_getElem hk]
    rfl
  · rw [hsz]
    exact ⟨hv3 g e, (ho.lt g e).2⟩
  · rw [hsz]
    rcases List.mem_append.1 hx with h | h
    · have := hPp x h
      exact ⟨⟨this.1, Nat.lt_of_lt_of_le this.2.1 hg.size⟩, hps _ _ this.1 this.2.1 this.2.2⟩
    · obtain rfl : x = (q, N[k]) := by simpa using h
      exact ⟨⟨hq2.1, Nat.lt_of_lt_of_le hq2.2 hg.size⟩, hps _ _ hq2.1 hq2.2 hq⟩
  · obtain ⟨g, e, hgX, hc⟩ := hloc j hj
    obtain ⟨g', e', hgX', hc'⟩ := hloc 0 (Nat.lt_of_le_of_lt (Nat.zero_le j) hj)
    obtain rfl : g = g' := by rw [e] at e'; simpa using e'
    refine ⟨g, e, ⟨hgX.1, by rw [hsz]; exact Nat.lt_of_lt_of_le hgX.2 hg.size⟩, ?_⟩
    exact cell_ag (hkeep g _ hgX.1 hgX.2 hc' (by intro p e; cases e)) hc
  · have hb7 : Below w0.heap.size w0 w' := by
      refine h7.trans ⟨hg.os, hg.tape, hg.output, hg.size, fun i hi => hlow i (by omega)⟩
    exact hb7.setCell (by show w0.heap.size ≤ b3; omega) _
theorem bc_start (cb : Int) (am : Nat) (u : Value) (w : World) (T1 T2 T3 : TypeId) (W : World) (hW : ((w.alloc (.cells #[.int .u8 cb, .int .u8 (am : Nat), u] T1)).alloc (.cells #[.pointer none, .slice none 0 0, .slice none 0 0, .int .i32 0, .int .u8 0, .bool false] T2)).alloc (.cells #[.pointer none, .slice none 0 0, .slice none 0 0, .int .i32 0, .int .u8 cb, .bool false] T3) = W) :
    (W.rangeAt w.heap.size 0 [.int .u8 cb, .int .u8 (am : Nat), u] ∧ W.there (w.heap.size + 1) 0 6 ∧ W.rangeAt (w.heap.size + 1 + 1) 0 (cmc (.slice none 0 0) (.slice none 0 0) cb) ∧ W.there (w.heap.size + 1 + 1) 0 6) ∧ Below w.heap.size w W ∧ W.heap.size = w.heap.size + 1 + 1 + 1 := by
  have h1 : Below w.heap.size w (w.alloc (.cells #[.int .u8 cb, .int .u8 (am : Nat), u] T1)) := (Below.refl _ _).alloc (Nat.le_refl _) _
  have r1 := rg_new w #[.int .u8 cb, .int .u8 (am : Nat), u] T1
  have s1 : (w.alloc (.cells #[.int .u8 cb, .int .u8 (am : Nat), u] T1)).heap.size = w.heap.size + 1 := World.size_alloc _ _
  generalize w.alloc (.cells #[.int .u8 cb, .int .u8 (am : Nat), u] T1) = x1 at *
  have h2 : Below x1.heap.size x1 (x1.alloc (.cells #[.pointer none, .slice none 0 0, .slice none 0 0, .int .i32 0, .int .u8 0, .bool false] T2)) := (Below.refl _ _).alloc (Nat.le_refl _) _
  have t2 := th_new x1 #[.pointer none, .slice none 0 0, .slice none 0 0, .int .i32 0, .int .u8 0, .bool false] T2 (n := 6) rfl
  have s2 : (x1.alloc (.cells #[.pointer none, .slice none 0 0, .slice none 0 0, .int .i32 0, .int .u8 0, .bool false] T2)).heap.size = w.heap.size + 1 + 1 := by rw [World.size_alloc, s1]
  rw [s1] at t2
  generalize x1.alloc _ = x2 at *
  have h3 : Below x2.heap.size x2 (x2.alloc (.cells #[.pointer none, .slice none 0 0, .slice none 0 0, .int .i32 0, .int .u8 cb, .bool false] T3)) := (Below.refl _ _).alloc (Nat.le_refl _) _
  have t3 := th_new x2 #[.pointer none, .slice none 0 0, .slice none 0 0, .int .i32 0, .int .u8 cb, .bool false] T3 (n := 6) rfl
  have r3 := rg_new x2 #[.pointer none, .slice none 0 0, .slice none 0 0, .int .i32 0, .int .u8 cb, .bool false] T3
  have s3 : (x2.alloc (.cells #[.pointer none, .slice none 0 0, .slice none 0 0, .int .i32 0, .int .u8 cb, .bool false] T3)).heap.size = w.heap.size + 1 + 1 + 1 := by rw [World.size_alloc, s2]
  rw [s2] at t3 r3
  subst hW
  exact ⟨⟨rg_keep h3 (rg_keep h2 r1), th_keep h3 t2, r3, t3⟩, (h1.trans (h2.mono h1.size)).trans (h3.mono (Nat.le_trans h1.size h2.size)), s3⟩
theorem u8_i64 (am : Nat) (h : am ≤ 255) : IntKind.i64.wrap (am : Int) = (am : Int) := by
  simp [IntKind.wrap, IntKind.bits, IntKind.signed]
  omega
set_option maxRecDepth 100000 in
set_option maxHeartbeats 8000000 in
theorem bc_any (X : Nat → Prop) (cb : Int) (am : Nat) (u : Value) (N : List ByteArray) (w : World) (ham : am ≤ 255) (hN : N.length ≤ 1048576) (hX : ∀ b, X b → b < w.heap.size) (hu : NmV X w u N) :
    Calls Tryf.prog 8 #[.agg #[.int .u8 cb, .int .u8 (am : Nat), u]] w
      (fun e w' => ∃ sa sn sc an cn, e = .returned (.agg #[.pointer none, .slice sa sn sc, .slice an am cn, .int .i32 0, .int .u8 cb, .bool false]) ∧ FCm (fun b => w.heap.size ≤ b ∧ b < w'.heap.size) w' ⟨.slice sa sn sc, .slice an am cn, ⟨cb, am, N⟩⟩ ∧ Below w.heap.size w w') := by
  obtain ⟨a, c, rfl, hn⟩ := hu
  have HU := Lib.hid (And.intro hn hX)
  obtain ⟨n, hnn⟩ : ∃ n, n = N.length := ⟨_, rfl⟩
  have HN := Lib.hid hnn
  rw [← hnn] at hN ⊢
  clear hn hX hnn
  go_enter Tryf.func8, Tryf.ntmps8
  go_upto_region 3 with fail
  generalize hW : World.alloc (World.alloc (World.alloc _ _) _) _ = w3
  have hst := bc_start cb am (.slice a n c) w _ _ _ w3 hW
  clear hW
  obtain ⟨b1, hb1⟩ : ∃ b, b = w.heap.size := ⟨_, rfl⟩
  obtain ⟨b2, hb2⟩ : ∃ b, b = b1 + 1 := ⟨_, rfl⟩
  obtain ⟨b3, hb3⟩ : ∃ b, b = b2 + 1 := ⟨_, rfl⟩
  rw [← hb1, ← hb2, ← hb3]
  rw [← hb1, ← hb2, ← hb3] at hst
  have HB := Lib.hid (show w.heap.size = b1 ∧ b1 < b2 ∧ b2 < b3 ∧ w3.heap.size = b3 + 1 from ⟨by omega, by omega, by omega, hst.2.2⟩)
  have H3 := Lib.hid hst
  clear hst hb1 hb2 hb3
  have c1 := H3.out.1.1 1 _ rfl
  simp only [Nat.zero_add] at c1
  have hwr := u8_i64 am ham
  have HAM := Lib.hid ham
  clear ham
  by_cases h0 : am = 0
  · subst h0
    go_upto_block 0 with fail
    have HBC := Lib.hid (show BC b1 b2 b3 cb 0 (.slice a n c) (.slice none 0 0) (.slice none 0 0) N 0 w w3 from ⟨H3.out.1, ⟨⟨[], by simpa using World.ownsRow_nil _ _ _ _, by simp, fun g hg => by simp [Value.ownBlock] at hg, fun x hx => by cases hx⟩, none, 0, rfl, fun j hj => absurd hj (Nat.not_lt_zero _)⟩, .inl rfl, by rw [HB.out.1]; exact H3.out.2.1⟩)
    clear H3 c1 hwr
    -- <part
    refine wp_block ?_
    go_loopw [4] (fun i wr => ∃ (k : Nat) (vs : Value), k ≤ n ∧ i = .int .i64 (k : Nat) ∧ Hid (BC b1 b2 b3 cb 0 (.slice a n c) vs (.slice none 0 0) N k w wr)) (fun i _ => n - (intOf i).toNat)
    case atStart => exact ⟨0, .slice none 0 0, Nat.zero_le _, rfl, HBC⟩
    case round =>
      clear HBC
      obtain ⟨k, vs, hk, rfl, HV⟩ := hrel
      obtain ⟨⟨P, hP, hPN, hPX, hPp⟩, -⟩ := HV.out.2.1
      dsimp only at hP hPN hPX hPp
      obtain ⟨sa, sc, rfl⟩ := own_slice hP
      obtain ⟨pn, hpn⟩ : ∃ n, n = P.length := ⟨_, rfl⟩
      have HPN := Lib.hid (And.intro hpn hPN)
      have hpk : pn ≤ 1048576 := by have h := congrArg List.length hPN; rw [List.length_map, List.length_take] at h; have := HN.out; omega
      rw [← hpn] at HV hP hPX
      have HP := Lib.hid (And.intro hP (And.intro hPX hPp))
      clear hP hPN hPX hPp hpn
      by_cases hlt : k < n
      · as_aux_lemma =>
        have q0 : (0 : Int) ≤ k := by omega
        have q1 : (k : Int) < (n : Nat) := by omega
        have kN : k < N.length := by have := HN.out; omega
        obtain ⟨g, o, rfl, hXg, hcell⟩ := HU.out.1 k kN
        have HXg := Lib.hid (show g < w.heap.size from HU.out.2 g hXg)
        have HVD := Lib.hid (HV.out.keep ((Below.refl _ _).drew))
        have HS0 := Lib.hid (show wr.drew.cell? ⟨b3, 1, none⟩ = some (.slice sa pn sc) ∧ wr.drew.cell? ⟨b1, 2, none⟩ = some (.slice (some ⟨g, o, none⟩) n c) ∧ wr.drew.cell? ⟨g, o + k, none⟩ = some (.string N[k]) from
          ⟨by have h := HVD.out.1.2.2.1 1 _ rfl; rw [Nat.zero_add] at h; exact h, by have h := HVD.out.1.1 2 _ rfl; rw [Nat.zero_add] at h; exact h, later HVD.out.2.2.2 hcell⟩)
        have c12 := HV.out.1.1 2 _ rfl
        simp only [Nat.zero_add] at c12
        obtain ⟨nm, hnm⟩ : ∃ x, x = N[k] := ⟨_, rfl⟩
        rw [← hnm] at HS0
        have HNM := Lib.hid hnm
        clear hcell hXg hnm
        go_upto_region 8 with fail
        clear c12
        have HWD := Lib.hid (show Below wr.heap.size wr wr.drew from (Below.refl _ _).drew)
        have HP0 := Lib.hid (show wr.drew.ownsRow 0 56 3 (.slice sa pn sc) pn (P.flatMap spc) from own_keep HP.out.1 ((Below.refl _ _).drew))
        obtain ⟨i1, ji, jz0, jz1, jz2⟩ := info_parts infoSub
        have HJ := Lib.hid (And.intro ji (And.intro jz0 (And.intro jz1 jz2)))
        clear ji jz0 jz1 jz2
        refine Pl.wp_region_split (fun w' => w'.cell? ⟨b3, 1, none⟩ = some (.slice sa pn sc) ∧ w'.cell? ⟨b1, 2, none⟩ = some (.slice (some ⟨g, o, none⟩) n c) ∧ w'.cell? ⟨g, o + k, none⟩ = some (.string nm)) 9 (by kernel_rfl) (by kernel_rfl) ?_
        simp only [List.take_succ_cons, List.take_zero]
        have hHeld := HS0.out
        refine Pl.take_l (i := 0) (v := ?v1) rfl (by kernel_rfl) (by kernel_rfl) (by kernel_rfl) (fun _ _ _ h => h) rfl ?hy1 hHeld ?rest1
        case hy1 => (intro w hSw; (try dsimp only at hSw); (obtain ⟨_, _, _⟩ := hSw); go_simp <;> (try with_reducible rfl))
        try simp only [Act.put, List.setIfInBounds_toArray, List.set_cons_zero, List.set_cons_succ]
        refine Pl.take_l (i := 1) (v := ?v2) rfl (by kernel_rfl) (by kernel_rfl) (by kernel_rfl) (fun _ _ _ h => h) rfl ?hy2 hHeld ?rest2
        case hy2 => (intro w hSw; (try dsimp only at hSw); (obtain ⟨_, _, _⟩ := hSw); go_simp <;> (try with_reducible rfl))
        try simp only [Act.put, List.setIfInBounds_toArray, List.set_cons_zero, List.set_cons_succ]
        refine Pl.take_l (i := 2) (v := ?v3) rfl (by kernel_rfl) (by kernel_rfl) (by kernel_rfl) (fun _ _ _ h => h) rfl ?hy3 hHeld ?rest3
        case hy3 => (intro w hSw; (try dsimp only at hSw); (obtain ⟨_, _, _⟩ := hSw); go_simp <;> (try with_reducible rfl))
        try simp only [Act.put, List.setIfInBounds_toArray, List.set_cons_zero, List.set_cons_succ]
        refine Pl.take_l (i := 3) (v := ?v4) rfl (by kernel_rfl) (by kernel_rfl) (by kernel_rfl) (fun _ _ _ h => h) rfl ?hy4 hHeld ?rest4
        case hy4 => (intro w hSw; (try dsimp only at hSw); (obtain ⟨_, _, _⟩ := hSw); go_simp <;> (try with_reducible rfl))
        try simp only [Act.put, List.setIfInBounds_toArray, List.set_cons_zero, List.set_cons_succ]
        refine Pl.take_l (i := 4) (v := ?v5) rfl (by kernel_rfl) (by kernel_rfl) (by kernel_rfl) (fun _ _ _ h => h) rfl ?hy5 hHeld ?rest5
        case hy5 => (intro w hSw; (try dsimp only at hSw); (obtain ⟨_, _, _⟩ := hSw); go_simp <;> (try with_reducible rfl))
        try simp only [Act.put, List.setIfInBounds_toArray, List.set_cons_zero, List.set_cons_succ]
        refine Pl.take_l (i := 5) (v := ?v6) rfl (by kernel_rfl) (by kernel_rfl) (by kernel_rfl) (fun _ _ _ h => h) rfl ?hy6 hHeld ?rest6
        case hy6 => (intro w hSw; (try dsimp only at hSw); (obtain ⟨_, _, _⟩ := hSw); go_simp <;> (try with_reducible rfl))
        try simp only [Act.put, List.setIfInBounds_toArray, List.set_cons_zero, List.set_cons_succ]
        refine Pl.take_l (i := 6) (v := ?v7) rfl (by kernel_rfl) (by kernel_rfl) (by kernel_rfl) (fun _ _ _ h => h) rfl ?hy7 hHeld ?rest7
        case hy7 => (intro w hSw; (try dsimp only at hSw); (obtain ⟨_, _, _⟩ := hSw); go_simp <;> (try with_reducible rfl))
        try simp only [Act.put, List.setIfInBounds_toArray, List.set_cons_zero, List.set_cons_succ]
        generalize World.drew _ = wd at *
        refine Pl.alone_l (i := 7) (by kernel_rfl) rfl (fun K hK => ?_)
        go_simp; refine (psd_any nm wd).mono ?_; rintro e w6 ⟨q, rfl, hq1, hq2, hq3, hq4⟩; have HQ := Lib.hid (And.intro hq1 (And.intro hq2 (And.intro hq3 hq4))); clear hq1 hq2 hq3 hq4; dsimp only
        refine hK.out _ _ (⟨later HQ.out.2.2.2 HS0.out.1, later HQ.out.2.2.2 HS0.out.2.1, later HQ.out.2.2.2 HS0.out.2.2⟩) (fun hHeld2 => ?_)
        clear hK K hHeld
        have hHeld := hHeld2
        clear hHeld2
        try simp only [Act.put, List.setIfInBounds_toArray, List.set_cons_zero, List.set_cons_succ]
        have hal8 : Below w6.heap.size w6 (w6.alloc (.cells (sbc q).toArray 56)) := (Below.refl _ _).alloc (Nat.le_refl _) _
        have hwd8 := HQ.out.2.2.2.trans (hal8.mono HQ.out.2.2.2.size)
        have ho8 := World.ownsRow_lit (base := 0) (e := 56) (size := 3) w6 (sbc q).toArray 1 (Nat.zero_le _) (by unfold maxLen; omega) rfl
        have H8 := Lib.hid (show BC b1 b2 b3 cb 0 (.slice (some ⟨g, o, none⟩) n c) (.slice sa pn sc) (.slice none 0 0) N k w (w6.alloc (.cells (sbc q).toArray 56)) ∧ (w6.alloc (.cells (sbc q).toArray 56)).ownsRow 0 56 3 (.slice sa pn sc) pn (P.flatMap spc) ∧ (w6.alloc (.cells (sbc q).toArray 56)).rangeAt q 0 (psc nm) ∧ Below wd.heap.size wd (w6.alloc (.cells (sbc q).toArray 56)) ∧ b3 < q ∧ q < (w6.alloc (.cells (sbc q).toArray 56)).heap.size from
          ⟨HVD.out.keep hwd8, own_keep HP0.out hwd8, rg_keep hal8 HQ.out.1, hwd8, by have := th_lt HVD.out.1.2.2.2 (by omega); have := HQ.out.2.1; omega, Nat.lt_of_lt_of_le HQ.out.2.2.1 hal8.size⟩)
        have HO8 := Lib.hid ho8
        have hs8 := H8.out.2.2.2.1
        clear hal8 hwd8 ho8
        have hbs := bs_sub 124 q w6
        refine Pl.alone_l (i := 8) (by kernel_rfl) rfl (fun K hK => ?_)
        refine step_bs1 rfl 34 (.tmp 31) rfl _ _ _ ?hx hbs ?_; case hx => (show _ = _; rfl)
        refine hK.out _ _ (⟨later hs8 HS0.out.1, later hs8 HS0.out.2.1, later hs8 HS0.out.2.2⟩) (fun hHeld2 => ?_)
        clear hK K hHeld
        have hHeld := hHeld2
        clear hHeld2
        try simp only [Act.put, List.setIfInBounds_toArray, List.set_cons_zero, List.set_cons_succ]
        refine wpAnyH_done (by kernel_rfl) ?_ _
        refine Pl.behind_normal (by decide) ?_
        simp only [List.drop_succ_cons, List.drop_zero]
        clear hHeld
        obtain ⟨q8, hq8⟩ : ∃ g, g = w6.heap.size := ⟨_, rfl⟩
        rw [← hq8] at HO8 ⊢
        clear hs8 hq8 hbs
        change wpList _ _ _ _ _ (w6.alloc (.cells (sbc q).toArray 56))
        generalize w6.alloc _ = w8 at *
        refine wpl_app2 rfl (.tmp 25) (.tmp 32) _ rfl 0 56 i1 _ 3 24 Tryf.underlying34 HJ.out.1 HJ.out.2.1 HJ.out.2.2.1 HJ.out.2.2.2 rfl (by omega) (.slice sa pn sc) pn (P.flatMap spc) ?hs H8.out.2.1 (.slice (some ⟨q8, 0, none⟩) 1 1) 0 1 (sbc q) ?hx HO8.out (sbc_one q) (by unfold maxLen; omega) (by omega) (Nat.zero_le _) ?_
        case hs => exact rfl
        case hx => exact rfl
        intro v' w9 hown hgrow hat
        obtain ⟨va, vc, hv'⟩ := own_slice hown
        subst hv'
        have hrow3 : ∀ x, (Value.slice sa pn sc).ownBlock = some x → b3 < x := fun x hx => (HP.out.2.1 x hx).1
        have hb39 : w9.heap[b3]? = w8.heap[b3]? := hgrow.block b3 (th_lt H8.out.1.1.2.2.2 (by omega)) (fun e => by have := hrow3 b3 e.symm; omega)
        have t9 := th_ag hb39 H8.out.1.1.2.2.2
        have z9 := (t9 1 (by omega)).2
        obtain ⟨u9, hu9⟩ := Option.isSome_iff_exists.1 (t9 1 (by omega)).1
        simp only [Nat.zero_add] at z9 hu9
        go_wp2_with fail
        have hPp8 : ∀ x ∈ P, b3 < x.1 ∧ x.1 < w8.heap.size ∧ w8.rangeAt x.1 0 (psc x.2) := fun x hx => by
          have h := HP.out.2.2 x hx
          have hb8 : Below wr.heap.size wr w8 := HWD.out.trans (H8.out.2.2.2.1.mono HWD.out.size)
          exact ⟨h.1.1, Nat.lt_of_lt_of_le h.1.2 hb8.size, rg_ag (hb8.block _ h.1.2) h.2⟩
        have hN := Lib.hid (H8.out.1.put (q := q) (P := P) (by have := HN.out; omega) (by rw [← HNM.out]; exact H8.out.2.2.1) H8.out.2.2.2.2 (by have := HB.out; omega) (by rw [← HPN.out.1]; exact H8.out.2.1) HPN.out.2 hrow3 hPp8 (by rw [← HPN.out.1]; exact hown) hgrow hat)
        first
          | exact ⟨⟨k + 1, by omega, by go_num, _, hN⟩, by simp [intOf]; omega⟩
          | exact ⟨⟨k + 1, Value.slice va (pn + 1) vc, by omega, by go_num, hN⟩, by simp [intOf]; omega⟩
      · as_aux_lemma =>
        have hkn : n = k := by omega
        subst hkn
        obtain ⟨dC, hC, hC2⟩ := tyCmp
        have c12 := HV.out.1.1 2 _ rfl
        simp only [Nat.zero_add] at c12
        go_upto_region 9 with fail
        clear c12
        have HON := Lib.hid (cmc_all sa none pn sc 0 0 cb)
        have HB2 := Lib.hid (World.rangeAt_setCells_same wr b2 0 (cmc (.slice sa pn sc) (.slice none 0 0) cb) HV.out.1.2.1)
        have HF := Lib.hid (show FCm (fun b => w.heap.size ≤ b ∧ b < (wr.setCells b2 0 (cmc (.slice sa pn sc) (.slice none 0 0) cb)).heap.size) (wr.setCells b2 0 (cmc (.slice sa pn sc) (.slice none 0 0) cb)) ⟨.slice sa pn sc, .slice none 0 0, ⟨cb, 0, N⟩⟩ ∧ Below w.heap.size w (wr.setCells b2 0 (cmc (.slice sa pn sc) (.slice none 0 0) cb)) from by
          have hsz := size_setCells b2 (cmc (.slice sa pn sc) (.slice none 0 0) cb) 0 wr
          refine ⟨?_, below_setCells (by have := HB.out; omega) _ _ HV.out.2.2.2⟩
          have h := HV.out.2.1
          rw [show N.take n = N by rw [HN.out]; exact List.take_length] at h
          exact (h.ag (fun b hb => World.heap_setCells_other wr b2 0 _ (i := b) hb.2 (by have := HB.out; omega))).more (fun b hb => ⟨by have := HB.out; omega, by rw [hsz]; exact hb.2⟩))
        go_wp2_with (first
          | (refine wpList_load_mid rfl 41 _ rfl b3 0 rfl (cmc (.slice sa pn sc) (.slice none 0 0) cb) dC HV.out.1.2.2.1 hC hC2 szCmp ?_)
          | (refine wpList_store_mid rfl 41 _ _ rfl b2 0 #[.pointer none, .slice sa pn sc, .slice none 0 0, .int .i32 0, .int .u8 cb, .bool false] ?ha ?hv HV.out.1.2.1 szCmp HON.out ?_; (case ha => exact rfl); (case hv => exact rfl); (change wpList _ _ _ _ _ (World.setCells _ b2 0 (cmc (.slice sa pn sc) (.slice none 0 0) cb))); generalize World.setCells _ _ _ _ = w7 at *))
        exact bodyPost_ret (results_cell_mid rfl _ _ b2 0 (cmc (.slice sa pn sc) (.slice none 0 0) cb) dC rfl HB2.out hC hC2 szCmp) rfl ⟨sa, pn, sc, none, 0, rfl, HF.out.1, HF.out.2⟩
    -- part>
  · have h1 : (0 : Int) < am := by omega
    have HH := Lib.hid h0
    clear h0
    go_upto_region 4 with fail
    go_wp2_with fail
    refine (loc_any am HAM.out w3).mono ?_
    rintro e w4 ⟨rfl, hw4⟩
    have hb4 : Below w3.heap.size w3 w4 := by rw [hw4]; exact (Below.refl _ _).alloc (Nat.le_refl _) _
    have hl4 : ∀ j, j < am → w4.cell? ⟨w3.heap.size, j, none⟩ = some (.int .i32 0) := fun j hj => by
      rw [hw4]
      have h := rg_new w3 (madeCells #[.int .i32 0] (am * 1)) 37 j (.int .i32 0) (by rw [toList_madeCells_one, List.getElem?_replicate, if_pos (by omega)])
      rw [Nat.zero_add] at h
      exact h
    have hs4 : w3.heap.size < w4.heap.size := by rw [hw4, World.size_alloc]; exact Nat.lt_succ_self _
    have H4 := Lib.hid (show (w4.rangeAt b1 0 [.int .u8 cb, .int .u8 (am : Nat), .slice a n c] ∧ w4.there b2 0 6 ∧ w4.rangeAt b3 0 (cmc (.slice none 0 0) (.slice none 0 0) cb) ∧ w4.there b3 0 6) ∧ Below w.heap.size w w4 from
      ⟨⟨rg_keep hb4 H3.out.1.1, th_keep hb4 H3.out.1.2.1, rg_keep hb4 H3.out.1.2.2.1, th_keep hb4 H3.out.1.2.2.2⟩, by have h := H3.out.2.1; have h2 := HB.out.1; rw [← h2] at h; exact h.trans (hb4.mono h.size)⟩)
    obtain ⟨gl, hgl⟩ : ∃ g, g = w3.heap.size := ⟨_, rfl⟩
    rw [← hgl] at hl4 hs4 ⊢
    have HL4 := Lib.hid (And.intro hl4 (show b3 < gl ∧ gl < w4.heap.size from ⟨by have := HB.out; omega, hs4⟩))
    clear hw4 hb4 hl4 hs4 hgl H3 c1 hwr
    have g2 := H4.out.1.2.2.1 2 _ rfl
    have z2 := (H4.out.1.2.2.2 2 (by omega)).2
    simp only [Nat.zero_add] at g2 z2
    go_upto_block 0 with fail
    have hset : ∀ b, b ≠ b3 → (w4.setCell ⟨b3, 2, none⟩ (.slice (some ⟨gl, 0, none⟩) am am)).heap[b]? = w4.heap[b]? := fun b hb => heap_setCell_other w4 _ b _ hb
    have hsz : (w4.setCell ⟨b3, 2, none⟩ (.slice (some ⟨gl, 0, none⟩) am am)).heap.size = w4.heap.size := by simp [World.setCell]
    have HBC := Lib.hid (show BC b1 b2 b3 cb am (.slice a n c) (.slice none 0 0) (.slice (some ⟨gl, 0, none⟩) am am) N 0 w (w4.setCell ⟨b3, 2, none⟩ (.slice (some ⟨gl, 0, none⟩) am am)) from
      ⟨⟨rg_ag (hset b1 (by have := HB.out; omega)) H4.out.1.1, th_ag (hset b2 (by have := HB.out; omega)) H4.out.1.2.1, cm_set2 H4.out.1.2.2.1, World.there_setCells H4.out.1.2.2.2 b3 2 [.slice (some ⟨gl, 0, none⟩) am am]⟩,
        ⟨⟨[], by simpa using World.ownsRow_nil _ _ _ _, by simp, fun g hg => by simp [Value.ownBlock] at hg, fun x hx => by cases hx⟩, some ⟨gl, 0, none⟩, am, rfl, fun j hj => ⟨gl, rfl, ⟨HL4.out.2.1, by rw [hsz]; exact HL4.out.2.2⟩, cell_ag (hset gl (by have := HL4.out.2.1; omega)) (HL4.out.1 j hj)⟩⟩, .inl rfl, H4.out.2.setCell (by show w.heap.size ≤ b3; have := HB.out; omega) _⟩)
    clear hset hsz g2 z2 H4 HL4
    generalize w4.setCell _ _ = w5 at *
    -- <part
    refine wp_block ?_
    go_loopw [4] (fun i wr => ∃ (k : Nat) (vs : Value), k ≤ n ∧ i = .int .i64 (k : Nat) ∧ Hid (BC b1 b2 b3 cb am (.slice a n c) vs (.slice (some ⟨gl, 0, none⟩) am am) N k w wr)) (fun i _ => n - (intOf i).toNat)
    case atStart => exact ⟨0, .slice none 0 0, Nat.zero_le _, rfl, HBC⟩
    case round =>
      clear HBC
      obtain ⟨k, vs, hk, rfl, HV⟩ := hrel
      obtain ⟨⟨P, hP, hPN, hPX, hPp⟩, -⟩ := HV.out.2.1
      dsimp only at hP hPN hPX hPp
      obtain ⟨sa, sc, rfl⟩ := own_slice hP
      obtain ⟨pn, hpn⟩ : ∃ n, n = P.length := ⟨_, rfl⟩
      have HPN := Lib.hid (And.intro hpn hPN)
      have hpk : pn ≤ 1048576 := by have h := congrArg List.length hPN; rw [List.length_map, List.length_take] at h; have := HN.out; omega
      rw [← hpn] at HV hP hPX
      have HP := Lib.hid (And.intro hP (And.intro hPX hPp))
      clear hP hPN hPX hPp hpn
      by_cases hlt : k < n
      · as_aux_lemma =>
        have q0 : (0 : Int) ≤ k := by omega
        have q1 : (k : Int) < (n : Nat) := by omega
        have kN : k < N.length := by have := HN.out; omega
        obtain ⟨g, o, rfl, hXg, hcell⟩ := HU.out.1 k kN
        have HXg := Lib.hid (show g < w.heap.size from HU.out.2 g hXg)
        have HVD := Lib.hid (HV.out.keep ((Below.refl _ _).drew))
        have HS0 := Lib.hid (show wr.drew.cell? ⟨b3, 1, none⟩ = some (.slice sa pn sc) ∧ wr.drew.cell? ⟨b1, 2, none⟩ = some (.slice (some ⟨g, o, none⟩) n c) ∧ wr.drew.cell? ⟨g, o + k, none⟩ = some (.string N[k]) from
          ⟨by have h := HVD.out.1.2.2.1 1 _ rfl; rw [Nat.zero_add] at h; exact h, by have h := HVD.out.1.1 2 _ rfl; rw [Nat.zero_add] at h; exact h, later HVD.out.2.2.2 hcell⟩)
        have c12 := HV.out.1.1 2 _ rfl
        simp only [Nat.zero_add] at c12
        obtain ⟨nm, hnm⟩ : ∃ x, x = N[k] := ⟨_, rfl⟩
        rw [← hnm] at HS0
        have HNM := Lib.hid hnm
        clear hcell hXg hnm
        go_upto_region 8 with fail
        clear c12
        have HWD := Lib.hid (show Below wr.heap.size wr wr.drew from (Below.refl _ _).drew)
        have HP0 := Lib.hid (show wr.drew.ownsRow 0 56 3 (.slice sa pn sc) pn (P.flatMap spc) from own_keep HP.out.1 ((Below.refl _ _).drew))
        obtain ⟨i1, ji, jz0, jz1, jz2⟩ := info_parts infoSub
        have HJ := Lib.hid (And.intro ji (And.intro jz0 (And.intro jz1 jz2)))
        clear ji jz0 jz1 jz2
        refine Pl.wp_region_split (fun w' => w'.cell? ⟨b3, 1, none⟩ = some (.slice sa pn sc) ∧ w'.cell? ⟨b1, 2, none⟩ = some (.slice (some ⟨g, o, none⟩) n c) ∧ w'.cell? ⟨g, o + k, none⟩ = some (.string nm)) 9 (by kernel_rfl) (by kernel_rfl) ?_
        simp only [List.take_succ_cons, List.take_zero]
        have hHeld := HS0.out
        refine Pl.take_l (i := 0) (v := ?v8) rfl (by kernel_rfl) (by kernel_rfl) (by kernel_rfl) (fun _ _ _ h => h) rfl ?hy8 hHeld ?rest8
        case hy8 => (intro w hSw; (try dsimp only at hSw); (obtain ⟨_, _, _⟩ := hSw); go_simp <;> (try with_reducible rfl))
        try simp only [Act.put, List.setIfInBounds_toArray, List.set_cons_zero, List.set_cons_succ]
        refine Pl.take_l (i := 1) (v := ?v9) rfl (by kernel_rfl) (by kernel_rfl) (by kernel_rfl) (fun _ _ _ h => h) rfl ?hy9 hHeld ?rest9
        case hy9 => (intro w hSw; (try dsimp only at hSw); (obtain ⟨_, _, _⟩ := hSw); go_simp <;> (try with_reducible rfl))
        try simp only [Act.put, List.setIfInBounds_toArray, List.set_cons_zero, List.set_cons_succ]
        refine Pl.take_l (i := 2) (v := ?v10) rfl (by kernel_rfl) (by kernel_rfl) (by kernel_rfl) (fun _ _ _ h => h) rfl ?hy10 hHeld ?rest10
        case hy10 => (intro w hSw; (try dsimp only at hSw); (obtain ⟨_, _, _⟩ := hSw); go_simp <;> (try with_reducible rfl))
        try simp only [Act.put, List.setIfInBounds_toArray, List.set_cons_zero, List.set_cons_succ]
        refine Pl.take_l (i := 3) (v := ?v11) rfl (by kernel_rfl) (by kernel_rfl) (by kernel_rfl) (fun _ _ _ h => h) rfl ?hy11 hHeld ?rest11
        case hy11 => (intro w hSw; (try dsimp only at hSw); (obtain ⟨_, _, _⟩ := hSw); go_simp <;> (try with_reducible rfl))
        try simp only [Act.put, List.setIfInBounds_toArray, List.set_cons_zero, List.set_cons_succ]
        refine Pl.take_l (i := 4) (v := ?v12) rfl (by kernel_rfl) (by kernel_rfl) (by kernel_rfl) (fun _ _ _ h => h) rfl ?hy12 hHeld ?rest12
        case hy12 => (intro w hSw; (try dsimp only at hSw); (obtain ⟨_, _, _⟩ := hSw); go_simp <;> (try with_reducible rfl))
        try simp only [Act.put, List.setIfInBounds_toArray, List.set_cons_zero, List.set_cons_succ]
        refine Pl.take_l (i := 5) (v := ?v13) rfl (by kernel_rfl) (by kernel_rfl) (by kernel_rfl) (fun _ _ _ h => h) rfl ?hy13 hHeld ?rest13
        case hy13 => (intro w hSw; (try dsimp only at hSw); (obtain ⟨_, _, _⟩ := hSw); go_simp <;> (try with_reducible rfl))
        try simp only [Act.put, List.setIfInBounds_toArray, List.set_cons_zero, List.set_cons_succ]
        refine Pl.take_l (i := 6) (v := ?v14) rfl (by kernel_rfl) (by kernel_rfl) (by kernel_rfl) (fun _ _ _ h => h) rfl ?hy14 hHeld ?rest14
        case hy14 => (intro w hSw; (try dsimp only at hSw); (obtain ⟨_, _, _⟩ := hSw); go_simp <;> (try with_reducible rfl))
        try simp only [Act.put, List.setIfInBounds_toArray, List.set_cons_zero, List.set_cons_succ]
        generalize World.drew _ = wd at *
        refine Pl.alone_l (i := 7) (by kernel_rfl) rfl (fun K hK => ?_)
        go_simp; refine (psd_any nm wd).mono ?_; rintro e w6 ⟨q, rfl, hq1, hq2, hq3, hq4⟩; have HQ := Lib.hid (And.intro hq1 (And.intro hq2 (And.intro hq3 hq4))); clear hq1 hq2 hq3 hq4; dsimp only
        refine hK.out _ _ (⟨later HQ.out.2.2.2 HS0.out.1, later HQ.out.2.2.2 HS0.out.2.1, later HQ.out.2.2.2 HS0.out.2.2⟩) (fun hHeld2 => ?_)
        clear hK K hHeld
        have hHeld := hHeld2
        clear hHeld2
        try simp only [Act.put, List.setIfInBounds_toArray, List.set_cons_zero, List.set_cons_succ]
        have hal8 : Below w6.heap.size w6 (w6.alloc (.cells (sbc q).toArray 56)) := (Below.refl _ _).alloc (Nat.le_refl _) _
        have hwd8 := HQ.out.2.2.2.trans (hal8.mono HQ.out.2.2.2.size)
        have ho8 := World.ownsRow_lit (base := 0) (e := 56) (size := 3) w6 (sbc q).toArray 1 (Nat.zero_le _) (by unfold maxLen; omega) rfl
        have H8 := Lib.hid (show BC b1 b2 b3 cb am (.slice (some ⟨g, o, none⟩) n c) (.slice sa pn sc) (.slice (some ⟨gl, 0, none⟩) am am) N k w (w6.alloc (.cells (sbc q).toArray 56)) ∧ (w6.alloc (.cells (sbc q).toArray 56)).ownsRow 0 56 3 (.slice sa pn sc) pn (P.flatMap spc) ∧ (w6.alloc (.cells (sbc q).toArray 56)).rangeAt q 0 (psc nm) ∧ Below wd.heap.size wd (w6.alloc (.cells (sbc q).toArray 56)) ∧ b3 < q ∧ q < (w6.alloc (.cells (sbc q).toArray 56)).heap.size from
          ⟨HVD.out.keep hwd8, own_keep HP0.out hwd8, rg_keep hal8 HQ.out.1, hwd8, by have := th_lt HVD.out.1.2.2.2 (by omega); have := HQ.out.2.1; omega, Nat.lt_of_lt_of_le HQ.out.2.2.1 hal8.size⟩)
        have HO8 := Lib.hid ho8
        have hs8 := H8.out.2.2.2.1
        clear hal8 hwd8 ho8
        have hbs := bs_sub 124 q w6
        refine Pl.alone_l (i := 8) (by kernel_rfl) rfl (fun K hK => ?_)
        refine step_bs1 rfl 34 (.tmp 31) rfl _ _ _ ?hx hbs ?_; case hx => (show _ = _; rfl)
        refine hK.out _ _ (⟨later hs8 HS0.out.1, later hs8 HS0.out.2.1, later hs8 HS0.out.2.2⟩) (fun hHeld2 => ?_)
        clear hK K hHeld
        have hHeld := hHeld2
        clear hHeld2
        try simp only [Act.put, List.setIfInBounds_toArray, List.set_cons_zero, List.set_cons_succ]
        refine wpAnyH_done (by kernel_rfl) ?_ _
        refine Pl.behind_normal (by decide) ?_
        simp only [List.drop_succ_cons, List.drop_zero]
        clear hHeld
        obtain ⟨q8, hq8⟩ : ∃ g, g = w6.heap.size := ⟨_, rfl⟩
        rw [← hq8] at HO8 ⊢
        clear hs8 hq8 hbs
        change wpList _ _ _ _ _ (w6.alloc (.cells (sbc q).toArray 56))
        generalize w6.alloc _ = w8 at *
        refine wpl_app2 rfl (.tmp 25) (.tmp 32) _ rfl 0 56 i1 _ 3 24 Tryf.underlying34 HJ.out.1 HJ.out.2.1 HJ.out.2.2.1 HJ.out.2.2.2 rfl (by omega) (.slice sa pn sc) pn (P.flatMap spc) ?hs H8.out.2.1 (.slice (some ⟨q8, 0, none⟩) 1 1) 0 1 (sbc q) ?hx HO8.out (sbc_one q) (by unfold maxLen; omega) (by omega) (Nat.zero_le _) ?_
        case hs => exact rfl
        case hx => exact rfl
        intro v' w9 hown hgrow hat
        obtain ⟨va, vc, hv'⟩ := own_slice hown
        subst hv'
        have hrow3 : ∀ x, (Value.slice sa pn sc).ownBlock = some x → b3 < x := fun x hx => (HP.out.2.1 x hx).1
        have hb39 : w9.heap[b3]? = w8.heap[b3]? := hgrow.block b3 (th_lt H8.out.1.1.2.2.2 (by omega)) (fun e => by have := hrow3 b3 e.symm; omega)
        have t9 := th_ag hb39 H8.out.1.1.2.2.2
        have z9 := (t9 1 (by omega)).2
        obtain ⟨u9, hu9⟩ := Option.isSome_iff_exists.1 (t9 1 (by omega)).1
        simp only [Nat.zero_add] at z9 hu9
        go_wp2_with fail
        have hPp8 : ∀ x ∈ P, b3 < x.1 ∧ x.1 < w8.heap.size ∧ w8.rangeAt x.1 0 (psc x.2) := fun x hx => by
          have h := HP.out.2.2 x hx
          have hb8 : Below wr.heap.size wr w8 := HWD.out.trans (H8.out.2.2.2.1.mono HWD.out.size)
          exact ⟨h.1.1, Nat.lt_of_lt_of_le h.1.2 hb8.size, rg_ag (hb8.block _ h.1.2) h.2⟩
        have hN := Lib.hid (H8.out.1.put (q := q) (P := P) (by have := HN.out; omega) (by rw [← HNM.out]; exact H8.out.2.2.1) H8.out.2.2.2.2 (by have := HB.out; omega) (by rw [← HPN.out.1]; exact H8.out.2.1) HPN.out.2 hrow3 hPp8 (by rw [← HPN.out.1]; exact hown) hgrow hat)
        first
          | exact ⟨⟨k + 1, by omega, by go_num, _, hN⟩, by simp [intOf]; omega⟩
          | exact ⟨⟨k + 1, Value.slice va (pn + 1) vc, by omega, by go_num, hN⟩, by simp [intOf]; omega⟩
      · as_aux_lemma =>
        have hkn : n = k := by omega
        subst hkn
        obtain ⟨dC, hC, hC2⟩ := tyCmp
        have c12 := HV.out.1.1 2 _ rfl
        simp only [Nat.zero_add] at c12
        go_upto_region 9 with fail
        clear c12
        have HON := Lib.hid (cmc_all sa (some ⟨gl, 0, none⟩) pn sc am am cb)
        have HB2 := Lib.hid (World.rangeAt_setCells_same wr b2 0 (cmc (.slice sa pn sc) (.slice (some ⟨gl, 0, none⟩) am am) cb) HV.out.1.2.1)
        have HF := Lib.hid (show FCm (fun b => w.heap.size ≤ b ∧ b < (wr.setCells b2 0 (cmc (.slice sa pn sc) (.slice (some ⟨gl, 0, none⟩) am am) cb)).heap.size) (wr.setCells b2 0 (cmc (.slice sa pn sc) (.slice (some ⟨gl, 0, none⟩) am am) cb)) ⟨.slice sa pn sc, .slice (some ⟨gl, 0, none⟩) am am, ⟨cb, am, N⟩⟩ ∧ Below w.heap.size w (wr.setCells b2 0 (cmc (.slice sa pn sc) (.slice (some ⟨gl, 0, none⟩) am am) cb)) from by
          have hsz := size_setCells b2 (cmc (.slice sa pn sc) (.slice (some ⟨gl, 0, none⟩) am am) cb) 0 wr
          refine ⟨?_, below_setCells (by have := HB.out; omega) _ _ HV.out.2.2.2⟩
          have h := HV.out.2.1
          rw [show N.take n = N by rw [HN.out]; exact List.take_length] at h
          exact (h.ag (fun b hb => World.heap_setCells_other wr b2 0 _ (i := b) hb.2 (by have := HB.out; omega))).more (fun b hb => ⟨by have := HB.out; omega, by rw [hsz]; exact hb.2⟩))
        go_wp2_with (first
          | (refine wpList_load_mid rfl 41 _ rfl b3 0 rfl (cmc (.slice sa pn sc) (.slice (some ⟨gl, 0, none⟩) am am) cb) dC HV.out.1.2.2.1 hC hC2 szCmp ?_)
          | (refine wpList_store_mid rfl 41 _ _ rfl b2 0 #[.pointer none, .slice sa pn sc, .slice (some ⟨gl, 0, none⟩) am am, .int .i32 0, .int .u8 cb, .bool false] ?ha ?hv HV.out.1.2.1 szCmp HON.out ?_; (case ha => exact rfl); (case hv => exact rfl); (change wpList _ _ _ _ _ (World.setCells _ b2 0 (cmc (.slice sa pn sc) (.slice (some ⟨gl, 0, none⟩) am am) cb))); generalize World.setCells _ _ _ _ = w7 at *))
        exact bodyPost_ret (results_cell_mid rfl _ _ b2 0 (cmc (.slice sa pn sc) (.slice (some ⟨gl, 0, none⟩) am am) cb) dC rfl HB2.out hC hC2 szCmp) rfl ⟨sa, pn, sc, (some ⟨gl, 0, none⟩), am, rfl, HF.out.1, HF.out.2⟩
    -- part>
end Go.Proofs.YtaiofdgiabmelaaFmt.Sb
