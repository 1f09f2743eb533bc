/-
  zzTok, zzIsTok, zzAccepted, ZZnewBoxTracker, ZZdeclOf, ZZhasData, ZZmangleSide.
-/
import Derived.Test.YtelanacgjjdmnaaDoorBd
import Derived.DeepKeys
import Derived.LaidEqlPtr
namespace Go.Proofs.YtelanacgjjdmnaaDoor.Bx
open Go.ChangeShapes Go.WideShapes Go.ChangeAt Go.RowKit Rg
set_option linter.unusedVariables false
set_option linter.unusedSimpArgs false
theorem tyTok : ∃ d, Tryd.prog.underlying 35 = some d ∧ d.isRow = true := ⟨_, Tryd.underlying35, rfl⟩
theorem szTok : (Tryd.prog.info? 35).map (·.size) = some 7 := by kernel_rfl
def tkG (t : ByteArray) (l k : Int) : List Value := [.pointer none, .string t, .int .i32 l, .int .u32 0, .int .u16 0, .int .u8 k, .int .u8 0]
theorem tkG_one (t : ByteArray) (l k : Int) : (tkG t l k).toArray.all (·.oneCell') = true := by simp [tkG, Value.oneCell']
set_option maxRecDepth 100000 in
set_option maxHeartbeats 2000000 in
theorem zt_any (c l : Int) (hc : 0 ≤ c ∧ c ≤ 4) (w : World) : Calls Tryd.prog 5 #[.int .u8 c, .int .i32 l] w fun e w' => e = .returned (.agg (tkR c l).toArray) ∧ Below w.heap.size w w' := by
  obtain ⟨du, hu, hu2⟩ := tyTok
  have al : ∀ (W : World) (o : Obj), Below W.heap.size W (W.alloc o) := fun W o => (Below.refl _ _).alloc (Nat.le_refl _) _
  have hTH : ∀ B : Obj, ((w.alloc (.cells #[.pointer none, .string ⟨#[]⟩, .int .i32 0, .int .u32 0, .int .u16 0, .int .u8 0, .int .u8 0] 35)).alloc B).there w.heap.size 0 7 := fun B => th_keep (al _ B) (th_new w _ _ rfl)
  have hBB : ∀ B : Obj, Below w.heap.size w ((w.alloc (.cells #[.pointer none, .string ⟨#[]⟩, .int .i32 0, .int .u32 0, .int .u16 0, .int .u8 0, .int .u8 0] 35)).alloc B) := fun B => ((Below.refl _ _).alloc (Nat.le_refl _) _).alloc (by simp) _
  have HTH := Lib.hid hTH
  have HBB := Lib.hid hBB
  have h : c = 0 ∨ c = 1 ∨ c = 2 ∨ c = 3 ∨ c = 4 := by omega
  clear hc al hTH hBB
  rcases h with rfl | rfl | rfl | rfl | rfl
  · go_enter Tryd.func5, Tryd.ntmps5
    go_wp2_with (first | (refine wpList_store_mid rfl 35 _ _ rfl w.heap.size 0 (tkG ⟨#[48]⟩ l 30).toArray rfl rfl (HTH.out _) szTok (tkG_one _ _ _) ?_))
    exact bodyPost_ret (results_cell_mid rfl _ _ w.heap.size 0 (tkG ⟨#[48]⟩ l 30) du rfl (World.rangeAt_setCells_same _ _ _ _ (HTH.out _)) hu hu2 szTok) rfl ⟨rfl, below_setCells (Nat.le_refl _) _ _ (HBB.out _)⟩
  · go_enter Tryd.func5, Tryd.ntmps5
    go_wp2_with (first | (refine wpList_store_mid rfl 35 _ _ rfl w.heap.size 0 (tkG ⟨#[49, 37]⟩ l 34).toArray rfl rfl (HTH.out _) szTok (tkG_one _ _ _) ?_))
    exact bodyPost_ret (results_cell_mid rfl _ _ w.heap.size 0 (tkG ⟨#[49, 37]⟩ l 34) du rfl (World.rangeAt_setCells_same _ _ _ _ (HTH.out _)) hu hu2 szTok) rfl ⟨rfl, below_setCells (Nat.le_refl _) _ _ (HBB.out _)⟩
  · go_enter Tryd.func5, Tryd.ntmps5
    go_wp2_with (first | (refine wpList_store_mid rfl 35 _ _ rfl w.heap.size 0 (tkG ⟨#[50, 37]⟩ l 34).toArray rfl rfl (HTH.out _) szTok (tkG_one _ _ _) ?_))
    exact bodyPost_ret (results_cell_mid rfl _ _ w.heap.size 0 (tkG ⟨#[50, 37]⟩ l 34) du rfl (World.rangeAt_setCells_same _ _ _ _ (HTH.out _)) hu hu2 szTok) rfl ⟨rfl, below_setCells (Nat.le_refl _) _ _ (HBB.out _)⟩
  · go_enter Tryd.func5, Tryd.ntmps5
    go_wp2_with (first | (refine wpList_store_mid rfl 35 _ _ rfl w.heap.size 0 (tkG ⟨#[97, 117, 116, 111]⟩ l 29).toArray rfl rfl (HTH.out _) szTok (tkG_one _ _ _) ?_))
    exact bodyPost_ret (results_cell_mid rfl _ _ w.heap.size 0 (tkG ⟨#[97, 117, 116, 111]⟩ l 29) du rfl (World.rangeAt_setCells_same _ _ _ _ (HTH.out _)) hu hu2 szTok) rfl ⟨rfl, below_setCells (Nat.le_refl _) _ _ (HBB.out _)⟩
  · go_enter Tryd.func5, Tryd.ntmps5
    go_wp2_with (first | (refine wpList_store_mid rfl 35 _ _ rfl w.heap.size 0 (tkG ⟨#[53]⟩ l 30).toArray rfl rfl (HTH.out _) szTok (tkG_one _ _ _) ?_))
    exact bodyPost_ret (results_cell_mid rfl _ _ w.heap.size 0 (tkG ⟨#[53]⟩ l 30) du rfl (World.rangeAt_setCells_same _ _ _ _ (HTH.out _)) hu hu2 szTok) rfl ⟨rfl, below_setCells (Nat.le_refl _) _ _ (HBB.out _)⟩
set_option maxRecDepth 100000 in
set_option maxHeartbeats 2000000 in
theorem za_any (c : Int) (m : Bool) (w : World) (hc : 0 ≤ c ∧ c ≤ 4) : Calls Tryd.prog 7 #[.int .u8 c, .bool m] w fun e w' => e = .returned (.bool (decide (c ≠ 3 ∨ m = true))) ∧ w' = w := by
  have h : c = 0 ∨ c = 1 ∨ c = 2 ∨ c = 3 ∨ c = 4 := by omega
  clear hc
  rcases h with rfl | rfl | rfl | rfl | rfl <;> cases m
  all_goals
    go_enter Tryd.func7, Tryd.ntmps7
    go_wp2_with fail
    go_ret
    exact ⟨rfl, rfl⟩
set_option maxRecDepth 100000 in
set_option maxHeartbeats 2000000 in
theorem zi_any (c l : Int) (w : World) (hc : 0 ≤ c ∧ c ≤ 4) : Calls Tryd.prog 10 #[.agg (tkR c l).toArray, .int .u8 c] w fun e w' => e = .returned (.bool true) ∧ Below w.heap.size w w' := by
  have hzt := fun W => zt_any c 0 hc W
  have h : c = 0 ∨ c = 1 ∨ c = 2 ∨ c = 3 ∨ c = 4 := by omega
  clear hc
  rcases h with rfl | rfl | rfl | rfl | rfl
  all_goals
    unfold tkR cT cK at hzt ⊢
    have HZT := Lib.hid hzt
    clear hzt
    go_enter Tryd.func10, Tryd.ntmps10
    go_wp2_with (first | (go_at_call 5; refine (HZT.out _).mono ?_; rintro e w1 ⟨rfl, hb⟩; have HB := Lib.hid (((Below.refl w.heap.size w).alloc (Nat.le_refl _) _).trans (hb.mono (by simp))); have d1 := later hb (Bk.cell (heap_alloc_new w _) 1 rfl); have d5 := later hb (Bk.cell (heap_alloc_new w _) 5 rfl); have e1 := fun o => alloc_cell d1 o; have e5 := fun o => alloc_cell d5 o; have hsz : w.heap.size ≤ w1.heap.size := HB.out.size; clear hb d1 d5))
    go_ret
    exact ⟨rfl, HB.out.alloc hsz _⟩
theorem ta_some (D : Value) (w : World) : (Instr.typeAssert (.iface 27 D) 43 27 true).run Tryd.prog w = .ok (.tuple #[D, .bool true]) w := by kernel_rfl
set_option maxRecDepth 100000 in
set_option maxHeartbeats 2000000 in
theorem do_any (d : Nat) (l : Int) (w : World) : Calls Tryd.prog 8 #[.agg #[.iface 27 (.pointer (some ⟨d, 0, none⟩)), .int .i32 l]] w fun e w' => e = .returned (.pointer (some ⟨d, 0, none⟩)) ∧ Below w.heap.size w w' := by
  have h1 := ta_some
  go_enter Tryd.func8, Tryd.ntmps8
  go_wp2_with fail
  go_ret
  exact ⟨rfl, (Below.refl _ _).alloc (Nat.le_refl _) _⟩
set_option maxRecDepth 100000 in
set_option maxHeartbeats 2000000 in
theorem hd_nil (l : Int) (w : World) : Calls Tryd.prog 9 #[.agg #[.nilIface, .int .i32 l]] w fun e w' => e = .returned (.bool false) ∧ Below w.heap.size w w' := by
  go_enter Tryd.func9, Tryd.ntmps9
  go_wp2_with fail
  go_ret
  exact ⟨rfl, (Below.refl _ _).alloc (Nat.le_refl _) _⟩
def bxR (kt : ByteArray) (aa imp : Bool) (key : Int) : List Value := .string kt :: (Z44 ++ [.bool aa, .bool imp, .int .u16 key])
theorem bld59 (kt : ByteArray) (aa imp : Bool) (key : Int) (W : World) : (Instr.build 59 #[(4, .int .u16 key), (0, .string kt), (2, .bool aa), (3, .bool imp)]).run Tryd.prog W = .ok (.agg (bxR kt aa imp key).toArray) W := run_build W _ _ _ (by kernel_rfl)
theorem wpl_build59 {P : Program} {ops : Array Oper} {rest : List Oper} {o : Oper} {a : Act} {w : World} {Q : Exit → Act → World → Prop} (hg : o.guard = none) (t : TypeId) (x0 x1 x2 x3 : Operand) (ho : o.op = .build t #[(4, x0), (0, x1), (2, x2), (3, x3)]) (v0 v1 v2 v3 r : Value) (h0 : a.eval x0 = v0) (h1 : a.eval x1 = v1) (h2 : a.eval x2 = v2) (h3 : a.eval x3 = v3) (hrun : (Instr.build t #[(4, v0), (0, v1), (2, v2), (3, v3)]).run P w = .ok r w) (h : wpList P ops Q rest (a.put o.dst r) w) : wpList P ops Q (o :: rest) a w := by
  refine wpList_plain hg fun _ hK => ?_
  unfold Oper.wp execOp
  simp only [ho, Sem.run_bind, List.map_toArray, List.map_cons, List.map_nil, h0, h1, h2, h3, hrun, Result.andThen_ok]
  exact hK _ _ h
theorem BB.new (kt : ByteArray) (aa imp : Bool) (key : Int) (t : TypeId) (w : World) : BB kt aa imp key (fun _ => z0) w.heap.size (w.alloc (.cells (bxR kt aa imp key).toArray t)) := by
  have hr : (w.alloc (.cells (bxR kt aa imp key).toArray t)).rangeAt w.heap.size 0 (bxR kt aa imp key) := rg_new w (bxR kt aa imp key).toArray t
  have hz : (w.alloc (.cells (bxR kt aa imp key).toArray t)).rangeAt w.heap.size 1 Z44 := by
    have h1 := rg_right (cs := [.string kt]) (ds := Z44 ++ [.bool aa, .bool imp, .int .u16 key]) hr
    exact rg_left h1
  refine ⟨hr 0 _ rfl, fun i hi => ?_, hr 45 _ rfl, hr 46 _ rfl, hr 47 _ rfl, th_new w _ _ rfl⟩
  have r1 := rg_right (cs := sdR z0) (ds := sdR z0 ++ (sdR z0 ++ sdR z0)) hz
  rw [sdR_len] at r1
  have r2 := rg_right (cs := sdR z0) (ds := sdR z0 ++ sdR z0) r1
  rw [sdR_len] at r2
  have r3 := rg_right (cs := sdR z0) (ds := sdR z0) r2
  rw [sdR_len] at r3
  have c : i = 0 ∨ i = 1 ∨ i = 2 ∨ i = 3 := by omega
  rcases c with rfl | rfl | rfl | rfl
  · exact rg_left (cs := sdR z0) (ds := sdR z0 ++ (sdR z0 ++ sdR z0)) hz
  · exact rg_left (cs := sdR z0) (ds := sdR z0 ++ sdR z0) r1
  · exact rg_left (cs := sdR z0) (ds := sdR z0) r2
  · exact r3
set_option maxRecDepth 100000 in
set_option maxHeartbeats 2000000 in
theorem nb_any (kt : ByteArray) (aa imp : Bool) (key : Int) (w : World) : Calls Tryd.prog 4 #[.int .u16 key, .string kt, .bool aa, .bool imp] w fun e w' => ∃ b, e = .returned (.pointer (some ⟨b, 0, none⟩)) ∧ BB kt aa imp key (fun _ => z0) b w' ∧ w.heap.size ≤ b ∧ Below w.heap.size w w' := by
  have hB := BB.new kt aa imp key 59 w
  have HB := Lib.hid hB
  clear hB
  go_enter Tryd.func4, Tryd.ntmps4
  go_wp2_with (first | (refine wpl_build59 rfl 59 _ _ _ _ rfl (.int .u16 key) (.string kt) (.bool aa) (.bool imp) (.agg (bxR kt aa imp key).toArray) rfl rfl rfl rfl (bld59 _ _ _ _ _) ?_))
  go_ret
  exact ⟨_, rfl, HB.out, Nat.le_refl _, (Below.refl _ _).alloc (Nat.le_refl _) _⟩
set_option maxRecDepth 100000 in
set_option maxHeartbeats 2000000 in
theorem zm_any (c l : Int) (b r n cr d v side : Nat) (kt : ByteArray) (aa imp di mf : Bool) (key a2 a3 : Int) (σ σ1 : Nat → SD) (w : World) (hc : 0 ≤ c ∧ c ≤ 4) (hB : BB kt aa imp key σ b w) (hth : w.there r 0 (n * 2)) (hn : 0 < n) (hn4 : n ≤ 4096)
    (hbr : b ≠ r) (hdr : d ≠ r) (hbd : d ≠ b) (hbv : v ≠ b) (hs : side < 4) (hk : ¬ key = 0) (hd5 : w.cell? ⟨d, 5, none⟩ = some (.bool di)) (hd1 : w.cell? ⟨d, 1, none⟩ = some (.slice (some ⟨v, 0, none⟩) 1 1)) (hd2 : w.cell? ⟨d, 2, none⟩ = some (.int .i32 a2)) (hd3 : w.cell? ⟨d, 3, none⟩ = some (.int .i32 a3))
    (hv : w.rangeAt v 0 (tkR c l)) (h1 : σ1 = if imp = di then σ else fun _ => z0) (ho : (σ1 side).k ≠ 0 → (σ1 side).s = true ∧ (σ1 side).i < n) (hz : ∃ i, i < 4 ∧ i ≠ side ∧ (σ1 i).k = 0) :
    Calls Tryd.prog 6 #[.pointer (some ⟨b, 0, none⟩), .slice (some ⟨r, 0, none⟩) n cr, .pointer (some ⟨d, 0, none⟩), .bool mf, .int .i64 (side : Int)] w fun e w' => e = .returned (.tuple #[]) ∧ MsP c l n r side kt aa di key σ1 b w w' := by
  have HM := Lib.hid (ms_any c l b r n cr d v side kt aa imp di mf key a2 a3 σ σ1 w hc hB hth hn hn4 hbr hdr hbd hbv hs hk hd5 hd1 hd2 hd3 hv h1 ho hz)
  clear hB hth hd5 hd1 hd2 hd3 hv h1 ho hz hc
  go_enter Tryd.func6, Tryd.ntmps6
  go_wp2_with (first | (go_at_call 11; refine HM.out.mono ?_; rintro e w1 ⟨rfl, h⟩))
  (try simp only [Exit.inBlock, Exit.then])
  refine bodyPost_end (results_none rfl _ _ _) rfl ?_
  exact ⟨rfl, h⟩
end Go.Proofs.YtelanacgjjdmnaaDoor.Bx
