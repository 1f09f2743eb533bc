/-
  The builder of one subclass selector.
-/
import Derived.Test.YthokeojpmbdbmaaDd
import Derived.Deep.Upon
namespace Go.Proofs.Ythokeojpmbdbmaa.Dr
open Go.ChangeShapes Go.WideShapes Go.ChangeAt Go.RowKit Rg
set_option linter.unusedVariables false
set_option linter.unusedSimpArgs false
theorem RowV.nil {α β : Type} {X : Nat → Prop} {w : World} {t : TypeId} {s : Nat} {cells : β → List Value} {el : β → α → Prop} : RowV X w t s cells el (.slice none 0 0) ([] : List α) :=
  ⟨[], rfl, by simpa using World.ownsRow_nil w 0 t s, fun g h => by simp [Value.ownBlock] at h, fun i h => absurd h (Nat.not_lt_zero _)⟩
theorem RowV.single {α β : Type} {X : Nat → Prop} {w : World} {t : TypeId} {s : Nat} {cells : β → List Value} {el : β → α → Prop} {g : Nat} {x : β} {a : α} (ho : w.ownsRow 0 t s (.slice (some ⟨g, 0, none⟩) 1 1) 1 (cells x)) (hX : X g) (he : el x a) : RowV X w t s cells el (.slice (some ⟨g, 0, none⟩) 1 1) [a] :=
  ⟨[x], rfl, by simpa using ho, fun b h => by simp [Value.ownBlock] at h; subst h; exact hX, fun i h h' => by
    have : i = 0 := by simpa using h
    subst this
    exact he⟩
theorem inner_mk (D q : Nat) (x a1 a2 a3 : World) (hD : D ≤ x.heap.size) (hq : x.rangeAt q 0 pcl) (hq0 : D ≤ q) (hqs : q < x.heap.size)
    (h1 : a1 = x.alloc (.cells #[ifP q, .int .i32 0, .int .i32 0] 94))
    (h2 : a2 = a1.alloc (.cells #[.pointer none, .slice (some ⟨x.heap.size, 0, none⟩) 1 1, .slice none 0 0, .int .i32 0, .int .u8 0, .bool false] 83))
    (h3 : a3 = a2.alloc (.cells #[.slice (some ⟨a1.heap.size, 0, none⟩) 1 1] 48)) :
    MdV Sb0 (fun b => D ≤ b ∧ b < a3.heap.size) a3 (.slice (some ⟨a2.heap.size, 0, none⟩) 1 1) [[[0]]] ∧ Below x.heap.size x a3 := by
  have b1 : Below x.heap.size x a1 := by rw [h1]; exact (Below.refl _ _).alloc (Nat.le_refl _) _
  have b2 : Below a1.heap.size a1 a2 := by rw [h2]; exact (Below.refl _ _).alloc (Nat.le_refl _) _
  have b3 : Below a2.heap.size a2 a3 := by rw [h3]; exact (Below.refl _ _).alloc (Nat.le_refl _) _
  have s1 : a1.heap.size = x.heap.size + 1 := by rw [h1, World.size_alloc]
  have s2 : a2.heap.size = x.heap.size + 2 := by rw [h2, World.size_alloc, s1]
  have s3 : a3.heap.size = x.heap.size + 3 := by rw [h3, World.size_alloc, s2]
  have o1 : a1.ownsRow 0 94 3 (.slice (some ⟨x.heap.size, 0, none⟩) 1 1) 1 (sbc (ifP q)) := by rw [h1]; exact World.ownsRow_lit x _ 1 (Nat.zero_le _) (by unfold maxLen; omega) rfl
  have o2 : a2.ownsRow 0 83 6 (.slice (some ⟨a1.heap.size, 0, none⟩) 1 1) 1 (cmc (.slice (some ⟨x.heap.size, 0, none⟩) 1 1)) := by rw [h2]; exact World.ownsRow_lit a1 _ 1 (Nat.zero_le _) (by unfold maxLen; omega) rfl
  have o3 : a3.ownsRow 0 48 1 (.slice (some ⟨a2.heap.size, 0, none⟩) 1 1) 1 (one (.slice (some ⟨a1.heap.size, 0, none⟩) 1 1)) := by rw [h3]; exact World.ownsRow_lit a2 _ 1 (Nat.zero_le _) (by unfold maxLen; omega) rfl
  refine ⟨RowV.single o3 ⟨by omega, by omega⟩ (RowV.single (own_keep o2 b3) ⟨by omega, by omega⟩ (RowV.single (own_keep (own_keep o1 b2) b3) ⟨by omega, by omega⟩ ⟨rfl, q, rfl, ⟨hq0, by omega⟩, rg_keep b3 (rg_keep b2 (rg_keep b1 hq))⟩)), (b1.trans (b2.mono b1.size)).trans (b3.mono (Nat.le_trans b1.size b2.size))⟩
set_option maxRecDepth 100000 in
set_option maxHeartbeats 4000000 in
theorem bsub_any (g : Gv) (X : Nat → Prop) (ta : Option Addr) (tn tc : Nat) (ka : Option Addr) (kn kc : Nat) (j : Nat) (w : World) (hX : ∀ b, X b → b < w.heap.size) (h : TK g X w ta tn ka kn) :
    Calls Try.prog 20 #[.slice ta tn tc, .slice ka kn kc, .int .i64 (j : Nat)] w
      (fun e w' => ∃ T q, e = .returned (.agg #[.iface T (.pointer (some ⟨q, 0, none⟩)), .int .i32 0, .int .i32 0]) ∧ Sb1 (fun b => w.heap.size ≤ b ∧ b < w'.heap.size) w' (.iface T (.pointer (some ⟨q, 0, none⟩))) (sk g j) ∧ Below w.heap.size w w') := by
  have hk := h.2.2.1 j
  have hk8 := u8_self _ hk
  have HK := Lib.hid hk
  obtain ⟨dS, hS, hS2⟩ := tySub
  obtain ⟨x1, hx1⟩ : ∃ x, x = w.alloc (.cells #[.nilIface, .int .i32 0, .int .i32 0] 94) := ⟨_, rfl⟩
  obtain ⟨b, hb⟩ : ∃ b, b = w.heap.size := ⟨_, rfl⟩
  have h1 : Below w.heap.size w x1 := by rw [hx1]; exact (Below.refl _ _).alloc (Nat.le_refl _) _
  have t1 : x1.there b 0 3 := by rw [hx1, hb]; exact th_new w _ _ rfl
  have s1 : x1.heap.size = b + 1 := by rw [hx1, World.size_alloc, hb]
  have HT := Lib.hid (h.to (To.below hX h1))
  have H1 := Lib.hid (And.intro h1 (And.intro t1 (And.intro s1 hb)))
  clear h hX hk t1 s1
  -- what a store of the result leaves
  have hfin : ∀ (T : TypeId) (q : Nat) (w2 : World), Below x1.heap.size x1 w2 → Sb1 (fun c => x1.heap.size ≤ c ∧ c < w2.heap.size) w2 (.iface T (.pointer (some ⟨q, 0, none⟩))) (sk g j) →
      (w2.setCells b 0 [.iface T (.pointer (some ⟨q, 0, none⟩)), .int .i32 0, .int .i32 0]).rangeAt b 0 [.iface T (.pointer (some ⟨q, 0, none⟩)), .int .i32 0, .int .i32 0] ∧
      Sb1 (fun c => w.heap.size ≤ c ∧ c < (w2.setCells b 0 [.iface T (.pointer (some ⟨q, 0, none⟩)), .int .i32 0, .int .i32 0]).heap.size) (w2.setCells b 0 [.iface T (.pointer (some ⟨q, 0, none⟩)), .int .i32 0, .int .i32 0]) (.iface T (.pointer (some ⟨q, 0, none⟩))) (sk g j) ∧
      Below w.heap.size w (w2.setCells b 0 [.iface T (.pointer (some ⟨q, 0, none⟩)), .int .i32 0, .int .i32 0]) := fun T q w2 hw hs => by
    have hz := H1.out.2.2.1
    refine ⟨World.rangeAt_setCells_same _ _ _ _ (th_keep hw H1.out.2.1), loc1 _ _ _ _ _ _ (fun c hc => ⟨⟨by have := H1.out.2.2.2; omega, by rw [size_setCells]; exact hc.2⟩, World.heap_setCells_other w2 b 0 _ hc.2 (by omega)⟩) hs, ?_⟩
    exact below_setCells (by have := H1.out.2.2.2; omega) _ _ (H1.out.1.trans (hw.mono H1.out.1.size))
  have HF := Lib.hid hfin
  clear hfin
  go_enter Try.func20, Try.ntmps20
  go_upto_region 1 with fail
  rw [← hx1, ← hb]
  clear hx1 hb h1
  rcases mod3 (g.T j) with e | e | e
  · have hr : ((g.T j : Nat) : Int) % 3 = 0 := by omega
    have HS := Lib.hid (sk0 e)
    clear e
    go_wp2_with fail
    refine (at_any X ta tn tc g.T j x1 HT.out.1).mono ?_
    rintro e w1 ⟨rfl, hw⟩
    rw [← hw]
    clear hw
    go_wp2_with fail
    refine (at_any X ka kn kc g.K j x1 HT.out.2).mono ?_
    rintro e w1 ⟨rfl, hw⟩
    rw [← hw]
    clear hw
    go_wp2_with fail
    refine (plain_any x1).mono ?_
    rintro e w2 ⟨q, rfl, hq, hq1, hq2, hb2⟩
    have H2 := Lib.hid (HF.out _ q w2 hb2 (by rw [HS.out]; exact .inl ⟨rfl, q, rfl, ⟨hq1, hq2⟩, hq⟩))
    have HTH := Lib.hid (th_keep hb2 H1.out.2.1)
    clear hq hq1 hq2 hb2
    have hone : (#[ifP q, .int .i32 0, .int .i32 0] : Array Value).all (·.oneCell') = true := by simp [Value.oneCell']
    go_wp2_with (first
      | (refine wpList_store_mid rfl 94 _ _ rfl b 0 #[ifP q, .int .i32 0, .int .i32 0] ?ha ?hv HTH.out szSub hone ?_; (case ha => exact rfl); (case hv => exact rfl); (change wpList _ _ _ _ _ (World.setCells _ b 0 [ifP q, .int .i32 0, .int .i32 0]))))
    exact bodyPost_ret (results_cell_mid rfl _ _ b 0 [ifP q, .int .i32 0, .int .i32 0] dS rfl H2.out.1 hS hS2 szSub) rfl ⟨_, q, rfl, H2.out.2.1, H2.out.2.2⟩
  · have hr : ((g.T j : Nat) : Int) % 3 = 1 := by omega
    have HS := Lib.hid (sk1 e)
    clear e
    go_wp2_with fail
    refine (at_any X ta tn tc g.T j x1 HT.out.1).mono ?_
    rintro e w1 ⟨rfl, hw⟩
    rw [← hw]
    clear hw
    go_wp2_with fail
    refine (at_any X ka kn kc g.K j x1 HT.out.2).mono ?_
    rintro e w1 ⟨rfl, hw⟩
    rw [← hw]
    clear hw
    go_wp2_with fail
    refine (list_any none 0 0 (g.K j) x1).mono ?_
    rintro e w2 ⟨q, rfl, hq, hq1, hq2, hb2⟩
    have H2 := Lib.hid (HF.out _ q w2 hb2 (by rw [HS.out]; exact .inr ⟨q, _, [], g.K j, rfl, ⟨hq1, hq2⟩, hq, HK.out, RowV.nil, .inl ⟨rfl, rfl⟩⟩))
    have HTH := Lib.hid (th_keep hb2 H1.out.2.1)
    clear hq hq1 hq2 hb2
    have hone : (#[ifL q, .int .i32 0, .int .i32 0] : Array Value).all (·.oneCell') = true := by simp [Value.oneCell']
    go_wp2_with (first
      | (refine wpList_store_mid rfl 94 _ _ rfl b 0 #[ifL q, .int .i32 0, .int .i32 0] ?ha ?hv HTH.out szSub hone ?_; (case ha => exact rfl); (case hv => exact rfl); (change wpList _ _ _ _ _ (World.setCells _ b 0 [ifL q, .int .i32 0, .int .i32 0]))))
    exact bodyPost_ret (results_cell_mid rfl _ _ b 0 [ifL q, .int .i32 0, .int .i32 0] dS rfl H2.out.1 hS hS2 szSub) rfl ⟨_, q, rfl, H2.out.2.1, H2.out.2.2⟩
  · have hr : ((g.T j : Nat) : Int) % 3 = 2 := by omega
    have HS := Lib.hid (sk2 e)
    clear e
    go_wp2_with fail
    refine (at_any X ta tn tc g.T j x1 HT.out.1).mono ?_
    rintro e w1 ⟨rfl, hw⟩
    rw [← hw]
    clear hw
    go_wp2_with fail
    refine (at_any X ka kn kc g.K j x1 HT.out.2).mono ?_
    rintro e w1 ⟨rfl, hw⟩
    rw [← hw]
    clear hw
    go_wp2_with fail
    refine (plain_any x1).mono ?_
    rintro e w2 ⟨q, rfl, hq, hq1, hq2, hb2⟩
    obtain ⟨a1, h1⟩ : ∃ a, a = w2.alloc (.cells #[ifP q, .int .i32 0, .int .i32 0] 94) := ⟨_, rfl⟩
    obtain ⟨a2, h2⟩ : ∃ a, a = a1.alloc (.cells #[.pointer none, .slice (some ⟨w2.heap.size, 0, none⟩) 1 1, .slice none 0 0, .int .i32 0, .int .u8 0, .bool false] 83) := ⟨_, rfl⟩
    obtain ⟨a3, h3⟩ : ∃ a, a = a2.alloc (.cells #[.slice (some ⟨a1.heap.size, 0, none⟩) 1 1] 48) := ⟨_, rfl⟩
    have HI := Lib.hid (inner_mk x1.heap.size q w2 a1 a2 a3 hb2.size hq hq1 hq2 h1 h2 h3)
    have hB1 := bs_sub 105 q w2
    have hB2 := bs_cmp (some ⟨w2.heap.size, 0, none⟩) 1 1 a1
    have hB3 := bs_cpl (some ⟨a1.heap.size, 0, none⟩) 1 1 a2
    rw [← h1] at hB1
    rw [← h2] at hB2
    rw [← h3] at hB3
    have HBB := Lib.hid (And.intro hB1 (And.intro hB2 hB3))
    have H22 := Lib.hid hb2
    clear h1 h2 h3 hq hq1 hq2 hB1 hB2 hB3 hb2
    obtain ⟨gC, hgC⟩ : ∃ n, n = w2.heap.size := ⟨_, rfl⟩
    obtain ⟨gB, hgB⟩ : ∃ n, n = a1.heap.size := ⟨_, rfl⟩
    obtain ⟨gA, hgA⟩ : ∃ n, n = a2.heap.size := ⟨_, rfl⟩
    rw [← hgC, ← hgB, ← hgA] at HBB
    rw [← hgA] at HI
    have HC := Lib.hid hgC
    clear hgC hgB hgA
    go_wp2_with (first
      | (refine wpl_bs1 rfl 78 (.tmp 25) rfl _ _ _ ?hx HBB.out.1 ?_; case hx => (show _ = _; rfl))
      | (refine wpl_bs1 rfl 46 (.tmp 27) rfl _ _ _ ?hx HBB.out.2.1 ?_; case hx => (show _ = _; rfl))
      | (refine wpl_bs1 rfl 45 (.tmp 29) rfl _ _ _ ?hx HBB.out.2.2 ?_; case hx => (show _ = _; rfl)))
    refine (list_any (some ⟨gA, 0, none⟩) 1 1 (g.K j) a3).mono ?_
    rintro e w4 ⟨q, rfl, hq, hq1, hq2, hb4⟩
    have hx4 : Below x1.heap.size x1 w4 := (H22.out.trans (HI.out.2.mono H22.out.size)).trans (hb4.mono (Nat.le_trans H22.out.size HI.out.2.size))
    have H2 := Lib.hid (HF.out _ q w4 hx4 (by
      rw [HS.out]
      exact .inr ⟨q, _, [[[0]]], g.K j, rfl, ⟨Nat.le_trans (Nat.le_trans H22.out.size HI.out.2.size) hq1, hq2⟩, hq, HK.out, MdV.to loc0 HI.out.1 (fun c hc => ⟨⟨hc.1, Nat.lt_of_lt_of_le hc.2 hb4.size⟩, hb4.block c hc.2⟩), .inr ⟨rfl, rfl⟩⟩))
    have HTH := Lib.hid (th_keep hx4 H1.out.2.1)
    clear hq hq1 hq2 hb4 hx4
    have hone : (#[ifL q, .int .i32 0, .int .i32 0] : Array Value).all (·.oneCell') = true := by simp [Value.oneCell']
    go_wp2_with (first
      | (refine wpList_store_mid rfl 94 _ _ rfl b 0 #[ifL q, .int .i32 0, .int .i32 0] ?ha ?hv HTH.out szSub hone ?_; (case ha => exact rfl); (case hv => exact rfl); (change wpList _ _ _ _ _ (World.setCells _ b 0 [ifL q, .int .i32 0, .int .i32 0]))))
    exact bodyPost_ret (results_cell_mid rfl _ _ b 0 [ifL q, .int .i32 0, .int .i32 0] dS rfl H2.out.1 hS hS2 szSub) rfl ⟨_, q, rfl, H2.out.2.1, H2.out.2.2⟩
end Go.Proofs.Ythokeojpmbdbmaa.Dr
