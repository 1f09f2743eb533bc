/-
  ZZappendMediaTerm, ZZasPlain, zzOp.
-/
import Derived.Test.YtbjcolglkegicabMa
namespace Go.Proofs.Ytbjcolglkegicab.Mq
open Go.ChangeShapes Go.WideShapes Go.ChangeAt Go.RowKit Rg
set_option linter.unusedVariables false
theorem App.lift {B n gi : Nat} {zs : List Value} {w W : World} {e : Ending} {w' : World} (h : App B n gi zs W e w') (hg : w.grownBy W (some gi)) : App B n gi zs w e w' := by
  obtain ⟨g, c, he, ho, hb, hr⟩ := h
  exact ⟨g, c, he, ho, hg.trans hb, hr.imp id (fun h => Nat.le_trans hg.size h)⟩
set_option maxRecDepth 100000 in
set_option maxHeartbeats 1000000 in
theorem zapp_bin (g gi gs n m ci cs B : Nat) (op : Int) (xs ys : List Value) (w : World) (hn : (n : Int) ≤ 8192) (hm : (m : Int) ≤ 8192) (hB : B ≤ w.heap.size)
    (h1 : w.ownsRow B 33 2 (.slice (some ⟨gi, 0, none⟩) n ci) n xs) (h2 : w.ownsRow B 33 2 (.slice (some ⟨gs, 0, none⟩) m cs) m ys) (h3 : ∀ u ∈ ys, u.oneCell' = true) (hb : BB w g op (.slice (some ⟨gs, 0, none⟩) m cs)) :
    Calls Try.prog 6 #[.bool true, .slice (some ⟨gi, 0, none⟩) n ci, .agg #[.int .i32 (-1), .iface 84 (.pointer (some ⟨g, 0, none⟩))], .int .u8 op] w (App B (n + m) gi (xs ++ ys) w) := by
  have HC := Lib.hid (fun o1 o2 hp => app_bin (w.heap.size + 1) g gi gs n m ci cs B op xs ys ((w.alloc o1).alloc o2) hn hm (by simp; omega) ((h1.alloc _).alloc _) ((h2.alloc _).alloc _) h3 ((hb.keep ((Below.refl _ _).alloc (Nat.le_refl _) _)).keep ((Below.refl _ _).alloc (Nat.le_refl _) _)) hp)
  clear h1 h2 h3 hb
  go_enter Try.func6, Try.ntmps6
  go_wp2_with fail
  refine (HC.out _ _ (by go_simp)).mono ?_
  rintro e w2 ⟨g2, c2, rfl, ho, hgr, hr⟩
  have HA := Lib.hid (App.lift (w := w) ⟨g2, c2, rfl, ho, hgr, hr⟩ ((grown_alloc w _ _).trans (grown_alloc _ _ _)))
  clear ho hgr hr HC
  go_wp2_with fail
  go_ret
  exact HA.out
set_option maxRecDepth 100000 in
set_option maxHeartbeats 1000000 in
theorem zapp_one (g gi n ci B : Nat) (op l : Int) (xs : List Value) (w : World) (hn : (n : Int) ≤ 8192) (hB : B ≤ w.heap.size)
    (h1 : w.ownsRow B 33 2 (.slice (some ⟨gi, 0, none⟩) n ci) n xs) :
    Calls Try.prog 6 #[.bool true, .slice (some ⟨gi, 0, none⟩) n ci, .agg #[.int .i32 l, .iface 87 (.pointer (some ⟨g, 0, none⟩))], .int .u8 op] w (App B (n + 1) gi (xs ++ mqc l g) w) := by
  have HC := Lib.hid (fun o1 o2 => app_one (w.heap.size + 1) g gi n ci B op l xs ((w.alloc o1).alloc o2) hn (by simp; omega) ((h1.alloc _).alloc _))
  clear h1
  go_enter Try.func6, Try.ntmps6
  go_wp2_with fail
  refine (HC.out _ _).mono ?_
  rintro e w2 ⟨g2, c2, rfl, ho, hgr, hr⟩
  have HA := Lib.hid (App.lift (w := w) ⟨g2, c2, rfl, ho, hgr, hr⟩ ((grown_alloc w _ _).trans (grown_alloc _ _ _)))
  clear ho hgr hr HC
  go_wp2_with fail
  go_ret
  exact HA.out
set_option maxRecDepth 100000 in
set_option maxHeartbeats 1000000 in
theorem as_any (l : Int) (g : Nat) (w : World) (h : PB w g) :
    Calls Try.prog 8 #[.agg #[.int .i32 l, .iface 87 (.pointer (some ⟨g, 0, none⟩))]] w fun e w' => e = .returned (.tuple #[.string fB, .slice none 0 0, .bool true]) ∧ Below w.heap.size w w' := by
  have ht := fun w => ta_as (.pointer (some ⟨g, 0, none⟩)) w
  obtain ⟨c0', c1'⟩ := h.cell
  have c0 := alloc_cell c0'
  have c1 := alloc_cell c1'
  clear c0' c1' h
  go_enter Try.func8, Try.ntmps8
  go_wp2_with fail
  go_quiet (fail)
  go_wp2_with fail
  go_ret3
  exact ⟨rfl, below_drewN ((Below.refl _ _).alloc (Nat.le_refl _) _) _⟩
set_option maxHeartbeats 400000 in
theorem op_any (b : Bool) (w : World) : Calls Try.prog 4 #[.bool b] w fun e w' => e = .returned (.int .u8 (if b then 1 else 0)) ∧ w = w' := by
  cases b <;> (go_enter Try.func4, Try.ntmps4; go_wp2; go_ret; exact ⟨rfl, rfl⟩)
end Go.Proofs.Ytbjcolglkegicab.Mq
