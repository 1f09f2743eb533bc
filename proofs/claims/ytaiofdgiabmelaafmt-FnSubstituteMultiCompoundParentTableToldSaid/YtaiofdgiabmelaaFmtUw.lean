/-
  Drawn regions with guards, and with two operations that may come up at once; what the law's walk holds.
-/
import Derived.Test.YtaiofdgiabmelaaFmtUv
import Derived.Deep.RegionHeld
namespace Pl
open Go
set_option linter.unusedVariables false
section
variable {P : Program} {Q : Exit → Act → World → Prop} {S : World → Prop}
theorem take_g {md : Region.Mode} {l : List Oper} {i : Nat} {oi : Oper} {v : Value} {fuel : Nat} {listed : Array Bool} {a : Act} {w : World} (hi : l[i]? = some oi)
    (hs : Region.noSelect l.toArray = true) (hf : Region.free md l.toArray listed i = true) (hr : (Region.ready md l.toArray listed).contains i = true)
    (hQ : ∀ c a w, Q (.panic c) (a.put oi.dst v) w → Q (.panic c) a w) (hw : Region.wanted oi (yielded l.toArray a.tmps) = true) (hy : ∀ w, S w → (execOp a.eval oi).run P w = .ok (.value v) w) (hS : S w)
    (h : wpAnyH P md l.toArray Q S fuel (listed.setIfInBounds i true) (a.put oi.dst v) w) : wpAnyH P md l.toArray Q S (fuel + 1) listed a w :=
  wpAnyH_take (by simpa using hi) hs hf hr hQ (.inl ⟨hw, hy⟩) hS h
theorem two_l {l : List Oper} {i j : Nat} {oi oj : Oper} {fuel : Nat} {listed : Array Bool} {a : Act} {w : World} (Fi Fj : Value → World → Prop) (F : Value → Value → World → Prop)
    (hr : Region.ready .any l.toArray listed = [i, j]) (hoi : l[i]? = some oi) (hoj : l[j]? = some oj)
    (hri : Region.ready .any l.toArray (listed.setIfInBounds i true) = [j]) (hrj : Region.ready .any l.toArray (listed.setIfInBounds j true) = [i]) (hne : j ≠ i) (hd : ∀ d, oj.dst = some d → oi.dst ≠ some d)
    (hi : ∀ K' : Act → World → Prop, Shut (∀ v w', S w' → Fi v w' → K' (a.put oi.dst v) w') → if Region.wanted oi (yielded l.toArray a.tmps) = true then Oper.wp P oi a w K' Q else K' (a.put oi.dst undef) w)
    (hi2 : ∀ v w1, S w1 → Fi v w1 → ∀ K' : Act → World → Prop, Shut (∀ u w', S w' → F v u w' → K' ((a.put oi.dst v).put oj.dst u) w') → if Region.wanted oj (yielded l.toArray (a.put oi.dst v).tmps) = true then Oper.wp P oj (a.put oi.dst v) w1 K' Q else K' ((a.put oi.dst v).put oj.dst undef) w1)
    (hj : ∀ K' : Act → World → Prop, Shut (∀ u w', S w' → Fj u w' → K' (a.put oj.dst u) w') → if Region.wanted oj (yielded l.toArray a.tmps) = true then Oper.wp P oj a w K' Q else K' (a.put oj.dst undef) w)
    (hj2 : ∀ u w1, S w1 → Fj u w1 → ∀ K' : Act → World → Prop, Shut (∀ v w', S w' → F v u w' → K' ((a.put oj.dst u).put oi.dst v) w') → if Region.wanted oi (yielded l.toArray (a.put oj.dst u).tmps) = true then Oper.wp P oi (a.put oj.dst u) w1 K' Q else K' ((a.put oj.dst u).put oi.dst undef) w1)
    (h : ∀ v u w', S w' → F v u w' → wpAnyH P .any l.toArray Q S fuel ((listed.setIfInBounds i true).setIfInBounds j true) ((a.put oi.dst v).put oj.dst u) w') :
    wpAnyH P .any l.toArray Q S (fuel + 1 + 1) listed a w := by
  refine wpAnyH_ready hr (by simp) (AllReadyH.cons (o := oi) (by simpa using hoi) (fun K hK => ?_) (AllReadyH.cons (o := oj) (by simpa using hoj) (fun K hK => ?_) AllReadyH.nil))
  · refine hi K (fun v w1 hS hF => hK.out _ _ hS (fun _ => ?_))
    refine alone_l hri hoj (fun K2 hK2 => ?_)
    exact hi2 v w1 hS hF K2 (fun u w2 hS2 hF2 => hK2.out _ _ hS2 (fun _ => h v u w2 hS2 hF2))
  · refine hj K (fun u w1 hS hF => hK.out _ _ hS (fun _ => ?_))
    refine alone_l hrj hoi (fun K2 hK2 => ?_)
    refine hj2 u w1 hS hF K2 (fun v w2 hS2 hF2 => hK2.out _ _ hS2 (fun _ => ?_))
    rw [Array.setIfInBounds_comm _ _ hne, Act.put_comm a u v hd]
    exact h v u w2 hS2 hF2
end
end Pl
