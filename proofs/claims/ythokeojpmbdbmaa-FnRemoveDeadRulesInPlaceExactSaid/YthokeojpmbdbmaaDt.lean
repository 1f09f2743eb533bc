/-
  The hashes of subclass selectors and of a rule.
-/
import Derived.Test.YthokeojpmbdbmaaDs
namespace Go.Proofs.Ythokeojpmbdbmaa.Dr
open Go.ChangeShapes Go.WideShapes Go.ChangeAt Go.RowKit Rg
set_option linter.unusedVariables false
set_option linter.unusedSimpArgs false
theorem mh_p (v : Value) (w : World) : (method 305 105 v "Hash").run Try.prog w = .ok (62, v) w := by kernel_rfl
theorem mh_l (v : Value) (w : World) : (method 305 96 v "Hash").run Try.prog w = .ok (57, v) w := by kernel_rfl
theorem mh_r (v : Value) (w : World) : (method 305 62 v "Hash").run Try.prog w = .ok (44, v) w := by kernel_rfl
theorem ch_p (A : Array Value) (w : World) : (callFunc 62 A).run Try.prog w = .ok (.enter 62 A) w := by kernel_rfl
theorem ch_l (A : Array Value) (w : World) : (callFunc 57 A).run Try.prog w = .ok (.enter 57 A) w := by kernel_rfl
theorem ha0 : HaS Sb0 (fun _ => hP) := by
  intro X w x c hX hx
  obtain ⟨rfl, p, rfl, hpX, hp⟩ := hx
  exact ⟨_, p, _, rfl, fun W => mh_p _ W, fun A W => ch_p A W, fun w1 hb => h62 p w1 (rg_keep hb hp)⟩
def hLst (k : Nat) (M : Md) : Int := hMd (fun _ => hP) (hcv (hcv (hcv 5 k) 0) 0) M
set_option maxRecDepth 100000 in
set_option maxHeartbeats 2000000 in
theorem h57 (X : Nat → Prop) (p : Nat) (v : Value) (k : Nat) (M : Md) (w : World) (hX : ∀ b, X b → b < w.heap.size) (hk : k < 256) (hp : w.rangeAt p 0 (ilc v (k : Nat))) (hm : MdV Sb0 X w v M) (hs : SmM M) : Calls Try.prog 57 #[.pointer (some ⟨p, 0, none⟩)] w (fun e w' => e = .returned (.int .u32 (hLst k M)) ∧ Below w.heap.size w w') := by
  obtain ⟨va, vc, hva⟩ := RowV.slice hm
  obtain ⟨vn, hvn⟩ : ∃ n, n = M.length := ⟨_, rfl⟩
  rw [← hvn] at hva
  subst hva
  clear hvn
  have a0 := hp 0 _ rfl
  have a1 := hp 1 _ rfl
  have a2 := hp 2 _ rfl
  have a3 := hp 3 _ rfl
  simp only [Nat.zero_add] at a0 a1 a2 a3
  have hkw := wrap_u32 k (by omega)
  have HA := Lib.hid (And.intro a0 (And.intro a1 a2))
  have HM := Lib.hid (And.intro hm (And.intro hX hs))
  clear hp a0 a1 a2 hm hX hs
  go_enter Try.func57, Try.ntmps57
  go_wp2_with fail
  refine (hc47 _ _ w).mono ?_
  rintro e w1 ⟨rfl, hf⟩
  rw [← hf]
  clear hf w1
  have a1 := HA.out.2.1
  go_wp2_with fail
  refine (hs50_nil _ w).mono ?_
  rintro e w1 ⟨rfl, hf⟩
  have HF := Lib.hid hf
  have a2 := later hf HA.out.2.2
  clear hf a1
  go_wp2_with fail
  refine (hs50_nil _ w1).mono ?_
  rintro e w2 ⟨rfl, hf⟩
  have HF2 := Lib.hid (HF.out.trans (hf.mono HF.out.size))
  clear hf a2
  have a0 := later HF2.out HA.out.1
  go_wp2_with fail
  refine (h48 Sb0 (fun _ => hP) loc0 ha0 X _ M _ w2 (fun b h => Nat.lt_of_lt_of_le (HM.out.2.1 b h) HF2.out.size) (MdV.to loc0 HM.out.1 (To.below HM.out.2.1 HF2.out)) HM.out.2.2).mono ?_
  rintro e w3 ⟨rfl, hf⟩
  have HF3 := Lib.hid (HF2.out.trans (hf.mono HF2.out.size))
  clear hf
  go_wp2_with fail
  go_ret
  exact ⟨rfl, HF3.out⟩
/-- the hash of a subclass selector -/
def hS1 (c : Nat) : Int := if c = 0 then hP else if c < 512 then hLst (c - 256) [] else hLst (c - 512) [[[0]]]
theorem ha1 : HaS Sb1 hS1 := by
  intro X w x c hX hx
  rcases hx with hx | ⟨p, v, M0, k, rfl, hpX, hp, hk, hM, hc⟩
  · have h := ha0 X w x c hX hx
    rw [hx.1]
    exact h
  · refine ⟨_, p, _, rfl, fun W => mh_l _ W, fun A W => ch_l A W, fun w1 hb => (h57 X p v k M0 w1 (fun b h => Nat.lt_of_lt_of_le (hX b h) hb.size) hk (rg_keep hb hp) (MdV.to loc0 hM (To.below hX hb)) (sm0 hc)).mono ?_⟩
    rintro e w2 ⟨rfl, h⟩
    refine ⟨?_, h⟩
    unfold hS1
    rcases hc with ⟨rfl, rfl⟩ | ⟨rfl, rfl⟩
    · rw [if_neg (by omega), if_pos (by omega), show 256 + k - 256 = k by omega]
    · rw [if_neg (by omega), if_neg (by omega), show 512 + k - 512 = k by omega]
def hRu (hs : Nat → Int) (M : Md) : Int := hcv (hMd hs (hcv 5 M.length) M) 0
set_option maxRecDepth 100000 in
set_option maxHeartbeats 2000000 in
theorem h44 (S : SbP) (hs : Nat → Int) (hL : Loc S) (hH : HaS S hs) (X : Nat → Prop) (p : Nat) (M : Md) (w : World) (hX : ∀ b, X b → b < w.heap.size) (hp : RuV S X w p M) (hsm : SmM M) : Calls Try.prog 44 #[.pointer (some ⟨p, 0, none⟩)] w (fun e w' => e = .returned (.tuple #[.int .u32 (hRu hs M), .bool true]) ∧ Below w.heap.size w w') := by
  obtain ⟨v, hpX, a0, a1, hm⟩ := hp
  obtain ⟨va, vc, hva⟩ := RowV.slice hm
  obtain ⟨vn, hvn⟩ : ∃ n, n = M.length := ⟨_, rfl⟩
  rw [← hvn] at hva
  subst hva
  have hv4 : vn ≤ 4096 := by rw [hvn]; exact hsm.1
  have hvw := wrap_u32 vn hv4
  have HN := Lib.hid hvn
  have HA := Lib.hid a1
  have hC := fun h0 => h48 S hs hL hH X _ M h0 w hX hm hsm
  have HC := Lib.hid hC
  clear a1 hpX hm hX hvn hC
  go_enter Try.func44, Try.ntmps44
  go_wp2_with fail
  refine (hc47 _ _ w).mono ?_
  rintro e w1 ⟨rfl, hf⟩
  rw [← hf]
  clear hf w1
  go_wp2_with fail
  refine (HC.out _).mono ?_
  rintro e w1 ⟨rfl, hf⟩
  have HF := Lib.hid hf
  have a1 := later hf HA.out
  clear hf a0
  go_wp2_with fail
  refine (hr49_nil _ w1).mono ?_
  rintro e w2 ⟨rfl, hf⟩
  rw [← hf]
  clear hf w2
  go_wp2_with fail
  exact bodyPost_ret (results_tmp2 (t := 2) (u := 3) rfl _ _ _) rfl ⟨by unfold hRu; rw [← HN.out]; rfl, HF.out⟩
end Go.Proofs.Ythokeojpmbdbmaa.Dr
