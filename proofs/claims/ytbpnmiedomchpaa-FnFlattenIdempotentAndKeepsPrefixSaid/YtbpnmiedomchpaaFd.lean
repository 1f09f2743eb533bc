/-
  The other two bounds: any answer.
-/
import Derived.Test.YtbpnmiedomchpaaFc
import Derived.Deep.QuietTactic
import Derived.BigQuiet
namespace Go.Proofs.Ytbpnmiedomchpaa.Fg
open Go.ChangeShapes Go.WideShapes Go.ChangeAt Go.RowKit Rg
set_option linter.unusedVariables false
set_option linter.unusedSimpArgs false
theorem tySj : ∃ d, Try.prog.underlying 58 = some d ∧ d.isRow = true := ⟨_, Try.underlying58, rfl⟩
theorem szSj : (Try.prog.info? 58).map (·.size) = some 4 := by kernel_rfl
theorem tyIn : ∃ d, Try.prog.underlying 60 = some d ∧ d.isRow = true := ⟨_, Try.underlying60, rfl⟩
theorem szIn : (Try.prog.info? 60).map (·.size) = some 4 := by kernel_rfl
theorem tyCo : ∃ d, Try.prog.underlying 55 = some d ∧ d.isRow = true := ⟨_, Try.underlying55, rfl⟩
theorem szCo : (Try.prog.info? 55).map (·.size) = some 4 := by kernel_rfl
/-- a ZSub's four cells, spelled out -/
def sj4 (wr : Bool) (kd : Nat) (nm : ByteArray) (a : Option Addr) (n c : Nat) : List Value := [.bool wr, .int .u8 (kd : Nat), .string nm, .slice a n c]
def in4 (cb ty am : Nat) (a : Option Addr) (n c : Nat) : List Value := [.int .u8 (cb : Nat), .int .u8 (ty : Nat), .int .u8 (am : Nat), .slice a n c]
theorem sj4_all (wr : Bool) (kd : Nat) (nm : ByteArray) (a : Option Addr) (n c : Nat) : (sj4 wr kd nm a n c).toArray.all (·.oneCell') = true := by simp [sj4, Value.oneCell']
theorem in4_all (cb ty am : Nat) (a : Option Addr) (n c : Nat) : (in4 cb ty am a n c).toArray.all (·.oneCell') = true := by simp [in4, Value.oneCell']
theorem wS_len (S : List Sj) : S.length ≤ wS S := Nat.le_add_right _ _
theorem wI_len (I : List In) : I.length ≤ wI I := Nat.le_add_right _ _
theorem wN_len (N : List ByteArray) : N.length ≤ wN N := Nat.le_add_right _ _
theorem wC_mem {C : List Co} {c : Co} (h : c ∈ C) : wS c.S ≤ wC C := Nat.le_trans (sum_mem (fun c : Co => wS c.S) h) (Nat.le_add_left _ _)
theorem wS_mem {S : List Sj} {s : Sj} (h : s ∈ S) : s.nm.size + wI s.I ≤ wS S := Nat.le_trans (sum_mem (fun s : Sj => s.nm.size + wI s.I) h) (Nat.le_add_left _ _)
theorem wI_mem {I : List In} {i : In} (h : i ∈ I) : wN i.N ≤ wI I := Nat.le_trans (sum_mem (fun i : In => wN i.N) h) (Nat.le_add_left _ _)
theorem wN_mem {N : List ByteArray} {n : ByteArray} (h : n ∈ N) : n.size ≤ wN N := Nat.le_trans (sum_mem (fun n : ByteArray => n.size) h) (Nat.le_add_left _ _)
theorem SjV.at {X : Nat → Prop} {w : World} {v : Value} {S : List Sj} (h : SjV X w v S) {i : Nat} (hi : i < S.length) : ∃ g o c a2 c2, v = .slice (some ⟨g, o, none⟩) S.length c ∧ X g ∧ w.rangeAt g (o + i * 4) (sj4 S[i].wr S[i].kd S[i].nm a2 S[i].I.length c2) ∧ S[i].kd < 256 ∧ InV X w (.slice a2 S[i].I.length c2) S[i].I := by
  obtain ⟨g, o, c, x, h1, h2, h3, h4, h5, h6⟩ := RW.at h hi
  obtain ⟨a2, c2, h7⟩ := RW.slice h6
  obtain ⟨xs, xv⟩ := x
  dsimp only at h4 h6 h7
  subst h4 h7
  exact ⟨g, o, c, a2, c2, h1, h2, h3, h5, h6⟩
theorem InV.at {X : Nat → Prop} {w : World} {v : Value} {I : List In} (h : InV X w v I) {i : Nat} (hi : i < I.length) : ∃ g o c a2 c2, v = .slice (some ⟨g, o, none⟩) I.length c ∧ X g ∧ w.rangeAt g (o + i * 4) (in4 I[i].cb I[i].ty I[i].am a2 I[i].N.length c2) ∧ (I[i].cb < 256 ∧ I[i].ty < 256 ∧ I[i].am < 256) ∧ NmV X w (.slice a2 I[i].N.length c2) I[i].N := by
  obtain ⟨g, o, c, x, h1, h2, h3, h4, h5, h5', h5'', h6⟩ := RW.at h hi
  obtain ⟨a2, c2, h7⟩ := RW.slice h6
  obtain ⟨xs, xv⟩ := x
  dsimp only at h4 h6 h7
  subst h4 h7
  exact ⟨g, o, c, a2, c2, h1, h2, h3, ⟨h5, h5', h5''⟩, h6⟩
theorem CoV.at {X : Nat → Prop} {w : World} {v : Value} {C : List Co} (h : CoV X w v C) {i : Nat} (hi : i < C.length) : ∃ g o c a2 c2, v = .slice (some ⟨g, o, none⟩) C.length c ∧ X g ∧ w.rangeAt g (o + i * 4) (in4 C[i].cb C[i].ty C[i].am a2 C[i].S.length c2) ∧ (C[i].cb < 256 ∧ C[i].ty < 256 ∧ C[i].am < 256) ∧ SjV X w (.slice a2 C[i].S.length c2) C[i].S := by
  obtain ⟨g, o, c, x, h1, h2, h3, h4, h5, h5', h5'', h6⟩ := RW.at h hi
  obtain ⟨a2, c2, h7⟩ := RW.slice h6
  obtain ⟨xs, xv⟩ := x
  dsimp only at h4 h6 h7
  subst h4 h7
  exact ⟨g, o, c, a2, c2, h1, h2, h3, ⟨h5, h5', h5''⟩, h6⟩
theorem NmV.at {X : Nat → Prop} {w : World} {v : Value} {N : List ByteArray} (h : NmV X w v N) {i : Nat} (hi : i < N.length) : ∃ g o c, v = .slice (some ⟨g, o, none⟩) N.length c ∧ X g ∧ w.cell? ⟨g, o + i, none⟩ = some (.string N[i]) := by
  obtain ⟨g, o, c, x, h1, h2, h3, h4⟩ := RW.at h hi
  have := h3 0 _ rfl
  rw [h4] at this
  exact ⟨g, o, c, h1, h2, by simpa using this⟩
set_option maxRecDepth 100000 in
set_option maxHeartbeats 4000000 in
theorem ico57 (X : Nat → Prop) (v : Value) (C : List Co) (w : World) (hv : CoV X w v C) (hl : wC C ≤ 1048576) :
    Calls Try.prog 6 #[v] w (ZB True w) := by
  obtain ⟨va, vc, hve⟩ := RW.slice hv
  obtain ⟨m, hm⟩ : ∃ m, m = C.length := ⟨_, rfl⟩
  rw [← hm] at hve
  subst hve
  have hm2 : m ≤ 1048576 := by unfold wC at hl; omega
  have HC := Lib.hid (And.intro hv (And.intro hm hl))
  clear hv hm hl
  go_enter Try.func6, Try.ntmps6
  go_wp2_with fail
  go_loop [3] (fun i => ∃ (k : Nat), k ≤ m ∧ i = .int .i64 k) (fun i => m - (intOf i).toNat)
  case atStart => exact ⟨0, Nat.zero_le _, rfl⟩
  case round =>
    obtain ⟨k, hk, rfl⟩ := hrel
    by_cases hlt : k < m
    · as_aux_lemma =>
      have q0 : (0 : Int) ≤ k := by omega
      have q1 : (k : Int) < m := by omega
      have kL : k < C.length := by have := HC.out.2.1; omega
      obtain ⟨g, o, cc, a2, c2, hve, -, hr, -, hS⟩ := CoV.at HC.out.1 kL
      simp only [Value.slice.injEq] at hve
      obtain ⟨rfl, hz, rfl⟩ := hve
      clear hz
      have hw : C[k].S.length ≤ 1048576 := by
        have h1 := wC_mem (List.getElem_mem kL)
        have h2 := wS_len C[k].S
        have h3 := HC.out.2.2
        omega
      obtain ⟨m2, hm2⟩ : ∃ m, m = C[k].S.length := ⟨_, rfl⟩
      rw [← hm2] at hr hS hw
      have d3 := hr 3 _ rfl
      have H2 := Lib.hid (And.intro hS hm2)
      clear hr hS hm2
      go_wp2_with fail
      go_loop [4] (fun i => ∃ (k2 : Nat), k2 ≤ m2 ∧ i = .int .i64 k2) (fun i => m2 - (intOf i).toNat)
      case atStart => exact ⟨0, Nat.zero_le _, rfl⟩
      case round =>
        obtain ⟨k2, hk2, rfl⟩ := hrel
        by_cases hlt2 : k2 < m2
        · as_aux_lemma =>
          have r0 : (0 : Int) ≤ k2 := by omega
          have r1 : (k2 : Int) < m2 := by omega
          have kL2 : k2 < C[k].S.length := by have := H2.out.2; omega
          obtain ⟨g2, o2, cc2, a3, c3, hve, -, hr, -, -⟩ := SjV.at H2.out.1 kL2
          simp only [Value.slice.injEq] at hve
          obtain ⟨rfl, hz, rfl⟩ := hve
          clear hz
          obtain ⟨m3, hm3⟩ : ∃ m, m = (C[k].S[k2]).I.length := ⟨_, rfl⟩
          rw [← hm3] at hr
          have f3 := hr 3 _ rfl
          clear hr hm3
          by_cases g8 : (4096 : Int) < m3
          · as_aux_lemma =>
            go_wp2_with fail
            go_ret
            exact zb_no
          · as_aux_lemma =>
            go_wp2_with fail
            go_round
            case rel => exact ⟨k2 + 1, by omega, by go_num⟩
            case measure => simp [intOf]; omega
        · as_aux_lemma =>
          obtain rfl : k2 = m2 := by omega
          go_wp2_with fail
          go_round
          case rel => exact ⟨k + 1, by omega, by go_num⟩
          case measure => simp [intOf]; omega
    · as_aux_lemma =>
      obtain rfl : k = m := by omega
      go_wp2_with fail
      go_ret
      exact ⟨⟨true, rfl, fun _ => trivial⟩, rfl⟩
def NumP (w : World) (e : Ending) (w' : World) : Prop := (∃ z : Int, e = .returned (.int .i64 z)) ∧ Below w.heap.size w w'
set_option maxRecDepth 100000 in
set_option maxHeartbeats 8000000 in
theorem cby57 (X : Nat → Prop) (v : Value) (C : List Co) (w : World) (hv : CoV X w v C) (hX : ∀ b, X b → b < w.heap.size) (hl : wC C ≤ 1048576) :
    Calls Try.prog 5 #[v] w (NumP w) := by
  obtain ⟨va, vc, hve⟩ := RW.slice hv
  obtain ⟨m, hm⟩ : ∃ m, m = C.length := ⟨_, rfl⟩
  rw [← hm] at hve
  subst hve
  have hm2 : m ≤ 1048576 := by unfold wC at hl; omega
  have HC := Lib.hid (And.intro hv (And.intro hm (And.intro hl hX)))
  obtain ⟨tS, hS, hS2⟩ := tySj
  clear hv hm hl hX
  go_enter Try.func5, Try.ntmps5
  go_upto_block 0 with fail
  refine wp_block ?_
  have HST := Lib.hid (Below.refl w.heap.size w)
  go_loopw [3, 4] (fun t i wr => ∃ (k : Nat) (z : Int), k ≤ m ∧ i = .int .i64 k ∧ t = .int .i64 z ∧ Hid (Below w.heap.size w wr)) (fun _ i _ => m - (intOf i).toNat)
  case atStart => exact ⟨0, _, Nat.zero_le _, rfl, rfl, HST⟩
  case round =>
    clear HST
    obtain ⟨k, z, hk, rfl, rfl, HW⟩ := hrel
    by_cases hlt : k < m
    · as_aux_lemma =>
      have q0 : (0 : Int) ≤ k := by omega
      have q1 : (k : Int) < m := by omega
      have kL : k < C.length := by have := HC.out.2.1; omega
      obtain ⟨g, o, cc, a2, c2, hve, -, hr, -, hSv⟩ := CoV.at HC.out.1 kL
      simp only [Value.slice.injEq] at hve
      obtain ⟨rfl, hz, rfl⟩ := hve
      clear hz
      have hw : wS C[k].S ≤ 1048576 := by
        have h1 := wC_mem (List.getElem_mem kL)
        have h2 := HC.out.2.2.1
        omega
      obtain ⟨m2, hm2⟩ : ∃ m, m = C[k].S.length := ⟨_, rfl⟩
      have hm24 : m2 ≤ 1048576 := by rw [hm2]; unfold wS at hw; omega
      obtain ⟨am, ham⟩ : ∃ x, x = C[k].am := ⟨_, rfl⟩
      rw [← hm2, ← ham] at hr
      rw [← hm2] at hSv
      have HD := Lib.hid (And.intro (hr 3 _ rfl) (And.intro hSv (And.intro hm2 hw)))
      have d2 := later HW.out (hr 2 _ rfl)
      clear hr hSv hm2 ham hw
      go_upto_block 2 with fail
      clear d2
      refine wp_block ?_
      go_loopw [3, 5] (fun t i wr => ∃ (k2 : Nat) (z2 : Int), k2 ≤ m2 ∧ i = .int .i64 k2 ∧ t = .int .i64 z2 ∧ Hid (Below w.heap.size w wr)) (fun _ i _ => m2 - (intOf i).toNat)
      case atStart => exact ⟨0, _, Nat.zero_le _, rfl, rfl, HW⟩
      case round =>
        clear HW
        obtain ⟨k2, z2, hk2, rfl, rfl, HV⟩ := hrel
        have d3 := later HV.out HD.out.1
        by_cases hlt2 : k2 < m2
        · as_aux_lemma =>
          have r0 : (0 : Int) ≤ k2 := by omega
          have r1 : (k2 : Int) < m2 := by omega
          have kL2 : k2 < C[k].S.length := by have := HD.out.2.2.1; omega
          obtain ⟨g2, o2, cc2, a3, c3, hve, -, hr, -, hI⟩ := SjV.at HD.out.2.1 kL2
          simp only [Value.slice.injEq] at hve
          obtain ⟨rfl, hz, rfl⟩ := hve
          clear hz
          have hwI : wI (C[k].S[k2]).I ≤ 1048576 := by
            have h1 := wS_mem (List.getElem_mem kL2)
            have h2 := HD.out.2.2.2
            omega
          obtain ⟨m3, hm3⟩ : ∃ m, m = (C[k].S[k2]).I.length := ⟨_, rfl⟩
          have hm34 : m3 ≤ 1048576 := by rw [hm3]; unfold wI at hwI; omega
          obtain ⟨nm, hnm⟩ : ∃ x, x = (C[k].S[k2]).nm := ⟨_, rfl⟩
          obtain ⟨wb, hwb⟩ : ∃ x, x = (C[k].S[k2]).wr := ⟨_, rfl⟩
          obtain ⟨kd, hkd⟩ : ∃ x, x = (C[k].S[k2]).kd := ⟨_, rfl⟩
          rw [← hm3, ← hnm, ← hwb, ← hkd] at hr
          rw [← hm3] at hI
          have H3 := Lib.hid (And.intro hI (And.intro hm3 hwI))
          have HR := Lib.hid (rg_keep HV.out hr)
          clear hr hI hm3 hnm hwb hkd hwI
          go_upto_region 10 with (first
            | (refine wpList_load_mid rfl 58 _ rfl g2 (o2 + k2 * 4) rfl (sj4 wb kd nm a3 m3 c3) tS HR.out hS hS2 szSj ?_)
            | (refine wpList_store_mid rfl 58 _ _ rfl wr.heap.size 0 (sj4 wb kd nm a3 m3 c3).toArray rfl rfl (th_new wr _ _ rfl) szSj (sj4_all _ _ _ _ _ _) ?_))
          have hbS : Below wr.heap.size wr ((wr.alloc (.cells #[.bool false, .int .u8 0, .string ⟨#[]⟩, .slice none 0 0] 58)).setCells wr.heap.size 0 (sj4 wb kd nm a3 m3 c3)) := below_setCells (Nat.le_refl _) _ _ ((Below.refl _ _).alloc (Nat.le_refl _) _)
          have hrS : ((wr.alloc (.cells #[.bool false, .int .u8 0, .string ⟨#[]⟩, .slice none 0 0] 58)).setCells wr.heap.size 0 (sj4 wb kd nm a3 m3 c3)).rangeAt wr.heap.size 0 (sj4 wb kd nm a3 m3 c3) := World.rangeAt_setCells_same _ _ _ _ (th_new wr _ _ rfl)
          generalize World.setCells _ _ _ _ = w5 at *
          have e2 := hrS 2 _ rfl
          simp only [Nat.zero_add] at e2
          have HW5 := Lib.hid (And.intro (HV.out.trans (hbS.mono HV.out.size)) hrS)
          clear hbS hrS HR HV d3
          generalize wr.heap.size = b6 at *
          clear wr
          as_aux_lemma =>
          go_upto_block 4 with fail
          clear e2
          refine wp_block ?_
          go_loopw [3, 7] (fun t i wr => ∃ (k3 : Nat) (z3 : Int), k3 ≤ m3 ∧ i = .int .i64 k3 ∧ t = .int .i64 z3 ∧ Hid (Below w.heap.size w wr ∧ wr.rangeAt b6 0 (sj4 wb kd nm a3 m3 c3))) (fun _ i _ => m3 - (intOf i).toNat)
          case atStart => exact ⟨0, _, Nat.zero_le _, rfl, rfl, HW5⟩
          case round =>
            clear HW5
            obtain ⟨k3, z3, hk3, rfl, rfl, HU⟩ := hrel
            have e3 := HU.out.2 3 _ rfl
            simp only [Nat.zero_add] at e3
            by_cases hlt3 : k3 < m3
            · as_aux_lemma =>
              have u0 : (0 : Int) ≤ k3 := by omega
              have u1 : (k3 : Int) < m3 := by omega
              have kL3 : k3 < (C[k].S[k2]).I.length := by have := H3.out.2.1; omega
              obtain ⟨g3, o3, cc3, a4, c4, hve, -, hr, -, hN⟩ := InV.at H3.out.1 kL3
              simp only [Value.slice.injEq] at hve
              obtain ⟨rfl, hz, rfl⟩ := hve
              clear hz
              obtain ⟨m4, hm4⟩ : ∃ m, m = ((C[k].S[k2]).I[k3]).N.length := ⟨_, rfl⟩
              have hm44 : m4 ≤ 1048576 := by
                have h1 := wI_mem (List.getElem_mem kL3)
                have h2 := H3.out.2.2
                have h3 := wN_len ((C[k].S[k2]).I[k3]).N
                omega
              obtain ⟨am2, ham2⟩ : ∃ x, x = ((C[k].S[k2]).I[k3]).am := ⟨_, rfl⟩
              rw [← hm4, ← ham2] at hr
              rw [← hm4] at hN
              have HD4 := Lib.hid (And.intro (hr 3 _ rfl) (And.intro hN (And.intro hm4 (hr 2 _ rfl))))
              clear hr hN hm4 ham2
              have d5 := later (HU.out.1.drew) HD4.out.1
              have d6 := later (HU.out.1.drew) HD4.out.2.2.2
              have d7 : wr.drew.cell? ⟨b6, 3, none⟩ = some (.slice (some ⟨g3, o3, none⟩) m3 c3) := e3
              have HS0 := Lib.hid (And.intro d5 (And.intro d6 d7))
              have HU2 := Lib.hid (show Below w.heap.size w wr.drew ∧ wr.drew.rangeAt b6 0 (sj4 wb kd nm (some ⟨g3, o3, none⟩) m3 c3) from ⟨HU.out.1.drew, HU.out.2⟩)
              clear d5 d6 d7 HU
              go_upto_region 14 with fail
              clear e3
              refine wp_region_held_drew (S := fun w' => w'.cell? ⟨g3, o3 + k3 * 4 + 3, none⟩ = some (.slice a4 m4 c4) ∧ w'.cell? ⟨g3, o3 + k3 * 4 + 2, none⟩ = some (.int .u8 (am2 : Nat)) ∧ w'.cell? ⟨b6, 3, none⟩ = some (.slice (some ⟨g3, o3, none⟩) m3 c3)) (by kernel_rfl) HS0.out (fun hHeld => ?_)
              show wpAnyH _ _ _ _ _ 21 (Array.replicate 21 false) _ _
              refine Pl.take_l (i := 0) (v := ?v1001) rfl (by kernel_rfl) (by kernel_rfl) (by kernel_rfl) (fun _ _ _ h => h) rfl ?hy1001 hHeld ?rest1001
              case hy1001 => (intro w hSw; (try dsimp only at hSw); (obtain ⟨_, _, _⟩ := hSw); go_simp <;> (try with_reducible rfl))
              try simp only [Act.put, List.setIfInBounds_toArray, List.set_cons_zero, List.set_cons_succ]
              refine Pl.take_l (i := 1) (v := ?v1002) rfl (by kernel_rfl) (by kernel_rfl) (by kernel_rfl) (fun _ _ _ h => h) rfl ?hy1002 hHeld ?rest1002
              case hy1002 => (intro w hSw; (try dsimp only at hSw); (obtain ⟨_, _, _⟩ := hSw); go_simp <;> (try with_reducible rfl))
              try simp only [Act.put, List.setIfInBounds_toArray, List.set_cons_zero, List.set_cons_succ]
              refine Pl.take_l (i := 2) (v := ?v1003) rfl (by kernel_rfl) (by kernel_rfl) (by kernel_rfl) (fun _ _ _ h => h) rfl ?hy1003 hHeld ?rest1003
              case hy1003 => (intro w hSw; (try dsimp only at hSw); (obtain ⟨_, _, _⟩ := hSw); go_simp <;> (try with_reducible rfl))
              try simp only [Act.put, List.setIfInBounds_toArray, List.set_cons_zero, List.set_cons_succ]
              refine Pl.take_l (i := 3) (v := ?v1004) rfl (by kernel_rfl) (by kernel_rfl) (by kernel_rfl) (fun _ _ _ h => h) rfl ?hy1004 hHeld ?rest1004
              case hy1004 => (intro w hSw; (try dsimp only at hSw); (obtain ⟨_, _, _⟩ := hSw); go_simp <;> (try with_reducible rfl))
              try simp only [Act.put, List.setIfInBounds_toArray, List.set_cons_zero, List.set_cons_succ]
              refine Pl.take_l (i := 4) (v := ?v1005) rfl (by kernel_rfl) (by kernel_rfl) (by kernel_rfl) (fun _ _ _ h => h) rfl ?hy1005 hHeld ?rest1005
              case hy1005 => (intro w hSw; (try dsimp only at hSw); (obtain ⟨_, _, _⟩ := hSw); go_simp <;> (try with_reducible rfl))
              try simp only [Act.put, List.setIfInBounds_toArray, List.set_cons_zero, List.set_cons_succ]
              refine Pl.take_l (i := 5) (v := ?v1006) rfl (by kernel_rfl) (by kernel_rfl) (by kernel_rfl) (fun _ _ _ h => h) rfl ?hy1006 hHeld ?rest1006
              case hy1006 => (intro w hSw; (try dsimp only at hSw); (obtain ⟨_, _, _⟩ := hSw); go_simp <;> (try with_reducible rfl))
              try simp only [Act.put, List.setIfInBounds_toArray, List.set_cons_zero, List.set_cons_succ]
              refine Pl.take_l (i := 6) (v := ?v1007) rfl (by kernel_rfl) (by kernel_rfl) (by kernel_rfl) (fun _ _ _ h => h) rfl ?hy1007 hHeld ?rest1007
              case hy1007 => (intro w hSw; (try dsimp only at hSw); (obtain ⟨_, _, _⟩ := hSw); go_simp <;> (try with_reducible rfl))
              try simp only [Act.put, List.setIfInBounds_toArray, List.set_cons_zero, List.set_cons_succ]
              refine Pl.take_l (i := 7) (v := ?v1008) rfl (by kernel_rfl) (by kernel_rfl) (by kernel_rfl) (fun _ _ _ h => h) rfl ?hy1008 hHeld ?rest1008
              case hy1008 => (intro w hSw; (try dsimp only at hSw); (obtain ⟨_, _, _⟩ := hSw); go_simp <;> (try with_reducible rfl))
              try simp only [Act.put, List.setIfInBounds_toArray, List.set_cons_zero, List.set_cons_succ]
              refine Pl.take_l (i := 8) (v := ?v1009) rfl (by kernel_rfl) (by kernel_rfl) (by kernel_rfl) (fun _ _ _ h => h) rfl ?hy1009 hHeld ?rest1009
              case hy1009 => (intro w hSw; (try dsimp only at hSw); (obtain ⟨_, _, _⟩ := hSw); go_simp <;> (try with_reducible rfl))
              try simp only [Act.put, List.setIfInBounds_toArray, List.set_cons_zero, List.set_cons_succ]
              refine Pl.take_l (i := 9) (v := ?v1010) rfl (by kernel_rfl) (by kernel_rfl) (by kernel_rfl) (fun _ _ _ h => h) rfl ?hy1010 hHeld ?rest1010
              case hy1010 => (intro w hSw; (try dsimp only at hSw); (obtain ⟨_, _, _⟩ := hSw); go_simp <;> (try with_reducible rfl))
              try simp only [Act.put, List.setIfInBounds_toArray, List.set_cons_zero, List.set_cons_succ]
              refine Pl.take_l (i := 10) (v := ?v1011) rfl (by kernel_rfl) (by kernel_rfl) (by kernel_rfl) (fun _ _ _ h => h) rfl ?hy1011 hHeld ?rest1011
              case hy1011 => (intro w hSw; (try dsimp only at hSw); (obtain ⟨_, _, _⟩ := hSw); go_simp <;> (try with_reducible rfl))
              try simp only [Act.put, List.setIfInBounds_toArray, List.set_cons_zero, List.set_cons_succ]
              refine Pl.take_l (i := 11) (v := ?v1012) rfl (by kernel_rfl) (by kernel_rfl) (by kernel_rfl) (fun _ _ _ h => h) rfl ?hy1012 hHeld ?rest1012
              case hy1012 => (intro w hSw; (try dsimp only at hSw); (obtain ⟨_, _, _⟩ := hSw); go_simp <;> (try with_reducible rfl))
              try simp only [Act.put, List.setIfInBounds_toArray, List.set_cons_zero, List.set_cons_succ]
              refine Pl.take_l (i := 12) (v := ?v1013) rfl (by kernel_rfl) (by kernel_rfl) (by kernel_rfl) (fun _ _ _ h => h) rfl ?hy1013 hHeld ?rest1013
              case hy1013 => (intro w hSw; (try dsimp only at hSw); (obtain ⟨_, _, _⟩ := hSw); go_simp <;> (try with_reducible rfl))
              try simp only [Act.put, List.setIfInBounds_toArray, List.set_cons_zero, List.set_cons_succ]
              refine Pl.take_l (i := 13) (v := ?v1014) rfl (by kernel_rfl) (by kernel_rfl) (by kernel_rfl) (fun _ _ _ h => h) rfl ?hy1014 hHeld ?rest1014
              case hy1014 => (intro w hSw; (try dsimp only at hSw); (obtain ⟨_, _, _⟩ := hSw); go_simp <;> (try with_reducible rfl))
              try simp only [Act.put, List.setIfInBounds_toArray, List.set_cons_zero, List.set_cons_succ]
              refine Pl.take_l (i := 14) (v := ?v1015) rfl (by kernel_rfl) (by kernel_rfl) (by kernel_rfl) (fun _ _ _ h => h) rfl ?hy1015 hHeld ?rest1015
              case hy1015 => (intro w hSw; (try dsimp only at hSw); (obtain ⟨_, _, _⟩ := hSw); go_simp <;> (try with_reducible rfl))
              try simp only [Act.put, List.setIfInBounds_toArray, List.set_cons_zero, List.set_cons_succ]
              refine Pl.take_l (i := 15) (v := ?v1016) rfl (by kernel_rfl) (by kernel_rfl) (by kernel_rfl) (fun _ _ _ h => h) rfl ?hy1016 hHeld ?rest1016
              case hy1016 => (intro w hSw; (try dsimp only at hSw); (obtain ⟨_, _, _⟩ := hSw); go_simp <;> (try with_reducible rfl))
              try simp only [Act.put, List.setIfInBounds_toArray, List.set_cons_zero, List.set_cons_succ]
              refine Pl.take_l (i := 16) (v := ?v1017) rfl (by kernel_rfl) (by kernel_rfl) (by kernel_rfl) (fun _ _ _ h => h) rfl ?hy1017 hHeld ?rest1017
              case hy1017 => (intro w hSw; (try dsimp only at hSw); (obtain ⟨_, _, _⟩ := hSw); go_simp <;> (try with_reducible rfl))
              try simp only [Act.put, List.setIfInBounds_toArray, List.set_cons_zero, List.set_cons_succ]
              refine Pl.take_l (i := 17) (v := ?v1018) rfl (by kernel_rfl) (by kernel_rfl) (by kernel_rfl) (fun _ _ _ h => h) rfl ?hy1018 hHeld ?rest1018
              case hy1018 => (intro w hSw; (try dsimp only at hSw); (obtain ⟨_, _, _⟩ := hSw); go_simp <;> (try with_reducible rfl))
              try simp only [Act.put, List.setIfInBounds_toArray, List.set_cons_zero, List.set_cons_succ]
              refine Pl.take_l (i := 18) (v := ?v1019) rfl (by kernel_rfl) (by kernel_rfl) (by kernel_rfl) (fun _ _ _ h => h) rfl ?hy1019 hHeld ?rest1019
              case hy1019 => (intro w hSw; (try dsimp only at hSw); (obtain ⟨_, _, _⟩ := hSw); go_simp <;> (try with_reducible rfl))
              try simp only [Act.put, List.setIfInBounds_toArray, List.set_cons_zero, List.set_cons_succ]
              refine Pl.take_l (i := 19) (v := ?v1020) rfl (by kernel_rfl) (by kernel_rfl) (by kernel_rfl) (fun _ _ _ h => h) rfl ?hy1020 hHeld ?rest1020
              case hy1020 => (intro w hSw; (try dsimp only at hSw); (obtain ⟨_, _, _⟩ := hSw); go_simp <;> (try with_reducible rfl))
              try simp only [Act.put, List.setIfInBounds_toArray, List.set_cons_zero, List.set_cons_succ]
              refine Pl.take_l (i := 20) (v := ?v1021) rfl (by kernel_rfl) (by kernel_rfl) (by kernel_rfl) (fun _ _ _ h => h) rfl ?hy1021 hHeld ?rest1021
              case hy1021 => (intro w hSw; (try dsimp only at hSw); (obtain ⟨_, _, _⟩ := hSw); go_simp <;> (try with_reducible rfl))
              try simp only [Act.put, List.setIfInBounds_toArray, List.set_cons_zero, List.set_cons_succ]
              refine wpAnyH_done (by kernel_rfl) ?_ _
              clear hHeld
              generalize World.drew _ = wd at *
              generalize IntKind.i64.wrap (z3 + _) = z4 at *
              as_aux_lemma =>
              go_upto_block 6 with fail
              refine wp_block ?_
              go_loopw [3, 8] (fun t i wr => ∃ (k4 : Nat) (z5 : Int), k4 ≤ m4 ∧ i = .int .i64 k4 ∧ t = .int .i64 z5 ∧ Hid (Below w.heap.size w wr ∧ wr.rangeAt b6 0 (sj4 wb kd nm (some ⟨g3, o3, none⟩) m3 c3))) (fun _ i _ => m4 - (intOf i).toNat)
              case atStart => exact ⟨0, _, Nat.zero_le _, rfl, rfl, HU2⟩
              case round =>
                clear HU2
                obtain ⟨k4, z5, hk4, rfl, rfl, HT⟩ := hrel
                have e3 := HT.out.2 3 _ rfl
                simp only [Nat.zero_add] at e3
                have e4 := later HT.out.1 HD4.out.1
                by_cases hlt4 : k4 < m4
                · as_aux_lemma =>
                  have x0 : (0 : Int) ≤ k4 := by omega
                  have x1 : (k4 : Int) < m4 := by omega
                  obtain ⟨g4, o4, cc4, hve, -, hc⟩ := NmV.at HD4.out.2.1 (i := k4) (by have := HD4.out.2.2.1; omega)
                  simp only [Value.slice.injEq] at hve
                  obtain ⟨rfl, hz, rfl⟩ := hve
                  clear hz
                  have e5 := later HT.out.1 hc
                  clear hc
                  go_wp2_with fail
                  exact ⟨⟨k4 + 1, _, by omega, by go_num, rfl, HT⟩, by simp [intOf]; omega⟩
                · as_aux_lemma =>
                  obtain rfl : k4 = m4 := by omega
                  go_wp2_with fail
                  exact ⟨⟨k3 + 1, _, by omega, by go_num, rfl, HT⟩, by simp [intOf]; omega⟩
            · as_aux_lemma =>
              obtain rfl : k3 = m3 := by omega
              have HV2 := Lib.hid HU.out.1
              by_cases gz : (2097152 : Int) < z3
              · as_aux_lemma =>
                go_wp2_with fail
                go_ret
                exact ⟨⟨_, rfl⟩, HV2.out⟩
              · as_aux_lemma =>
                go_wp2_with fail
                exact ⟨⟨k2 + 1, _, by omega, by go_num, rfl, HV2⟩, by simp [intOf]; omega⟩
        · as_aux_lemma =>
          obtain rfl : k2 = m2 := by omega
          by_cases gz : (2097152 : Int) < z2
          · as_aux_lemma =>
            go_wp2_with fail
            go_ret
            exact ⟨⟨_, rfl⟩, HV.out⟩
          · as_aux_lemma =>
            go_wp2_with fail
            exact ⟨⟨k + 1, _, by omega, by go_num, rfl, HV⟩, by simp [intOf]; omega⟩
    · as_aux_lemma =>
      obtain rfl : k = m := by omega
      go_wp2_with fail
      go_ret
      exact ⟨⟨_, rfl⟩, HW.out⟩
end Go.Proofs.Ytbpnmiedomchpaa.Fg
