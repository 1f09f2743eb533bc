/-
  For every list of texts and either sort of parser: over a script of calls on one parser ids are dense in first-seen order, one id per distinct name, each names its text, and use counts add up to the number of conversions: the Go law FnHandleSingleScript returns true for every input. The variables that the package and strings.ToLower read are tied to the text of the program. No condition.
-/
import Derived.Test.YtkphnplmjpjbjaaDoorRows
import Derived.Test.YtkphnplmjpjbjaaDoorTie
import Derived.Test.YtkphnplmjpjbjaaDoorCards
import Derived.WalkKit
import Derived.ProofKit
import Derived.OpenShut
import Derived.ShutString
import Derived.ChangeOld
import Derived.Below
import Derived.Lib.Hide
import Derived.Outline
import Derived.OpenVars
import Derived.Lay
import Derived.LaidMore
import Derived.SevenTiedAt
import Derived.Stop.Joined
import Derived.LaidLaws
import Derived.SliceStrings
import Derived.Test.YtkphnplmjpjbjaaDoorMu
import Derived.Deep.DeepCutAuto
import Derived.Deep.CutBlock
import Derived.Lib.LaidIn
import Derived.MakeChecks
namespace Go.Proofs.YtkphnplmjpjbjaaDoor.fnHandleSingleScript
open Go.ChangeShapes Go.WideShapes Go.ChangeAt Go.RowKit
open Go.ChangeMaps (open_string shut_string)
set_option linter.unusedVariables false

theorem own : ownKnob Tryd.prog.godebug = none := by kernel_rfl
theorem laidOut : laidOutB Tryd.prog = true := by kernel_rfl

/-- What the walk is told of a slice that came in: it is nil; or it leads to a row of 'cap' cells that hold 'zs'. -/
def IsRow {α : Type} [Inhabited α] (mk : α → Value) (ok : α → Prop) (w : World) (a : Option Addr) (len cap : Nat) (zs : List α) : Prop :=
  (a = none ∧ len = 0 ∧ cap = 0 ∧ zs = []) ∨
  ∃ x, a = some x ∧ len ≤ cap ∧ cap ≤ maxLen ∧ zs.length = cap ∧ (∀ i (h : i < zs.length), w.cell? (x.add i) = some (mk zs[i])) ∧ ∀ n ∈ zs, ok n
section
variable {H : Type} {enc : TypeId × Value → H} {P : Program} {w : World} {base : Nat} {hd : Bool}
theorem row_of_string {t e : TypeId} {fuel : Nat} {a : Option Addr} {len cap : Nat} {x : DataW H × List MemPlace} (ht : P.underlying t = some (.slice e)) (he : P.underlying e = some .string) (hc : P.cellsOf e = 1)
    (hf : DataW.trod enc P w base (fun _ => true) hd fuel t (Value.slice a len cap).cells.toList = some x) : ∃ zs, IsRow .string (fun s => s.size ≤ maxLen) w a len cap zs := by
  rcases open_strings ht he hc hf with ⟨hcs, _⟩ | ⟨y, l, c, zs, hcs, _, hl, hm, hz, _, hcell, hwz⟩
  · simp [Value.cells] at hcs
    obtain ⟨rfl, rfl, rfl⟩ := hcs
    exact ⟨[], .inl ⟨rfl, rfl, rfl, rfl⟩⟩
  · simp [Value.cells] at hcs
    obtain ⟨rfl, rfl, rfl⟩ := hcs
    exact ⟨zs, .inr ⟨_, rfl, hl, hm, by simpa using hz, fun i h => by have := hcell i h; simpa [List.getD, h] using this, hwz⟩⟩
end

open Sy Rg
open Go.ChangeMaps (setBlock heap_setBlock_same heap_setBlock_other)
theorem cells_one {w : World} {g : Nat} {x : TK} (h : TB w g [x]) : w.cell? ⟨g, 3, none⟩ = some (.int .u32 x.2.2) ∧ w.cell? ⟨g, 5, none⟩ = some (.int .u8 x.2.1) :=
  ⟨TB.cellAt (i := 0) (j := 3) h (by simp) rfl, TB.cellAt (i := 0) (j := 5) h (by simp) rfl⟩
theorem getD_mem {S : SY} {i : Nat} (h : i < S.length) : S.getD i (⟨#[]⟩, 0) ∈ S := by
  rw [List.getD_eq_getElem?_getD, List.getElem?_eq_getElem h]
  exact List.getElem_mem h

set_option maxRecDepth 100000 in
set_option maxHeartbeats 4000000 in
/-- THE WALK -/
theorem walk (a0 : Option Addr) (len0 cap0 : Nat) (z0 : List ByteArray) (a1 : Bool) (w : World) (w0 : IsRow .string (fun s => s.size ≤ maxLen) w a0 len0 cap0 z0) (hL : laidMetH Tryd.prog Rows.fnHandleSingleScriptRow.laid w) :
    Calls Tryd.prog 3 #[.slice a0 len0 cap0, .bool a1] w fun e w' => e = .returned (.bool true) ∧ Below w.heap.size w w' := by
  unfold IsRow at w0
  obtain ⟨hT, hok1, hz1, hm1⟩ := Sl.of_row w0
  obtain ⟨T, hT2⟩ : ∃ Z : Nat → ByteArray, Z = fun i => z0.getD i default := ⟨_, rfl⟩
  have HT := Lib.hid (show Sl w a0 len0 (fun i => .string (T i)) by rw [hT2]; exact hT)
  have HTS := Lib.hid (show ∀ i, i < len0 → ((T i).size : Int) ≤ 9223372036854775807 by intro i hi; have h := hok1 i hi; have e : T i = z0.getD i default := congrFun hT2 i; rw [e]; unfold maxLen at h; omega)
  have hl1 : (len0 : Int) ≤ 9223372036854775807 := by unfold maxLen at hm1; omega
  have HZ1 := Lib.hid hz1
  clear w0 hT hok1 hm1 hT2 hz1
  have HEV := Lib.hid (show EV w.heap.size w from ⟨w, rfl, ⟨TL_of hL (by kernel_rfl) (by exact .tail _ (.tail _ (.tail _ (.head _)))) (by exact .tail _ (.tail _ (.tail _ (.tail _ (.head _))))) (by exact .head _), MV_of (nm := "github.com/evanw/esbuild/internal/css_parser.cssWideAndReservedKeywords") (D := cssL) hL (by kernel_rfl) (by exact .tail _ (.tail _ (.head _))) (by kernel_rfl) (by kernel_rfl), IR_of hL (by kernel_rfl) (by exact .tail _ (.head _))⟩, Below.refl _ _⟩)
  clear hL
  go_enter Tryd.func3, Tryd.ntmps3
  go_wp2_with fail
  refine (zbs_any a0 len0 cap0 T a1 w hl1 HT.out HTS.out).mono ?_
  rintro e wz ⟨⟨r, rfl, hr⟩, rfl⟩
  have HR := Lib.hid hr
  clear hr
  cases r
  · go_wp2_with fail
    go_ret
    exact ⟨rfl, Below.refl _ _⟩
  obtain ⟨hl0, hts⟩ := HR.out rfl
  have HTS2 := Lib.hid hts
  clear HR hts hl1 HTS
  go_wp2_with fail
  refine (sb_any a0 len0 cap0 T w HT.out HTS2.out).mono ?_
  rintro e wz ⟨⟨r, rfl, hr⟩, rfl⟩
  by_cases hr2 : (1048576 : Int) < r
  · clear hr
    go_wp2_with fail
    go_ret
    exact ⟨rfl, Below.refl _ _⟩
  have hn0 : len0 ≤ 65536 := hr (by omega)
  clear hr
  go_wp2_with fail
  refine (cl22 a0 len0 cap0 T w HT.out HZ1.out (by omega)).mono ?_
  rintro e w1 ⟨a, c, rfl, ht, hab, -, hb⟩
  have HTK := Lib.hid (And.intro ht (And.intro hab hb))
  clear ht hb hab HT hr2 HZ1
  obtain ⟨n, hn⟩ : ∃ n, len0 = n := ⟨_, rfl⟩
  subst hn
  have hmm : ∀ W : World, (Instr.makeMap 28 none).run Tryd.prog W = .ok (.map (some W.heap.size)) (W.alloc (muO [])) := fun W => run_makeMap _ W
  go_wp2_with fail
  refine (np_any a1 w1).mono ?_
  rintro e w2 ⟨p, X, rfl, hps, hX, hb⟩
  have HP := Lib.hid (And.intro hps (And.intro hX hb))
  clear hps hX hb
  go_wp2_with fail
  have hIV : IV w a len0 T p w2.heap.size a1 [] [] X (w2.alloc (muO [])) := by
    obtain ⟨t1, t2, t3⟩ := HTK.out
    obtain ⟨p1, p2, p3⟩ := HP.out
    have s1 := t3.size
    have s2 := p3.size
    have hal : Below w2.heap.size w2 (w2.alloc (muO [])) := (Below.refl _ _).alloc (Nat.le_refl _) _
    have s3 : (w2.alloc (muO [])).heap.size = w2.heap.size + 1 := by simp
    have B12 : Below w.heap.size w w2 := t3.trans (p3.mono s1)
    have B13 : Below w.heap.size w (w2.alloc (muO [])) := B12.trans (hal.mono (by omega))
    have hbl : 0 < len0 → ∀ x, a = some x → x.block < w1.heap.size := fun h0 x hx => by
      obtain ⟨ab, ao, e, c⟩ := t1 0 h0
      rw [hx] at e
      obtain rfl := Option.some.inj e
      exact World.block_lt_of_cell? w1 _ c
    exact ⟨HEV.out.keep B13, B13, p1.keep hal, heap_alloc_new w2 _, (t1.keep p3).keep hal, fun i hi => ⟨by have := (p2 i hi).1; omega, by have := (p2 i hi).2; omega, by have := (p2 i hi).2; omega, fun h0 x hx => by have := hbl h0 x hx; have := (p2 i hi).1; omega⟩,
      ⟨by omega, by omega⟩, fun h0 x hx => by have := hbl h0 x hx; exact ⟨by omega, by omega⟩⟩
  obtain ⟨bm, hbm⟩ : ∃ q, w2.heap.size = q := ⟨_, rfl⟩
  rw [hbm] at hIV ⊢
  generalize w2.alloc (muO []) = w3 at *
  have HI0 := Lib.hid hIV
  clear hIV hbm HP HTK hmm
  go_loopw [7, 8, 9] (fun dv cw iv wr => ∃ (k d c0 : Nat), k ≤ len0 ∧ iv = .int .i64 k ∧ dv = .int .i64 d ∧ cw = .int .i64 c0 ∧ d ≤ k ∧ c0 ≤ k ∧ Hid ((scr T k).length = d ∧ cv T k = c0 ∧ ∃ X, IV w a len0 T p bm a1 (scr T k) ((scr T k).map (·.1)) X wr)) (fun _ _ iv _ => len0 - (intOf iv).toNat)
  case atStart => exact ⟨0, 0, 0, Nat.zero_le _, rfl, rfl, rfl, Nat.le_refl _, Nat.le_refl _, Lib.hid ⟨rfl, rfl, X, HI0.out⟩⟩
  case round =>
    clear HI0 X
    obtain ⟨k, d, c0, hk, rfl, rfl, rfl, hdk, hck, HI⟩ := hrel
    by_cases hlt : k < len0
    · obtain ⟨hd, hc0, X, hiv⟩ := HI.out
      obtain ⟨ab, ao, hae, ct⟩ := hiv.sl k hlt
      subst hae
      obtain ⟨s, hs⟩ : ∃ s, T k = s := ⟨_, rfl⟩
      have hsz : ((T k).size : Int) ≤ 1048576 := HTS2.out k hlt
      dsimp only at ct
      rw [hs] at ct hsz
      have hbd := scr_bd T k
      have hs1 : scr T (k + 1) = if rsv s then scr T k else addS s (scr T k) := by rw [← hs]; rfl
      have hs2 : cv T (k + 1) = if rsv s then c0 else c0 + 1 := by rw [← hs, ← hc0]; rfl
      generalize scr T k = S at *
      have HV := Lib.hid hiv
      have HD := Lib.hid (And.intro hd (And.intro hbd (And.intro hs1 hs2)))
      have HSZ := Lib.hid hsz
      have q0 : (0 : Int) ≤ k := by omega
      have q1 : (k : Int) < len0 := by omega
      clear hiv hd hbd hs1 hs2 hs HI hc0 hsz
      go_wp2_with fail
      obtain ⟨g, hg⟩ : ∃ q, wr.heap.size = q := ⟨_, rfl⟩
      have hst := HV.out.tok (s, 29, 7)
      have hbA : Below wr.heap.size wr (wr.alloc (.cells (tkR (s, 29, 7)).toArray 37)) := (Below.refl _ _).alloc (Nat.le_refl _) _
      obtain ⟨wA, hwA⟩ : ∃ w', wr.alloc (.cells (tkR (s, 29, 7)).toArray 37) = w' := ⟨_, rfl⟩
      have hwA2 := hwA
      unfold tkR at hwA2
      rw [hwA] at hst hbA
      rw [hwA2, hg]
      rw [hg] at hst
      have HST := Lib.hid hst
      have HVA := Lib.hid (And.intro (HV.out.keep hbA) (show bm < g ∧ w.heap.size ≤ g ∧ (0 < len0 → ab < g) by
        have h1 := HV.out.bb.2; have h2 := HV.out.bw.size; exact ⟨by omega, by omega, fun h0 => by have := (HV.out.ab h0 _ rfl).1; simp at this; omega⟩))
      clear hwA hwA2 hst hbA hg HV ct
      refine (wh_any p g a1 s 29 7 S wA HST.out (HD.out.2.1.mono (by omega)) HSZ.out).mono ?_
      rintro e wB ⟨rfl, X2, h1, h2⟩
      have HVB := Lib.hid (HVA.out.1.go (by have := HVA.out.2.1; omega) (fun h0 x hx => by cases hx; have := HVA.out.2.2.2 h0; show ab ≠ g; omega) HVA.out.2.2.1 h1 h2)
      have HTB := Lib.hid h1.tb
      clear h1 h2 HST HVA
      go_wp2_with fail
      refine (rs_any s wB HSZ.out).mono ?_
      rintro e wC ⟨rfl, hb⟩
      have HVC := Lib.hid (HVB.out.keep hb)
      have HTC := Lib.hid (Bk.keep HTB.out hb)
      clear HVB HTB hb
      cases hv : rsv s with
      | true =>
        have e1 : stp cC 0 ([(s, 29, 7)], S) = ([(s, 29, 7)], S) := stp_not (by show (!rsv s) = false; rw [hv]; rfl)
        obtain ⟨c3, c5⟩ := cells_one (x := (s, 29, 7)) (by have := HTC.out; rw [e1] at this; exact this)
        have HF : Hid ((scr T (k + 1)).length = d ∧ cv T (k + 1) = c0 ∧ ∃ X, IV w (some ⟨ab, ao, none⟩) len0 T p bm a1 (scr T (k + 1)) ((scr T (k + 1)).map (·.1)) X wC) := Lib.hid (by
          obtain ⟨d1, d2, d3, d4⟩ := HD.out
          rw [hv, if_pos rfl] at d3 d4
          rw [d3, d4]
          exact ⟨d1, rfl, X2, by have := HVC.out; rw [e1] at this; exact this⟩)
        clear HVC HTC HD e1 hv HSZ
        go_wp2_with fail
        exact ⟨⟨k + 1, d, c0, by omega, by go_num, rfl, rfl, by omega, by omega, HF⟩, by simp [intOf]; omega⟩
      | false =>
        have e1 : stp cC 0 ([(s, 29, 7)], S) = ([(s, 39, (plS s S : Int))], addS s S) := stp_do (z := ([(s, 29, 7)], S)) (i := 0) (c := cC) (by show (!rsv s) = true; rw [hv]; rfl)
        obtain ⟨c3, c5⟩ := cells_one (x := (s, 39, (plS s S : Int))) (by have := HTC.out; rw [e1] at this; exact this)
        have hIC : IV w (some ⟨ab, ao, none⟩) len0 T p bm a1 (addS s S) (S.map (·.1)) X2 wC := by have := HVC.out; rw [e1] at this; exact this
        have hps := hIC.ps
        have hpl : plS s S < (addS s S).length := plS_lt
        have hlen := len_add s S
        have hnm := name_any p (plS s S) a1 (addS s S) wC hps hpl
        rw [name_add] at hnm
        have hcn := cnt_any p a1 (addS s S) wC hps
        have hlk := lookU_run wC bm (S.map (·.1)) s hIC.mp
        obtain ⟨d1, hbd, d3, d4⟩ := HD.out
        rw [hv, if_neg (by simp)] at d3 d4
        have hna := names_add s S
        have gs : (s.toList == s.toList) = true := by simp
        clear HVC HTC HD e1 hv hps HSZ
        dsimp only at c3 c5
        obtain ⟨d2, hd2⟩ : ∃ d2, (addS s S).length = d2 := ⟨_, rfl⟩
        rw [hd2] at hpl hcn hlen
        cases hx : ixF s (S.map (·.1)) with
        | some j =>
          have hj : plS s S = j := by unfold plS; rw [hx]; rfl
          rw [hx, if_pos (show (some j).isSome = true from rfl)] at hna
          rw [show ixV s (S.map (·.1)) = (j : Int) by unfold ixV; rw [hx]; rfl, hx, show (some j).isSome = true from rfl] at hlk
          have hdd : d2 = d := by have h := congrArg List.length hna; rw [List.length_map, List.length_map, hd2] at h; omega
          rw [hj] at hpl c3 hnm
          have HF : Hid ((scr T (k + 1)).length = d ∧ cv T (k + 1) = c0 + 1 ∧ ∃ X, IV w (some ⟨ab, ao, none⟩) len0 T p bm a1 (scr T (k + 1)) ((scr T (k + 1)).map (·.1)) X wC) := Lib.hid (by
            rw [d3, d4]
            exact ⟨by omega, rfl, X2, by rw [hna]; exact hIC⟩)
          have HNM := Lib.hid hnm
          have HCN := Lib.hid hcn
          have HLK := Lib.hid hlk
          clear hnm hcn hlk d3 d4 hIC hna hlen hd2 d1 hbd hx hj
          subst hdd
          go_wp2_with fail
          refine HCN.out.mono ?_
          rintro e wz ⟨rfl, rfl⟩
          have q2 : (j : Int) < d2 := by omega
          have q3 : (0 : Int) ≤ j := by omega
          have q4 : (d2 : Int) ≤ 65536 := by omega
          go_wp2_with fail
          refine HNM.out.mono ?_
          rintro e wz ⟨rfl, rfl⟩
          go_wp2_with (at_lookup; refine wpl_lookup _ rfl _ _ _ _ rfl _ _ _ rfl rfl HLK.out ?_)
          exact ⟨⟨k + 1, d2, c0 + 1, by omega, by go_num, rfl, by go_num, by omega, by omega, HF⟩, by simp [intOf]; omega⟩
        | none =>
          have hj : plS s S = S.length := by unfold plS; rw [hx]; rfl
          rw [hx, if_neg (by simp)] at hna
          rw [show ixV s (S.map (·.1)) = (0 : Int) by unfold ixV; rw [hx]; rfl, hx, show (none : Option Nat).isSome = false from rfl] at hlk
          have hdd : d2 = d + 1 := by have h := congrArg List.length hna; rw [List.length_map, List.length_append, List.length_map, hd2] at h; simp at h; omega
          have hup := updU_run wC bm (S.map (·.1)) s hIC.mp hx
          rw [List.length_map, d1] at hup
          rw [hj, d1] at hpl c3 hnm
          have HF : Hid ((scr T (k + 1)).length = d + 1 ∧ cv T (k + 1) = c0 + 1 ∧ ∃ X, IV w (some ⟨ab, ao, none⟩) len0 T p bm a1 (scr T (k + 1)) ((scr T (k + 1)).map (·.1)) X (setBlock wC bm (muO (S.map (·.1) ++ [s])))) := Lib.hid (by
            rw [d3, d4]
            exact ⟨by omega, rfl, X2, by rw [hna]; exact hIC.put _⟩)
          have HNM := Lib.hid hnm
          have HCN := Lib.hid hcn
          have HLK := Lib.hid hlk
          have HUP := Lib.hid hup
          clear hnm hcn hlk d3 d4 hIC hna hlen hd2 d1 hbd hx hj hup
          subst hdd
          generalize setBlock wC bm (muO (S.map (·.1) ++ [s])) = wD at *
          have q3 : (0 : Int) ≤ d := by omega
          have q4 : (d : Int) ≤ 65536 := by omega
          go_wp2_with fail
          refine HCN.out.mono ?_
          rintro e wz ⟨rfl, rfl⟩
          go_wp2_with fail
          refine HNM.out.mono ?_
          rintro e wz ⟨rfl, rfl⟩
          go_wp2_with (first | (at_lookup; refine wpl_lookup _ rfl _ _ _ _ rfl _ _ _ rfl rfl HLK.out ?_) | (at_mapUpdate; refine wpl_mapUpdate _ _ rfl _ _ _ _ rfl _ _ _ rfl rfl rfl HUP.out ?_))
          exact ⟨⟨k + 1, d + 1, c0 + 1, by omega, by go_num, by go_num, by go_num, by omega, by omega, HF⟩, by simp [intOf]; omega⟩
    · obtain rfl : k = len0 := by omega
      obtain ⟨hd, hc0, X, hiv⟩ := HI.out
      have hbd := (scr_bd T k).mono hn0
      have hsum := sum_scr T k
      have hpos := pos_scr T k
      rw [hc0] at hsum
      have hps := hiv.ps
      have HBW := Lib.hid hiv.bw
      generalize scr T k = S at *
      have hcn := cnt_any p a1 S wr hps
      have hck := ck_any p a1 S wr hps (by omega)
      rw [hd] at hcn hck
      have HPS := Lib.hid hps
      have HCN := Lib.hid hcn
      have HCK := Lib.hid hck
      have HSS := Lib.hid (And.intro hd (And.intro hbd (And.intro hsum hpos)))
      clear hcn hck hps hiv hsum hpos hbd hd hc0 HI
      go_wp2_with fail
      refine HCN.out.mono ?_
      rintro e wz ⟨rfl, rfl⟩
      clear HCN
      go_wp2_with fail
      go_loopw [16, 17] (fun sv iv wq => ∃ (j : Nat) (t : Int), j ≤ d ∧ iv = .int .i64 j ∧ sv = .int .u64 t ∧ 0 ≤ t ∧ t ≤ (j : Int) * 65536 ∧ Hid (t = preS S j) ∧ wq = wr) (fun _ iv _ => d - (intOf iv).toNat)
      case atStart => exact ⟨0, 0, Nat.zero_le _, rfl, rfl, by omega, by omega, Lib.hid rfl, rfl⟩
      case round =>
        obtain ⟨j, t, hj, rfl, rfl, ht0, ht1, HTJ, rfl⟩ := hrel
        by_cases hlt2 : j < d
        · have hjs : j < S.length := by rw [HSS.out.1]; exact hlt2
          have hu := uses_any p j a1 S _ HPS.out hjs
          have hm := HSS.out.2.1.2 _ (getD_mem hjs)
          have hp := HSS.out.2.2.2 _ (getD_mem hjs)
          have hsu := preS_succ S hjs
          generalize (S.getD j (⟨#[]⟩, 0)).2 = U at *
          have HU := Lib.hid hu
          have HT2 : Hid (t + U = preS S (j + 1)) := Lib.hid (by rw [hsu, HTJ.out])
          obtain ⟨m0, m1⟩ := hm
          have m2 : U ≤ 65536 := m1
          clear hu hsu HTJ m1
          have q2 : (j : Int) < d := by omega
          have q3 : (0 : Int) ≤ j := by omega
          have q5 : t + U ≤ 4294967296 := by omega
          have q6 : ¬ U = 0 := by omega
          go_wp2_with fail
          refine HU.out.mono ?_
          rintro e wz ⟨rfl, rfl⟩
          go_wp2_with fail
          exact ⟨⟨j + 1, t + U, by omega, by go_num, by go_num, by omega, by omega, HT2, trivial⟩, by simp [intOf]; omega⟩
        · obtain rfl : j = d := by omega
          have hte : t = c0 := by
            have := HTJ.out
            unfold preS at this
            rw [List.take_of_length_le (by rw [HSS.out.1]; exact Nat.le_refl _), HSS.out.2.2.1] at this
            exact this
          subst hte
          clear HTJ ht1
          have q2 : (c0 : Int) ≤ 65536 := by omega
          go_wp2_with fail
          refine HCK.out.mono ?_
          rintro e wz ⟨rfl, rfl⟩
          go_wp2_with fail
          go_ret
          exact ⟨rfl, HBW.out⟩

/-- Go's great tables: the door's own run does not lay them -/
def grt : List String := ["unicode.CaseRanges", "unicode/utf8.first"]
noncomputable def wit (os : Os) : World := (World.doorLaid Tryd.prog 59 os).layVars Tryd.prog (Rows.fnHandleSingleScriptRow.laid.filter fun x => grt.contains x.1)
theorem wit_os (os : Os) : (wit os).os = os := World.layVars_os _ _ _
noncomputable def blk (os : Os) : List Nat := ((DataW.laidRun Tryd.prog (wit os) 8 ((Rows.fnHandleSingleScriptRow.laid.filter fun x => !grt.contains x.1).map (·.1))).map fun x => x.2.map (·.block)).getD []
theorem lay_fits (os : Os) : (World.doorLaid Tryd.prog 59 os).layFits Tryd.prog (Rows.fnHandleSingleScriptRow.laid.filter fun x => grt.contains x.1) (blk os) = true := by kernel_rfl
theorem lay_ifaces (os : Os) : (World.doorLaid Tryd.prog 59 os).layIfaces Tryd.prog (Rows.fnHandleSingleScriptRow.laid.filter fun x => grt.contains x.1) (wit os) = true := by kernel_rfl
theorem lay_small (os : Os) : LaidIn Tryd.prog (wit os) (Rows.fnHandleSingleScriptRow.laid.filter fun x => !grt.contains x.1) (blk os) :=
  LaidIn.of_run _ 8 (by kernel_rfl) (by kernel_rfl) (by kernel_rfl) (by kernel_rfl)
theorem laid_met (os : Os) (args : Array Value) : laidMetH Tryd.prog Rows.fnHandleSingleScriptRow.laid ((wit os).forCall (fun _ _ => 0) ⟨#[], args, []⟩).memory := by
  rw [MakeChecks.laidMetH_plain _ _ _ (by kernel_rfl)]
  have h : laidMet Tryd.prog Rows.fnHandleSingleScriptRow.laid (wit os) := laidMet_layVars (w0 := World.doorLaid Tryd.prog 59 os) grt (blk os) rfl (lay_fits os) (lay_ifaces os) (lay_small os)
  exact h.of_heap (by simp [World.memory, World.forCall, Input.heap])

set_option maxRecDepth 1000000 in
theorem lifted (os : Os) (started : os.Started) (H : Type) (enc : TypeId × Value → H) :
    ReturnsInHanded {} Tryd.checked os 3 .any (fun w args => (Rows.fnHandleSingleScriptSpec.pre enc Tryd.prog Tryd.f3 Rows.fnHandleSingleScriptRow.domain false w args ∧ laidMetH Tryd.prog Rows.fnHandleSingleScriptRow.laid w) ∧ sizedMet enc Tryd.prog Tryd.f3 (OpenSpec.ofChange Rows.fnHandleSingleScriptSpec) false w args)
      (Rows.fnHandleSingleScriptSpec.post enc Tryd.prog Tryd.f3 false true false false) := by
  refine returnsInHanded_of_change_and (C := Tryd.checked) (X := fun w _ => laidMetH Tryd.prog Rows.fnHandleSingleScriptRow.laid w) (fun _ _ _ hh h => h.of_heap hh) own started (by kernel_rfl) Tryd.func3
    (ChangeSpec.witness_shaped (enc := enc) (C := Tryd.checked) (os := os) (X := fun w _ => laidMetH Tryd.prog Rows.fnHandleSingleScriptRow.laid w) false (wit os) #[.slice none 0 0, .bool false] 8 (wit_os os)
      (World.shaped_of_ZipB (by kernel_rfl) (by kernel_rfl)) (by kernel_rfl) (by kernel_rfl) (by kernel_rfl)
      (laid_met os _)) ?_
  intro W base args ds gs before hval0 hW hcnd _ hL _
  have hval : ∀ (j : Nat) t v, Tryd.f3.params[j]? = some t → args[j]? = some v → Value.okWide Tryd.prog W .any base t v := hval0
  have hW' := hW
  obtain ⟨p, q, hA0, hV, rfl, hfz, hnd⟩ := hW
  have hA : DataW.TrodAll enc Tryd.prog W 0 (fun _ => true) true Tryd.f3.params.toList args.toList ds p := hA0
  rw [Tryd.params3] at hA hval
  obtain ⟨v0, vs0, d0, ds0, p0, q0, hargs, rfl, rfl, h0, r0⟩ := trodAll_cons hA
  obtain ⟨v1, vs1, d1, ds1, p1, q1, rfl, rfl, rfl, h1, r1⟩ := trodAll_cons r0
  obtain ⟨rfl, rfl, rfl⟩ := trodAll_nil r1
  obtain rfl : args = #[v0, v1] := by cases args; simp_all
  have hV1 := hV
  obtain ⟨g0, g1, hg0⟩ : ∃ g0 g1, gs = [g0, g1] := by
    match gs, hV with
    | [g0, g1], _ => exact ⟨g0, g1, rfl⟩
  subst hg0
  obtain ⟨a0, len0, cap0, rfl⟩ := okWide_slice Tryd.underlying22 (hval 0 22 v0 rfl rfl)
  have k0 := h0
  have lt0 : ∀ x ∈ p0, x.block < W.heap.size := by obtain ⟨m, hm⟩ := k0; exact DataW.trod_lt m _ _ _ hm
  obtain ⟨z0, w0⟩ : ∃ zs, IsRow .string (fun s => s.size ≤ maxLen) W a0 len0 cap0 zs := by
    obtain ⟨fuel, hf⟩ := h0
    exact row_of_string Tryd.underlying22 Tryd.underlying9 (by kernel_rfl) hf
  obtain ⟨a1, rfl, rfl, rfl⟩ := open_bool Tryd.underlying4 (hval 1 4 v1 rfl rfl) h1
  clear hA0 hval0
  refine (walk a0 len0 cap0 z0 a1 W w0 hL).mono fun e W' ⟨he, bel⟩ => ?_
  subst he
  exact ⟨_, rfl, _, _, _, [], _, _, hW', trodAll_mk1 (shut_bool Tryd.underlying4 _), (trodAll_cons_mk (Below.trod laidOut (by kernel_rfl) (of_decide_eq_true (by kernel_rfl)) k0 bel lt0) (trodAll_cons_mk (shut_bool Tryd.underlying4 a1) trodAll_mk0)), (Below.trodVars laidOut bel (by kernel_rfl) hV1), bel.frame _, fun h => by cases h⟩

theorem over : Rows.fnHandleSingleScriptRow.holds Tryd.pinned (OpenSpec.ofChange Rows.fnHandleSingleScriptSpec) :=
  OpenClaim.holds_of_wide 3 Tryd.f3 rfl rfl rfl rfl rfl rfl rfl ⟨rfl, rfl, rfl, rfl, rfl⟩ rfl rfl rfl rfl rfl (by kernel_rfl) Tryd.func3 (by kernel_rfl)
    (of_decide_eq_true (by kernel_rfl)) (by unfold Func.isWrapper; first | (rw [if_pos (by decide +kernel)]; kernel_rfl) | (rw [if_neg (by decide +kernel)]; exact ⟨rfl, rfl⟩))
    (fun os started H enc _ => lifted os started H enc)

/-- THE STATEMENT: the listed variables are tied to the program's text. -/
theorem proved : Rows.FnHandleSingleScriptCardSaid :=
  Claim7.holds_tied_plain_at .later [] [.data, .data, .mapped, .pinned, .pinned] true (true, "d752c87c94cd1ea1fcfc78aabab79c763a9ea20d4a0d0b2ddafd346f4e40b791") false over (fun _ h => by cases h) (by kernel_rfl) (fun _ h => by cases h) fnHandleSingleScript_row_tie rfl ⟨rfl, rfl⟩ (by kernel_rfl) rfl
    (fun f fn hf hfn => by
      obtain rfl : f = 3 := Option.some.inj ((show Tryd.prog.funcNamed "github.com/evanw/esbuild/n011_185.FnHandleSingleScript" = some 3 by kernel_rfl).symm.trans hf) |>.symm
      obtain rfl : fn = Tryd.f3 := (Option.some.inj (Tryd.func3.symm.trans hfn)).symm
      exact ⟨by kernel_rfl, fun j t ht => by
        rw [Tryd.params3] at ht
        have hm : t ∈ [22, 4] := by simpa using Array.mem_of_getElem? ht
        have hall : ([22, 4].all fun u => !Tryd.prog.wantsStandIn u) = true := by kernel_rfl
        exact (show Tryd.prog.wantsStandIn t = false by simpa using List.all_eq_true.1 hall t hm)⟩)
    (by kernel_rfl)
#print axioms proved
end Go.Proofs.YtkphnplmjpjbjaaDoor.fnHandleSingleScript
