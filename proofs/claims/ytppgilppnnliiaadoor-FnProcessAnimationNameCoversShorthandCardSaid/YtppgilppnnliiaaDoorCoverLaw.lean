/-
  For all kinds, texts and either sort of parser: every token that the animation shorthand turns into a symbol, animation-name turns into a symbol too, and animation-name makes at least as many symbols: the Go law FnProcessAnimationNameCoversShorthand returns true for every input. The variables that the package and strings.ToLower read are tied to the text of the program. No condition.
-/
import Derived.Test.YtppgilppnnliiaaDoorRows
import Derived.Test.YtppgilppnnliiaaDoorTie
import Derived.Test.YtppgilppnnliiaaDoorCards
import Derived.WalkKit
import Derived.ProofKit
import Derived.OpenShut
import Derived.ShutString
import Derived.ChangeOld
import Derived.Below
import Derived.Lib.Hide
import Derived.Outline
import Derived.OpenVars
import Derived.Lay
import Derived.LaidMore
import Derived.SevenTiedAt
import Derived.Stop.Joined
import Derived.LaidLaws
import Derived.SliceStrings
import Derived.Test.YtppgilppnnliiaaDoorZz
import Derived.Test.YtppgilppnnliiaaDoorGt
import Derived.Test.YtppgilppnnliiaaDoorNw
import Derived.Test.YtppgilppnnliiaaDoorCt
import Derived.Test.YtppgilppnnliiaaDoorAs
import Derived.Deep.DeepCutAuto
import Derived.Deep.CutBlock
import Derived.Lib.LaidIn
import Derived.MakeChecks
namespace Go.Proofs.YtppgilppnnliiaaDoor.fnProcessAnimationNameCoversShorthand
open Go.ChangeShapes Go.WideShapes Go.ChangeAt Go.RowKit
open Go.ChangeMaps (open_string shut_string)
set_option linter.unusedVariables false

theorem own : ownKnob Tryd.prog.godebug = none := by kernel_rfl
theorem laidOut : laidOutB Tryd.prog = true := by kernel_rfl

/-- What the walk is told of a slice that came in: it is nil; or it leads to a row of 'cap' cells that hold 'zs'. -/
def IsRow {α : Type} [Inhabited α] (mk : α → Value) (ok : α → Prop) (w : World) (a : Option Addr) (len cap : Nat) (zs : List α) : Prop :=
  (a = none ∧ len = 0 ∧ cap = 0 ∧ zs = []) ∨
  ∃ x, a = some x ∧ len ≤ cap ∧ cap ≤ maxLen ∧ zs.length = cap ∧ (∀ i (h : i < zs.length), w.cell? (x.add i) = some (mk zs[i])) ∧ ∀ n ∈ zs, ok n
section
variable {H : Type} {enc : TypeId × Value → H} {P : Program} {w : World} {base : Nat} {hd : Bool}
theorem row_of_int {t e : TypeId} {k : IntKind} {fuel : Nat} {a : Option Addr} {len cap : Nat} {x : DataW H × List MemPlace} (ht : P.underlying t = some (.slice e)) (he : P.underlying e = some (.int k)) (hc : P.cellsOf e = 1)
    (hf : DataW.trod enc P w base (fun _ => true) hd fuel t (Value.slice a len cap).cells.toList = some x) : ∃ zs, IsRow (.int k) (fun n => (Lit.int k n).wf = true) w a len cap zs := by
  rcases open_ints ht he hc hf with ⟨hcs, _⟩ | ⟨y, l, c, zs, hcs, _, hl, hm, hz, _, hcell, hwz⟩
  · simp [Value.cells] at hcs
    obtain ⟨rfl, rfl, rfl⟩ := hcs
    exact ⟨[], .inl ⟨rfl, rfl, rfl, rfl⟩⟩
  · simp [Value.cells] at hcs
    obtain ⟨rfl, rfl, rfl⟩ := hcs
    exact ⟨zs, .inr ⟨_, rfl, hl, hm, by simpa using hz, fun i h => by have := hcell i h; simpa [List.getD, h] using this, hwz⟩⟩
theorem row_of_string {t e : TypeId} {fuel : Nat} {a : Option Addr} {len cap : Nat} {x : DataW H × List MemPlace} (ht : P.underlying t = some (.slice e)) (he : P.underlying e = some .string) (hc : P.cellsOf e = 1)
    (hf : DataW.trod enc P w base (fun _ => true) hd fuel t (Value.slice a len cap).cells.toList = some x) : ∃ zs, IsRow .string (fun s => s.size ≤ maxLen) w a len cap zs := by
  rcases open_strings ht he hc hf with ⟨hcs, _⟩ | ⟨y, l, c, zs, hcs, _, hl, hm, hz, _, hcell, hwz⟩
  · simp [Value.cells] at hcs
    obtain ⟨rfl, rfl, rfl⟩ := hcs
    exact ⟨[], .inl ⟨rfl, rfl, rfl, rfl⟩⟩
  · simp [Value.cells] at hcs
    obtain ⟨rfl, rfl, rfl⟩ := hcs
    exact ⟨zs, .inr ⟨_, rfl, hl, hm, by simpa using hz, fun i h => by have := hcell i h; simpa [List.getD, h] using this, hwz⟩⟩
end

open Sy Rg
set_option maxRecDepth 100000 in
set_option maxHeartbeats 1000000 in
theorem wn_any {B : Nat} {X : Nat → Prop} (p g n cap : Nat) (ml : Bool) (z : List TK × SY) (w : World) (h : ST B X p ml g z w) (hn : z.1.length = n) (hn2 : n ≤ 1000000) (hb : SBd 1000000 z.2) (hs : Sized z.1) :
    Calls Tryd.prog 9 #[.pointer (some ⟨p, 0, none⟩), .slice (some ⟨g, 0, none⟩) n cap] w fun e w' => e = .returned (.tuple #[]) ∧ ∃ X' : Nat → Prop, ST B X' p ml g (stN (cN ml) z n) w' ∧ GO X g w X' w' := by
  have hc := an_any p g n cap ml z w h hn hn2 hb hs
  clear h hb hs hn
  go_enter Tryd.func9, Tryd.ntmps9
  go_wp2_with fail
  refine hc.mono ?_
  rintro e w' ⟨rfl, h1⟩
  have H := Lib.hid h1
  clear h1 hc
  go_wp2_with fail
  go_end0
  exact ⟨rfl, H.out⟩
set_option maxRecDepth 100000 in
set_option maxHeartbeats 1000000 in
theorem ws_any {B : Nat} {X : Nat → Prop} (p g n cap : Nat) (ml : Bool) (z : List TK × SY) (w : World) (h : ST B X p ml g z w) (hn : z.1.length = n) (hn2 : n ≤ 1000000) (hb : SBd 1000000 z.2) (hs : Sized z.1) :
    Calls Tryd.prog 8 #[.pointer (some ⟨p, 0, none⟩), .slice (some ⟨g, 0, none⟩) n cap] w fun e w' => e = .returned (.tuple #[]) ∧ ∃ (X' : Nat → Prop) (d : Nat → Bool), DOk z.1 d n ∧ ST B X' p ml g (stN (cS d ml) z n) w' ∧ GO X g w X' w' := by
  have hc := as_any p g n cap ml z w h hn hn2 hb hs
  clear h hb hs hn
  go_enter Tryd.func8, Tryd.ntmps8
  go_wp2_with fail
  refine hc.mono ?_
  rintro e w' ⟨rfl, h1⟩
  have H := Lib.hid h1
  clear h1 hc
  go_wp2_with fail
  go_end0
  exact ⟨rfl, H.out⟩
def TooP (n1 n2 : Nat) (w : World) (e : Ending) (w' : World) : Prop := (∃ r : Bool, e = .returned (.bool r) ∧ (r = false → n1 ≤ 4096 ∧ n2 ≤ 4096)) ∧ w = w'
set_option maxRecDepth 100000 in
set_option maxHeartbeats 1000000 in
theorem too_any (a1 a2 : Option Addr) (n1 c1 n2 c2 : Nat) (T : Nat → ByteArray) (w : World) (h1 : (n1 : Int) ≤ 1048576) (h2 : (n2 : Int) ≤ 1048576) (h : Sl w a2 n2 (fun i => .string (T i))) (hz : ∀ i, i < n2 → ((T i).size : Int) ≤ 1048576) :
    Calls Tryd.prog 5 #[.slice a1 n1 c1, .slice a2 n2 c2] w (TooP n1 n2 w) := by
  have H := Lib.hid h
  have HZ := Lib.hid hz
  clear h hz
  go_enter Tryd.func5, Tryd.ntmps5
  by_cases b0 : (4096 : Int) < n1
  · go_wp2_with fail
    all_goals (go_ret; exact ⟨⟨true, rfl, fun h => by cases h⟩, rfl⟩)
  by_cases b1 : (4096 : Int) < n2
  · go_wp2_with fail
    all_goals (go_ret; exact ⟨⟨true, rfl, fun h => by cases h⟩, rfl⟩)
  have HH := Lib.hid (show n1 ≤ 4096 ∧ n2 ≤ 4096 from ⟨by omega, by omega⟩)
  go_wp2_with fail
  refine (size_any a1 a2 n1 c1 n2 c2 T w (by omega) (by omega) H.out HZ.out).mono ?_
  rintro e wz ⟨⟨r, rfl, r0, r1⟩, rfl⟩
  clear r0 r1
  go_wp2_with fail
  all_goals go_ret
  all_goals exact ⟨⟨_, rfl, fun _ => HH.out⟩, rfl⟩
theorem kd39 (k : Int) : ¬ kdOf k = 39 := by
  unfold kdOf
  repeat' split
  all_goals decide
theorem cov {T : List TK} {d : Nat → Bool} {ml : Bool} {n : Nat} (hd : DOk T d n) {j : Nat} (hj : j < n) (h : cS d ml j (T.getD j tk0) = true) : cN ml j (T.getD j tk0) = true := by
  unfold cS at h
  unfold cN
  rw [Bool.and_eq_true] at h ⊢
  refine ⟨?_, h.2⟩
  rcases hd j hj h.1 with e | e
  · rw [e]; rfl
  · rw [e]; rfl
/-- both rows of tokens, both parsers, when all is done -/
structure Fin (w : World) (p1 p2 g1 g2 : Nat) (n : Nat) (ml : Bool) (S1 S2 : SY) (k1 k2 : Nat → Int) : Prop where
  ps1 : ∃ X, PS w X p1 ml S1
  ps2 : ∃ X, PS w X p2 ml S2
  le : S1.length ≤ S2.length
  t1 : ∀ i, i < n → w.cell? ⟨g1, i * 7 + 5, none⟩ = some (.int .u8 (k1 i))
  t2 : ∀ i, i < n → w.cell? ⟨g2, i * 7 + 5, none⟩ = some (.int .u8 (k2 i))
  cover : ∀ i, i < n → k1 i = 39 → k2 i = 39
theorem fin_of {B p1 p2 g1 g2 n : Nat} {X1 X2 : Nat → Prop} {ml : Bool} {T : List TK} {d : Nat → Bool} {w : World} (hn : T.length = n) (hk : ∀ i, i < n → ¬ (T.getD i tk0).2.1 = 39) (hd : DOk T d n)
    (h2 : ST B X2 p2 ml g2 (stN (cN ml) (T, []) n) w) (hp : PS w X1 p1 ml (stN (cS d ml) (T, []) n).2) (ht : TB w g1 (stN (cS d ml) (T, []) n).1) :
    Fin w p1 p2 g1 g2 n ml (stN (cS d ml) (T, []) n).2 (stN (cN ml) (T, []) n).2 (fun i => ((stN (cS d ml) (T, []) n).1.getD i tk0).2.1) (fun i => ((stN (cN ml) (T, []) n).1.getD i tk0).2.1) := by
  refine ⟨⟨X1, hp⟩, ⟨X2, h2.ps⟩, stN_fewer fun j hj h => cov hd hj h, fun i hi => ?_, fun i hi => ?_, fun i hi h39 => ?_⟩
  · exact TB.cellAt (j := 5) ht (by rw [stN_len]; show i < T.length; omega) rfl
  · exact TB.cellAt (j := 5) h2.tb (by rw [stN_len]; show i < T.length; omega) rfl
  · have hj : i < (T, ([] : SY)).1.length := by show i < T.length; omega
    try simp only at h39 ⊢
    rw [stN_at hi hj] at h39 ⊢
    by_cases hc : cS d ml i (T.getD i tk0) = true
    · rw [if_pos (cov hd hi hc)]
    · rw [if_neg hc] at h39
      exact absurd h39 (hk i hi)

set_option maxRecDepth 100000 in
set_option maxHeartbeats 4000000 in
/-- THE WALK -/
theorem walk (a0 : Option Addr) (len0 cap0 : Nat) (z0 : List Int) (a1 : Option Addr) (len1 cap1 : Nat) (z1 : List ByteArray) (a2 : Bool) (w : World) (w0 : IsRow (.int .u8) (fun n => (Lit.int .u8 n).wf = true) w a0 len0 cap0 z0) (w1 : IsRow .string (fun s => s.size ≤ maxLen) w a1 len1 cap1 z1) (hL : laidMetH Tryd.prog Rows.fnProcessAnimationNameCoversShorthandRow.laid w) :
    Calls Tryd.prog 3 #[.slice a0 len0 cap0, .slice a1 len1 cap1, .bool a2] w fun e w' => e = .returned (.bool true) ∧ Below w.heap.size w w' := by
  unfold IsRow at w0 w1
  obtain ⟨hS, hok0, hz0, hm0⟩ := Sl.of_row w0
  obtain ⟨hT, hok1, hz1, hm1⟩ := Sl.of_row w1
  obtain ⟨K, hK⟩ : ∃ Z : Nat → Int, Z = fun i => z0.getD i default := ⟨_, rfl⟩
  obtain ⟨T, hT2⟩ : ∃ Z : Nat → ByteArray, Z = fun i => z1.getD i default := ⟨_, rfl⟩
  have HS := Lib.hid (show Sl w a0 len0 (fun i => .int .u8 (K i)) by rw [hK]; exact hS)
  have HT := Lib.hid (show Sl w a1 len1 (fun i => .string (T i)) by rw [hT2]; exact hT)
  have HOK := Lib.hid (show ∀ i, i < len0 → 0 ≤ K i ∧ K i ≤ 255 by intro i hi; have := hok0 i hi; rw [hK]; simpa [Lit.wf, IntKind.min, IntKind.max, IntKind.bits, IntKind.signed] using this)
  have HTS := Lib.hid (show ∀ i, i < len1 → ((T i).size : Int) ≤ 9223372036854775807 by intro i hi; have h := hok1 i hi; have e : T i = z1.getD i default := congrFun hT2 i; rw [e]; unfold maxLen at h; omega)
  have hl0 : (len0 : Int) ≤ 9223372036854775807 := by unfold maxLen at hm0; omega
  have hl1 : (len1 : Int) ≤ 9223372036854775807 := by unfold maxLen at hm1; omega
  clear w0 w1 hS hT hok0 hok1 hm0 hm1 hK hT2 hz0 hz1
  have HEV := Lib.hid (show EV w.heap.size w from ⟨w, rfl, ⟨TL_of hL (by kernel_rfl) (by exact .tail _ (.tail _ (.tail _ (.head _)))) (by exact .tail _ (.tail _ (.tail _ (.tail _ (.head _))))) (by exact .head _), MV_of (nm := "github.com/evanw/esbuild/internal/css_parser.cssWideAndReservedKeywords") (D := cssL) hL (by kernel_rfl) (by exact .tail _ (.tail _ (.head _))) (by kernel_rfl) (by kernel_rfl), IR_of hL (by kernel_rfl) (by exact .tail _ (.head _))⟩, Below.refl _ _⟩)
  clear hL
  go_enter Tryd.func3, Tryd.ntmps3
  go_wp2_with fail
  refine (gate_any a0 a1 len0 cap0 len1 cap1 T a2 w hl0 hl1 HT.out HTS.out).mono ?_
  rintro e wz ⟨⟨r, rfl, hr⟩, rfl⟩
  have HR := Lib.hid hr
  clear hl0 hl1 HTS hr
  cases r
  · go_wp2_with fail
    go_ret
    exact ⟨rfl, Below.refl _ _⟩
  obtain ⟨hl0, hl1, hts⟩ := HR.out rfl
  have HTS := Lib.hid hts
  clear HR hts
  go_wp2_with fail
  refine (too_any a0 a1 len0 cap0 len1 cap1 T w hl0 hl1 HT.out HTS.out).mono ?_
  rintro e wz ⟨⟨r, rfl, hr⟩, rfl⟩
  cases r
  case true =>
    clear hr
    go_wp2_with fail
    go_ret
    exact ⟨rfl, Below.refl _ _⟩
  obtain ⟨b0, b1⟩ := hr rfl
  clear hr
  obtain ⟨n, hn⟩ : ∃ n, min len0 len1 = n := ⟨_, rfl⟩
  have hn0 : n ≤ 4096 := by omega
  have HTS2 := Lib.hid (show ∀ i, i < n → ((T i).size : Int) ≤ 1048576 from fun i hi => HTS.out i (by omega))
  go_wp2_with fail
  refine (bld_any a0 a1 len0 cap0 len1 cap1 K T w hl0 hl1 HS.out HT.out HOK.out).mono ?_
  rintro e w1 ⟨rfl, htb, hb1⟩
  have HB1 := Lib.hid hb1
  rw [hn] at htb ⊢
  have HTB1 := Lib.hid htb
  obtain ⟨g1, hg1⟩ : ∃ g, w.heap.size = g := ⟨_, rfl⟩
  rw [hg1]
  have HG1 := Lib.hid hg1
  clear htb hb1 hg1
  have HS1 := Lib.hid (HS.out.keep HB1.out)
  have HT1 := Lib.hid (HT.out.keep HB1.out)
  clear HS HT
  go_wp2_with fail
  refine (bld_any a0 a1 len0 cap0 len1 cap1 K T w1 hl0 hl1 HS1.out HT1.out HOK.out).mono ?_
  rintro e w2 ⟨rfl, htb, hb2⟩
  have HB2 := Lib.hid hb2
  rw [hn] at htb ⊢
  have HTB2 := Lib.hid htb
  obtain ⟨g2, hg2⟩ : ∃ g, w1.heap.size = g := ⟨_, rfl⟩
  rw [hg2]
  have HG2 := Lib.hid hg2
  clear htb hb2 hg2 HS1 HT1 HOK HTS hn b0 b1 hl0 hl1
  go_wp2_with fail
  refine (np_any a2 w2).mono ?_
  rintro e w3 ⟨p1, X1, rfl, hps, hX, hb⟩
  have HP1 := Lib.hid (And.intro hps (And.intro hX hb))
  clear hps hX hb
  go_wp2_with fail
  refine (np_any a2 w3).mono ?_
  rintro e w4 ⟨p2, X2, rfl, hps, hX, hb⟩
  have HP2 := Lib.hid (And.intro hps (And.intro hX hb))
  clear hps hX hb
  have HN := Lib.hid (bldN_len (tok T K) n n)
  have HSZ := Lib.hid (show Sized (bldN (tok T K) n n) from fun i hi => by rw [bldN_len] at hi; rw [bldN_at _ _ _ _ (Nat.le_refl _), if_pos hi]; exact HTS2.out i hi)
  have HKD := Lib.hid (show ∀ i, i < n → ¬ ((bldN (tok T K) n n).getD i tk0).2.1 = 39 from fun i hi => by rw [bldN_at _ _ _ _ (Nat.le_refl _), if_pos hi]; exact kd39 _)
  clear HTS2
  generalize bldN (tok T K) n n = TT at *
  have s1 := HB1.out.size
  have s2 := HB2.out.size
  have s3 := HP1.out.2.2.size
  have s4 := HP2.out.2.2.size
  have t1 := HTB1.out.lt
  have t2 := HTB2.out.lt
  have e1 := HG1.out
  have e2 := HG2.out
  have B24 : Below w2.heap.size w2 w4 := HP1.out.2.2.trans (HP2.out.2.2.mono s3)
  have B14 : Below w1.heap.size w1 w4 := HB2.out.trans (B24.mono s2)
  have B04 : Below w.heap.size w w4 := HB1.out.trans (B14.mono s1)
  have hx1 : ∀ i, X1 i → w2.heap.size ≤ i ∧ i < w3.heap.size := HP1.out.2.1
  have hx2 : ∀ i, X2 i → w3.heap.size ≤ i ∧ i < w4.heap.size := HP2.out.2.1
  have HST1 : Hid (ST w.heap.size X1 p1 a2 g1 (TT, []) w4) := Lib.hid
    ⟨HEV.out.keep B04, HP1.out.1.keep HP2.out.2.2, by have h := Bk.keep HTB1.out B14; rw [e1] at h; exact h, by omega, fun i hi => by have := hx1 i hi; exact ⟨by omega, by omega, by omega⟩⟩
  have HTB : Hid (TB w4 g2 TT) := Lib.hid (by have h := Bk.keep HTB2.out B24; rw [e2] at h; exact h)
  have HPS2 := Lib.hid HP2.out.1
  have HX2 := Lib.hid hx2
  have HX1 : Hid ((∀ i, X1 i → g2 < i ∧ i < w3.heap.size) ∧ g1 < g2 ∧ g2 < w3.heap.size ∧ w3.heap.size ≤ w4.heap.size ∧ w.heap.size ≤ g2) := Lib.hid ⟨fun i hi => by have := hx1 i hi; omega, by omega, by omega, s4, by omega⟩
  have HB04 := Lib.hid B04
  clear s1 s2 s3 s4 t1 t2 e1 e2 B24 B14 B04 hx1 hx2 HP1 HP2 HTB1 HTB2 HB1 HB2 HG1 HG2 HEV
  go_wp2_with fail
  refine (ws_any p1 g1 n n a2 (TT, []) w4 HST1.out HN.out (by omega) (SBd.nil _) HSZ.out).mono ?_
  rintro e w5 ⟨rfl, Y1, d, hd, h1, h2⟩
  have HD := Lib.hid hd
  have H1 := Lib.hid h1
  have G1 := Lib.hid h2
  clear hd h1 h2
  have HST2 : Hid (ST w.heap.size X2 p2 a2 g2 (TT, []) w5) := Lib.hid
    ⟨H1.out.ev, HPS2.out.off G1.out.1 (fun i hi h => h.elim (fun h => by have := HX1.out.1 i h; have := HX2.out i hi; omega) (fun e => by have := HX2.out i hi; have := HX1.out.2; omega)),
      G1.out.1.keep_bk HTB.out (fun h => h.elim (fun h => by have := HX1.out.1 g2 h; omega) (fun e => by have := HX1.out.2; omega)), by have := HX1.out.2; omega,
      fun i hi => by have := HX2.out i hi; have := HX1.out.2; have := G1.out.1.2.2.2.1; exact ⟨by omega, by omega, by omega⟩⟩
  have HB05 := Lib.hid (HB04.out.trans (G1.out.below HST1.out))
  clear HB04 HST1 HTB
  go_wp2_with fail
  refine (wn_any p2 g2 n n a2 (TT, []) w5 HST2.out HN.out (by omega) (SBd.nil _) HSZ.out).mono ?_
  rintro e w6 ⟨rfl, Y2, h1, h2⟩
  have H2 := Lib.hid h1
  have G2 := Lib.hid h2
  clear h1 h2
  have HB06 := Lib.hid (HB05.out.trans (G2.out.below HST2.out))
  have HY : Hid (∀ i, (Y1 i ∨ i = g1) → ¬ (X2 i ∨ i = g2)) := Lib.hid (fun i hi h => by
    have a := HX1.out.2
    have b : X2 i → w3.heap.size ≤ i ∧ i < w4.heap.size := HX2.out i
    rcases hi with hi | hi
    · have c := G1.out.2 i hi
      rcases c with c | c
      · have := HX1.out.1 i c
        rcases h with h | h
        · have := b h; omega
        · omega
      · rcases h with h | h
        · have := b h; omega
        · omega
    · rcases h with h | h
      · have := b h; omega
      · omega)
  have HF := Lib.hid (fin_of HN.out HKD.out HD.out H2.out (H1.out.ps.off G2.out.1 (fun i hi => HY.out i (.inl hi))) (G2.out.1.keep_bk H1.out.tb (HY.out g1 (.inr rfl))))
  clear HB05 HST2 HPS2 HX1 HX2 HY H1 H2 G1 G2 HD HKD HSZ HN
  generalize (stN (cS d a2) (TT, []) n).2 = S1 at *
  generalize (stN (cN a2) (TT, []) n).2 = S2 at *
  generalize (fun i => ((stN (cS d a2) (TT, []) n).1.getD i tk0).2.1) = k1 at *
  generalize (fun i => ((stN (cN a2) (TT, []) n).1.getD i tk0).2.1) = k2 at *
  go_wp2_with fail
  go_loopw [11] (fun i wr => wr = w6 ∧ ∃ k : Nat, k ≤ n ∧ i = .int .i64 k) (fun i _ => n - (intOf i).toNat)
  case atStart => exact ⟨rfl, 0, Nat.zero_le _, rfl⟩
  case round =>
    obtain ⟨rfl, k, hk, rfl⟩ := hrel
    by_cases hlt : k < n
    · have q0 : (0 : Int) ≤ k := by omega
      have q1 : (k : Int) < n := by omega
      have c1 := HF.out.t1 k hlt
      have c2 := HF.out.t2 k hlt
      have hc := HF.out.cover k hlt
      generalize k1 k = A1 at *
      generalize k2 k = A2 at *
      by_cases h39 : A1 = 39
      · obtain rfl := hc h39
        subst h39
        clear hc
        go_wp2_with fail
        exact ⟨⟨by first | rfl | trivial, k + 1, by omega, by go_num⟩, by simp [intOf]; omega⟩
      · have g1 : (A1 == 39) = false := by simpa using h39
        clear hc
        go_wp2_with fail
        exact ⟨⟨by first | rfl | trivial, k + 1, by omega, by go_num⟩, by simp [intOf]; omega⟩
    · obtain rfl : k = n := by omega
      have q1 : ¬ (k : Int) < k := by omega
      obtain ⟨⟨Z1, hp1⟩, ⟨Z2, hp2⟩, hle, -, -, -⟩ := HF.out
      have HP1 := Lib.hid hp1
      have HP2 := Lib.hid hp2
      clear hp1 hp2 HF
      have q2 : (S1.length : Int) ≤ S2.length := by omega
      clear hle
      go_wp2_with fail
      refine (cnt_any p2 a2 S2 _ HP2.out).mono ?_
      rintro e wd ⟨rfl, rfl⟩
      go_wp2_with fail
      refine (cnt_any p1 a2 S1 _ HP1.out).mono ?_
      rintro e wd ⟨rfl, rfl⟩
      go_wp2_with fail
      all_goals go_ret
      all_goals exact ⟨by first | rfl | simp_all, HB06.out⟩

/-- Go's great tables: the door's own run does not lay them -/
def grt : List String := ["unicode.CaseRanges", "unicode/utf8.first"]
noncomputable def wit (os : Os) : World := (World.doorLaid Tryd.prog 59 os).layVars Tryd.prog (Rows.fnProcessAnimationNameCoversShorthandRow.laid.filter fun x => grt.contains x.1)
theorem wit_os (os : Os) : (wit os).os = os := World.layVars_os _ _ _
noncomputable def blk (os : Os) : List Nat := ((DataW.laidRun Tryd.prog (wit os) 8 ((Rows.fnProcessAnimationNameCoversShorthandRow.laid.filter fun x => !grt.contains x.1).map (·.1))).map fun x => x.2.map (·.block)).getD []
theorem lay_fits (os : Os) : (World.doorLaid Tryd.prog 59 os).layFits Tryd.prog (Rows.fnProcessAnimationNameCoversShorthandRow.laid.filter fun x => grt.contains x.1) (blk os) = true := by kernel_rfl
theorem lay_ifaces (os : Os) : (World.doorLaid Tryd.prog 59 os).layIfaces Tryd.prog (Rows.fnProcessAnimationNameCoversShorthandRow.laid.filter fun x => grt.contains x.1) (wit os) = true := by kernel_rfl
theorem lay_small (os : Os) : LaidIn Tryd.prog (wit os) (Rows.fnProcessAnimationNameCoversShorthandRow.laid.filter fun x => !grt.contains x.1) (blk os) :=
  LaidIn.of_run _ 8 (by kernel_rfl) (by kernel_rfl) (by kernel_rfl) (by kernel_rfl)
theorem laid_met (os : Os) (args : Array Value) : laidMetH Tryd.prog Rows.fnProcessAnimationNameCoversShorthandRow.laid ((wit os).forCall (fun _ _ => 0) ⟨#[], args, []⟩).memory := by
  rw [MakeChecks.laidMetH_plain _ _ _ (by kernel_rfl)]
  have h : laidMet Tryd.prog Rows.fnProcessAnimationNameCoversShorthandRow.laid (wit os) := laidMet_layVars (w0 := World.doorLaid Tryd.prog 59 os) grt (blk os) rfl (lay_fits os) (lay_ifaces os) (lay_small os)
  exact h.of_heap (by simp [World.memory, World.forCall, Input.heap])

set_option maxRecDepth 1000000 in
theorem lifted (os : Os) (started : os.Started) (H : Type) (enc : TypeId × Value → H) :
    ReturnsInHanded {} Tryd.checked os 3 .any (fun w args => (Rows.fnProcessAnimationNameCoversShorthandSpec.pre enc Tryd.prog Tryd.f3 Rows.fnProcessAnimationNameCoversShorthandRow.domain false w args ∧ laidMetH Tryd.prog Rows.fnProcessAnimationNameCoversShorthandRow.laid w) ∧ sizedMet enc Tryd.prog Tryd.f3 (OpenSpec.ofChange Rows.fnProcessAnimationNameCoversShorthandSpec) false w args)
      (Rows.fnProcessAnimationNameCoversShorthandSpec.post enc Tryd.prog Tryd.f3 false true false false) := by
  refine returnsInHanded_of_change_and (C := Tryd.checked) (X := fun w _ => laidMetH Tryd.prog Rows.fnProcessAnimationNameCoversShorthandRow.laid w) (fun _ _ _ hh h => h.of_heap hh) own started (by kernel_rfl) Tryd.func3
    (ChangeSpec.witness_shaped (enc := enc) (C := Tryd.checked) (os := os) (X := fun w _ => laidMetH Tryd.prog Rows.fnProcessAnimationNameCoversShorthandRow.laid w) false (wit os) #[.slice none 0 0, .slice none 0 0, .bool false] 8 (wit_os os)
      (World.shaped_of_ZipB (by kernel_rfl) (by kernel_rfl)) (by kernel_rfl) (by kernel_rfl) (by kernel_rfl)
      (laid_met os _)) ?_
  intro W base args ds gs before hval0 hW hcnd _ hL _
  have hval : ∀ (j : Nat) t v, Tryd.f3.params[j]? = some t → args[j]? = some v → Value.okWide Tryd.prog W .any base t v := hval0
  have hW' := hW
  obtain ⟨p, q, hA0, hV, rfl, hfz, hnd⟩ := hW
  have hA : DataW.TrodAll enc Tryd.prog W 0 (fun _ => true) true Tryd.f3.params.toList args.toList ds p := hA0
  rw [Tryd.params3] at hA hval
  obtain ⟨v0, vs0, d0, ds0, p0, q0, hargs, rfl, rfl, h0, r0⟩ := trodAll_cons hA
  obtain ⟨v1, vs1, d1, ds1, p1, q1, rfl, rfl, rfl, h1, r1⟩ := trodAll_cons r0
  obtain ⟨v2, vs2, d2, ds2, p2, q2, rfl, rfl, rfl, h2, r2⟩ := trodAll_cons r1
  obtain ⟨rfl, rfl, rfl⟩ := trodAll_nil r2
  obtain rfl : args = #[v0, v1, v2] := by cases args; simp_all
  have hV1 := hV
  obtain ⟨g0, g1, hg0⟩ : ∃ g0 g1, gs = [g0, g1] := by
    match gs, hV with
    | [g0, g1], _ => exact ⟨g0, g1, rfl⟩
  subst hg0
  obtain ⟨a0, len0, cap0, rfl⟩ := okWide_slice Tryd.underlying22 (hval 0 22 v0 rfl rfl)
  have k0 := h0
  have lt0 : ∀ x ∈ p0, x.block < W.heap.size := by obtain ⟨m, hm⟩ := k0; exact DataW.trod_lt m _ _ _ hm
  obtain ⟨z0, w0⟩ : ∃ zs, IsRow (.int .u8) (fun n => (Lit.int .u8 n).wf = true) W a0 len0 cap0 zs := by
    obtain ⟨fuel, hf⟩ := h0
    exact row_of_int Tryd.underlying22 Tryd.underlying5 (by kernel_rfl) hf
  obtain ⟨a1, len1, cap1, rfl⟩ := okWide_slice Tryd.underlying23 (hval 1 23 v1 rfl rfl)
  have k1 := h1
  have lt1 : ∀ x ∈ p1, x.block < W.heap.size := by obtain ⟨m, hm⟩ := k1; exact DataW.trod_lt m _ _ _ hm
  obtain ⟨z1, w1⟩ : ∃ zs, IsRow .string (fun s => s.size ≤ maxLen) W a1 len1 cap1 zs := by
    obtain ⟨fuel, hf⟩ := h1
    exact row_of_string Tryd.underlying23 Tryd.underlying9 (by kernel_rfl) hf
  obtain ⟨a2, rfl, rfl, rfl⟩ := open_bool Tryd.underlying4 (hval 2 4 v2 rfl rfl) h2
  clear hA0 hval0
  refine (walk a0 len0 cap0 z0 a1 len1 cap1 z1 a2 W w0 w1 hL).mono fun e W' ⟨he, bel⟩ => ?_
  subst he
  exact ⟨_, rfl, _, _, _, [], _, _, hW', trodAll_mk1 (shut_bool Tryd.underlying4 _), (trodAll_cons_mk (Below.trod laidOut (by kernel_rfl) (of_decide_eq_true (by kernel_rfl)) k0 bel lt0) (trodAll_cons_mk (Below.trod laidOut (by kernel_rfl) (of_decide_eq_true (by kernel_rfl)) k1 bel lt1) (trodAll_cons_mk (shut_bool Tryd.underlying4 a2) trodAll_mk0))), (Below.trodVars laidOut bel (by kernel_rfl) hV1), bel.frame _, fun h => by cases h⟩

theorem over : Rows.fnProcessAnimationNameCoversShorthandRow.holds Tryd.pinned (OpenSpec.ofChange Rows.fnProcessAnimationNameCoversShorthandSpec) :=
  OpenClaim.holds_of_wide 3 Tryd.f3 rfl rfl rfl rfl rfl rfl rfl ⟨rfl, rfl, rfl, rfl, rfl⟩ rfl rfl rfl rfl rfl (by kernel_rfl) Tryd.func3 (by kernel_rfl)
    (of_decide_eq_true (by kernel_rfl)) (by unfold Func.isWrapper; first | (rw [if_pos (by decide +kernel)]; kernel_rfl) | (rw [if_neg (by decide +kernel)]; exact ⟨rfl, rfl⟩))
    (fun os started H enc _ => lifted os started H enc)

/-- THE STATEMENT: the listed variables are tied to the program's text. -/
theorem proved : Rows.FnProcessAnimationNameCoversShorthandCardSaid :=
  Claim7.holds_tied_plain_at .later [] [.data, .data, .mapped, .pinned, .pinned] true (true, "ff245f4365cc6ddf0fa1f17cc9347bea4275cdd313f47f5627ce2e7aef1dfdb7") false over (fun _ h => by cases h) (by kernel_rfl) (fun _ h => by cases h) fnProcessAnimationNameCoversShorthand_row_tie rfl ⟨rfl, rfl⟩ (by kernel_rfl) rfl
    (fun f fn hf hfn => by
      obtain rfl : f = 3 := Option.some.inj ((show Tryd.prog.funcNamed "github.com/evanw/esbuild/n011_154.FnProcessAnimationNameCoversShorthand" = some 3 by kernel_rfl).symm.trans hf) |>.symm
      obtain rfl : fn = Tryd.f3 := (Option.some.inj (Tryd.func3.symm.trans hfn)).symm
      exact ⟨by kernel_rfl, fun j t ht => by
        rw [Tryd.params3] at ht
        have hm : t ∈ [22, 23, 4] := by simpa using Array.mem_of_getElem? ht
        have hall : ([22, 23, 4].all fun u => !Tryd.prog.wantsStandIn u) = true := by kernel_rfl
        exact (show Tryd.prog.wantsStandIn t = false by simpa using List.all_eq_true.1 hall t hm)⟩)
    (by kernel_rfl)
#print axioms proved
end Go.Proofs.YtppgilppnnliiaaDoor.fnProcessAnimationNameCoversShorthand
