/-
  For all kinds, texts, a further kind and text, and either sort of parser: two equal tokens handled in turn get the same kind and payload, the first adds at most one symbol, the second none, and a converted token's payload names a symbol with its text: the Go law FnHandleSingleAnimationNameStable returns true for every input. The variables that the package and strings.ToLower read are tied to the text of the program. No condition.
-/
import Derived.Test.YtbmjojloadlmnaaDoorRows
import Derived.Test.YtbmjojloadlmnaaDoorTie
import Derived.Test.YtbmjojloadlmnaaDoorCards
import Derived.WalkKit
import Derived.ProofKit
import Derived.OpenShut
import Derived.ShutString
import Derived.ChangeOld
import Derived.Below
import Derived.Lib.Hide
import Derived.Outline
import Derived.OpenVars
import Derived.Lay
import Derived.LaidMore
import Derived.SevenTiedAt
import Derived.Stop.Joined
import Derived.LaidLaws
import Derived.SliceStrings
import Derived.Test.YtbmjojloadlmnaaDoorZz
import Derived.Test.YtbmjojloadlmnaaDoorGt
import Derived.Test.YtbmjojloadlmnaaDoorNw
import Derived.Test.YtbmjojloadlmnaaDoorCt
import Derived.Deep.DeepCutAuto
import Derived.Deep.CutBlock
import Derived.Lib.LaidIn
import Derived.MakeChecks
namespace Go.Proofs.YtbmjojloadlmnaaDoor.fnHandleSingleAnimationNameStable
open Go.ChangeShapes Go.WideShapes Go.ChangeAt Go.RowKit
open Go.ChangeMaps (open_string shut_string)
set_option linter.unusedVariables false

theorem own : ownKnob Tryd.prog.godebug = none := by kernel_rfl
theorem laidOut : laidOutB Tryd.prog = true := by kernel_rfl

/-- What the walk is told of a slice that came in: it is nil; or it leads to a row of 'cap' cells that hold 'zs'. -/
def IsRow {α : Type} [Inhabited α] (mk : α → Value) (ok : α → Prop) (w : World) (a : Option Addr) (len cap : Nat) (zs : List α) : Prop :=
  (a = none ∧ len = 0 ∧ cap = 0 ∧ zs = []) ∨
  ∃ x, a = some x ∧ len ≤ cap ∧ cap ≤ maxLen ∧ zs.length = cap ∧ (∀ i (h : i < zs.length), w.cell? (x.add i) = some (mk zs[i])) ∧ ∀ n ∈ zs, ok n
section
variable {H : Type} {enc : TypeId × Value → H} {P : Program} {w : World} {base : Nat} {hd : Bool}
theorem row_of_int {t e : TypeId} {k : IntKind} {fuel : Nat} {a : Option Addr} {len cap : Nat} {x : DataW H × List MemPlace} (ht : P.underlying t = some (.slice e)) (he : P.underlying e = some (.int k)) (hc : P.cellsOf e = 1)
    (hf : DataW.trod enc P w base (fun _ => true) hd fuel t (Value.slice a len cap).cells.toList = some x) : ∃ zs, IsRow (.int k) (fun n => (Lit.int k n).wf = true) w a len cap zs := by
  rcases open_ints ht he hc hf with ⟨hcs, _⟩ | ⟨y, l, c, zs, hcs, _, hl, hm, hz, _, hcell, hwz⟩
  · simp [Value.cells] at hcs
    obtain ⟨rfl, rfl, rfl⟩ := hcs
    exact ⟨[], .inl ⟨rfl, rfl, rfl, rfl⟩⟩
  · simp [Value.cells] at hcs
    obtain ⟨rfl, rfl, rfl⟩ := hcs
    exact ⟨zs, .inr ⟨_, rfl, hl, hm, by simpa using hz, fun i h => by have := hcell i h; simpa [List.getD, h] using this, hwz⟩⟩
theorem row_of_string {t e : TypeId} {fuel : Nat} {a : Option Addr} {len cap : Nat} {x : DataW H × List MemPlace} (ht : P.underlying t = some (.slice e)) (he : P.underlying e = some .string) (hc : P.cellsOf e = 1)
    (hf : DataW.trod enc P w base (fun _ => true) hd fuel t (Value.slice a len cap).cells.toList = some x) : ∃ zs, IsRow .string (fun s => s.size ≤ maxLen) w a len cap zs := by
  rcases open_strings ht he hc hf with ⟨hcs, _⟩ | ⟨y, l, c, zs, hcs, _, hl, hm, hz, _, hcell, hwz⟩
  · simp [Value.cells] at hcs
    obtain ⟨rfl, rfl, rfl⟩ := hcs
    exact ⟨[], .inl ⟨rfl, rfl, rfl, rfl⟩⟩
  · simp [Value.cells] at hcs
    obtain ⟨rfl, rfl, rfl⟩ := hcs
    exact ⟨zs, .inr ⟨_, rfl, hl, hm, by simpa using hz, fun i h => by have := hcell i h; simpa [List.getD, h] using this, hwz⟩⟩
end

open Sy Rg
set_option maxRecDepth 100000 in
set_option maxHeartbeats 1000000 in
theorem hw_any {B : Nat} {X : Nat → Prop} (p g i : Nat) (ml : Bool) (z : List TK × SY) (w : World) (h : ST B X p ml g z w) (hi : i < z.1.length) (hb : SBd 2000000 z.2) (hs : ((z.1.getD i tk0).1.size : Int) ≤ 1048576) :
    Calls Tryd.prog 8 #[.pointer (some ⟨p, 0, none⟩), .pointer (some ⟨g, i * 7, none⟩)] w fun e w' => e = .returned (.tuple #[]) ∧ ∃ X' : Nat → Prop, ST B X' p ml g (stp (cA ml) i z) w' ∧ GO X g w X' w' := by
  have hc := ha_any p g i ml z w h hi hb hs
  clear h hb hs
  generalize stp (cA ml) i z = y at *
  go_enter Tryd.func8, Tryd.ntmps8
  go_wp2_with fail
  refine hc.mono ?_
  rintro e w' ⟨rfl, X', h1, h2⟩
  have H := Lib.hid (And.intro h1 h2)
  clear h1 h2 hc
  go_wp2_with fail
  go_end0
  exact ⟨rfl, X', H.out.1, H.out.2⟩
theorem TB.one (w : World) (x : TK) : TB (w.alloc (.cells (tkR x).toArray 40)) w.heap.size [x] := heap_alloc_new w _
theorem kd39 (k : Int) : ¬ kdOf k = 39 := by
  unfold kdOf
  repeat' split
  all_goals decide
/-- what stands when both tokens are handled -/
structure Done (w : World) (p q1 q2 : Nat) (ml : Bool) (s : ByteArray) (k0 : Int) (l0 l1 l2 : Nat) (S2 : SY) : Prop where
  ps : ∃ X, PS w X p ml S2
  l2e : l2 = S2.length
  l12 : l2 = l1
  l01 : l0 ≤ l1 ∧ l1 ≤ l0 + 1
  t1 : w.cell? ⟨q1, 1, none⟩ = some (.string s)
  t2 : w.cell? ⟨q2, 1, none⟩ = some (.string s)
  ways : (l1 = l0 ∧ w.cell? ⟨q1, 5, none⟩ = some (.int .u8 k0) ∧ w.cell? ⟨q2, 5, none⟩ = some (.int .u8 k0) ∧ w.cell? ⟨q1, 3, none⟩ = some (.int .u32 0) ∧ w.cell? ⟨q2, 3, none⟩ = some (.int .u32 0)) ∨
    ∃ P : Nat, P < l1 ∧ (S2.getD P (⟨#[]⟩, 0)).1 = s ∧ w.cell? ⟨q1, 5, none⟩ = some (.int .u8 39) ∧ w.cell? ⟨q2, 5, none⟩ = some (.int .u8 39) ∧ w.cell? ⟨q1, 3, none⟩ = some (.int .u32 P) ∧ w.cell? ⟨q2, 3, none⟩ = some (.int .u32 P)
theorem cells_one {w : World} {g : Nat} {x : TK} (h : TB w g [x]) : w.cell? ⟨g, 1, none⟩ = some (.string x.1) ∧ w.cell? ⟨g, 3, none⟩ = some (.int .u32 x.2.2) ∧ w.cell? ⟨g, 5, none⟩ = some (.int .u8 x.2.1) :=
  ⟨TB.cellAt (i := 0) (j := 1) h (by simp) rfl, TB.cellAt (i := 0) (j := 3) h (by simp) rfl, TB.cellAt (i := 0) (j := 5) h (by simp) rfl⟩
theorem done_of {B p q1 q2 : Nat} {X : Nat → Prop} {ml : Bool} {s : ByteArray} {K : Int} {S : SY} {w : World} (c : Nat → TK → Bool)
    (h : ST B X p ml q2 (stp c 0 ([(s, K, 0)], (stp c 0 ([(s, K, 0)], S)).2)) w) (ht : TB w q1 (stp c 0 ([(s, K, 0)], S)).1) :
    Done w p q1 q2 ml s K S.length (stp c 0 ([(s, K, 0)], S)).2.length (stp c 0 ([(s, K, 0)], (stp c 0 ([(s, K, 0)], S)).2)).2.length (stp c 0 ([(s, K, 0)], (stp c 0 ([(s, K, 0)], S)).2)).2 := by
  have hg : ([(s, K, (0 : Int))] : List TK).getD 0 tk0 = (s, K, 0) := rfl
  cases hc : c 0 (s, K, 0) with
  | false =>
    have e : ∀ S', stp c 0 ([(s, K, (0 : Int))], S') = ([(s, K, 0)], S') := fun S' => stp_not hc
    simp only [e] at h ht ⊢
    obtain ⟨a1, a3, a5⟩ := cells_one ht
    obtain ⟨b1, b3, b5⟩ := cells_one h.tb
    exact ⟨⟨X, h.ps⟩, rfl, rfl, ⟨Nat.le_refl _, by omega⟩, a1, b1, .inl ⟨rfl, a5, b5, a3, b3⟩⟩
  | true =>
    have e : ∀ S', stp c 0 ([(s, K, (0 : Int))], S') = ([(s, 39, (plS s S' : Int))], addS s S') := fun S' => stp_do hc
    simp only [e] at h ht ⊢
    obtain ⟨a1, a3, a5⟩ := cells_one ht
    obtain ⟨b1, b3, b5⟩ := cells_one h.tb
    rw [pl_add] at b3
    refine ⟨⟨X, h.ps⟩, rfl, len_add2 s S, len_add s S, a1, b1, .inr ⟨plS s S, plS_lt, ?_, a5, b5, a3, b3⟩⟩
    have := name_add s (addS s S)
    rw [pl_add] at this
    exact this
theorem ST.other {B p g g' : Nat} {X : Nat → Prop} {ml : Bool} {z : List TK × SY} {w : World} {T : List TK} (h : ST B X p ml g z w) (ht : TB w g' T) (hb : B ≤ g') (hx : ¬ X g') : ST B X p ml g' (T, z.2) w :=
  ⟨h.ev, h.ps, ht, hb, fun i hi => ⟨(h.xs i hi).1, (h.xs i hi).2.1, fun e => hx (e ▸ hi)⟩⟩

set_option maxRecDepth 100000 in
set_option maxHeartbeats 4000000 in
/-- THE WALK -/
theorem walk (a0 : Option Addr) (len0 cap0 : Nat) (z0 : List Int) (a1 : Option Addr) (len1 cap1 : Nat) (z1 : List ByteArray) (a2 : Int) (a3 : ByteArray) (a4 : Bool) (w : World) (w0 : IsRow (.int .u8) (fun n => (Lit.int .u8 n).wf = true) w a0 len0 cap0 z0) (w1 : IsRow .string (fun s => s.size ≤ maxLen) w a1 len1 cap1 z1) (w2 : (Lit.int .u8 a2).wf = true) (w3 : a3.size ≤ maxLen) (hL : laidMetH Tryd.prog Rows.fnHandleSingleAnimationNameStableRow.laid w) :
    Calls Tryd.prog 3 #[.slice a0 len0 cap0, .slice a1 len1 cap1, .int .u8 a2, .string a3, .bool a4] w fun e w' => e = .returned (.bool true) ∧ Below w.heap.size w w' := by
  unfold IsRow at w0 w1
  obtain ⟨hS, hok0, hz0, hm0⟩ := Sl.of_row w0
  obtain ⟨hT, hok1, hz1, hm1⟩ := Sl.of_row w1
  obtain ⟨K, hK⟩ : ∃ Z : Nat → Int, Z = fun i => z0.getD i default := ⟨_, rfl⟩
  obtain ⟨T, hT2⟩ : ∃ Z : Nat → ByteArray, Z = fun i => z1.getD i default := ⟨_, rfl⟩
  have HS := Lib.hid (show Sl w a0 len0 (fun i => .int .u8 (K i)) by rw [hK]; exact hS)
  have HT := Lib.hid (show Sl w a1 len1 (fun i => .string (T i)) by rw [hT2]; exact hT)
  have HOK := Lib.hid (show ∀ i, i < len0 → 0 ≤ K i ∧ K i ≤ 255 by intro i hi; have := hok0 i hi; rw [hK]; simpa [Lit.wf, IntKind.min, IntKind.max, IntKind.bits, IntKind.signed] using this)
  have HTS := Lib.hid (show ∀ i, i < len1 → ((T i).size : Int) ≤ 9223372036854775807 by intro i hi; have h := hok1 i hi; have e : T i = z1.getD i default := congrFun hT2 i; rw [e]; unfold maxLen at h; omega)
  have hl0 : (len0 : Int) ≤ 9223372036854775807 := by unfold maxLen at hm0; omega
  have hl1 : (len1 : Int) ≤ 9223372036854775807 := by unfold maxLen at hm1; omega
  have hl3 : (a3.size : Int) ≤ 9223372036854775807 := by unfold maxLen at w3; omega
  have q2 : 0 ≤ a2 ∧ a2 ≤ 255 := by simpa [Lit.wf, IntKind.min, IntKind.max, IntKind.bits, IntKind.signed] using w2
  clear w0 w1 w2 w3 hS hT hok0 hok1 hm0 hm1 hK hT2 hz0 hz1
  have HEV := Lib.hid (show EV w.heap.size w from ⟨w, rfl, ⟨TL_of hL (by kernel_rfl) (by exact .tail _ (.tail _ (.tail _ (.head _)))) (by exact .tail _ (.tail _ (.tail _ (.tail _ (.head _))))) (by exact .head _), MV_of (nm := "github.com/evanw/esbuild/internal/css_parser.cssWideAndReservedKeywords") (D := cssL) hL (by kernel_rfl) (by exact .tail _ (.tail _ (.head _))) (by kernel_rfl) (by kernel_rfl), IR_of hL (by kernel_rfl) (by exact .tail _ (.head _))⟩, Below.refl _ _⟩)
  clear hL
  go_enter Tryd.func3, Tryd.ntmps3
  go_wp2_with fail
  refine (gate_any a0 a1 len0 cap0 len1 cap1 T a2 a3 a4 w hl0 hl1 HT.out HTS.out hl3).mono ?_
  rintro e wz ⟨⟨r, rfl, hr⟩, rfl⟩
  have HR := Lib.hid hr
  clear hl0 hl1 hl3 HTS hr
  cases r
  · go_wp2_with fail
    go_ret
    exact ⟨rfl, Below.refl _ _⟩
  obtain ⟨-, -, hts, h3s⟩ := HR.out rfl
  have HTS := Lib.hid hts
  clear HR hts
  by_cases b0 : (4096 : Int) < len0
  · go_wp2_with fail
    all_goals (go_ret; exact ⟨rfl, Below.refl _ _⟩)
  by_cases b1 : (4096 : Int) < len1
  · go_wp2_with fail
    all_goals (go_ret; exact ⟨rfl, Below.refl _ _⟩)
  go_wp2_with fail
  refine (size_any a0 a1 len0 cap0 len1 cap1 T w (by omega) (by omega) HT.out HTS.out).mono ?_
  rintro e wz ⟨⟨r, rfl, r0, r1⟩, rfl⟩
  by_cases b2 : (1048576 : Int) < r + 16 + a3.size
  · go_wp2_with fail
    all_goals (go_ret; exact ⟨rfl, Below.refl _ _⟩)
  go_upto_region 7 with fail
  clear r0 r1 b2
  go_wp2_with fail
  refine (bld_any a0 a1 len0 cap0 len1 cap1 K T w (by omega) (by omega) HS.out HT.out HOK.out).mono ?_
  rintro e w1 ⟨rfl, htb, hb1⟩
  obtain ⟨n, hn⟩ : ∃ n, min len0 len1 = n := ⟨_, rfl⟩
  have hn0 : n ≤ 4096 := by omega
  have HTS2 := Lib.hid (show ∀ i, i < n → ((T i).size : Int) ≤ 1048576 from fun i hi => HTS.out i (by omega))
  rw [hn] at htb ⊢
  have HTB := Lib.hid htb
  have HB1 := Lib.hid hb1
  obtain ⟨g, hg⟩ : ∃ g, w.heap.size = g := ⟨_, rfl⟩
  rw [hg]
  have HG := Lib.hid hg
  clear HS HT HOK HTS htb hb1 b0 b1 hn hg
  go_wp2_with fail
  refine (np_any a4 w1).mono ?_
  rintro e w2 ⟨p, X, rfl, hps, hX, hb2⟩
  have HST := Lib.hid (show ST w.heap.size X p a4 w.heap.size (bldN (tok T K) n n, []) w2 from
    ⟨(HEV.out.keep HB1.out).keep hb2, hps, Bk.keep HTB.out hb2, Nat.le_refl _, fun i hi => ⟨Nat.le_trans HB1.out.size (hX i hi).1, (hX i hi).2, by have := (hX i hi).1; have := HTB.out.lt; omega⟩⟩)
  have HB2 := Lib.hid (HB1.out.trans (hb2.mono HB1.out.size))
  clear hps hX hb2 HTB HB1 HEV
  have HL := Lib.hid (bldN_len (tok T K) n n)
  have HLT := Lib.hid (show ∀ i, i < n → (((bldN (tok T K) n n).getD i tk0).1.size : Int) ≤ 1048576 from fun i hi => by rw [bldN_at _ _ _ _ (Nat.le_refl _), if_pos hi]; exact HTS2.out i hi)
  clear HTS2
  generalize bldN (tok T K) n n = TT at *
  have HST2 : Hid (ST w.heap.size X p a4 g (TT, []) w2) := Lib.hid (by have := HST.out; rw [← HG.out]; exact this)
  clear HST
  go_upto_block 0 with fail
  go_cut [] (fun wc => ∃ X', Hid (ST w.heap.size X' p a4 g (stN (cA a4) (TT, []) n) wc ∧ Below w.heap.size w wc))
  case first =>
    go_wp2_with fail
    go_loopw [13] (fun i wr => ∃ (k : Nat) (X' : Nat → Prop), k ≤ n ∧ i = .int .i64 k ∧ Hid (ST w.heap.size X' p a4 g (stN (cA a4) (TT, []) k) wr ∧ Below w.heap.size w wr)) (fun i _ => n - (intOf i).toNat)
    case atStart => exact ⟨0, X, Nat.zero_le _, rfl, Lib.hid ⟨HST2.out, HB2.out⟩⟩
    case round =>
      clear HST2 HB2
      obtain ⟨k, X', hk, rfl, HT⟩ := hrel
      by_cases hlt : k < n
      · have q0 : (0 : Int) ≤ k := by omega
        have q1 : (k : Int) < n := by omega
        have HP : Hid (SBd 2000000 (stN (cA a4) (TT, []) k).2) := Lib.hid ((stN_bd (SBd.nil 0) k).mono (by omega))
        have HQ : Hid (k < (stN (cA a4) (TT, []) k).1.length ∧ (((stN (cA a4) (TT, []) k).1.getD k tk0).1.size : Int) ≤ 1048576) := Lib.hid ⟨by rw [stN_len]; show k < TT.length; rw [HL.out]; exact hlt, by rw [stN_later k (Nat.le_refl k)]; exact HLT.out k hlt⟩
        go_wp2_with fail
        refine (hw_any p g k a4 _ wr HT.out.1 HQ.out.1 HP.out HQ.out.2).mono ?_
        rintro e w3 ⟨rfl, X3, h1, h2⟩
        have HT3 := Lib.hid (And.intro h1 (HT.out.2.trans (h2.below HT.out.1)))
        clear h1 h2 HT HP HQ
        go_wp2_with fail
        exact ⟨⟨k + 1, X3, by omega, by go_num, HT3⟩, by simp [intOf]; omega⟩
      · obtain rfl : k = n := by omega
        go_wp2_with fail
        go_meet
        exact ⟨X', HT⟩
  case rest =>
  clear HST2 HB2
  obtain ⟨X1, HT⟩ := hcut
  have hsb := stN_bd (c := cA a4) (z := (TT, [])) (SBd.nil 0) n
  rw [Nat.zero_add] at hsb
  have HSB := Lib.hid (hsb.mono hn0)
  generalize stN (cA a4) (TT, []) n = zz at *
  obtain ⟨Z1, S⟩ := zz
  clear hsb
  obtain ⟨q20, q21⟩ := q2
  go_wp2_with fail
  refine (cnt_any p a4 S wc HT.out.1.ps).mono ?_
  rintro e wd ⟨rfl, rfl⟩
  go_wp2_with fail
  refine (code_any a2 wc q20 q21).mono ?_
  rintro e wd ⟨rfl, rfl⟩
  go_wp2_with fail
  refine (kind_any a2 wc).mono ?_
  rintro e wd ⟨rfl, rfl⟩
  go_wp2_with fail
  obtain ⟨wA, hwA⟩ : ∃ w', wc.alloc (.cells (tkR (a3, kdOf a2, 0)).toArray 40) = w' := ⟨_, rfl⟩
  have hwA2 := hwA
  unfold tkR at hwA2
  obtain ⟨q1, hq1⟩ : ∃ q, wc.heap.size = q := ⟨_, rfl⟩
  have hA1 := TB.one wc (a3, kdOf a2, 0)
  have hA2 : Below wc.heap.size wc (wc.alloc (.cells (tkR (a3, kdOf a2, 0)).toArray 40)) := (Below.refl _ _).alloc (Nat.le_refl _) _
  have hA3 : (wc.alloc (.cells (tkR (a3, kdOf a2, 0)).toArray 40)).heap.size = wc.heap.size + 1 := by simp
  rw [hwA] at hA1 hA2 hA3
  rw [hwA2, hq1]
  rw [hq1] at hA1 hA3
  have HA := Lib.hid (And.intro hA1 (And.intro hA2 (And.intro hA3 hq1)))
  clear hA1 hA2 hA3 hwA hwA2 hq1
  refine (code_any a2 wA q20 q21).mono ?_
  rintro e wd ⟨rfl, rfl⟩
  go_wp2_with fail
  refine (kind_any a2 wA).mono ?_
  rintro e wd ⟨rfl, rfl⟩
  go_upto_region 16 with fail
  obtain ⟨wB, hwB⟩ : ∃ w', wA.alloc (.cells (tkR (a3, kdOf a2, 0)).toArray 40) = w' := ⟨_, rfl⟩
  have hwB2 := hwB
  unfold tkR at hwB2
  obtain ⟨q2, hq2⟩ : ∃ q, wA.heap.size = q := ⟨_, rfl⟩
  have hB1 := TB.one wA (a3, kdOf a2, 0)
  have hB2 : Below wA.heap.size wA (wA.alloc (.cells (tkR (a3, kdOf a2, 0)).toArray 40)) := (Below.refl _ _).alloc (Nat.le_refl _) _
  rw [hwB] at hB1 hB2
  rw [hwB2, hq2]
  rw [hq2] at hB1
  have HB := Lib.hid (And.intro hB1 (And.intro hB2 hq2))
  clear hB1 hB2 hwB hwB2 hq2
  have hq12 : q2 = q1 + 1 := by have h1 := HA.out.2.2; have h2 := HB.out.2.2; omega
  have HST := Lib.hid ((HT.out.1.keep HA.out.2.1).keep HB.out.2.1)
  have HBL := Lib.hid (show Below w.heap.size w wB from (HT.out.2.trans (HA.out.2.1.mono HT.out.2.size)).trans (HB.out.2.1.mono (Nat.le_trans HT.out.2.size HA.out.2.1.size)))
  have HT1 := Lib.hid (Bk.keep HA.out.1 HB.out.2.1)
  have hq1c : wc.heap.size = q1 := HA.out.2.2.2
  have hX1 := fun i hi => (HT.out.1.xs i hi).2.1
  have HNX : Hid (¬ X1 q1 ∧ ¬ X1 q2 ∧ w.heap.size ≤ q1 ∧ w.heap.size ≤ q2) := Lib.hid ⟨fun h => by have := hX1 q1 h; omega, fun h => by have := hX1 q2 h; omega, by have := HT.out.2.size; omega, by have := HT.out.2.size; omega⟩
  have HS1 := Lib.hid (ST.other HST.out HT1.out HNX.out.2.2.1 HNX.out.1)
  have HQ := Lib.hid hq12
  clear hq12 hq1c hX1
  go_wp2_with fail
  refine (hw_any p q1 0 a4 ([(a3, kdOf a2, 0)], S) wB HS1.out (by simp) (HSB.out.mono (by omega)) h3s).mono ?_
  rintro e w5 ⟨rfl, X2, h1, h2⟩
  have H1 := Lib.hid (And.intro h1 h2)
  clear h1 h2
  go_wp2_with fail
  refine (cnt_any p a4 _ w5 H1.out.1.ps).mono ?_
  rintro e wd ⟨rfl, rfl⟩
  have HT2 := Lib.hid (H1.out.2.1.keep_bk HB.out.1 (fun h => h.elim HNX.out.2.1 (fun e => by have := HQ.out; omega)))
  have HS2 := Lib.hid (ST.other H1.out.1 HT2.out HNX.out.2.2.2 (fun h => (H1.out.2.2 q2 h).elim HNX.out.2.1 (fun e => by have := HB.out.1.lt; omega)))
  have HSB2 := Lib.hid (stp_bd (c := cA a4) (z := ([(a3, kdOf a2, (0 : Int))], S)) HSB.out 0)
  have HBL2 := Lib.hid (HBL.out.trans (H1.out.2.below HS1.out))
  go_wp2_with fail
  refine (hw_any p q2 0 a4 ([(a3, kdOf a2, 0)], (stp (cA a4) 0 ([(a3, kdOf a2, 0)], S)).2) w5 HS2.out (by simp) (HSB2.out.mono (by omega)) h3s).mono ?_
  rintro e w6 ⟨rfl, X3, h1, h2⟩
  have H2 := Lib.hid (And.intro h1 h2)
  clear h1 h2
  go_wp2_with fail
  refine (cnt_any p a4 _ w6 H2.out.1.ps).mono ?_
  rintro e wd ⟨rfl, rfl⟩
  have HBL3 := Lib.hid (HBL2.out.trans (H2.out.2.below HS2.out))
  have HT3 := Lib.hid (H2.out.2.1.keep_bk H1.out.1.tb (fun h => h.elim (fun h => (H1.out.1.xs _ h).2.2 rfl) (fun e => by have := HQ.out; omega)))
  have HD := Lib.hid (done_of (cA a4) H2.out.1 HT3.out)
  have hsl : S.length ≤ 4096 := HSB.out.1
  clear HS1 HS2 H1 H2 HT1 HT2 HT3 HSB2 HSB HBL HBL2 HST HNX HA HB HT HQ
  generalize (stp (cA a4) 0 ([(a3, kdOf a2, (0 : Int))], (stp (cA a4) 0 ([(a3, kdOf a2, (0 : Int))], S)).2)).2 = S2 at *
  generalize (stp (cA a4) 0 ([(a3, kdOf a2, (0 : Int))], S)).2.length = l1 at *
  obtain ⟨⟨X9, hps⟩, -, l12, ⟨l01, l02⟩, t1, t2, ways⟩ := HD.out
  clear HD
  obtain rfl : S2.length = l1 := l12
  have p0 : ¬ (S2.length : Int) < S.length := by omega
  have p1 : ¬ (S.length : Int) + 1 < S2.length := by omega
  have gs : (a3.toList == a3.toList) = true := by simp
  have HPS := Lib.hid hps
  clear hps
  rcases ways with ⟨hl, k1, k2, c1, c2⟩ | ⟨P, hP, hn, k1, k2, c1, c2⟩
  · have k39 := kd39 a2
    have e1 : (S2.length : Int) = S.length := by omega
    clear l01 l02 hl
    go_wp2_with fail
    all_goals go_ret
    all_goals exact ⟨by first | rfl | simp_all, HBL3.out⟩
  · have HN := Lib.hid hn
    have p2 : ¬ (S2.length : Int) ≤ P := by omega
    have p3 : (0 : Int) ≤ P := by omega
    have p4 : (P : Int) ≤ 4294967295 := by omega
    clear hn l01 l02
    go_wp2_with (go_at_call 12; refine (name_any p P a4 S2 w6 HPS.out hP).mono ?_; rintro e wd ⟨rfl, rfl⟩; rw [HN.out])
    all_goals go_ret
    all_goals exact ⟨by first | rfl | simp_all, HBL3.out⟩

/-- Go's great tables: the door's own run does not lay them -/
def grt : List String := ["unicode.CaseRanges", "unicode/utf8.first"]
noncomputable def wit (os : Os) : World := (World.doorLaid Tryd.prog 59 os).layVars Tryd.prog (Rows.fnHandleSingleAnimationNameStableRow.laid.filter fun x => grt.contains x.1)
theorem wit_os (os : Os) : (wit os).os = os := World.layVars_os _ _ _
noncomputable def blk (os : Os) : List Nat := ((DataW.laidRun Tryd.prog (wit os) 8 ((Rows.fnHandleSingleAnimationNameStableRow.laid.filter fun x => !grt.contains x.1).map (·.1))).map fun x => x.2.map (·.block)).getD []
theorem lay_fits (os : Os) : (World.doorLaid Tryd.prog 59 os).layFits Tryd.prog (Rows.fnHandleSingleAnimationNameStableRow.laid.filter fun x => grt.contains x.1) (blk os) = true := by kernel_rfl
theorem lay_ifaces (os : Os) : (World.doorLaid Tryd.prog 59 os).layIfaces Tryd.prog (Rows.fnHandleSingleAnimationNameStableRow.laid.filter fun x => grt.contains x.1) (wit os) = true := by kernel_rfl
theorem lay_small (os : Os) : LaidIn Tryd.prog (wit os) (Rows.fnHandleSingleAnimationNameStableRow.laid.filter fun x => !grt.contains x.1) (blk os) :=
  LaidIn.of_run _ 8 (by kernel_rfl) (by kernel_rfl) (by kernel_rfl) (by kernel_rfl)
theorem laid_met (os : Os) (args : Array Value) : laidMetH Tryd.prog Rows.fnHandleSingleAnimationNameStableRow.laid ((wit os).forCall (fun _ _ => 0) ⟨#[], args, []⟩).memory := by
  rw [MakeChecks.laidMetH_plain _ _ _ (by kernel_rfl)]
  have h : laidMet Tryd.prog Rows.fnHandleSingleAnimationNameStableRow.laid (wit os) := laidMet_layVars (w0 := World.doorLaid Tryd.prog 59 os) grt (blk os) rfl (lay_fits os) (lay_ifaces os) (lay_small os)
  exact h.of_heap (by simp [World.memory, World.forCall, Input.heap])

set_option maxRecDepth 1000000 in
theorem lifted (os : Os) (started : os.Started) (H : Type) (enc : TypeId × Value → H) :
    ReturnsInHanded {} Tryd.checked os 3 .any (fun w args => (Rows.fnHandleSingleAnimationNameStableSpec.pre enc Tryd.prog Tryd.f3 Rows.fnHandleSingleAnimationNameStableRow.domain false w args ∧ laidMetH Tryd.prog Rows.fnHandleSingleAnimationNameStableRow.laid w) ∧ sizedMet enc Tryd.prog Tryd.f3 (OpenSpec.ofChange Rows.fnHandleSingleAnimationNameStableSpec) false w args)
      (Rows.fnHandleSingleAnimationNameStableSpec.post enc Tryd.prog Tryd.f3 false true false false) := by
  refine returnsInHanded_of_change_and (C := Tryd.checked) (X := fun w _ => laidMetH Tryd.prog Rows.fnHandleSingleAnimationNameStableRow.laid w) (fun _ _ _ hh h => h.of_heap hh) own started (by kernel_rfl) Tryd.func3
    (ChangeSpec.witness_shaped (enc := enc) (C := Tryd.checked) (os := os) (X := fun w _ => laidMetH Tryd.prog Rows.fnHandleSingleAnimationNameStableRow.laid w) false (wit os) #[.slice none 0 0, .slice none 0 0, .int .u8 0, .string ByteArray.empty, .bool false] 8 (wit_os os)
      (World.shaped_of_ZipB (by kernel_rfl) (by kernel_rfl)) (by kernel_rfl) (by kernel_rfl) (by kernel_rfl)
      (laid_met os _)) ?_
  intro W base args ds gs before hval0 hW hcnd _ hL _
  have hval : ∀ (j : Nat) t v, Tryd.f3.params[j]? = some t → args[j]? = some v → Value.okWide Tryd.prog W .any base t v := hval0
  have hW' := hW
  obtain ⟨p, q, hA0, hV, rfl, hfz, hnd⟩ := hW
  have hA : DataW.TrodAll enc Tryd.prog W 0 (fun _ => true) true Tryd.f3.params.toList args.toList ds p := hA0
  rw [Tryd.params3] at hA hval
  obtain ⟨v0, vs0, d0, ds0, p0, q0, hargs, rfl, rfl, h0, r0⟩ := trodAll_cons hA
  obtain ⟨v1, vs1, d1, ds1, p1, q1, rfl, rfl, rfl, h1, r1⟩ := trodAll_cons r0
  obtain ⟨v2, vs2, d2, ds2, p2, q2, rfl, rfl, rfl, h2, r2⟩ := trodAll_cons r1
  obtain ⟨v3, vs3, d3, ds3, p3, q3, rfl, rfl, rfl, h3, r3⟩ := trodAll_cons r2
  obtain ⟨v4, vs4, d4, ds4, p4, q4, rfl, rfl, rfl, h4, r4⟩ := trodAll_cons r3
  obtain ⟨rfl, rfl, rfl⟩ := trodAll_nil r4
  obtain rfl : args = #[v0, v1, v2, v3, v4] := by cases args; simp_all
  have hV1 := hV
  obtain ⟨g0, g1, hg0⟩ : ∃ g0 g1, gs = [g0, g1] := by
    match gs, hV with
    | [g0, g1], _ => exact ⟨g0, g1, rfl⟩
  subst hg0
  obtain ⟨a0, len0, cap0, rfl⟩ := okWide_slice Tryd.underlying22 (hval 0 22 v0 rfl rfl)
  have k0 := h0
  have lt0 : ∀ x ∈ p0, x.block < W.heap.size := by obtain ⟨m, hm⟩ := k0; exact DataW.trod_lt m _ _ _ hm
  obtain ⟨z0, w0⟩ : ∃ zs, IsRow (.int .u8) (fun n => (Lit.int .u8 n).wf = true) W a0 len0 cap0 zs := by
    obtain ⟨fuel, hf⟩ := h0
    exact row_of_int Tryd.underlying22 Tryd.underlying5 (by kernel_rfl) hf
  obtain ⟨a1, len1, cap1, rfl⟩ := okWide_slice Tryd.underlying23 (hval 1 23 v1 rfl rfl)
  have k1 := h1
  have lt1 : ∀ x ∈ p1, x.block < W.heap.size := by obtain ⟨m, hm⟩ := k1; exact DataW.trod_lt m _ _ _ hm
  obtain ⟨z1, w1⟩ : ∃ zs, IsRow .string (fun s => s.size ≤ maxLen) W a1 len1 cap1 zs := by
    obtain ⟨fuel, hf⟩ := h1
    exact row_of_string Tryd.underlying23 Tryd.underlying9 (by kernel_rfl) hf
  obtain ⟨a2, rfl, rfl, rfl, w2⟩ := open_int Tryd.underlying5 (hval 2 5 v2 rfl rfl) h2
  obtain ⟨a3, rfl, rfl, rfl, w3⟩ := open_string Tryd.underlying9 (hval 3 9 v3 rfl rfl) h3
  obtain ⟨a4, rfl, rfl, rfl⟩ := open_bool Tryd.underlying4 (hval 4 4 v4 rfl rfl) h4
  clear hA0 hval0
  refine (walk a0 len0 cap0 z0 a1 len1 cap1 z1 a2 a3 a4 W w0 w1 w2 w3 hL).mono fun e W' ⟨he, bel⟩ => ?_
  subst he
  exact ⟨_, rfl, _, _, _, [], _, _, hW', trodAll_mk1 (shut_bool Tryd.underlying4 _), (trodAll_cons_mk (Below.trod laidOut (by kernel_rfl) (of_decide_eq_true (by kernel_rfl)) k0 bel lt0) (trodAll_cons_mk (Below.trod laidOut (by kernel_rfl) (of_decide_eq_true (by kernel_rfl)) k1 bel lt1) (trodAll_cons_mk (shut_int Tryd.underlying5 w2) (trodAll_cons_mk (shut_string Tryd.underlying9 w3) (trodAll_cons_mk (shut_bool Tryd.underlying4 a4) trodAll_mk0))))), (Below.trodVars laidOut bel (by kernel_rfl) hV1), bel.frame _, fun h => by cases h⟩

theorem over : Rows.fnHandleSingleAnimationNameStableRow.holds Tryd.pinned (OpenSpec.ofChange Rows.fnHandleSingleAnimationNameStableSpec) :=
  OpenClaim.holds_of_wide 3 Tryd.f3 rfl rfl rfl rfl rfl rfl rfl ⟨rfl, rfl, rfl, rfl, rfl⟩ rfl rfl rfl rfl rfl (by kernel_rfl) Tryd.func3 (by kernel_rfl)
    (of_decide_eq_true (by kernel_rfl)) (by unfold Func.isWrapper; first | (rw [if_pos (by decide +kernel)]; kernel_rfl) | (rw [if_neg (by decide +kernel)]; exact ⟨rfl, rfl⟩))
    (fun os started H enc _ => lifted os started H enc)

/-- THE STATEMENT: the listed variables are tied to the program's text. -/
theorem proved : Rows.FnHandleSingleAnimationNameStableCardSaid :=
  Claim7.holds_tied_plain_at .later [] [.data, .data, .mapped, .pinned, .pinned] true (true, "3c4e27e2d8b174cace0fcadaeae0954b124a0336c9f47616bc3d80a245a93471") false over (fun _ h => by cases h) (by kernel_rfl) (fun _ h => by cases h) fnHandleSingleAnimationNameStable_row_tie rfl ⟨rfl, rfl⟩ (by kernel_rfl) rfl
    (fun f fn hf hfn => by
      obtain rfl : f = 3 := Option.some.inj ((show Tryd.prog.funcNamed "github.com/evanw/esbuild/n011_154.FnHandleSingleAnimationNameStable" = some 3 by kernel_rfl).symm.trans hf) |>.symm
      obtain rfl : fn = Tryd.f3 := (Option.some.inj (Tryd.func3.symm.trans hfn)).symm
      exact ⟨by kernel_rfl, fun j t ht => by
        rw [Tryd.params3] at ht
        have hm : t ∈ [22, 23, 5, 9, 4] := by simpa using Array.mem_of_getElem? ht
        have hall : ([22, 23, 5, 9, 4].all fun u => !Tryd.prog.wantsStandIn u) = true := by kernel_rfl
        exact (show Tryd.prog.wantsStandIn t = false by simpa using List.all_eq_true.1 hall t hm)⟩)
    (by kernel_rfl)
#print axioms proved
end Go.Proofs.YtbmjojloadlmnaaDoor.fnHandleSingleAnimationNameStable
