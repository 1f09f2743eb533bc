/-
  For all token lists and either sort of parser: running container-name a second time over its own output changes no token, adds no symbol and counts no further use: the Go law FnContainerNameIdempotent returns true for every input. The variables that the package and strings.ToLower read are tied to the text of the program. No condition.
-/
import Derived.Test.YtppgilppnnliiabDoorRows
import Derived.Test.YtppgilppnnliiabDoorTie
import Derived.Test.YtppgilppnnliiabDoorCards
import Derived.WalkKit
import Derived.ProofKit
import Derived.OpenShut
import Derived.ShutString
import Derived.ChangeOld
import Derived.Below
import Derived.Lib.Hide
import Derived.Outline
import Derived.OpenVars
import Derived.Lay
import Derived.LaidMore
import Derived.SevenTiedAt
import Derived.Stop.Joined
import Derived.LaidLaws
import Derived.Test.YtppgilppnnliiabDoorZt
import Derived.Test.YtppgilppnnliiabDoorRc
import Derived.Test.YtppgilppnnliiabDoorNw
import Derived.Test.YtppgilppnnliiabDoorCt
import Derived.Test.YtppgilppnnliiabDoorCn
import Derived.Deep.DeepCutAuto
import Derived.Deep.CutBlock
import Derived.Deep.RegionWith
import Derived.Lib.LaidIn
import Derived.MakeChecks
namespace Go.Proofs.YtppgilppnnliiabDoor.fnContainerNameIdempotent
open Go.ChangeShapes Go.WideShapes Go.ChangeAt Go.RowKit
open Go.ChangeMaps (open_string shut_string)
set_option linter.unusedVariables false

theorem own : ownKnob Tryd.prog.godebug = none := by kernel_rfl
theorem laidOut : laidOutB Tryd.prog = true := by kernel_rfl

open Sy Rg
set_option maxRecDepth 100000 in
set_option maxHeartbeats 1000000 in
theorem wc_any {B : Nat} {X : Nat → Prop} (p g n cap : Nat) (ml : Bool) (z : List TK × SY) (w : World) (h : ST B X p ml g z w) (hn : z.1.length = n) (hn2 : n ≤ 1000000) (hb : SBd 1000000 z.2) (hs : Sized z.1) :
    Calls Tryd.prog 9 #[.pointer (some ⟨p, 0, none⟩), .slice (some ⟨g, 0, none⟩) n cap] w (CnP B X p ml g n z w) := by
  have hc := cn_any p g n cap ml z w h hn hn2 hb hs
  clear h hb hs hn
  go_enter Tryd.func9, Tryd.ntmps9
  go_wp2_with fail
  refine hc.mono ?_
  rintro e w' ⟨rfl, h1⟩
  have H := Lib.hid h1
  clear h1 hc
  go_wp2_with fail
  go_end0
  exact ⟨rfl, H.out⟩
theorem infoU8 : (Tryd.prog.info? 39).map (fun i => (i.zero, i.size, i.bytes)) = some (some (.int .u8 0), 1, 1) := by kernel_rfl
theorem infoU32 : (Tryd.prog.info? 37).map (fun i => (i.zero, i.size, i.bytes)) = some (some (.int .u32 0), 1, 4) := by kernel_rfl
theorem infoStr : (Tryd.prog.info? 9).map (fun i => (i.zero, i.size, i.bytes)) = some (some (.string ⟨#[]⟩), 1, 16) := by kernel_rfl
theorem mk_one (t e : TypeId) (v : Value) (b : Nat) (hv : v.cells = #[v]) (hi : (Tryd.prog.info? e).map (fun i => (i.zero, i.size, i.bytes)) = some (some v, 1, b)) (hu : Tryd.prog.underlying t = some (.slice e)) (n : Nat) (hn : (n : Int) ≤ 2000000) (hb : b ≤ 64) (W : World) :
    (Instr.makeSlice t (.int .i64 n) (.int .i64 n)).run Tryd.prog W = .ok (.slice (some ⟨W.heap.size, 0, none⟩) n n) (W.alloc (.cells (madeCells #[v] n) e)) := by
  cases hx : Tryd.prog.info? e with
  | none => rw [hx] at hi; simp at hi
  | some i0 =>
    rw [hx] at hi
    simp only [Option.map_some, Option.some.injEq, Prod.mk.injEq] at hi
    obtain ⟨hz0, hz1, hz2⟩ := hi
    have hbn : i0.bytes * n ≤ 64 * 2000000 := Nat.mul_le_mul (by omega) (by omega)
    have hbm : n * i0.bytes ≤ 64 * 2000000 := by rw [Nat.mul_comm]; exact hbn
    have := run_make_rowN (P := Tryd.prog) t e i0 v hu hx hz0 .i64 .i64 n n (Nat.le_refl _) (by omega) (by omega) W
    rw [hz1, hv, Nat.mul_one] at this
    exact this
theorem RC.made1 (w : World) (d : Value) (n : Nat) (t : TypeId) (F : Nat → Value) : RC (w.alloc (.cells (madeCells #[d] n) t)) w.heap.size t (upto F d 0) n := by
  have := RC.made w d n t F
  rw [Nat.mul_one] at this
  exact this
theorem uses_any2 {X : Nat → Prop} (p i : Nat) (ml : Bool) (S : SY) (U : Int) (w : World) (h : PS w X p ml S) (hi : i < S.length) (hU : (S.getD i (⟨#[]⟩, 0)).2 = U) :
    Calls Tryd.prog 11 #[.pointer (some ⟨p, 0, none⟩), .int .i64 (i : Int)] w fun e w' => e = .returned (.int .u32 U) ∧ w = w' := by
  rw [← hU]
  exact uses_any p i ml S w h hi
def F8 (z : List TK × SY) (i : Nat) : Value := .int .u8 (z.1.getD i tk0).2.1
def F9 (z : List TK × SY) (i : Nat) : Value := .int .u32 (z.1.getD i tk0).2.2
def F10 (z : List TK × SY) (i : Nat) : Value := .string (z.1.getD i tk0).1
def F13 (z : List TK × SY) (i : Nat) : Value := .int .u32 (z.2.getD i (⟨#[]⟩, 0)).2
theorem Off.keep_rc {X : Nat → Prop} {w w' : World} {g n : Nat} {t : TypeId} {F : Nat → Value} (h : Off X w w') (hk : RC w g t F n) (hn : ¬ X g) : RC w' g t F n := h.keep_bk hk hn
theorem ST.far {B p g q o : Nat} {X : Nat → Prop} {ml : Bool} {z : List TK × SY} {w : World} (h : ST B X p ml g z w) (hB : B ≤ q) (hx : ¬ X q) (hg : g ≠ q) (u : Value) : ST B X p ml g z (w.setCell ⟨q, o, none⟩ u) :=
  h.off (Y := fun i => i = q) (Off.of_setCell w q o u rfl) (fun i hi => by subst hi; exact ⟨hB, hx⟩) (Bk.far h.tb hg _)
/-- parser, tokens and the three rows of copies, filled up to k -/
structure RW (w00 : World) (X : Nat → Prop) (p : Nat) (ml : Bool) (g : Nat) (z : List TK × SY) (q8 q9 q10 n k : Nat) (w : World) : Prop where
  st : ST w00.heap.size X p ml g z w
  bw : Below w00.heap.size w00 w
  r8 : RC w q8 39 (upto (F8 z) (.int .u8 0) k) n
  r9 : RC w q9 37 (upto (F9 z) (.int .u32 0) k) n
  r10 : RC w q10 9 (upto (F10 z) (.string ⟨#[]⟩) k) n
  x : ¬ X q8 ∧ ¬ X q9 ∧ ¬ X q10
  ne : g < q8 ∧ q8 < q9 ∧ q9 < q10
  b : w00.heap.size ≤ q8
section
variable {w00 w w' : World} {X X' : Nat → Prop} {p g q8 q9 q10 n k : Nat} {ml : Bool} {z : List TK × SY}
theorem RW.next (h : RW w00 X p ml g z q8 q9 q10 n k w) (hk : k < n) : RW w00 X p ml g z q8 q9 q10 n (k + 1) (((w.setCell ⟨q8, k, none⟩ (F8 z k)).setCell ⟨q9, k, none⟩ (F9 z k)).setCell ⟨q10, k, none⟩ (F10 z k)) := by
  have ne := h.ne
  have hb := h.b
  refine ⟨ST.far (ST.far (ST.far h.st hb h.x.1 (by omega) _) (by omega) h.x.2.1 (by omega) _) (by omega) h.x.2.2 (by omega) _, ((h.bw.setCell hb _).setCell (by show w00.heap.size ≤ q9; omega) _).setCell (by show w00.heap.size ≤ q10; omega) _, ?_, ?_, ?_, h.x, h.ne, hb⟩
  · exact Bk.far (Bk.far (h.r8.next hk) (by show q8 ≠ q9; omega) _) (by show q8 ≠ q10; omega) _
  · exact Bk.far (RC.next (Bk.far h.r9 (by show q9 ≠ q8; omega) _) hk) (by show q9 ≠ q10; omega) _
  · exact RC.next (Bk.far (Bk.far h.r10 (by show q10 ≠ q8; omega) _) (by show q10 ≠ q9; omega) _) hk
theorem RW.keep (h : RW w00 X p ml g z q8 q9 q10 n k w) (hb : Below w.heap.size w w') : RW w00 X p ml g z q8 q9 q10 n k w' :=
  ⟨h.st.keep hb, h.bw.trans (hb.mono h.bw.size), Bk.keep h.r8 hb, Bk.keep h.r9 hb, Bk.keep h.r10 hb, h.x, h.ne, h.b⟩
theorem RW.far {q o : Nat} (h : RW w00 X p ml g z q8 q9 q10 n k w) (hq : q10 < q) (hx : ¬ X q) (u : Value) : RW w00 X p ml g z q8 q9 q10 n k (w.setCell ⟨q, o, none⟩ u) := by
  have ne := h.ne
  have hb := h.b
  exact ⟨ST.far h.st (by omega) hx (by omega) _, h.bw.setCell (by show w00.heap.size ≤ q; omega) _, Bk.far h.r8 (by show q8 ≠ q; omega) _, Bk.far h.r9 (by show q9 ≠ q; omega) _, Bk.far h.r10 (by show q10 ≠ q; omega) _, h.x, h.ne, hb⟩
theorem RW.pass (h : RW w00 X p ml g z q8 q9 q10 n k w) (hs : ST w00.heap.size X' p ml g z w') (hg : GO X g w X' w') : RW w00 X' p ml g z q8 q9 q10 n k w' := by
  have ne := h.ne
  have l8 := Bk.lt h.r8
  have l9 := Bk.lt h.r9
  have l10 := Bk.lt h.r10
  exact ⟨hs, h.bw.trans (hg.below h.st), Off.keep_rc hg.1 h.r8 (fun hx => hx.elim h.x.1 (fun e => by omega)), Off.keep_rc hg.1 h.r9 (fun hx => hx.elim h.x.2.1 (fun e => by omega)), Off.keep_rc hg.1 h.r10 (fun hx => hx.elim h.x.2.2 (fun e => by omega)),
    ⟨fun hx => (hg.2 _ hx).elim h.x.1 (fun e => by omega), fun hx => (hg.2 _ hx).elim h.x.2.1 (fun e => by omega), fun hx => (hg.2 _ hx).elim h.x.2.2 (fun e => by omega)⟩, h.ne, h.b⟩
theorem RW.cells (h : RW w00 X p ml g z q8 q9 q10 n k w) {i : Nat} (hi : i < n) : w.cell? ⟨q8, i, none⟩ = some (upto (F8 z) (.int .u8 0) k i) ∧ w.cell? ⟨q9, i, none⟩ = some (upto (F9 z) (.int .u32 0) k i) ∧ w.cell? ⟨q10, i, none⟩ = some (upto (F10 z) (.string ⟨#[]⟩) k i) :=
  ⟨h.r8.cell hi, h.r9.cell hi, h.r10.cell hi⟩
theorem RW.toks (h : RW w00 X p ml g z q8 q9 q10 n k w) {i : Nat} (hi : i < z.1.length) : w.cell? ⟨g, i * 7 + 5, none⟩ = some (.int .u8 (z.1.getD i tk0).2.1) ∧ w.cell? ⟨g, i * 7 + 3, none⟩ = some (.int .u32 (z.1.getD i tk0).2.2) ∧ w.cell? ⟨g, i * 7 + 1, none⟩ = some (.string (z.1.getD i tk0).1) :=
  ⟨TB.cellAt (j := 5) h.st.tb hi rfl, TB.cellAt (j := 3) h.st.tb hi rfl, TB.cellAt (j := 1) h.st.tb hi rfl⟩
end

set_option maxRecDepth 100000 in
set_option maxHeartbeats 4000000 in
/-- THE WALK -/
theorem walk (a0 : Option Addr) (len0 cap0 : Nat) (K : Nat → Int) (T : Nat → ByteArray) (a1 : Bool) (w : World) (w0 : Sy.Toks w a0 len0 K T) (hL : laidMetH Tryd.prog Rows.fnContainerNameIdempotentRow.laid w) :
    Calls Tryd.prog 3 #[.slice a0 len0 cap0, .bool a1] w fun e w' => e = .returned (.bool true) ∧ Below w.heap.size w w' := by
  have HT0 := Lib.hid w0
  clear w0
  have HEV := Lib.hid (show EV w.heap.size w from ⟨w, rfl, ⟨TL_of hL (by kernel_rfl) (by exact .tail _ (.tail _ (.tail _ (.head _)))) (by exact .tail _ (.tail _ (.tail _ (.tail _ (.head _))))) (by exact .head _), MV_of (nm := "github.com/evanw/esbuild/internal/css_parser.cssWideAndReservedKeywords") (D := cssL) hL (by kernel_rfl) (by exact .tail _ (.tail _ (.head _))) (by kernel_rfl) (by kernel_rfl), IR_of hL (by kernel_rfl) (by exact .tail _ (.head _))⟩, Below.refl _ _⟩)
  clear hL
  go_enter Tryd.func3, Tryd.ntmps3
  go_wp2_with fail
  refine (zzb_any a0 len0 cap0 a1 K T w HT0.out).mono ?_
  rintro e wz ⟨⟨r, rfl, hr⟩, rfl⟩
  have HR := Lib.hid hr
  clear hr
  cases r
  · go_wp2_with fail
    go_ret
    exact ⟨rfl, Below.refl _ _⟩
  obtain ⟨hl0, hts⟩ := HR.out rfl
  have HTS := Lib.hid hts
  clear HR hts
  go_wp2_with fail
  refine (tsize_any a0 len0 cap0 K T w HT0.out HTS.out).mono ?_
  rintro e wz ⟨⟨r, rfl, hr⟩, rfl⟩
  by_cases hr2 : (1048576 : Int) < r
  · clear hr
    go_wp2_with fail
    go_ret
    exact ⟨rfl, Below.refl _ _⟩
  have hn0 : len0 ≤ 65536 := hr (by omega)
  clear hr
  go_wp2_with fail
  refine (clone_any a0 len0 cap0 K T w HT0.out (by omega)).mono ?_
  rintro e w1 ⟨a, c, rfl, ht, hb⟩
  have HTK := Lib.hid ht
  have HB1 := Lib.hid hb
  clear ht hb HT0 hr2
  go_wp2_with fail
  refine (np_any a1 w1).mono ?_
  rintro e w2 ⟨p, X, rfl, hps, hX, hb⟩
  have HP := Lib.hid (And.intro hps (And.intro hX hb))
  clear hps hX hb
  go_wp2_with fail
  refine (bt_any a len0 c K T w2 (by omega) (HTK.out.keep HP.out.2.2)).mono ?_
  rintro e w3 ⟨rfl, htb, hb⟩
  obtain ⟨n, hn⟩ : ∃ n, len0 = n := ⟨_, rfl⟩
  have HN := Lib.hid (bldN_len (tokT T K) n n)
  have HSZ := Lib.hid (show Sized (bldN (tokT T K) n n) from fun i hi => by rw [bldN_len] at hi; rw [bldN_at _ _ _ _ (Nat.le_refl _), if_pos hi]; exact HTS.out i (by omega))
  subst hn
  have s1 := HB1.out.size
  have s2 := HP.out.2.2.size
  have s3 := hb.size
  have t3 := htb.lt
  have B12 : Below w.heap.size w w2 := HB1.out.trans (HP.out.2.2.mono s1)
  have B13 : Below w.heap.size w w3 := B12.trans (hb.mono (by omega))
  have hx : ∀ i, X i → w1.heap.size ≤ i ∧ i < w2.heap.size := HP.out.2.1
  have HST : Hid (ST w.heap.size X p a1 w2.heap.size (bldN (tokT T K) len0 len0, []) w3) := Lib.hid
    ⟨HEV.out.keep B13, HP.out.1.keep hb, htb, by omega, fun i hi => by have := hx i hi; exact ⟨by omega, by omega, by omega⟩⟩
  have HB13 := Lib.hid B13
  generalize bldN (tokT T K) len0 len0 = TT at *
  obtain ⟨g, hg⟩ : ∃ g, w2.heap.size = g := ⟨_, rfl⟩
  rw [hg] at HST ⊢
  clear s1 s2 s3 t3 B12 B13 hx htb hb HP HTK HTS HB1 HEV hg
  go_wp2_with fail
  refine (wc_any p g len0 len0 a1 (TT, []) w3 HST.out HN.out (by omega) (SBd.nil _) HSZ.out).mono ?_
  rintro e w4 ⟨rfl, X1, z1, hpc, h1, h2⟩
  have HPC := Lib.hid hpc
  have HS1 := Lib.hid h1
  have HB14 := Lib.hid (HB13.out.trans (h2.below HST.out))
  have HL1 := Lib.hid (show z1.1.length = len0 by rw [hpc.len]; exact HN.out)
  have HSB : Hid (SBd 1000000 z1.2) := Lib.hid (by
    rcases hpc with ⟨_, rfl⟩ | ⟨_, rfl⟩
    · exact (stN_bd (SBd.nil 0) len0).mono (by omega)
    · exact SBd.nil _)
  have HSZ1 : Hid (Sized z1.1) := Lib.hid (by
    rcases hpc with ⟨_, rfl⟩ | ⟨_, rfl⟩
    · intro i hi
      rw [stN_len] at hi
      rw [stN_text _ _ hi]
      exact HSZ.out i hi
    · exact HSZ.out)
  clear hpc h1 h2 HST HB13 HSZ
  have hk1 := fun W => mk_one 31 39 (.int .u8 0) 1 rfl infoU8 Tryd.underlying31 len0 (by omega) (by omega) W
  have hk2 := fun W => mk_one 32 37 (.int .u32 0) 4 rfl infoU32 Tryd.underlying32 len0 (by omega) (by omega) W
  have hk3 := fun W => mk_one 33 9 (.string ⟨#[]⟩) 16 rfl infoStr Tryd.underlying33 len0 (by omega) (by omega) W
  go_upto_region 11 with fail
  have RA := RC.made1 w4 (.int .u8 0) len0 39 (F8 z1)
  have BA : Below w4.heap.size w4 (w4.alloc (.cells (madeCells #[.int .u8 0] len0) 39)) := (Below.refl _ _).alloc (Nat.le_refl _) _
  have SA : (w4.alloc (.cells (madeCells #[.int .u8 0] len0) 39)).heap.size = w4.heap.size + 1 := by simp
  generalize w4.alloc (.cells (madeCells #[.int .u8 0] len0) 39) = w5 at *
  obtain ⟨q8, hq8⟩ : ∃ q, w4.heap.size = q := ⟨_, rfl⟩
  rw [hq8] at RA SA ⊢
  have HA := Lib.hid (And.intro RA (And.intro BA (And.intro SA hq8)))
  clear RA BA SA hq8
  go_upto_region 12 with fail
  have RA := RC.made1 w5 (.int .u32 0) len0 37 (F9 z1)
  have BA : Below w5.heap.size w5 (w5.alloc (.cells (madeCells #[.int .u32 0] len0) 37)) := (Below.refl _ _).alloc (Nat.le_refl _) _
  have SA : (w5.alloc (.cells (madeCells #[.int .u32 0] len0) 37)).heap.size = w5.heap.size + 1 := by simp
  generalize w5.alloc (.cells (madeCells #[.int .u32 0] len0) 37) = w6 at *
  obtain ⟨q9, hq9⟩ : ∃ q, w5.heap.size = q := ⟨_, rfl⟩
  rw [hq9] at RA SA ⊢
  have HB := Lib.hid (And.intro RA (And.intro BA (And.intro SA hq9)))
  clear RA BA SA hq9
  go_upto_block 0 with fail
  have RA := RC.made1 w6 (.string ⟨#[]⟩) len0 9 (F10 z1)
  have BA : Below w6.heap.size w6 (w6.alloc (.cells (madeCells #[.string ⟨#[]⟩] len0) 9)) := (Below.refl _ _).alloc (Nat.le_refl _) _
  generalize w6.alloc (.cells (madeCells #[.string ⟨#[]⟩] len0) 9) = w7 at *
  obtain ⟨q10, hq10⟩ : ∃ q, w6.heap.size = q := ⟨_, rfl⟩
  rw [hq10] at RA ⊢
  have HC := Lib.hid (And.intro RA (And.intro BA hq10))
  clear RA BA hq10 hk1 hk2 hk3
  have hqs : q9 = q8 + 1 ∧ q10 = q9 + 1 := by have := HA.out.2.2; have := HB.out.2.2; have := HC.out.2.2; omega
  have B47 : Below w4.heap.size w4 w7 := HA.out.2.1.trans ((HB.out.2.1.trans (HC.out.2.1.mono HB.out.2.1.size)).mono HA.out.2.1.size)
  have HRW : Hid (RW w X1 p a1 g z1 q8 q9 q10 len0 0 w7) := Lib.hid (by
    have h4 := HA.out.2.2.2
    have hx := fun i hi => (HS1.out.xs i hi).2.1
    have ht := HS1.out.tb.lt
    have hb := HB14.out.size
    exact ⟨HS1.out.keep B47, HB14.out.trans (B47.mono hb), Bk.keep (Bk.keep HA.out.1 HB.out.2.1) HC.out.2.1, Bk.keep HB.out.1 HC.out.2.1, HC.out.1,
      ⟨fun h => by have := hx _ h; omega, fun h => by have := hx _ h; omega, fun h => by have := hx _ h; omega⟩, by omega, by omega⟩)
  clear B47 HA HB HC HS1 HB14 hqs
  go_cut [] (fun wc => Hid (RW w X1 p a1 g z1 q8 q9 q10 len0 len0 wc))
  case first =>
    go_wp2_with fail
    go_loopw [11] (fun i wr => ∃ k : Nat, k ≤ len0 ∧ i = .int .i64 k ∧ Hid (RW w X1 p a1 g z1 q8 q9 q10 len0 k wr)) (fun i _ => len0 - (intOf i).toNat)
    case atStart => exact ⟨0, Nat.zero_le _, rfl, HRW⟩
    case round =>
      clear HRW
      obtain ⟨k, hk, rfl, HT⟩ := hrel
      by_cases hlt : k < len0
      · have q0 : (0 : Int) ≤ k := by omega
        have q1 : (k : Int) < len0 := by omega
        obtain ⟨c8, c9, c10⟩ := HT.out.cells hlt
        obtain ⟨t5, t3, t1⟩ := HT.out.toks (i := k) (by rw [HL1.out]; exact hlt)
        have f8 := Bk.frozen HT.out.r8 k
        have f9 := Bk.frozen HT.out.r9 k
        have f10 := Bk.frozen HT.out.r10 k
        have e1 : ¬ g = q8 := by have := HT.out.ne; omega
        have e2 : ¬ g = q9 := by have := HT.out.ne; omega
        have e3 : ¬ q9 = q8 := by have := HT.out.ne; omega
        have e4 : ¬ q10 = q8 := by have := HT.out.ne; omega
        have e5 : ¬ q10 = q9 := by have := HT.out.ne; omega
        have e6 : ¬ q8 = g := fun e => e1 e.symm
        have e7 : ¬ q9 = g := fun e => e2 e.symm
        have e8 : ¬ q8 = q9 := fun e => e3 e.symm
        have e9 : ¬ q8 = q10 := fun e => e4 e.symm
        have e10 : ¬ q9 = q10 := fun e => e5 e.symm
        have HN2 := Lib.hid (HT.out.next hlt)
        unfold F8 F9 F10 at HN2
        clear HT
        go_wp2_with fail
        exact ⟨⟨k + 1, by omega, by go_num, HN2⟩, by simp [intOf]; omega⟩
      · obtain rfl : k = len0 := by omega
        have q1 : ¬ (k : Int) < k := by omega
        go_wp2_with fail
        go_meet
        exact HT
  case rest =>
  clear HRW
  have HRW := hcut
  clear hcut
  go_wp2_with fail
  refine (cnt_any p a1 z1.2 _ HRW.out.st.ps).mono ?_
  rintro e wd ⟨rfl, rfl⟩
  obtain ⟨m, hm⟩ : ∃ m, z1.2.length = m := ⟨_, rfl⟩
  have hm2 : m ≤ 1000000 := by have := HSB.out.1; omega
  rw [hm]
  have HM := Lib.hid hm
  clear hm
  have hk4 := fun W => mk_one 32 37 (.int .u32 0) 4 rfl infoU32 Tryd.underlying32 m (by omega) (by omega) W
  go_upto_block 2 with fail
  have RA := RC.made1 wc (.int .u32 0) m 37 (F13 z1)
  have BA : Below wc.heap.size wc (wc.alloc (.cells (madeCells #[.int .u32 0] m) 37)) := (Below.refl _ _).alloc (Nat.le_refl _) _
  generalize wc.alloc (.cells (madeCells #[.int .u32 0] m) 37) = wf at *
  obtain ⟨q13, hq13⟩ : ∃ q, wc.heap.size = q := ⟨_, rfl⟩
  rw [hq13] at RA ⊢
  have HQ : Hid (q10 < q13 ∧ ¬ X1 q13) := Lib.hid ⟨by have := Bk.lt HRW.out.r10; omega, fun h => by have := (HRW.out.st.xs _ h).2.1; omega⟩
  have HRX : Hid (RW w X1 p a1 g z1 q8 q9 q10 len0 len0 wf ∧ RC wf q13 37 (upto (F13 z1) (.int .u32 0) 0) m) := Lib.hid ⟨HRW.out.keep BA, RA⟩
  clear RA BA hq13 hk4 HRW
  go_cut [] (fun wc => Hid (RW w X1 p a1 g z1 q8 q9 q10 len0 len0 wc ∧ RC wc q13 37 (upto (F13 z1) (.int .u32 0) m) m))
  case first =>
    go_wp2_with fail
    go_loopw [14] (fun i wr => ∃ k : Nat, k ≤ m ∧ i = .int .i64 k ∧ Hid (RW w X1 p a1 g z1 q8 q9 q10 len0 len0 wr ∧ RC wr q13 37 (upto (F13 z1) (.int .u32 0) k) m)) (fun i _ => m - (intOf i).toNat)
    case atStart => exact ⟨0, Nat.zero_le _, rfl, HRX⟩
    case round =>
      clear HRX
      obtain ⟨k, hk, rfl, HT⟩ := hrel
      by_cases hlt : k < m
      · have q0 : (0 : Int) ≤ k := by omega
        have q1 : (k : Int) < m := by omega
        have c13 := HT.out.2.cell hlt
        have f13 := Bk.frozen HT.out.2 k
        have HN2 : Hid (RW w X1 p a1 g z1 q8 q9 q10 len0 len0 (wr.setCell ⟨q13, k, none⟩ (F13 z1 k)) ∧ RC (wr.setCell ⟨q13, k, none⟩ (F13 z1 k)) q13 37 (upto (F13 z1) (.int .u32 0) (k + 1)) m) := Lib.hid ⟨HT.out.1.far HQ.out.1 HQ.out.2 _, HT.out.2.next hlt⟩
        have HPS := Lib.hid HT.out.1.st.ps
        have hkm : k < z1.2.length := by rw [HM.out]; exact hlt
        unfold F13 at HN2
        clear HT
        go_wp2_with fail
        refine (uses_any p k a1 z1.2 wr HPS.out hkm).mono ?_
        rintro e wd ⟨rfl, rfl⟩
        clear hkm
        go_wp2_with fail
        exact ⟨⟨k + 1, by omega, by go_num, HN2⟩, by simp [intOf]; omega⟩
      · obtain rfl : k = m := by omega
        have q1 : ¬ (k : Int) < k := by omega
        go_wp2_with fail
        go_meet
        exact HT
  case rest =>
  clear HRX
  have HRW := Lib.hid hcut.out.1
  have HU13 := Lib.hid hcut.out.2
  clear hcut
  go_wp2_with fail
  refine (cnt2_any p a1 z1.2 _ HRW.out.st.ps).mono ?_
  rintro e wd ⟨rfl, rfl⟩
  obtain ⟨l2, hl2⟩ : ∃ l : Nat, (if a1 = true then z1.2.length else 0) = l := ⟨_, rfl⟩
  rw [hl2]
  have HL2 := Lib.hid hl2
  clear hl2
  go_wp2_with fail
  refine (wc_any p g len0 len0 a1 z1 _ HRW.out.st HL1.out (by omega) HSB.out HSZ1.out).mono ?_
  rintro e w8 ⟨rfl, X2, z2, hpc, h1, h2⟩
  obtain rfl : z2 = z1 := HPC.out.again HN.out hpc
  have HU8 : Hid (RC w8 q13 37 (upto (F13 z2) (.int .u32 0) m) m) := Lib.hid (Off.keep_rc h2.1 HU13.out (fun h => h.elim HQ.out.2 (fun e => by have := HQ.out.1; have := HRW.out.ne; omega)))
  have HR8 := Lib.hid (HRW.out.pass h1 h2)
  clear hpc h1 h2 HRW HU13 HQ HPC HSZ1 HSB
  go_upto_block 4 with fail
  go_cut [] (fun wc => Hid (RW w X2 p a1 g z2 q8 q9 q10 len0 len0 wc ∧ RC wc q13 37 (upto (F13 z2) (.int .u32 0) m) m))
  case first =>
    go_wp2_with fail
    go_loopw [16] (fun i wr => ∃ k : Nat, k ≤ len0 ∧ i = .int .i64 k ∧ Hid (RW w X2 p a1 g z2 q8 q9 q10 len0 len0 wr ∧ RC wr q13 37 (upto (F13 z2) (.int .u32 0) m) m)) (fun i _ => len0 - (intOf i).toNat)
    case atStart => exact ⟨0, Nat.zero_le _, rfl, Lib.hid ⟨HR8.out, HU8.out⟩⟩
    case round =>
      clear HR8 HU8
      obtain ⟨k, hk, rfl, HT⟩ := hrel
      by_cases hlt : k < len0
      · have q0 : (0 : Int) ≤ k := by omega
        have q1 : (k : Int) < len0 := by omega
        obtain ⟨c8, c9, c10⟩ := HT.out.1.cells hlt
        unfold upto at c8 c9 c10
        rw [if_pos hlt] at c8 c9 c10
        unfold F8 at c8
        unfold F9 at c9
        unfold F10 at c10
        obtain ⟨t5, t3, t1⟩ := HT.out.1.toks (i := k) (by rw [HL1.out]; exact hlt)
        obtain ⟨⟨s, A, P⟩, he⟩ : ∃ x, z2.1.getD k tk0 = x := ⟨_, rfl⟩
        rw [he] at c8 c9 c10 t5 t3 t1
        clear he
        dsimp only at c8 c9 c10 t5 t3 t1
        have gs : (s.toList == s.toList) = true := by simp
        have HT2 : Hid (∀ nq, RW w X2 p a1 g z2 q8 q9 q10 len0 len0 (wr.drewN nq) ∧ RC (wr.drewN nq) q13 37 (upto (F13 z2) (.int .u32 0) m) m) := Lib.hid fun nq => ⟨HT.out.1.keep (Rg.below_drewN (Below.refl _ _) nq), Bk.keep HT.out.2 (Rg.below_drewN (Below.refl _ _) nq)⟩
        clear HT
        go_wp2
        go_quiet (fail)
        go_wp2
        exact ⟨⟨k + 1, by omega, by go_num, Lib.hid (HT2.out _)⟩, by simp [intOf]; omega⟩
      · obtain rfl : k = len0 := by omega
        have q1 : ¬ (k : Int) < k := by omega
        go_wp2_with fail
        go_meet
        exact HT
  case rest =>
  clear HR8 HU8
  have HT := hcut
  clear hcut
  go_wp2_with fail
  refine (cnt_any p a1 z2.2 _ HT.out.1.st.ps).mono ?_
  rintro e wd ⟨rfl, rfl⟩
  rw [HM.out]
  go_wp2_with fail
  refine (cnt2_any p a1 z2.2 _ HT.out.1.st.ps).mono ?_
  rintro e wd ⟨rfl, rfl⟩
  rw [HL2.out]
  go_wp2_with fail
  go_loopw [17] (fun i wr => ∃ k : Nat, k ≤ m ∧ i = .int .i64 k ∧ Hid (RW w X2 p a1 g z2 q8 q9 q10 len0 len0 wr ∧ RC wr q13 37 (upto (F13 z2) (.int .u32 0) m) m)) (fun i _ => m - (intOf i).toNat)
  case atStart => exact ⟨0, Nat.zero_le _, rfl, HT⟩
  case round =>
    clear HT
    obtain ⟨k, hk, rfl, HT⟩ := hrel
    by_cases hlt : k < m
    · have q0 : (0 : Int) ≤ k := by omega
      have q1 : (k : Int) < m := by omega
      have c13 := HT.out.2.cell hlt
      unfold upto at c13
      rw [if_pos hlt] at c13
      unfold F13 at c13
      have hkm : k < z2.2.length := by rw [HM.out]; exact hlt
      have HT2 : Hid (RW w X2 p a1 g z2 q8 q9 q10 len0 len0 wr.drew ∧ RC wr.drew q13 37 (upto (F13 z2) (.int .u32 0) m) m) := Lib.hid ⟨HT.out.1.keep (Below.refl _ _).drew, HT.out.2⟩
      have HPS := Lib.hid HT2.out.1.st.ps
      clear HT
      obtain ⟨U, hU⟩ : ∃ U, (z2.2.getD k (⟨#[]⟩, 0)).2 = U := ⟨_, rfl⟩
      rw [hU] at c13
      have HUU := Lib.hid hU
      clear hU
      go_upto_region 37 with fail
      go_region_with (first | (go_at_call 11; (refine (uses_any2 p k a1 z2.2 U _ HPS.out hkm HUU.out).mono ?_; rintro e wy ⟨rfl, rfl⟩)))
      all_goals go_wp2_with fail
      all_goals exact ⟨⟨k + 1, by omega, by go_num, HT2⟩, by simp [intOf]; omega⟩
    · obtain rfl : k = m := by omega
      have q1 : ¬ (k : Int) < k := by omega
      go_wp2_with fail
      go_ret
      exact ⟨rfl, HT.out.1.bw⟩

/-- Go's great tables: the door's own run does not lay them -/
def grt : List String := ["unicode.CaseRanges", "unicode/utf8.first"]
noncomputable def wit (os : Os) : World := (World.doorLaid Tryd.prog 59 os).layVars Tryd.prog (Rows.fnContainerNameIdempotentRow.laid.filter fun x => grt.contains x.1)
theorem wit_os (os : Os) : (wit os).os = os := World.layVars_os _ _ _
noncomputable def blk (os : Os) : List Nat := ((DataW.laidRun Tryd.prog (wit os) 8 ((Rows.fnContainerNameIdempotentRow.laid.filter fun x => !grt.contains x.1).map (·.1))).map fun x => x.2.map (·.block)).getD []
theorem lay_fits (os : Os) : (World.doorLaid Tryd.prog 59 os).layFits Tryd.prog (Rows.fnContainerNameIdempotentRow.laid.filter fun x => grt.contains x.1) (blk os) = true := by kernel_rfl
theorem lay_ifaces (os : Os) : (World.doorLaid Tryd.prog 59 os).layIfaces Tryd.prog (Rows.fnContainerNameIdempotentRow.laid.filter fun x => grt.contains x.1) (wit os) = true := by kernel_rfl
theorem lay_small (os : Os) : LaidIn Tryd.prog (wit os) (Rows.fnContainerNameIdempotentRow.laid.filter fun x => !grt.contains x.1) (blk os) :=
  LaidIn.of_run _ 8 (by kernel_rfl) (by kernel_rfl) (by kernel_rfl) (by kernel_rfl)
theorem laid_met (os : Os) (args : Array Value) : laidMetH Tryd.prog Rows.fnContainerNameIdempotentRow.laid ((wit os).forCall (fun _ _ => 0) ⟨#[], args, []⟩).memory := by
  rw [MakeChecks.laidMetH_plain _ _ _ (by kernel_rfl)]
  have h : laidMet Tryd.prog Rows.fnContainerNameIdempotentRow.laid (wit os) := laidMet_layVars (w0 := World.doorLaid Tryd.prog 59 os) grt (blk os) rfl (lay_fits os) (lay_ifaces os) (lay_small os)
  exact h.of_heap (by simp [World.memory, World.forCall, Input.heap])

set_option maxRecDepth 1000000 in
theorem lifted (os : Os) (started : os.Started) (H : Type) (enc : TypeId × Value → H) :
    ReturnsInHanded {} Tryd.checked os 3 .any (fun w args => (Rows.fnContainerNameIdempotentSpec.pre enc Tryd.prog Tryd.f3 Rows.fnContainerNameIdempotentRow.domain false w args ∧ laidMetH Tryd.prog Rows.fnContainerNameIdempotentRow.laid w) ∧ sizedMet enc Tryd.prog Tryd.f3 (OpenSpec.ofChange Rows.fnContainerNameIdempotentSpec) false w args)
      (Rows.fnContainerNameIdempotentSpec.post enc Tryd.prog Tryd.f3 false true false false) := by
  refine returnsInHanded_of_change_and (C := Tryd.checked) (X := fun w _ => laidMetH Tryd.prog Rows.fnContainerNameIdempotentRow.laid w) (fun _ _ _ hh h => h.of_heap hh) own started (by kernel_rfl) Tryd.func3
    (ChangeSpec.witness_shaped (enc := enc) (C := Tryd.checked) (os := os) (X := fun w _ => laidMetH Tryd.prog Rows.fnContainerNameIdempotentRow.laid w) false (wit os) #[.slice none 0 0, .bool false] 8 (wit_os os)
      (World.shaped_of_ZipB (by kernel_rfl) (by kernel_rfl)) (by kernel_rfl) (by kernel_rfl) (by kernel_rfl)
      (laid_met os _)) ?_
  intro W base args ds gs before hval0 hW hcnd _ hL _
  have hval : ∀ (j : Nat) t v, Tryd.f3.params[j]? = some t → args[j]? = some v → Value.okWide Tryd.prog W .any base t v := hval0
  have hW' := hW
  obtain ⟨p, q, hA0, hV, rfl, hfz, hnd⟩ := hW
  have hA : DataW.TrodAll enc Tryd.prog W 0 (fun _ => true) true Tryd.f3.params.toList args.toList ds p := hA0
  rw [Tryd.params3] at hA hval
  obtain ⟨v0, vs0, d0, ds0, p0, q0, hargs, rfl, rfl, h0, r0⟩ := trodAll_cons hA
  obtain ⟨v1, vs1, d1, ds1, p1, q1, rfl, rfl, rfl, h1, r1⟩ := trodAll_cons r0
  obtain ⟨rfl, rfl, rfl⟩ := trodAll_nil r1
  obtain rfl : args = #[v0, v1] := by cases args; simp_all
  have hV1 := hV
  obtain ⟨g0, g1, hg0⟩ : ∃ g0 g1, gs = [g0, g1] := by
    match gs, hV with
    | [g0, g1], _ => exact ⟨g0, g1, rfl⟩
  subst hg0
  obtain ⟨a0, len0, cap0, rfl⟩ := okWide_slice Tryd.underlying22 (hval 0 22 v0 rfl rfl)
  have k0 := h0
  have lt0 : ∀ x ∈ p0, x.block < W.heap.size := by obtain ⟨m, hm⟩ := k0; exact DataW.trod_lt m _ _ _ hm
  obtain ⟨K, T, w0⟩ : ∃ K T, Sy.Toks W a0 len0 K T := by
    obtain ⟨fuel, hf⟩ := h0
    exact Sy.toks_of Tryd.underlying22 hf
  obtain ⟨a1, rfl, rfl, rfl⟩ := open_bool Tryd.underlying4 (hval 1 4 v1 rfl rfl) h1
  clear hA0 hval0
  refine (walk a0 len0 cap0 K T a1 W w0 hL).mono fun e W' ⟨he, bel⟩ => ?_
  subst he
  exact ⟨_, rfl, _, _, _, [], _, _, hW', trodAll_mk1 (shut_bool Tryd.underlying4 _), (trodAll_cons_mk (Below.trod laidOut (by kernel_rfl) (of_decide_eq_true (by kernel_rfl)) k0 bel lt0) (trodAll_cons_mk (shut_bool Tryd.underlying4 a1) trodAll_mk0)), (Below.trodVars laidOut bel (by kernel_rfl) hV1), bel.frame _, fun h => by cases h⟩

theorem over : Rows.fnContainerNameIdempotentRow.holds Tryd.pinned (OpenSpec.ofChange Rows.fnContainerNameIdempotentSpec) :=
  OpenClaim.holds_of_wide 3 Tryd.f3 rfl rfl rfl rfl rfl rfl rfl ⟨rfl, rfl, rfl, rfl, rfl⟩ rfl rfl rfl rfl rfl (by kernel_rfl) Tryd.func3 (by kernel_rfl)
    (of_decide_eq_true (by kernel_rfl)) (by unfold Func.isWrapper; first | (rw [if_pos (by decide +kernel)]; kernel_rfl) | (rw [if_neg (by decide +kernel)]; exact ⟨rfl, rfl⟩))
    (fun os started H enc _ => lifted os started H enc)

/-- THE STATEMENT: the listed variables are tied to the program's text. -/
theorem proved : Rows.FnContainerNameIdempotentCardSaid :=
  Claim7.holds_tied_plain_at .later [] [.data, .data, .mapped, .pinned, .pinned] true (true, "7b2eb60e8f8e453fac701cceb8393015c86903084b9d9f39b4ba1389b6994fcd") false over (fun _ h => by cases h) (by kernel_rfl) (fun _ h => by cases h) fnContainerNameIdempotent_row_tie rfl ⟨rfl, rfl⟩ (by kernel_rfl) rfl
    (fun f fn hf hfn => by
      obtain rfl : f = 3 := Option.some.inj ((show Tryd.prog.funcNamed "github.com/evanw/esbuild/n011_185.FnContainerNameIdempotent" = some 3 by kernel_rfl).symm.trans hf) |>.symm
      obtain rfl : fn = Tryd.f3 := (Option.some.inj (Tryd.func3.symm.trans hfn)).symm
      exact ⟨by kernel_rfl, fun j t ht => by
        rw [Tryd.params3] at ht
        have hm : t ∈ [22, 4] := by simpa using Array.mem_of_getElem? ht
        have hall : ([22, 4].all fun u => !Tryd.prog.wantsStandIn u) = true := by kernel_rfl
        exact (show Tryd.prog.wantsStandIn t = false by simpa using List.all_eq_true.1 hall t hm)⟩)
    (by kernel_rfl)
#print axioms proved
end Go.Proofs.YtppgilppnnliiabDoor.fnContainerNameIdempotent
