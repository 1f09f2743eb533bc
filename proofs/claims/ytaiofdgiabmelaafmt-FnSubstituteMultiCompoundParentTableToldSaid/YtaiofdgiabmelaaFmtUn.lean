/-
  cxEqual.
-/
import Derived.Test.YtaiofdgiabmelaaFmtUm
namespace Go.Proofs.YtaiofdgiabmelaaFmt.Sb
open Go.ChangeShapes Go.WideShapes Go.ChangeAt Go.RowKit Rg
set_option linter.unusedVariables false
set_option linter.unusedSimpArgs false
theorem fsub_at {X : Nat → Prop} {w : World} {v : Value} {N : List ByteArray} (h : FSub X w v N) : ∃ sa sc, v = .slice sa N.length sc ∧ SubsAt w sa 0 N := by
  obtain ⟨P, h1, rfl, h3, h4⟩ := h
  obtain ⟨sa, sc, rfl⟩ := own_slice h1
  refine ⟨sa, sc, by rw [List.length_map], fun i hi => ?_⟩
  rw [List.length_map] at hi
  obtain ⟨g, c, hve, -, -⟩ := h1.form (by omega)
  simp only [Value.slice.injEq] at hve
  obtain ⟨rfl, -, rfl⟩ := hve
  refine ⟨g, (P[i]).1, rfl, ?_, ?_⟩
  · rw [Nat.zero_add]
    exact own_range (f := spc) (s := 3) (L := P) h1 (fun x => rfl) hi
  · rw [List.getElem_map]
    exact (h4 _ (List.getElem_mem hi)).2
set_option maxRecDepth 100000 in
set_option maxHeartbeats 4000000 in
theorem cxe_any (X Y : Nat → Prop) (v u : Value) (L : List Cm) (w : World) (hL : L.length ≤ 1048576) (h0 : ∀ c ∈ L, c.am ≤ 255 ∧ c.N.length ≤ 1048576) (hX : ∀ b, X b → b < w.heap.size) (hY : ∀ b, Y b → b < w.heap.size) (hu : CmV X w u L) (hv : FCms Y w v L) :
    Calls Tryf.prog 30 #[.agg #[v], .agg #[u]] w (fun e w' => e = .returned (.bool true) ∧ Below w.heap.size w w') := by
  obtain ⟨ua, uc, rfl, hn⟩ := hu
  obtain ⟨R, hro, hR, hRX, hRm⟩ := hv
  obtain ⟨va, vc, rfl⟩ := own_slice hro
  have hRl : R.length = L.length := by rw [← hR, List.length_map]
  obtain ⟨n, hnn⟩ : ∃ n, n = L.length := ⟨_, rfl⟩
  have HU := Lib.hid (And.intro hn (And.intro hX (And.intro h0 hnn)))
  have HR := Lib.hid (And.intro hro (And.intro hR (And.intro hRm (And.intro hY hRl))))
  rw [hRl, ← hnn]
  rw [← hnn] at hL
  clear hn hX h0 hnn hro hR hRX hRm hY hRl
  obtain ⟨dI, hI, hI2⟩ := tyIc
  obtain ⟨dC, hC, hC2⟩ := tyCmp
  go_enter Tryf.func30, Tryf.ntmps30
  go_upto_region 1 with fail
  have h1 : Below w.heap.size w (w.alloc (.cells #[.slice va n vc] 44)) := (Below.refl _ _).alloc (Nat.le_refl _) _
  have r1 := rg_new w #[.slice va n vc] 44 0 _ rfl
  have s1 : (w.alloc (.cells #[.slice va n vc] 44)).heap.size = w.heap.size + 1 := World.size_alloc _ _
  generalize w.alloc _ = x1 at *
  have h2 : Below x1.heap.size x1 (x1.alloc (.cells #[.slice ua n uc] 27)) := (Below.refl _ _).alloc (Nat.le_refl _) _
  have r2 := rg_new x1 #[.slice ua n uc] 27 0 _ rfl
  rw [s1, Nat.zero_add] at r2
  rw [Nat.zero_add] at r1
  have r1' := later h2 r1
  have h12 := h1.trans (h2.mono h1.size)
  generalize x1.alloc _ = x2 at *
  obtain ⟨b1, hb1⟩ : ∃ b, b = w.heap.size := ⟨_, rfl⟩
  obtain ⟨b2, hb2⟩ : ∃ b, b = b1 + 1 := ⟨_, rfl⟩
  rw [← hb1, ← hb2]
  rw [← hb1] at r2 r1'
  rw [← hb2] at r2
  have H2 := Lib.hid (And.intro r1' (And.intro r2 h12))
  clear h1 r1 s1 h2 h12 hb1 hb2
  go_upto_block 0 with fail
  clear r1' r2
  refine wp_block ?_
  go_loopw [5] (fun i wr => ∃ (k : Nat), k ≤ n ∧ i = .int .i64 (k : Nat) ∧ Hid (Below x2.heap.size x2 wr)) (fun i _ => n - (intOf i).toNat)
  case atStart => exact ⟨0, Nat.zero_le _, rfl, Lib.hid (Below.refl _ _)⟩
  case round =>
    obtain ⟨k, hk, rfl, HV⟩ := hrel
    have e2 := later HV.out H2.out.2.1
    by_cases hlt : k < n
    · as_aux_lemma =>
      have q0 : (0 : Int) ≤ k := by omega
      have q1 : (k : Int) < (n : Nat) := by omega
      have kL : k < L.length := by have := HU.out.2.2.2; omega
      have kR : k < R.length := by have := HR.out.2.2.2.2; omega
      obtain ⟨ug, uo, uu, rfl, hXg, hrg, hnm⟩ := HU.out.1 k kL
      have h00 := HU.out.2.2.1 _ (List.getElem_mem kL)
      have hbx : Below w.heap.size w wr := H2.out.2.2.trans (HV.out.mono H2.out.2.2.size)
      obtain ⟨pg, cg, hve, -, -⟩ := HR.out.1.form (by omega)
      simp only [Value.slice.injEq] at hve
      obtain ⟨rfl, hx1, rfl⟩ := hve
      have r0 := own_range (f := Cr.cells) (s := 6) (L := R) (own_keep HR.out.1 hbx) (fun x => rfl) kR
      have hfm := HR.out.2.2.1 _ (List.getElem_mem kR)
      have hm : (R[k]).m = L[k] := by
        have h := List.getElem_of_eq HR.out.2.1 (i := k) (by simpa using kR)
        simpa using h
      obtain ⟨r, hr⟩ : ∃ r, r = R[k] := ⟨_, rfl⟩
      rw [← hr] at r0 hfm hm
      rw [← hm] at hrg hnm h00
      clear hr hm hx1
      obtain ⟨hsub, an, cn, hvn, -⟩ := hfm.ag (ag_below HR.out.2.2.2.1 hbx)
      obtain ⟨vs, vn, cb, am, N⟩ := r
      dsimp only at hsub hvn h00 hrg hnm r0
      subst hvn
      obtain ⟨sa, sc, rfl, hsa⟩ := fsub_at hsub
      have hrg2 := rg_ag (hbx.block ug (HU.out.2.1 ug hXg)) hrg
      have HD := Lib.hid (show CeV X wr.drew sa uu N ∧ Below w.heap.size w wr.drew ∧ Below x2.heap.size x2 wr.drew from ⟨⟨hsa.keep ((Below.refl _ _).drew), (hnm.ag (ag_below HU.out.2.1 hbx)).ag (fun b hb => ((Below.refl wr.heap.size wr).drew).block b (Nat.lt_of_lt_of_le (HU.out.2.1 b hb) hbx.size))⟩, hbx.drew, HV.out.drew⟩)
      have HN := Lib.hid h00
      have HS0 := Lib.hid (show wr.drew.cell? ⟨b1, 0, none⟩ = some (.slice (some ⟨pg, 0, none⟩) n vc) ∧ wr.drew.cell? ⟨b2, 0, none⟩ = some (.slice (some ⟨ug, uo, none⟩) n uc) ∧ wr.drew.rangeAt pg (k * 6) (cmc (.slice sa N.length sc) (.slice an am cn) cb) ∧ wr.drew.rangeAt ug (uo + k * 3) [.int .u8 cb, .int .u8 (am : Nat), uu] from
        ⟨later ((Below.refl _ _).drew) (later HV.out H2.out.1), later ((Below.refl _ _).drew) e2, rg_keep ((Below.refl _ _).drew) r0, rg_keep ((Below.refl _ _).drew) hrg2⟩)
      clear hrg hnm hXg h00 hbx r0 hfm hsub hsa hrg2
      go_upto_region 6 with fail
      clear e2
      refine Pl.wp_region_split (fun w' => w'.cell? ⟨b1, 0, none⟩ = some (.slice (some ⟨pg, 0, none⟩) n vc) ∧ w'.cell? ⟨b2, 0, none⟩ = some (.slice (some ⟨ug, uo, none⟩) n uc) ∧ w'.rangeAt pg (k * 6) (cmc (.slice sa N.length sc) (.slice an am cn) cb) ∧ w'.rangeAt ug (uo + k * 3) [.int .u8 cb, .int .u8 (am : Nat), uu]) 10 (by kernel_rfl) (by kernel_rfl) ?_
      simp only [List.take_succ_cons, List.take_zero]
      have hHeld := HS0.out
      refine Pl.take_l (i := 0) (v := ?v1) rfl (by kernel_rfl) (by kernel_rfl) (by kernel_rfl) (fun _ _ _ h => h) rfl ?hy1 hHeld ?rest1
      case hy1 => (intro w hSw; (try dsimp only at hSw); (obtain ⟨_, _, _, _⟩ := hSw); go_simp <;> (try with_reducible rfl))
      try simp only [Act.put, List.setIfInBounds_toArray, List.set_cons_zero, List.set_cons_succ]
      refine Pl.take_l (i := 1) (v := ?v2) rfl (by kernel_rfl) (by kernel_rfl) (by kernel_rfl) (fun _ _ _ h => h) rfl ?hy2 hHeld ?rest2
      case hy2 => (intro w hSw; (try dsimp only at hSw); (obtain ⟨_, _, _, _⟩ := hSw); go_simp <;> (try with_reducible rfl))
      try simp only [Act.put, List.setIfInBounds_toArray, List.set_cons_zero, List.set_cons_succ]
      refine Pl.take_l (i := 2) (v := ?v3) rfl (by kernel_rfl) (by kernel_rfl) (by kernel_rfl) (fun _ _ _ h => h) rfl ?hy3 hHeld ?rest3
      case hy3 => (intro w hSw; (try dsimp only at hSw); (obtain ⟨_, _, _, _⟩ := hSw); go_simp <;> (try with_reducible rfl))
      try simp only [Act.put, List.setIfInBounds_toArray, List.set_cons_zero, List.set_cons_succ]
      refine Pl.take_l (i := 3) (v := ?v4) rfl (by kernel_rfl) (by kernel_rfl) (by kernel_rfl) (fun _ _ _ h => h) rfl ?hy4 hHeld ?rest4
      case hy4 => (intro w hSw; (try dsimp only at hSw); (obtain ⟨_, _, _, _⟩ := hSw); go_simp <;> (try with_reducible rfl))
      try simp only [Act.put, List.setIfInBounds_toArray, List.set_cons_zero, List.set_cons_succ]
      refine Pl.take_l (i := 4) (v := .agg #[.pointer none, .slice sa N.length sc, .slice an am cn, .int .i32 0, .int .u8 cb, .bool false]) rfl (by kernel_rfl) (by kernel_rfl) (by kernel_rfl) (fun _ _ _ h => h) rfl (fun w hSw => ex_load 41 (.tmp 23) rfl pg (k * 6) rfl (cmc (.slice sa N.length sc) (.slice an am cn) cb) dC (hSw.2.2.1) hC hC2 szCmp) hHeld ?_
      try simp only [Act.put, List.setIfInBounds_toArray, List.set_cons_zero, List.set_cons_succ]
      refine Pl.take_l (i := 5) (v := ?v5) rfl (by kernel_rfl) (by kernel_rfl) (by kernel_rfl) (fun _ _ _ h => h) rfl ?hy5 hHeld ?rest5
      case hy5 => (intro w hSw; (try dsimp only at hSw); (obtain ⟨_, _, _, _⟩ := hSw); go_simp <;> (try with_reducible rfl))
      try simp only [Act.put, List.setIfInBounds_toArray, List.set_cons_zero, List.set_cons_succ]
      refine Pl.take_l (i := 6) (v := ?v6) rfl (by kernel_rfl) (by kernel_rfl) (by kernel_rfl) (fun _ _ _ h => h) rfl ?hy6 hHeld ?rest6
      case hy6 => (intro w hSw; (try dsimp only at hSw); (obtain ⟨_, _, _, _⟩ := hSw); go_simp <;> (try with_reducible rfl))
      try simp only [Act.put, List.setIfInBounds_toArray, List.set_cons_zero, List.set_cons_succ]
      refine Pl.take_l (i := 7) (v := ?v7) rfl (by kernel_rfl) (by kernel_rfl) (by kernel_rfl) (fun _ _ _ h => h) rfl ?hy7 hHeld ?rest7
      case hy7 => (intro w hSw; (try dsimp only at hSw); (obtain ⟨_, _, _, _⟩ := hSw); go_simp <;> (try with_reducible rfl))
      try simp only [Act.put, List.setIfInBounds_toArray, List.set_cons_zero, List.set_cons_succ]
      refine Pl.take_l (i := 8) (v := ?v8) rfl (by kernel_rfl) (by kernel_rfl) (by kernel_rfl) (fun _ _ _ h => h) rfl ?hy8 hHeld ?rest8
      case hy8 => (intro w hSw; (try dsimp only at hSw); (obtain ⟨_, _, _, _⟩ := hSw); go_simp <;> (try with_reducible rfl))
      try simp only [Act.put, List.setIfInBounds_toArray, List.set_cons_zero, List.set_cons_succ]
      refine Pl.take_l (i := 9) (v := .agg #[.int .u8 cb, .int .u8 (am : Nat), uu]) rfl (by kernel_rfl) (by kernel_rfl) (by kernel_rfl) (fun _ _ _ h => h) rfl (fun w hSw => ex_load 24 (.tmp 28) rfl ug (uo + k * 3) rfl ([.int .u8 cb, .int .u8 (am : Nat), uu]) dI (hSw.2.2.2) hI hI2 szIc) hHeld ?_
      try simp only [Act.put, List.setIfInBounds_toArray, List.set_cons_zero, List.set_cons_succ]
      generalize World.drew _ = wd at *
      refine wpAnyH_done (by kernel_rfl) ?_ _
      refine Pl.behind_normal (by decide) ?_
      simp only [List.drop_succ_cons, List.drop_zero]
      clear hHeld
      go_wp2_with fail
      refine (ce_any X sa an sc am cn cb uu N wd HN.out.1 HN.out.2 (fun b h => Nat.lt_of_lt_of_le (HU.out.2.1 b h) HD.out.2.1.size) HD.out.1).mono ?_
      rintro e w6 ⟨rfl, hf⟩
      have HF := Lib.hid hf
      clear hf
      go_wp2_with fail
      exact ⟨⟨k + 1, by omega, by go_num, Lib.hid (HD.out.2.2.trans (HF.out.mono HD.out.2.2.size))⟩, by simp [intOf]; omega⟩
    · as_aux_lemma =>
      have hkn : n = k := by omega
      subst hkn
      go_wp2_with fail
      go_ret
      exact ⟨rfl, H2.out.2.2.trans (HV.out.mono H2.out.2.2.size)⟩
end Go.Proofs.YtaiofdgiabmelaaFmt.Sb
