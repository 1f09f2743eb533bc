/-
  strings.EqualFold at any unit against "s" and "ms".
-/
import Derived.Test.YtfhkkpfkkhpohaaFmtOs
import Derived.Test.YtfhkkpfkkhpohaaFmtPa
import Derived.ScopeJumps
import Derived.Deep.LoopGhost
import Derived.Deep.DeepCutAuto
import Derived.Deep.CutBlock
namespace Go.Proofs.YtfhkkpfkkhpohaaFmt.Sd
open Go.ChangeShapes Go.WideShapes Go.ChangeAt Go.RowKit Rg
set_option linter.unusedVariables false
theorem get_toList (s : ByteArray) (k : Nat) (h : k < s.size) : s.data.toList[k]? = some s[k] := by
  rw [List.getElem?_eq_getElem (by simpa using h)]; rfl
theorem get_bang (s : ByteArray) (k : Nat) (h : k < s.size) : s.get! k = s[k] := get_at s k h
/-- only C5 BF decodes to 383 -/
theorem dec_383 (s : ByteArray) (h : 0 < s.size) (he : (Utf8.decode s 0).1 = 383) : (Utf8.decode s 0).2 = 2 ∧ ∃ r, s.data.toList = 197 :: 191 :: r := by
  have h0 : (s.get! (0 + 0)).toNat < 256 := (s.get! (0 + 0)).toNat_lt
  have h1 : (s.get! (0 + 1)).toNat < 256 := (s.get! (0 + 1)).toNat_lt
  have key : (Utf8.decode s 0).2 = 2 ∧ 0 + 1 < s.size ∧ (s.get! (0 + 0)).toNat = 197 ∧ (s.get! (0 + 1)).toNat = 191 := by
    revert he
    simp only [Utf8.decode]
    repeat' split
    all_goals simp_all [Utf8.runeError]
    all_goals omega
  obtain ⟨k1, k2, k3, k4⟩ := key
  refine ⟨k1, s.data.toList.drop 2, ?_⟩
  have d0 := drop_at s 0 h
  have d1 := drop_at s 1 (by omega)
  have e0 : s[0] = 197 := UInt8.toNat_inj.1 (by rw [← get_bang s 0 h]; exact k3)
  have e1 : s[1] = 191 := UInt8.toNat_inj.1 (by rw [← get_bang s 1 (by omega)]; exact k4)
  rw [e1] at d1
  rw [e0, d1] at d0
  simpa using d0
theorem sU_dec (u : ByteArray) (h : 0 < u.size) (h1 : 128 ≤ u[0].toNat) : sU u = decide ((Utf8.decode u 0).1 = 383 ∧ ¬ (Utf8.decode u 0).2 < u.size) := by
  have hd := drop_at u 0 h
  have hd : u.data.toList = u[0] :: u.data.toList.drop 1 := by simpa using hd
  unfold sU
  apply decide_eq_decide.2
  constructor
  · rintro (e | e | e)
    · rw [e] at hd; injection hd with hd _; rw [← hd] at h1; exact absurd h1 (by decide)
    · rw [e] at hd; injection hd with hd _; rw [← hd] at h1; exact absurd h1 (by decide)
    · have eu : u = ⟨#[197, 191]⟩ := ba_ext (by rw [e])
      subst eu
      exact ⟨by decide, by decide⟩
  · rintro ⟨e1, e2⟩
    obtain ⟨k1, r, hr⟩ := dec_383 u h e1
    rw [k1] at e2
    have hl := ba_len u
    rw [hr] at hl
    have : r = [] := List.eq_nil_of_length_eq_zero (by simp at hl; omega)
    rw [hr, this]; exact .inr (.inr rfl)
theorem ft_iter {w : World} (h : FT w) (v : ByteArray) (p : Nat) : FT (w.iter v p) := h.keep ((Below.refl _ _).alloc (Nat.le_refl _) _)
theorem bl_iter (w : World) (v : ByteArray) (p : Nat) : Below w.heap.size w (w.iter v p) := (Below.refl _ _).alloc (Nat.le_refl _) _
theorem min_zero {n : Nat} (h : n = 0) (k : Int) (hk : 0 ≤ k) : min (n : Int) k = 0 := by omega
def J_ef_s (u : ByteArray) (w : World) : Act → World → Prop := (fun a' w' => w = w' ∧ ∃ (i : Nat), (i = 0 ∧ ∃ hp : 0 < u.size, 128 ≤ (u[0]'hp).toNat) ∧ a' = { tmps := #[.string u, .string ⟨#[115]⟩, a'.tmps.getD 2 undef, a'.tmps.getD 3 undef, a'.tmps.getD 4 undef, .int .i64 i, a'.tmps.getD 6 undef, a'.tmps.getD 7 undef, a'.tmps.getD 8 undef, a'.tmps.getD 9 undef, a'.tmps.getD 10 undef, a'.tmps.getD 11 undef, a'.tmps.getD 12 undef, a'.tmps.getD 13 undef, a'.tmps.getD 14 undef, a'.tmps.getD 15 undef, a'.tmps.getD 16 undef, a'.tmps.getD 17 undef, a'.tmps.getD 18 undef, a'.tmps.getD 19 undef, a'.tmps.getD 20 undef, a'.tmps.getD 21 undef, a'.tmps.getD 22 undef, a'.tmps.getD 23 undef, a'.tmps.getD 24 undef, a'.tmps.getD 25 undef, a'.tmps.getD 26 undef, a'.tmps.getD 27 undef, a'.tmps.getD 28 undef, a'.tmps.getD 29 undef, a'.tmps.getD 30 undef, a'.tmps.getD 31 undef, a'.tmps.getD 32 undef, a'.tmps.getD 33 undef, a'.tmps.getD 34 undef, a'.tmps.getD 35 undef, a'.tmps.getD 36 undef, a'.tmps.getD 37 undef, a'.tmps.getD 38 undef, a'.tmps.getD 39 undef, a'.tmps.getD 40 undef, a'.tmps.getD 41 undef, a'.tmps.getD 42 undef, a'.tmps.getD 43 undef, a'.tmps.getD 44 undef, a'.tmps.getD 45 undef, a'.tmps.getD 46 undef, a'.tmps.getD 47 undef, a'.tmps.getD 48 undef, a'.tmps.getD 49 undef, a'.tmps.getD 50 undef, a'.tmps.getD 51 undef, a'.tmps.getD 52 undef, a'.tmps.getD 53 undef, a'.tmps.getD 54 undef, a'.tmps.getD 55 undef, a'.tmps.getD 56 undef, a'.tmps.getD 57 undef, a'.tmps.getD 58 undef, a'.tmps.getD 59 undef, a'.tmps.getD 60 undef, a'.tmps.getD 61 undef, a'.tmps.getD 62 undef, a'.tmps.getD 63 undef, a'.tmps.getD 64 undef, a'.tmps.getD 65 undef, a'.tmps.getD 66 undef, a'.tmps.getD 67 undef, a'.tmps.getD 68 undef, a'.tmps.getD 69 undef, a'.tmps.getD 70 undef, a'.tmps.getD 71 undef, a'.tmps.getD 72 undef, a'.tmps.getD 73 undef, a'.tmps.getD 74 undef, a'.tmps.getD 75 undef, a'.tmps.getD 76 undef, a'.tmps.getD 77 undef, a'.tmps.getD 78 undef, a'.tmps.getD 79 undef, a'.tmps.getD 80 undef, a'.tmps.getD 81 undef, a'.tmps.getD 82 undef, a'.tmps.getD 83 undef, a'.tmps.getD 84 undef, a'.tmps.getD 85 undef, a'.tmps.getD 86 undef, a'.tmps.getD 87 undef, a'.tmps.getD 88 undef, a'.tmps.getD 89 undef, a'.tmps.getD 90 undef, a'.tmps.getD 91 undef, a'.tmps.getD 92 undef, a'.tmps.getD 93 undef, a'.tmps.getD 94 undef, a'.tmps.getD 95 undef, a'.tmps.getD 96 undef, a'.tmps.getD 97 undef, a'.tmps.getD 98 undef, a'.tmps.getD 99 undef, a'.tmps.getD 100 undef, a'.tmps.getD 101 undef, a'.tmps.getD 102 undef, a'.tmps.getD 103 undef, a'.tmps.getD 104 undef, a'.tmps.getD 105 undef, a'.tmps.getD 106 undef, a'.tmps.getD 107 undef, a'.tmps.getD 108 undef, a'.tmps.getD 109 undef, a'.tmps.getD 110 undef, a'.tmps.getD 111 undef, a'.tmps.getD 112 undef, a'.tmps.getD 113 undef, a'.tmps.getD 114 undef, a'.tmps.getD 115 undef, a'.tmps.getD 116 undef, a'.tmps.getD 117 undef, a'.tmps.getD 118 undef, a'.tmps.getD 119 undef, a'.tmps.getD 120 undef, a'.tmps.getD 121 undef, a'.tmps.getD 122 undef], defers := [] })
set_option maxRecDepth 100000 in
set_option maxHeartbeats 4000000 in
theorem ef_s (u : ByteArray) (w : World) (hu : (u.size : Int) ≤ 1048576) (h : FT w) :
    Calls Tryf.prog 13 #[.string u, .string ⟨#[115]⟩] w fun e w' => e = .returned (.bool (sU u)) ∧ Below w.heap.size w w' := by
  have HT := Lib.hid h
  clear h
  go_enter Tryf.func13, Tryf.ntmps13
  go_wp2_with fail
  refine wp_scope_jumps 0 (J_ef_s u w) (fun _ _ => 0) rfl ?first ?pass
  case first =>
    go_wp2_with fail
    by_cases hp : 0 < u.size
    · have hM : min (u.size : Int) 1 = 1 := by omega
      rw [hM]
      have hd : u.data.toList = u[0] :: u.data.toList.drop 1 := by have := drop_at u 0 hp; simpa using this
      obtain ⟨x, hx⟩ : ∃ x, (u[0]'hp).toNat = x := ⟨_, rfl⟩
      have hx256 : x < 256 := by rw [← hx]; exact (u[0]'hp).toNat_lt
      have q0 : (0 : Int) < u.size := by omega
      have ht : ((⟨#[115]⟩ : ByteArray)[0]'(by decide)).toNat = 115 := rfl
      by_cases h8 : 128 ≤ x
      · have HJ : Hid (∃ hp : 0 < u.size, 128 ≤ (u[0]'hp).toNat) := Lib.hid ⟨hp, by omega⟩
        have hor : bits .or .u8 (x : Int) 115 = ((x ||| 115 : Nat) : Int) := u8_or_nat x 115 hx256 (by omega)
        have hor2 : (128 : Int) ≤ ((x ||| 115 : Nat) : Int) := by have := Nat.left_le_or (n := x) (m := 115); omega
        clear hd hM
        go_loop [5] (fun s5 => s5 = .int .i64 0) (fun _ => 0)
        case atStart => rfl
        case round =>
          obtain rfl := hrel
          go_wp2_with fail
          go_step3
          refine ⟨rfl, ?_⟩
          exact ⟨rfl, 0, ⟨rfl, HJ.out⟩, rfl⟩
      · have hor : bits .or .u8 (x : Int) 115 = ((x ||| 115 : Nat) : Int) := u8_or_nat x 115 hx256 (by omega)
        have hor2 : ¬ (128 : Int) ≤ ((x ||| 115 : Nat) : Int) := by have := Nat.or_lt_two_pow (n := 7) (x := x) (y := 115) (by omega) (by omega); omega
        by_cases h1 : x = 115 ∨ x = 83
        · have HV : Hid (sU u = decide (u.size = 1)) := Lib.hid (by
            have hb : u[0] = 115 ∨ u[0] = 83 := by
              rcases h1 with h | h
              · exact .inl (UInt8.toNat_inj.1 (by rw [hx, h]; rfl))
              · exact .inr (UInt8.toNat_inj.1 (by rw [hx, h]; rfl))
            have hl := ba_len u
            unfold sU
            apply decide_eq_decide.2
            rw [hd] at hl ⊢
            simp only [List.length_cons] at hl
            constructor
            · rintro (e | e | e) <;> injection e with e1 e2 <;> rw [e2] at hl
              · simpa using hl.symm
              · simpa using hl.symm
              · exfalso; rw [e1] at hb; revert hb; decide
            · intro e
              have e2 : u.data.toList.drop 1 = [] := List.eq_nil_of_length_eq_zero (by omega)
              rw [e2]
              rcases hb with e3 | e3 <;> rw [e3] <;> simp)
          clear hd hM
          go_loop [5] (fun s5 => s5 = .int .i64 0 ∨ s5 = .int .i64 1) (fun s5 => (1 - intOf s5).toNat)
          case atStart => exact .inl rfl
          case round =>
            rcases hrel with rfl | rfl
            · rcases h1 with rfl | rfl
              · go_wp2_with fail
                go_round
                case rel => exact .inr rfl
                case measure => first | decide | simp [intOf]
              · go_wp2_with fail
                go_round
                case rel => exact .inr rfl
                case measure => first | decide | simp [intOf]
            · by_cases hsz : u.size = 1
              · have hb : ((u.size : Int) == 1) = true := beq_iff_eq.2 (by omega)
                have hS : sU u = true := by rw [HV.out]; exact decide_eq_true hsz
                go_wp2_with fail
                simp only [Exit.jump]
                go_ret
                exact ⟨ret_b hS.symm, Below.refl _ _⟩
              · have hb : ((u.size : Int) == 1) = false := beq_eq_false_iff_ne.2 (by omega)
                have hS : sU u = false := by rw [HV.out]; exact decide_eq_false hsz
                go_wp2_with fail
                simp only [Exit.jump]
                go_ret
                exact ⟨ret_b hS.symm, Below.refl _ _⟩
        · have hS : Hid (sU u = false) := Lib.hid (by
            unfold sU
            apply decide_eq_false
            rintro (e | e | e) <;> rw [hd] at e <;> injection e with e _ <;> rw [e] at hx <;> revert hx <;> intro hx <;> (have : x = _ := hx.symm) <;> simp at this <;> omega)
          clear hd hM
          have h11 : ¬ x = 115 := fun e => h1 (.inl e)
          have h12 : ¬ x = 83 := fun e => h1 (.inr e)
          have b1 : ((115 : Int) == (x : Int)) = false := beq_eq_false_iff_ne.2 (by omega)
          clear h1
          go_loop [5] (fun s5 => s5 = .int .i64 0) (fun _ => 0)
          case atStart => rfl
          case round =>
            obtain rfl := hrel
            by_cases h2 : 115 < x
            · have c1 : (115 : Int) < (x : Int) := by omega
              go_wp2_with fail
              simp only [Exit.jump]
              go_ret
              exact ⟨ret_b hS.out.symm, Below.refl _ _⟩
            · have c1 : ¬ (115 : Int) < (x : Int) := by omega
              by_cases h3 : 65 ≤ x ∧ x ≤ 90
              · have g1 : (65 : Int) ≤ (x : Int) := by omega
                have g2 : (x : Int) ≤ 90 := by omega
                have g3 : ((115 : Int) == (x : Int) + 97 - 65) = false := beq_eq_false_iff_ne.2 (by omega)
                go_wp2_with fail
                simp only [Exit.jump]
                go_ret
                exact ⟨ret_b hS.out.symm, Below.refl _ _⟩
              · by_cases h4 : 65 ≤ x
                · have g1 : (65 : Int) ≤ (x : Int) := by omega
                  have g2 : ¬ (x : Int) ≤ 90 := by omega
                  go_wp2_with fail
                  simp only [Exit.jump]
                  go_ret
                  exact ⟨ret_b hS.out.symm, Below.refl _ _⟩
                · have g1 : ¬ (65 : Int) ≤ (x : Int) := by omega
                  go_wp2_with fail
                  simp only [Exit.jump]
                  go_ret
                  exact ⟨ret_b hS.out.symm, Below.refl _ _⟩
    · have e0 : u.size = 0 := by omega
      have hS : sU u = false := by unfold sU; rw [ba_nil e0]; rfl
      have hM : min (u.size : Int) 1 = 0 := by omega
      have hb : ((u.size : Int) == 1) = false := beq_eq_false_iff_ne.2 (by omega)
      rw [hM]
      clear hM e0 hp
      go_loop [5] (fun s5 => s5 = .int .i64 0) (fun _ => 0)
      case atStart => rfl
      case round =>
        obtain rfl := hrel
        go_wp2_with fail
        simp only [Exit.jump]
        go_ret
        exact ⟨ret_b hS.symm, Below.refl _ _⟩

  case pass =>
    rintro a' w' ⟨hw, i, hc, ha0⟩
    subst hw
    obtain ⟨us, ha⟩ : ∃ us : Nat → Value, a' = { tmps := #[.string u, .string ⟨#[115]⟩, us 2, us 3, us 4, .int .i64 i, us 6, us 7, us 8, us 9, us 10, us 11, us 12, us 13, us 14, us 15, us 16, us 17, us 18, us 19, us 20, us 21, us 22, us 23, us 24, us 25, us 26, us 27, us 28, us 29, us 30, us 31, us 32, us 33, us 34, us 35, us 36, us 37, us 38, us 39, us 40, us 41, us 42, us 43, us 44, us 45, us 46, us 47, us 48, us 49, us 50, us 51, us 52, us 53, us 54, us 55, us 56, us 57, us 58, us 59, us 60, us 61, us 62, us 63, us 64, us 65, us 66, us 67, us 68, us 69, us 70, us 71, us 72, us 73, us 74, us 75, us 76, us 77, us 78, us 79, us 80, us 81, us 82, us 83, us 84, us 85, us 86, us 87, us 88, us 89, us 90, us 91, us 92, us 93, us 94, us 95, us 96, us 97, us 98, us 99, us 100, us 101, us 102, us 103, us 104, us 105, us 106, us 107, us 108, us 109, us 110, us 111, us 112, us 113, us 114, us 115, us 116, us 117, us 118, us 119, us 120, us 121, us 122], defers := [] } := ⟨fun k => a'.tmps.getD k undef, ha0⟩
    clear ha0
    subst ha
    obtain ⟨rfl, hp, h8⟩ := hc
    go_wp2_with fail
    have e1 : ((⟨#[115]⟩ : ByteArray).extract 0 1) = ⟨#[115]⟩ := by decide
    rw [e1]
    clear e1
    have HS := Lib.hid (sU_dec u hp h8)
    have hD := (decode_high u 0 hp h8).1
    have hle := decode_le u 0
    have HX : Hid (∀ ty, (Instr.next (.pointer (some ⟨w.heap.size, 0, none⟩)) true ty).run Tryf.prog (w.iter u 0) = .ok (.tuple #[.bool true, .int .i64 0, .int .i32 (Utf8.decode u 0).1]) (w.iter u (Utf8.decode u 0).2)) := Lib.hid (fun ty => by have := run_next_any (P := Tryf.prog) w u 0 ty hp; rw [Nat.zero_add] at this; exact this)
    have H2 : Hid ((Utf8.decode u 0).1 = 383 → (Utf8.decode u 0).2 = 2) := Lib.hid (fun h => (dec_383 u hp h).1)
    obtain ⟨r, hr⟩ : ∃ r, r = (Utf8.decode u 0).1 := ⟨_, rfl⟩
    obtain ⟨n, hn⟩ : ∃ n, n = (Utf8.decode u 0).2 := ⟨_, rfl⟩
    rw [← hr, ← hn] at HS HX H2
    rw [← hr] at hD hle
    clear hr hn h8
    go_loopw [1] (fun s1 wr => (s1 = .string ⟨#[115]⟩ ∧ wr = w.iter u 0) ∨ (r = 383 ∧ s1 = .string ⟨#[]⟩ ∧ wr = w.iter u 2)) (fun _ wr => u.size + 5 - wr.iterPos w.heap.size)
    case atStart => exact .inl ⟨rfl, rfl⟩
    case round =>
      rcases hrel with ⟨rfl, rfl⟩ | ⟨h383, rfl, rfl⟩
      · have hnx := HX.out
        have HT0 := Lib.hid (ft_iter HT.out u n)
        clear HX
        have c1 : ((115 : Int) == (r : Int)) = false := beq_eq_false_iff_ne.2 (by omega)
        have c2 : (115 : Int) < (r : Int) := by omega
        have c2' : ¬ (r : Int) < 115 := by omega
        have c3 : ¬ (r : Int) < 128 := by omega
        rcases Nat.lt_trichotomy r 383 with hlt | heq | hgt
        · have hS : sU u = false := by rw [HS.out]; exact decide_eq_false (by omega)
          have d1 : ¬ (383 : Int) < (r : Int) := by omega
          have d2 : ((383 : Int) == (r : Int)) = false := beq_eq_false_iff_ne.2 (by omega)
          go_wp2_with (first | (go_at_call 15; refine (dr_s _).mono ?_; rintro e wz ⟨rfl, rfl⟩) | (go_at_call 16; refine (sf115 _ HT0.out).mono ?_; rintro e wz ⟨rfl, rfl⟩))
          go_loop [13] (fun s13 => s13 = .int .i32 383) (fun _ => 0)
          case atStart => rfl
          case round =>
            obtain rfl := hrel
            go_wp2_with fail
            simp only [Exit.jump]
            go_ret
            exact ⟨ret_b hS.symm, bl_iter _ _ _⟩
        · have d1 : ¬ (383 : Int) < (r : Int) := by omega
          have d2 : ((383 : Int) == (r : Int)) = true := beq_iff_eq.2 (by omega)
          have HN2 := Lib.hid (H2.out heq)
          have HEQ := Lib.hid heq
          clear heq
          go_wp2_with (first | (go_at_call 15; refine (dr_s _).mono ?_; rintro e wz ⟨rfl, rfl⟩) | (go_at_call 16; refine (sf115 _ HT0.out).mono ?_; rintro e wz ⟨rfl, rfl⟩))
          go_loop [13] (fun s13 => s13 = .int .i32 383) (fun _ => 0)
          case atStart => rfl
          case round =>
            obtain rfl := hrel
            go_wp2_with fail
            go_roundw
            case rel => exact .inr ⟨HEQ.out, rfl, by rw [HN2.out]⟩
            case measure => rw [HN2.out]; simp; try omega
        · have hS : sU u = false := by rw [HS.out]; exact decide_eq_false (by omega)
          have d2 : ((115 : Int) == (r : Int)) = false := beq_eq_false_iff_ne.2 (by omega)
          have d3 : (383 : Int) < (r : Int) := by omega
          have d4 : (83 : Int) < (r : Int) := by omega
          go_wp2_with (first | (go_at_call 15; refine (dr_s _).mono ?_; rintro e wz ⟨rfl, rfl⟩) | (go_at_call 16; refine (sf115 _ HT0.out).mono ?_; rintro e wz ⟨rfl, rfl⟩))
          go_loop [13] (fun s13 => s13 = .int .i32 383 ∨ s13 = .int .i32 83 ∨ s13 = .int .i32 115) (fun s13 => if intOf s13 = 383 then 2 else if intOf s13 = 83 then 1 else 0)
          case atStart => exact .inl rfl
          case round =>
            rcases hrel with rfl | rfl | rfl
            · go_wp2_with (go_at_call 16; refine (sf383 _ HT0.out).mono ?_; rintro e wz ⟨rfl, rfl⟩)
              go_round
              case rel => exact .inr (.inl rfl)
              case measure => decide
            · go_wp2_with (go_at_call 16; refine (sf83 _ HT0.out).mono ?_; rintro e wz ⟨rfl, rfl⟩)
              go_round
              case rel => exact .inr (.inr rfl)
              case measure => decide
            · go_wp2_with fail
              simp only [Exit.jump]
              go_ret
              exact ⟨ret_b hS.symm, bl_iter _ _ _⟩
      · clear HX
        have hn2 := H2.out h383
        by_cases h2 : 2 < u.size
        · have hS : sU u = false := by rw [HS.out]; exact decide_eq_false (by omega)
          have hnx : ∀ ty, (Instr.next (.pointer (some ⟨w.heap.size, 0, none⟩)) true ty).run Tryf.prog (w.iter u 2) = _ := fun ty => run_next_any w u 2 ty h2
          go_wp2_with fail
          simp only [Exit.jump]
          go_ret
          exact ⟨ret_b hS.symm, bl_iter _ _ _⟩
        · have hS : sU u = true := by rw [HS.out]; exact decide_eq_true (by omega)
          have hnx : ∀ ty, (Instr.next (.pointer (some ⟨w.heap.size, 0, none⟩)) true ty).run Tryf.prog (w.iter u 2) = _ := fun ty => run_next_end w u 2 ty h2
          go_wp2_with fail
          simp only [Exit.jump]
          go_ret
          exact ⟨ret_b hS.symm, bl_iter _ _ _⟩

end Go.Proofs.YtfhkkpfkkhpohaaFmt.Sd
