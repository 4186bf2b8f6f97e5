/- strings.EqualFold against style: that it ends. -/
import Derived.Test.YtkfdcbdlcipmfaaGreatFmtGW
import Derived.Test.YtkfdcbdlcipmfaaGreatFmtGS
import Derived.Test.YtkfdcbdlcipmfaaGreatFmtGA
set_option linter.unusedVariables false
set_option linter.unusedSimpArgs false
namespace Go.Proofs.YtkfdcbdlcipmfaaGreatFmt
open Go.RowKit Go.Extern.Stop Go.Stop Go.Extern

set_option maxRecDepth 400000 in
theorem pack102 {s0 t0 v5 : Value} {T : Array Value} {k : Int} (h0 : 0 ≤ k) (h1 : k < 5) (h : T = #[s0, t0, T.getD 2 undef, T.getD 3 undef, T.getD 4 undef, v5, T.getD 6 undef, T.getD 7 undef, T.getD 8 undef, T.getD 9 undef, T.getD 10 undef, T.getD 11 undef, T.getD 12 undef, T.getD 13 undef, T.getD 14 undef, T.getD 15 undef, T.getD 16 undef, T.getD 17 undef, T.getD 18 undef, T.getD 19 undef, T.getD 20 undef, T.getD 21 undef, T.getD 22 undef, T.getD 23 undef, T.getD 24 undef, T.getD 25 undef, T.getD 26 undef, T.getD 27 undef, T.getD 28 undef, T.getD 29 undef, T.getD 30 undef, T.getD 31 undef, T.getD 32 undef, T.getD 33 undef, T.getD 34 undef, T.getD 35 undef, T.getD 36 undef, T.getD 37 undef, T.getD 38 undef, T.getD 39 undef, T.getD 40 undef, T.getD 41 undef, T.getD 42 undef, T.getD 43 undef, T.getD 44 undef, T.getD 45 undef, T.getD 46 undef, T.getD 47 undef, T.getD 48 undef, T.getD 49 undef, T.getD 50 undef, T.getD 51 undef, T.getD 52 undef, T.getD 53 undef, T.getD 54 undef, T.getD 55 undef, T.getD 56 undef, T.getD 57 undef, T.getD 58 undef, T.getD 59 undef, T.getD 60 undef, T.getD 61 undef, T.getD 62 undef, T.getD 63 undef, T.getD 64 undef, T.getD 65 undef, T.getD 66 undef, T.getD 67 undef, T.getD 68 undef, T.getD 69 undef, T.getD 70 undef, T.getD 71 undef, T.getD 72 undef, T.getD 73 undef, T.getD 74 undef, T.getD 75 undef, T.getD 76 undef, T.getD 77 undef, T.getD 78 undef, T.getD 79 undef, T.getD 80 undef, T.getD 81 undef, T.getD 82 undef, T.getD 83 undef, T.getD 84 undef, T.getD 85 undef, T.getD 86 undef, T.getD 87 undef, T.getD 88 undef, T.getD 89 undef, T.getD 90 undef, T.getD 91 undef, T.getD 92 undef, T.getD 93 undef, T.getD 94 undef, T.getD 95 undef, T.getD 96 undef, T.getD 97 undef, T.getD 98 undef, T.getD 99 undef, T.getD 100 undef, T.getD 101 undef, T.getD 102 undef, T.getD 103 undef, T.getD 104 undef, T.getD 105 undef, T.getD 106 undef, T.getD 107 undef, T.getD 108 undef, T.getD 109 undef, T.getD 110 undef, T.getD 111 undef, T.getD 112 undef, T.getD 113 undef, T.getD 114 undef, T.getD 115 undef, T.getD 116 undef, T.getD 117 undef, T.getD 118 undef, T.getD 119 undef, T.getD 120 undef, T.getD 121 undef, T.getD 122 undef]) : ∃ u : Nat → Value, 0 ≤ k ∧ k < 5 ∧ (⟨T, []⟩ : Act) = ⟨#[s0, t0, u 2, u 3, u 4, v5, u 6, u 7, u 8, u 9, u 10, u 11, u 12, u 13, u 14, u 15, u 16, u 17, u 18, u 19, u 20, u 21, u 22, u 23, u 24, u 25, u 26, u 27, u 28, u 29, u 30, u 31, u 32, u 33, u 34, u 35, u 36, u 37, u 38, u 39, u 40, u 41, u 42, u 43, u 44, u 45, u 46, u 47, u 48, u 49, u 50, u 51, u 52, u 53, u 54, u 55, u 56, u 57, u 58, u 59, u 60, u 61, u 62, u 63, u 64, u 65, u 66, u 67, u 68, u 69, u 70, u 71, u 72, u 73, u 74, u 75, u 76, u 77, u 78, u 79, u 80, u 81, u 82, u 83, u 84, u 85, u 86, u 87, u 88, u 89, u 90, u 91, u 92, u 93, u 94, u 95, u 96, u 97, u 98, u 99, u 100, u 101, u 102, u 103, u 104, u 105, u 106, u 107, u 108, u 109, u 110, u 111, u 112, u 113, u 114, u 115, u 116, u 117, u 118, u 119, u 120, u 121, u 122], []⟩ :=
  ⟨fun i => T.getD i undef, h0, h1, congrArg (fun x => (⟨x, []⟩ : Act)) h⟩
def styleL : List Int := [115, 116, 121, 108, 101]
theorem style_drop {tt : ByteArray} (h : tt.data.toList = Css.enc styleL) (hz : tt.size = 5) {k : Int} (h0 : 0 ≤ k) (h1 : k < 5) : (tt.extract k.toNat 5).data.toList = Css.enc (styleL.drop k.toNat) ∧ ∀ d ∈ styleL.drop k.toNat, d ∈ styleL := by
  refine ⟨?_, fun d hd => List.mem_of_mem_drop hd⟩
  have e := Lib.extract_to_end tt k.toNat
  rw [hz] at e
  rw [e, h]
  rcases (show k = 0 ∨ k = 1 ∨ k = 2 ∨ k = 3 ∨ k = 4 by omega) with rfl | rfl | rfl | rfl | rfl <;> rfl
theorem style_mem {d : Int} (h : d ∈ styleL) : d = 115 ∨ d = 116 ∨ d = 121 ∨ d = 108 ∨ d = 101 := by simpa [styleL] using h
theorem style_valid {d : Int} (h : d ∈ styleL) : Css.Valid d ∧ Css.width d = 1 := by
  rcases style_mem h with rfl | rfl | rfl | rfl | rfl <;> exact ⟨⟨by decide, by decide, by decide⟩, by decide⟩
def SomeB (w : World) (e : Ending) (w' : World) : Prop := ∃ b, e = .returned (.bool b) ∧ w.grownBy w' none
theorem SomeB.mk' {w w' : World} {b : Bool} (h : w.grownBy w' none) : SomeB w (.returned (.bool b)) w' := ⟨b, rfl, h⟩

set_option maxRecDepth 400000 in
set_option maxHeartbeats 4000000 in
theorem c102 {w : World} (ht : Tabs w) (s tt : ByteArray) (hs : s.size = 5) (htt : tt.data.toList = Css.enc styleL) :
    Calls Tryz.prog 102 #[.string s, .string tt] w (SomeB w) := by
  have htz : tt.size = 5 := by rw [← bytes_len, htt]; decide
  have HT := Lib.hid ht
  have HTT := Lib.hid htt
  have hi1 : (s.size : Int) = 5 := by omega
  have hi2 : (tt.size : Int) = 5 := by omega
  clear ht htt
  go_enter Tryz.func102, Tryz.ntmps102
  go_wp2_with fail
  refine wp_scope_jumps 0 (fun a' w' => w = w' ∧ ∃ (k : Int) (u : Nat → Value), 0 ≤ k ∧ k < 5 ∧ a' = ⟨#[.string s, .string tt, u 2, u 3, u 4, .int .i64 k, u 6, u 7, u 8, u 9, u 10, u 11, u 12, u 13, u 14, u 15, u 16, u 17, u 18, u 19, u 20, u 21, u 22, u 23, u 24, u 25, u 26, u 27, u 28, u 29, u 30, u 31, u 32, u 33, u 34, u 35, u 36, u 37, u 38, u 39, u 40, u 41, u 42, u 43, u 44, u 45, u 46, u 47, u 48, u 49, u 50, u 51, u 52, u 53, u 54, u 55, u 56, u 57, u 58, u 59, u 60, u 61, u 62, u 63, u 64, u 65, u 66, u 67, u 68, u 69, u 70, u 71, u 72, u 73, u 74, u 75, u 76, u 77, u 78, u 79, u 80, u 81, u 82, u 83, u 84, u 85, u 86, u 87, u 88, u 89, u 90, u 91, u 92, u 93, u 94, u 95, u 96, u 97, u 98, u 99, u 100, u 101, u 102, u 103, u 104, u 105, u 106, u 107, u 108, u 109, u 110, u 111, u 112, u 113, u 114, u 115, u 116, u 117, u 118, u 119, u 120, u 121, u 122], []⟩) (fun _ _ => 0) rfl ?_ ?_
  · go_wp2_with fail
    go_loopg [5, 7, 8] 5 (fun gk s5 s7 s8 wr => ∃ k : Nat, s5 = .int .i64 k ∧ k ≤ 5 ∧ gk = 5 - k ∧ w = wr)
    case atStart => exact ⟨0, rfl, by omega, rfl, rfl⟩
    case round =>
      obtain ⟨k, rfl, hk, rfl, rfl⟩ := hrel
      by_cases hlt : k < 5
      · have hb1 := bt_at s k
        have hc0 := bt_lo s k
        have hc1 := bt_hi s k
        generalize bt s k = b1 at hb1 hc0 hc1
        have hb2 := bt_at tt k
        have hd0 := bt_lo tt k
        have hd1 := bt_hi tt k
        generalize bt tt k = b2 at hb2 hd0 hd1
        have hlt1 : k < s.size := by omega
        have hlt2 : k < tt.size := by omega
        go_upto_if 39 with (fail)
        · go_step3
          refine ⟨rfl, rfl, k, ?_⟩
          refine pack102 ?_ ?_ ?_
          · omega
          · omega
          · rfl
        · go_roundg (5 - (k + 1))
          case measure => omega
          case rel => exact ⟨k + 1, by go_num, hlt, rfl, rfl⟩
        · go_cut [7, 8] (fun v7 v8 wc => (∃ x y : Int, v7 = .int .u8 x ∧ v8 = .int .u8 y ∧ 0 ≤ x ∧ x ≤ 255) ∧ w = wc)
          case first =>
            by_cases hx : b2 < b1
            · go_wp2_with fail
              go_meet
              exact ⟨⟨b2, b1, rfl, rfl, hd0, hd1⟩, rfl⟩
            · go_wp2_with fail
              go_meet
              exact ⟨⟨b1, b2, rfl, rfl, hc0, hc1⟩, rfl⟩
          case rest =>
            obtain ⟨⟨x, y, rfl, rfl, hx0, hx1⟩, rfl⟩ := hcut
            go_upto_region 11 with (fail)
            go_cut [54] (fun v54 wc => (∃ b, v54 = .bool b) ∧ w = wc)
            case first =>
              by_cases a1 : 65 ≤ x <;> by_cases a2 : x ≤ 90
              all_goals
                first
                  | (exfalso; omega)
                  | skip
              · have hw1 : IntKind.u8.wrap (x + 97) = x + 97 := IntWalk.u8_in _ (by omega)
                have hw2 : IntKind.u8.wrap (x + 97 - 65) = x + 97 - 65 := IntWalk.u8_in _ (by omega)
                cases t : (y == x + 97 - 65)
                all_goals
                  go_wp2_with fail
                  go_meet
                  exact ⟨⟨_, rfl⟩, rfl⟩
              all_goals
                go_wp2_with fail
                go_meet
                exact ⟨⟨_, rfl⟩, rfl⟩
            case rest =>
              obtain ⟨⟨b, rfl⟩, rfl⟩ := hcut
              cases b with
              | true =>
                go_wp2_with fail
                go_roundg (5 - (k + 1))
                case measure => omega
                case rel => exact ⟨k + 1, by go_num, hlt, rfl, rfl⟩
              | false =>
                go_wp2_with fail
                simp only [Exit.jump, Exit.then]
                go_ret
                exact SomeB.mk' (grown_refl _ _)
      · have hk' : k = 5 := by omega
        subst hk'
        go_wp2_with fail
        simp only [Exit.jump, Exit.then]
        go_ret
        exact SomeB.mk' (grown_refl _ _)
  · rintro a1 w1 ⟨rfl, k, u, hk0, hk1, rfl⟩
    dsimp only
    obtain ⟨hx1, hx2⟩ := style_drop HTT.out htz hk0 hk1
    have HX : Hid (∃ tU : ByteArray, tU = tt.extract k.toNat 5 ∧ tU.data.toList = Css.enc (styleL.drop k.toNat) ∧ ∀ d ∈ styleL.drop k.toNat, d ∈ styleL) := Lib.hid ⟨_, rfl, hx1, hx2⟩
    have HY : Hid (∃ wi ib, wi = w.iter (s.extract k.toNat 5) 0 ∧ ib = w.heap.size ∧ w.grownBy wi none ∧ wi.heap[ib]? = some (.stringIter (s.extract k.toNat 5) 0)) := Lib.hid ⟨_, _, rfl, rfl, grown_iter _ _ _, World.iter_heap _ _ _⟩
    clear hx1 hx2 HTT
    go_wp2_with fail
    obtain ⟨tU, e1, h1, h2⟩ := HX.out
    obtain ⟨wi, ib, e2, e3, hg, hit⟩ := HY.out
    rw [← e1, ← e2, ← e3]
    generalize s.extract k.toNat 5 = S at hit
    have HR := Lib.hid (And.intro h1 (And.intro h2 (And.intro hg hit)))
    have hib : w.heap.size ≤ ib := by omega
    generalize styleL.drop k.toNat = U at HR
    clear e1 e2 e3 h1 h2 hg hit HX HY
    go_loopg [1, 10, 11, 12, 13] S.size (fun gk s1 s10 s11 s12 s13 wr => ∃ (p : Nat) (U : List Int) (tU : ByteArray), s1 = .string tU ∧ gk = S.size - p ∧ Hid (tU.data.toList = Css.enc U ∧ (∀ d ∈ U, d ∈ styleL) ∧ w.grownBy wr none ∧ wr.heap[ib]? = some (.stringIter S p)))
    case atStart => exact ⟨0, U, tU, rfl, rfl, HR⟩
    case round =>
      clear HR
      obtain ⟨p, U, tU, rfl, rfl, HR⟩ := hrel
      by_cases hps : p < S.size
      · have hw := decode_pos S p
        have hnx := fun ty => Lib.run_next_any_at (P := Tryz.prog) wr ib S p ty HR.out.2.2.2 hps
        generalize Utf8.decode S p = rd at hw hnx
        obtain ⟨r, m⟩ := rd
        simp only at hw hnx
        have HW : Hid (∃ W1, W1 = wr.iterAt ib S (p + m) ∧ w.grownBy W1 none ∧ W1.heap[ib]? = some (.stringIter S (p + m))) := Lib.hid ⟨_, rfl, map_free HR.out.2.2.1 (row_iter _ _ _ _) hib, Lib.iterAt_heap _ _ _ _ _ HR.out.2.2.2⟩
        obtain ⟨W1, e1, hg1, hi1⟩ := HW.out
        rw [← e1] at hnx
        have HR1 := Lib.hid (And.intro HR.out.1 (And.intro HR.out.2.1 (And.intro hg1 hi1)))
        clear HR HW e1 hg1 hi1
        cases U with
        | nil =>
          have hz : tU.size = 0 := by rw [← bytes_len, HR1.out.1]; rfl
          have hz' : (tU.size : Int) = 0 := by omega
          clear hz
          have HG := Lib.hid HR1.out.2.2.1
          go_wp2_with fail
          simp only [Exit.jump, Exit.then]
          go_ret
          exact SomeB.mk' HG.out
        | cons d U =>
          obtain ⟨hv, hwd⟩ := style_valid (HR1.out.2.1 d (by simp))
          have H100 := Lib.hid (c100 (HT.out.free HR1.out.2.2.1) HR1.out.1 hv)
          obtain ⟨hle, hx⟩ := extract_enc HR1.out.1
          rw [hwd] at H100 hle hx
          have hz : (1 : Int) ≤ tU.size := by omega
          have hz' : ((tU.size : Int) == 0) = false := beq_eq_false_iff_ne.2 (by omega)
          have hd := style_mem (HR1.out.2.1 d (by simp))
          have HD := Lib.hid hd
          have HX := Lib.hid hx
          clear hv hwd hle hx hd
          go_upto_region 22 with (fail)
          refine H100.out.mono ?_
          rintro e w2 ⟨rfl, hg2⟩
          have hx2 : (tU.extract 1 tU.size).data.toList = Css.enc U := HX.out
          have HR3 : Hid ((tU.extract 1 tU.size).data.toList = Css.enc U ∧ (∀ d ∈ U, d ∈ styleL) ∧ w.grownBy w2 none ∧ w2.heap[ib]? = some (.stringIter S (p + m))) := Lib.hid ⟨hx2, fun x hx => HR1.out.2.1 x (by simp [hx]), grown_trans HR1.out.2.2.1 hg2, free_keep hg2 HR1.out.2.2.2⟩
          have HF : Hid (FoldTab w2) := Lib.hid (HT.out.free (grown_trans HR1.out.2.2.1 hg2)).fold
          clear H100 HX hx2 hg2 hnx HR1
          cases t1 : (d == (r : Int)) with
          | true =>
            go_wp2_with fail
            go_roundg (S.size - (p + m))
            case measure => omega
            case rel => exact ⟨p + m, U, _, rfl, rfl, HR3⟩
          | false =>
            by_cases h1 : d < (r : Int)
            · by_cases h2 : (r : Int) < 128
              · have h3 : 65 ≤ d := by have := HD.out; omega
                have h4 : ¬ d ≤ 90 := by have := HD.out; omega
                go_wp2_with fail
                simp only [Exit.jump, Exit.then]
                go_ret
                exact SomeB.mk' HR3.out.2.2.1
              · have h2' : 128 ≤ (r : Int) := by omega
                rcases HD.out with rfl | rfl | rfl | rfl | rfl
                · have C1 : Hid (Calls Tryz.prog 132 #[.int .i32 115] w2 fun e w' => e = .returned (.int .i32 383) ∧ w2 = w') := Lib.hid (c132_low 115 383 (by omega) (HF.out.fold 115 383 (by simp)) (by omega) (by omega))
                  have C2 : Hid (Calls Tryz.prog 132 #[.int .i32 383] w2 fun e w' => e = .returned (.int .i32 83) ∧ w2 = w') := Lib.hid (c132_high HF.out)
                  have C3 : Hid (Calls Tryz.prog 132 #[.int .i32 83] w2 fun e w' => e = .returned (.int .i32 115) ∧ w2 = w') := Lib.hid (c132_low 83 115 (by omega) (HF.out.fold 83 115 (by simp)) (by omega) (by omega))
                  go_wp2_with fail
                  refine C1.out.mono ?_
                  rintro e w' ⟨rfl, rfl⟩
                  go_wp2_with fail
                  go_loopg [13] 2 (fun gk s13 wr => w2 = wr ∧ ((s13 = .int .i32 383 ∧ gk = 2) ∨ (s13 = .int .i32 83 ∧ gk = 1) ∨ (s13 = .int .i32 115 ∧ gk = 0)))
                  case atStart => exact ⟨rfl, .inl ⟨rfl, rfl⟩⟩
                  case round =>
                    obtain ⟨rfl, hrel⟩ := hrel
                    rcases hrel with ⟨rfl, rfl⟩ | ⟨rfl, rfl⟩ | ⟨rfl, rfl⟩
                    · by_cases h5 : (383 : Int) < (r : Int)
                      · go_wp2_with fail
                        refine C2.out.mono ?_
                        rintro e w' ⟨rfl, rfl⟩
                        go_wp2_with fail
                        go_roundg 1
                        case measure => omega
                        case rel => exact ⟨rfl, .inr (.inl ⟨rfl, rfl⟩)⟩
                      · cases t5 : ((383 : Int) == (r : Int)) with
                        | true =>
                          go_wp2_with fail
                          go_roundg (S.size - (p + m))
                          case measure => omega
                          case rel => exact ⟨p + m, U, _, rfl, rfl, HR3⟩
                        | false =>
                          go_wp2_with fail
                          simp only [Exit.jump, Exit.then]
                          go_ret
                          exact SomeB.mk' HR3.out.2.2.1
                    · have h5 : (83 : Int) < (r : Int) := by omega
                      go_wp2_with fail
                      refine C3.out.mono ?_
                      rintro e w' ⟨rfl, rfl⟩
                      go_wp2_with fail
                      go_roundg 0
                      case measure => omega
                      case rel => exact ⟨rfl, .inr (.inr ⟨rfl, rfl⟩)⟩
                    · have t5 : ((115 : Int) == (r : Int)) = false := beq_eq_false_iff_ne.2 (by omega)
                      go_wp2_with fail
                      simp only [Exit.jump, Exit.then]
                      go_ret
                      exact SomeB.mk' HR3.out.2.2.1
                · have C1 : Hid (Calls Tryz.prog 132 #[.int .i32 116] w2 fun e w' => e = .returned (.int .i32 84) ∧ w2 = w') := Lib.hid (c132_low 116 84 (by omega) (HF.out.fold 116 84 (by simp)) (by omega) (by omega))
                  have C2 : Hid (Calls Tryz.prog 132 #[.int .i32 84] w2 fun e w' => e = .returned (.int .i32 116) ∧ w2 = w') := Lib.hid (c132_low 84 116 (by omega) (HF.out.fold 84 116 (by simp)) (by omega) (by omega))
                  go_wp2_with fail
                  refine C1.out.mono ?_
                  rintro e w' ⟨rfl, rfl⟩
                  go_wp2_with fail
                  go_loopg [13] 1 (fun gk s13 wr => w2 = wr ∧ ((s13 = .int .i32 84 ∧ gk = 1) ∨ (s13 = .int .i32 116 ∧ gk = 0)))
                  case atStart => exact ⟨rfl, .inl ⟨rfl, rfl⟩⟩
                  case round =>
                    obtain ⟨rfl, hrel⟩ := hrel
                    rcases hrel with ⟨rfl, rfl⟩ | ⟨rfl, rfl⟩
                    · have h5 : (84 : Int) < (r : Int) := by omega
                      go_wp2_with fail
                      refine C2.out.mono ?_
                      rintro e w' ⟨rfl, rfl⟩
                      go_wp2_with fail
                      go_roundg 0
                      case measure => omega
                      case rel => exact ⟨rfl, .inr ⟨rfl, rfl⟩⟩
                    · have t5 : ((116 : Int) == (r : Int)) = false := beq_eq_false_iff_ne.2 (by omega)
                      go_wp2_with fail
                      simp only [Exit.jump, Exit.then]
                      go_ret
                      exact SomeB.mk' HR3.out.2.2.1
                · have C1 : Hid (Calls Tryz.prog 132 #[.int .i32 121] w2 fun e w' => e = .returned (.int .i32 89) ∧ w2 = w') := Lib.hid (c132_low 121 89 (by omega) (HF.out.fold 121 89 (by simp)) (by omega) (by omega))
                  have C2 : Hid (Calls Tryz.prog 132 #[.int .i32 89] w2 fun e w' => e = .returned (.int .i32 121) ∧ w2 = w') := Lib.hid (c132_low 89 121 (by omega) (HF.out.fold 89 121 (by simp)) (by omega) (by omega))
                  go_wp2_with fail
                  refine C1.out.mono ?_
                  rintro e w' ⟨rfl, rfl⟩
                  go_wp2_with fail
                  go_loopg [13] 1 (fun gk s13 wr => w2 = wr ∧ ((s13 = .int .i32 89 ∧ gk = 1) ∨ (s13 = .int .i32 121 ∧ gk = 0)))
                  case atStart => exact ⟨rfl, .inl ⟨rfl, rfl⟩⟩
                  case round =>
                    obtain ⟨rfl, hrel⟩ := hrel
                    rcases hrel with ⟨rfl, rfl⟩ | ⟨rfl, rfl⟩
                    · have h5 : (89 : Int) < (r : Int) := by omega
                      go_wp2_with fail
                      refine C2.out.mono ?_
                      rintro e w' ⟨rfl, rfl⟩
                      go_wp2_with fail
                      go_roundg 0
                      case measure => omega
                      case rel => exact ⟨rfl, .inr ⟨rfl, rfl⟩⟩
                    · have t5 : ((121 : Int) == (r : Int)) = false := beq_eq_false_iff_ne.2 (by omega)
                      go_wp2_with fail
                      simp only [Exit.jump, Exit.then]
                      go_ret
                      exact SomeB.mk' HR3.out.2.2.1
                · have C1 : Hid (Calls Tryz.prog 132 #[.int .i32 108] w2 fun e w' => e = .returned (.int .i32 76) ∧ w2 = w') := Lib.hid (c132_low 108 76 (by omega) (HF.out.fold 108 76 (by simp)) (by omega) (by omega))
                  have C2 : Hid (Calls Tryz.prog 132 #[.int .i32 76] w2 fun e w' => e = .returned (.int .i32 108) ∧ w2 = w') := Lib.hid (c132_low 76 108 (by omega) (HF.out.fold 76 108 (by simp)) (by omega) (by omega))
                  go_wp2_with fail
                  refine C1.out.mono ?_
                  rintro e w' ⟨rfl, rfl⟩
                  go_wp2_with fail
                  go_loopg [13] 1 (fun gk s13 wr => w2 = wr ∧ ((s13 = .int .i32 76 ∧ gk = 1) ∨ (s13 = .int .i32 108 ∧ gk = 0)))
                  case atStart => exact ⟨rfl, .inl ⟨rfl, rfl⟩⟩
                  case round =>
                    obtain ⟨rfl, hrel⟩ := hrel
                    rcases hrel with ⟨rfl, rfl⟩ | ⟨rfl, rfl⟩
                    · have h5 : (76 : Int) < (r : Int) := by omega
                      go_wp2_with fail
                      refine C2.out.mono ?_
                      rintro e w' ⟨rfl, rfl⟩
                      go_wp2_with fail
                      go_roundg 0
                      case measure => omega
                      case rel => exact ⟨rfl, .inr ⟨rfl, rfl⟩⟩
                    · have t5 : ((108 : Int) == (r : Int)) = false := beq_eq_false_iff_ne.2 (by omega)
                      go_wp2_with fail
                      simp only [Exit.jump, Exit.then]
                      go_ret
                      exact SomeB.mk' HR3.out.2.2.1
                · have C1 : Hid (Calls Tryz.prog 132 #[.int .i32 101] w2 fun e w' => e = .returned (.int .i32 69) ∧ w2 = w') := Lib.hid (c132_low 101 69 (by omega) (HF.out.fold 101 69 (by simp)) (by omega) (by omega))
                  have C2 : Hid (Calls Tryz.prog 132 #[.int .i32 69] w2 fun e w' => e = .returned (.int .i32 101) ∧ w2 = w') := Lib.hid (c132_low 69 101 (by omega) (HF.out.fold 69 101 (by simp)) (by omega) (by omega))
                  go_wp2_with fail
                  refine C1.out.mono ?_
                  rintro e w' ⟨rfl, rfl⟩
                  go_wp2_with fail
                  go_loopg [13] 1 (fun gk s13 wr => w2 = wr ∧ ((s13 = .int .i32 69 ∧ gk = 1) ∨ (s13 = .int .i32 101 ∧ gk = 0)))
                  case atStart => exact ⟨rfl, .inl ⟨rfl, rfl⟩⟩
                  case round =>
                    obtain ⟨rfl, hrel⟩ := hrel
                    rcases hrel with ⟨rfl, rfl⟩ | ⟨rfl, rfl⟩
                    · have h5 : (69 : Int) < (r : Int) := by omega
                      go_wp2_with fail
                      refine C2.out.mono ?_
                      rintro e w' ⟨rfl, rfl⟩
                      go_wp2_with fail
                      go_roundg 0
                      case measure => omega
                      case rel => exact ⟨rfl, .inr ⟨rfl, rfl⟩⟩
                    · have t5 : ((101 : Int) == (r : Int)) = false := beq_eq_false_iff_ne.2 (by omega)
                      go_wp2_with fail
                      simp only [Exit.jump, Exit.then]
                      go_ret
                      exact SomeB.mk' HR3.out.2.2.1
            · have h2 : d < 128 := by have := HD.out; omega
              by_cases a1 : 65 ≤ (r : Int) <;> by_cases a2 : (r : Int) ≤ 90
              · have hw1 : IntKind.i32.wrap ((r : Int) + 97) = (r : Int) + 97 := IntWalk.i32_in _ (by omega)
                have hw2 : IntKind.i32.wrap ((r : Int) + 97 - 65) = (r : Int) + 97 - 65 := IntWalk.i32_in _ (by omega)
                cases t : (d == (r : Int) + 97 - 65) with
                | true =>
                  go_wp2_with fail
                  go_roundg (S.size - (p + m))
                  case measure => omega
                  case rel => exact ⟨p + m, U, _, rfl, rfl, HR3⟩
                | false =>
                  go_wp2_with fail
                  simp only [Exit.jump, Exit.then]
                  go_ret
                  exact SomeB.mk' HR3.out.2.2.1
              all_goals
                first
                  | (exfalso; omega)
                  | skip
              all_goals
                go_wp2_with fail
                simp only [Exit.jump, Exit.then]
                go_ret
                exact SomeB.mk' HR3.out.2.2.1
      · have hnx := fun ty => Lib.run_next_end_at (P := Tryz.prog) wr ib S p ty HR.out.2.2.2 hps
        have HG := Lib.hid HR.out.2.2.1
        clear hnx
        have hnx := fun ty => Lib.run_next_end_at (P := Tryz.prog) wr ib S p ty HR.out.2.2.2 hps
        go_wp2_with fail
        simp only [Exit.jump, Exit.then]
        go_ret
        exact SomeB.mk' HG.out
end Go.Proofs.YtkfdcbdlcipmfaaGreatFmt
/- printQuotedWithQuote: what its loop keeps. -/
namespace Go.Proofs.YtkfdcbdlcipmfaaGreatFmt
open Go.RowKit Go.Extern.Stop Go.Stop Go.Extern

set_option maxRecDepth 100000 in
theorem c101 (w : World) : Calls Tryz.prog 101 #[.int .u16 0, .int .u16 64] w fun e w' => e = .returned (.bool false) ∧ w = w' := by
  go_enter Tryz.func101, Tryz.ntmps101
  go_wp2
  go_ret
  exact ⟨rfl, rfl⟩

structure QR (F : Interp) (B : Nat) (w : World) (base g : Nat) (ws asc : Bool) (v : Value) (T : List UInt8) (s : ByteArray) (V : List Int) (q : Int) (p r : Nat) (U : List Int) (v1 : Value) (wr : World) : Prop where
  at_ : At s p U
  le : r ≤ p
  valid : ∀ c ∈ U, Css.Valid c
  low : asc = true → ∀ c ∈ U, c < 1048576
  env : Env F B wr
  kept : Kv w wr g v v1
  px : ∃ od Bp, Px wr base g ws asc v1 (T ++ Css.enc [q] ++ Bp) ∧ Bp ++ (s.data.toList.drop r).take (p - r) = Css.enc od ∧ (∀ o, Css.QS q U o → Css.QS q V (od ++ o)) ∧ Css.Asc asc od ∧ (Css.enc od).length ≤ 8 * p
section
variable {F : Interp} {B : Nat} {w : World} {base g : Nat} {ws asc : Bool} {v : Value} {T : List UInt8} {s : ByteArray} {V : List Int} {q : Int} {p r : Nat} {c : Int} {U : List Int} {v1 v2 : Value} {wr w2 : World}
theorem QR.free (h : QR F B w base g ws asc v T s V q p r U v1 wr) (hg : wr.grownBy w2 none) : QR F B w base g ws asc v T s V q p r U v1 w2 := by
  obtain ⟨od, Bp, h1, h2, h3, h4, h5⟩ := h.px
  exact ⟨h.at_, h.le, h.valid, h.low, h.env.free hg, h.kept.free hg, od, Bp, h1.free hg, h2, h3, h4, h5⟩
theorem take_next (h : At s p (c :: U)) (hr : r ≤ p) : (s.data.toList.drop r).take (p + Css.width c - r) = (s.data.toList.drop r).take (p - r) ++ Css.enc1 c := by
  rw [show p + Css.width c - r = (p - r) + Css.width c by omega, List.take_add, List.drop_drop, show r + (p - r) = p by omega]
  congr 1
  have h1 : s.data.toList.drop p = Css.enc1 c ++ Css.enc U := by
    have := h.1
    rw [show Css.enc (c :: U) = Css.enc1 c ++ Css.enc U by simp [Css.enc]] at this
    exact this
  rw [h1, ← Css.enc1_length, List.take_left]
theorem QR.plain (h : QR F B w base g ws asc v T s V q p r (c :: U) v1 wr) (hl : Css.legitS q c .none) (ha : asc = true → c < 128) : QR F B w base g ws asc v T s V q (p + Css.width c) r U v1 wr := by
  obtain ⟨od, Bp, h1, h2, h3, h4, h5⟩ := h.px
  have hc := h.valid c (by simp)
  obtain ⟨_, _, hat⟩ := h.at_.step hc
  refine ⟨hat, by have := h.le; omega, fun d hd => h.valid d (by simp [hd]), fun ha d hd => h.low ha d (by simp [hd]), h.env, h.kept, od ++ [c], Bp, h1, ?_, ?_, ?_, ?_⟩
  · rw [take_next h.at_ h.le, ← List.append_assoc, h2, Css.enc_append]
    simp [Css.enc]
  · intro o ho
    rw [List.append_assoc]
    exact h3 _ ⟨.none, o, hl, rfl, ho⟩
  · exact h4.append fun ha' d hd => by simp at hd; subst hd; exact ha ha'
  · have := Css.width_pos c
    rw [Css.enc_append, List.length_append]
    have : (Css.enc [c]).length ≤ 4 := by have := enc1_le c; simpa [Css.enc] using this
    omega
theorem QR.flush (h : QR F B w base g ws asc v T s V q p r U v1 wr) {od : List Int} {Bp : List UInt8} (h1 : Px wr base g ws asc v1 (T ++ Css.enc [q] ++ Bp)) (h2 : Bp ++ (s.data.toList.drop r).take (p - r) = Css.enc od) (h3 : ∀ o, Css.QS q U o → Css.QS q V (od ++ o))
    (h4 : Css.Asc asc od) (h5 : (Css.enc od).length ≤ 8 * p) (hP : Px w2 base g ws asc v2 (T ++ Css.enc [q] ++ Bp ++ (s.extract r p).data.toList)) (hB : B ≤ g) (hK : Kv wr w2 g v1 v2) : QR F B w base g ws asc v T s V q p p U v2 w2 := by
  refine ⟨h.at_, Nat.le_refl _, h.valid, h.low, h.env.step h1 hB hK, h.kept.trans hK, od, Css.enc od, ?_, ?_, h3, h4, h5⟩
  · rw [Lib.extract_data, List.append_assoc, h2] at hP
    exact hP
  · simp
theorem QR.flat (h : QR F B w base g ws asc v T s V q p r U v1 wr) (e : r = p) : QR F B w base g ws asc v T s V q p p U v1 wr := by subst e; exact h
theorem QR.done (h : QR F B w base g ws asc v T s V q p p U v1 wr) : ∃ od, Px wr base g ws asc v1 (T ++ Css.enc [q] ++ Css.enc od) ∧ (∀ o, Css.QS q U o → Css.QS q V (od ++ o)) ∧ Css.Asc asc od ∧ (Css.enc od).length ≤ 8 * p := by
  obtain ⟨od, Bp, h1, h2, h3, h4, h5⟩ := h.px
  simp at h2
  subst h2
  exact ⟨od, h1, h3, h4, h5⟩
theorem QR.esc (h : QR F B w base g ws asc v T s V q p p (c :: U) v1 wr) {es : Css.Esc} (hl : Css.legitS q c es) (ha : es ≠ .hex → asc = true → c < 128) {od : List Int} (h1 : Px wr base g ws asc v1 (T ++ Css.enc [q] ++ Css.enc od)) (h3 : ∀ o, Css.QS q (c :: U) o → Css.QS q V (od ++ o))
    (h4 : Css.Asc asc od) (h5 : (Css.enc od).length ≤ 8 * p) (hP : Px w2 base g ws asc v2 (T ++ Css.enc [q] ++ Css.enc od ++ Css.enc (Css.pEsc c es U false))) (hB : B ≤ g) (hK : Kv wr w2 g v1 v2) :
    QR F B w base g ws asc v T s V q (p + Css.width c) (p + Css.width c) U v2 w2 := by
  have hc := h.valid c (by simp)
  obtain ⟨_, _, hat⟩ := h.at_.step hc
  refine ⟨hat, Nat.le_refl _, fun d hd => h.valid d (by simp [hd]), fun ha d hd => h.low ha d (by simp [hd]), h.env.step h1 hB hK, h.kept.trans hK, od ++ Css.pEsc c es U false, Css.enc od ++ Css.enc (Css.pEsc c es U false), ?_, ?_, ?_, ?_, ?_⟩
  · rwa [List.append_assoc (T ++ Css.enc [q])] at hP
  · simp [Css.enc_append]
  · intro o ho
    rw [List.append_assoc]
    exact h3 _ ⟨es, o, hl, rfl, ho⟩
  · refine h4.append fun ha' => ?_
    subst ha'
    exact Css.pEsc_asc (fun he => ha he rfl) U false
  · have := enc_pEsc_le hc es U false
    have := Css.width_pos c
    rw [Css.enc_append, List.length_append]
    omega
end
theorem quote_len {T Bp L : List UInt8} {q : Int} {n : Nat} (h : (Bp ++ L).length ≤ n) : (T ++ Css.enc [q] ++ Bp).length ≤ T.length + 4 + n := by
  have h7 : (Css.enc [q]).length ≤ 4 := by have := enc1_le q; simpa [Css.enc] using this
  rw [List.length_append] at h
  rw [List.length_append, List.length_append]
  omega
end Go.Proofs.YtkfdcbdlcipmfaaGreatFmt
