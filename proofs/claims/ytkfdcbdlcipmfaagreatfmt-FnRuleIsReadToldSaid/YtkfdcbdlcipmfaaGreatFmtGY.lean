/- printQuotedWithQuote. -/
import Derived.Test.YtkfdcbdlcipmfaaGreatFmtGX
set_option linter.unusedVariables false
set_option linter.unusedSimpArgs false
namespace Go.Proofs.YtkfdcbdlcipmfaaGreatFmt
open Go.RowKit Go.Extern.Stop Go.Stop Go.Extern

theorem bc_quote {q : Int} (h0 : 0 ≤ q) (h1 : q < 128) : bc (Css.enc [q]) = [.int .u8 q] ∧ (Css.enc [q]).length = 1 := by
  have e : Css.enc [q] = [Css.byte q] := by
    simp [Css.enc, Css.enc1, h1]
  rw [e]
  refine ⟨?_, rfl⟩
  simp only [bc, List.map_cons, List.map_nil]
  rw [Css.byte_toNat h0 (by omega)]
  rw [show ((q.toNat : Nat) : Int) = q by omega]
theorem take_size (s : ByteArray) (r p : Nat) : (s.extract r p).data.toList = (s.data.toList.drop r).take (p - r) := Lib.extract_data s r p

set_option maxRecDepth 400000 in
set_option maxHeartbeats 40000000 in
theorem c76 {F : Interp} {B : Nat} {w : World} {base g : Nat} {ws asc : Bool} {v : Value} {T : List UInt8} (h : Px w base g ws asc v T) (hE : Env F B w) (hB : B ≤ g) {s : ByteArray} {V : List Int} (hs : s.data.toList = Css.enc V) (hV : ∀ c ∈ V, Css.Valid c)
    (hlow : asc = true → ∀ c ∈ V, c < 1048576) (q : Int) (hq : q = 34 ∨ q = 39) (hss : s.size ≤ 2147483648) (hT : T.length + 8 * s.size + 64 ≤ 35184372088832) :
    Calls Tryz.prog 76 #[.pointer (some ⟨g, 0, none⟩), .string s, .int .u8 q, .int .u8 0] w fun e' w' => e' = .returned (.tuple #[]) ∧ ∃ v' o, Css.QS q V o ∧ Css.Asc asc o ∧ Px w' base g ws asc v' (T ++ Css.enc (q :: (o ++ [q]))) ∧ Kv w w' g v v' := by
  obtain ⟨i0, z0, hi0, hz0, hz1, hz2, hz3⟩ := info5
  have HI := Lib.hid (And.intro hi0 (And.intro hz0 (And.intro hz1 (And.intro hz2 hz3))))
  have h01 : 0 < 1 := by omega
  have hq0 : 0 ≤ q := by omega
  have hq1 : q < 128 := by omega
  have HQ := Lib.hid (And.intro hq (bc_quote hq0 hq1))
  have hqn : (q != 0) = true := by rcases hq with rfl | rfl <;> decide
  have h63 : T.length + 1 ≤ maxLen := by unfold maxLen; omega
  have h47 : (T.length + 1) * 1 ≤ 140737488355328 := by omega
  have HN := Lib.hid (And.intro h (And.intro hE (And.intro hs (And.intro hV hlow))))
  obtain ⟨c3, c6, c7, c9, c15⟩ := h.cells
  clear hi0 hz0 hz1 hz2 hz3 h hE hs hV hlow hq c3 c6 c7 c9
  go_enter Tryz.func76, Tryz.ntmps76
  go_upto_region 2 with ((at_builtin; refine wpList_append_src rfl base (.tmp 22) (.tmp 24) 117 117 5 i0 z0 1 1 rfl Tryz.underlying117 HI.out.1 HI.out.2.1 HI.out.2.2.1 HI.out.2.2.2.1 HI.out.2.2.2.2 h01 v T.length (bc T) rfl _ 1 [.int .u8 q] rfl (Src.block Tryz.underlying117 _ [.int .u8 q] 5 (new_blk' rfl) rfl (by intro u hu; simp at hu; subst hu; rfl)) (HN.out.1.alloc _).own (HN.out.1.alloc _).base h63 h47 ?_; intro v1 w4 hown hgr hat; have hown : w4.ownsRow base 5 1 v1 (T.length + (Css.enc [q]).length) (bc T ++ bc (Css.enc [q])) := (by rw [HQ.out.2.1, HQ.out.2.2]; exact hown); obtain ⟨hfz, ⟨u, hcu⟩, hPx, hKv⟩ := (HN.out.1.alloc _).grew (t := Css.enc [q]) hown hgr hat; obtain ⟨A1, m1, k1, hv1⟩ := own_any hown; subst hv1; have HR := Lib.hid (And.intro hPx (Kv.after (grown_alloc (grown_refl w none) _) hKv)); clear hown hgr hat hPx hKv))
  clear hfz hcu c15
  generalize w4.setCell ⟨g, 15, none⟩ (Value.slice A1 m1 k1) = W at HR ⊢
  have HQR : Hid (QR F B w base g ws asc v T s V q 0 0 V (Value.slice A1 m1 k1) W) := Lib.hid (by
    obtain ⟨hP, hE, hs, hV, hlow⟩ := HN.out
    refine ⟨⟨?_, ?_⟩, Nat.le_refl _, hV, hlow, hE.step hP hB HR.out.2, HR.out.2, [], [], ?_, ?_, fun o ho => by simpa using ho, Css.Asc.nil, ?_⟩
    · rw [← hs]; rfl
    · rw [Nat.zero_add, ← Css.enc_length, ← hs, bytes_len]
    · simpa using HR.out.1
    · simp [Css.enc]
    · simp [Css.enc])
  obtain ⟨c3, c6, c7, c9, c15⟩ := HR.out.1.cells
  clear HR h63 h47 c6 c7 c9 c15
  go_wp2_with fail
  clear c3
  go_loopg [9, 10, 13, 14, 15] s.size (fun gk s9 s10 s13 s14 s15 wr => ∃ (p r : Nat) (U : List Int) (v1 : Value), s9 = .int .i64 p ∧ s10 = .int .i64 r ∧ gk = s.size - p ∧ r ≤ p ∧ p ≤ s.size ∧ Hid (QR F B w base g ws asc v T s V q p r U v1 wr))
  case atStart => exact ⟨0, 0, V, _, rfl, rfl, rfl, Nat.le_refl _, by omega, HQR⟩
  case round =>
    clear HQR
    obtain ⟨p, r, U, v1, rfl, rfl, rfl, hrp, hps, HR⟩ := hrel
    have hri : (r : Int) ≤ p := by omega
    have hpi : (p : Int) ≤ s.size := by omega
    have hsi : (s.size : Int) ≤ 2147483648 := by omega
    cases U with
    | nil =>
      · have hpe : p = s.size := by have := HR.out.at_.done; omega
        subst hpe
        go_upto_if 213 with (fail)
        go_cut [] (fun wc => ∃ v2, Hid (QR F B w base g ws asc v T s V q s.size s.size [] v2 wc))
        case first =>
          by_cases hr : r < s.size
          · have hri2 : (r : Int) < s.size := by omega
            obtain ⟨od, Bp, h1, h2, h3, h4, h5⟩ := HR.out.px
            have hlen := quote_len (T := T) (q := q) (show (Bp ++ (s.data.toList.drop r).take (s.size - r)).length ≤ 8 * s.size by rw [h2]; exact h5)
            have HP := Lib.hid (And.intro h1 (And.intro h2 (And.intro h3 (And.intro h4 h5))))
            have HPd := Lib.hid (h1.free (grown_drew (grown_refl wr none)))
            obtain ⟨c3, c6, c7, c9, c15⟩ := h1.cells
            have hex : (s.extract r s.size).size = s.size - r := by rw [← bytes_len, Lib.extract_data, List.length_take, List.length_drop, bytes_len]; omega
            obtain ⟨X, hX⟩ : ∃ X, X = s.extract r s.size := ⟨_, rfl⟩
            rw [← hX] at hex
            have h63 : (T ++ Css.enc [q] ++ Bp).length + X.size ≤ maxLen := by unfold maxLen; omega
            have h47 : ((T ++ Css.enc [q] ++ Bp).length + X.size) * 1 ≤ 140737488355328 := by omega
            have HX := Lib.hid hX
            clear h1 h2 h3 h4 h5 hlen hex hX c3 c6 c7 c9
            go_wp2_with fail
            try rw [← HX.out]
            go_region_law (refine step_append_src rfl base (.tmp 218) (.tmp 221) 117 9 5 i0 z0 1 1 rfl Tryz.underlying117 HI.out.1 HI.out.2.1 HI.out.2.2.1 HI.out.2.2.2.1 HI.out.2.2.2.2 h01 v1 (T ++ Css.enc [q] ++ Bp).length (bc (T ++ Css.enc [q] ++ Bp)) (by simp [Act.eval, Act.put]) _ X.size (byteCells X) (by simp [Act.eval, Act.put, HX.out]) (Src.ofString _ Tryz.underlying9 X) HPd.out.own HPd.out.base h63 h47 ?_; intro v2 w6 hown hgr hat; rw [bc_bytes] at hown; have hl : X.size = X.data.toList.length := (bytes_len X).symm; rw [hl] at hown; obtain ⟨hfz, ⟨u, hcu⟩, hPx, hKv⟩ := HPd.out.grew hown hgr hat; obtain ⟨A2, m2, k2, hv2⟩ := own_any hown; subst hv2; have HR2 := Lib.hid (And.intro hPx (Kv.after (grown_drew (grown_refl wr none)) hKv)); clear hown hgr hat hPx hKv hl)
            go_wp2_with fail
            go_meet
            exact ⟨_, Lib.hid (by obtain ⟨h1, h2, h3, h4, h5⟩ := HP.out; exact HR.out.flush h1 h2 h3 h4 h5 (by rw [← HX.out]; exact HR2.out.1) hB HR2.out.2)⟩
          · have hri2 : ¬ (r : Int) < s.size := by omega
            go_wp2_with fail
            go_meet
            exact ⟨v1, Lib.hid (HR.out.flat (by omega))⟩
        case rest =>
          clear HR
          obtain ⟨v2, HR⟩ := hcut
          obtain ⟨od, h1, h3, h4, h5⟩ := HR.out.done
          have hlen : (T ++ Css.enc [q] ++ Css.enc od).length ≤ T.length + 1 + 8 * s.size := by
            rw [List.length_append, List.length_append, HQ.out.2.2]
            omega
          have h63 : (T ++ Css.enc [q] ++ Css.enc od).length + 1 ≤ maxLen := by unfold maxLen; omega
          have h47 : ((T ++ Css.enc [q] ++ Css.enc od).length + 1) * 1 ≤ 140737488355328 := by omega
          have HK := Lib.hid HR.out.kept
          obtain ⟨c3, c6, c7, c9, c15⟩ := h1.cells
          have HP := Lib.hid (And.intro h1 (And.intro h3 h4))
          clear h1 h3 h4 h5 hlen c3 c6 c7 c9 HR
          go_wp2_with ((at_builtin; refine wpList_append_src rfl base (.tmp 231) (.tmp 233) 117 117 5 i0 z0 1 1 rfl Tryz.underlying117 HI.out.1 HI.out.2.1 HI.out.2.2.1 HI.out.2.2.2.1 HI.out.2.2.2.2 h01 v2 (T ++ Css.enc [q] ++ Css.enc od).length (bc (T ++ Css.enc [q] ++ Css.enc od)) rfl _ 1 [.int .u8 q] rfl (Src.block Tryz.underlying117 _ [.int .u8 q] 5 (new_blk' rfl) rfl (by intro u hu; simp at hu; subst hu; rfl)) (HP.out.1.alloc _).own (HP.out.1.alloc _).base h63 h47 ?_; intro v3 w4 hown hgr hat; have hown : w4.ownsRow base 5 1 v3 ((T ++ Css.enc [q] ++ Css.enc od).length + (Css.enc [q]).length) (bc (T ++ Css.enc [q] ++ Css.enc od) ++ bc (Css.enc [q])) := (by rw [HQ.out.2.1, HQ.out.2.2]; exact hown); obtain ⟨hfz, ⟨u, hcu⟩, hPx, hKv⟩ := (HP.out.1.alloc _).grew (t := Css.enc [q]) hown hgr hat; obtain ⟨A1, m1, k1, hv1⟩ := own_any hown; subst hv1; have HR := Lib.hid (And.intro hPx (Kv.after (grown_alloc (grown_refl wc none) _) hKv)); clear hown hgr hat hPx hKv))
          go_end0
          have e : T ++ Css.enc (q :: (od ++ [q])) = T ++ Css.enc [q] ++ Css.enc od ++ Css.enc [q] := by
            simp [Css.enc]
          exact ⟨rfl, _, od, by have := HP.out.2.1 [] rfl; rwa [List.append_nil] at this, HP.out.2.2, by rw [e]; exact HR.out.1, HK.out.trans HR.out.2⟩
    | cons c U =>
      obtain ⟨hps, _, hat1⟩ := HR.out.at_.step (HR.out.valid c (by simp))
      have hc := HR.out.valid c (by simp)
      have hwc := Css.width_pos c
      have hw4 : (Css.width c : Int) ≤ 4 := by have := enc1_le c; rw [Css.enc1_length] at this; omega
      have hwe : p + Css.width c + Css.wd U = s.size := hat1.2
      have hext := extract_at HR.out.at_
      have hext2 : (s.extract p s.size).data.toList = Css.enc (c :: U) := by rw [hext]; simp [Css.enc]
      have H100 := Lib.hid (c100 HR.out.env.tabs hext2 hc)
      have HX := Lib.hid hext
      have hlt : (p : Int) < s.size := by omega
      clear hat1 hext hext2
      go_upto_region 20 with (fail)
      refine H100.out.mono ?_
      rintro e w1 ⟨rfl, hg1⟩
      have HR1 : Hid (QR F B w base g ws asc v T s V q p r (c :: U) v1 w1) := Lib.hid (HR.out.free hg1)
      clear HR H100 hg1
      go_upto_block 2 with (fail)
      go_cut [15] (fun v15 wc => (∃ es, v15 = .int .u8 (escV es) ∧ Css.legitS q c es ∧ (es ≠ .hex → asc = true → c < 128)) ∧ w1.grownBy wc none)
      case first =>
        as_aux_lemma =>
          have t0 : (c == 0) = false := beq_eq_false_iff_ne.2 (by have := hc.1; omega)
          cases t13 : (c == 13) with
          | true =>
            have HL : Hid (Css.legitS q c .hex) := Lib.hid (by
              have : c = 13 := by simpa using t13
              show c < 1048576
              omega)
            have HA : Hid (Css.Esc.hex ≠ .hex → asc = true → c < 128) := Lib.hid (fun h => absurd rfl h)
            go_wp2_with fail
            go_meet
            exact ⟨⟨.hex, rfl, HL.out, HA.out⟩, grown_refl _ _⟩
          | false =>
            cases t10 : (c == 10) with
            | true =>
              have HL : Hid (Css.legitS q c .hex) := Lib.hid (by
                have : c = 10 := by simpa using t10
                show c < 1048576
                omega)
              have HA : Hid (Css.Esc.hex ≠ .hex → asc = true → c < 128) := Lib.hid (fun h => absurd rfl h)
              go_wp2_with fail
              go_meet
              exact ⟨⟨.hex, rfl, HL.out, HA.out⟩, grown_refl _ _⟩
            | false =>
              cases t12 : (c == 12) with
              | true =>
                have HL : Hid (Css.legitS q c .hex) := Lib.hid (by
                  have : c = 12 := by simpa using t12
                  show c < 1048576
                  omega)
                have HA : Hid (Css.Esc.hex ≠ .hex → asc = true → c < 128) := Lib.hid (fun h => absurd rfl h)
                go_wp2_with fail
                go_meet
                exact ⟨⟨.hex, rfl, HL.out, HA.out⟩, grown_refl _ _⟩
              | false =>
                have hnl : Css.isNewline c = false := by simp only [Css.isNewline, t13, t10, t12]; rfl
                cases t92 : (c == 92) with
                | true =>
                  have HL : Hid (Css.legitS q c .back) := Lib.hid hnl
                  have HA : Hid (Css.Esc.back ≠ .hex → asc = true → c < 128) := Lib.hid (fun _ _ => by
                    have : c = 92 := by simpa using t92
                    omega)
                  go_wp2_with fail
                  go_meet
                  exact ⟨⟨.back, rfl, HL.out, HA.out⟩, grown_refl _ _⟩
                | false =>
                  cases tq : (c == q) with
                  | true =>
                    have HL : Hid (Css.legitS q c .back) := Lib.hid hnl
                    have HA : Hid (Css.Esc.back ≠ .hex → asc = true → c < 128) := Lib.hid (fun _ _ => by
                      have : c = q := by simpa using tq
                      omega)
                    go_wp2_with fail
                    go_meet
                    exact ⟨⟨.back, rfl, HL.out, HA.out⟩, grown_refl _ _⟩
                  | false =>
                    have HL : Hid (Css.legitS q c .none) := Lib.hid ⟨by simpa using tq, by simpa using t92, hnl⟩
                    have hqz : (q == 0) = false := beq_eq_false_iff_ne.2 (by rcases HQ.out.1 with h | h <;> omega)
                    cases t40 : (c == 40) with
                    | true =>
                      have HA : Hid (Css.Esc.none ≠ .hex → asc = true → c < 128) := Lib.hid (fun _ _ => by
                        have : c = 40 := by simpa using t40
                        omega)
                      go_wp2_with fail
                      go_meet
                      exact ⟨⟨.none, rfl, HL.out, HA.out⟩, grown_refl _ _⟩
                    | false =>
                      cases t41 : (c == 41) with
                      | true =>
                        have HA : Hid (Css.Esc.none ≠ .hex → asc = true → c < 128) := Lib.hid (fun _ _ => by
                          have : c = 41 := by simpa using t41
                          omega)
                        go_wp2_with fail
                        go_meet
                        exact ⟨⟨.none, rfl, HL.out, HA.out⟩, grown_refl _ _⟩
                      | false =>
                        cases t32 : (c == 32) with
                        | true =>
                          have HA : Hid (Css.Esc.none ≠ .hex → asc = true → c < 128) := Lib.hid (fun _ _ => by
                            have : c = 32 := by simpa using t32
                            omega)
                          go_wp2_with fail
                          go_meet
                          exact ⟨⟨.none, rfl, HL.out, HA.out⟩, grown_refl _ _⟩
                        | false =>
                          cases t9 : (c == 9) with
                          | true =>
                            have HA : Hid (Css.Esc.none ≠ .hex → asc = true → c < 128) := Lib.hid (fun _ _ => by
                              have : c = 9 := by simpa using t9
                              omega)
                            go_wp2_with fail
                            go_meet
                            exact ⟨⟨.none, rfl, HL.out, HA.out⟩, grown_refl _ _⟩
                          | false =>
                            cases t34 : (c == 34) with
                            | true =>
                              have HA : Hid (Css.Esc.none ≠ .hex → asc = true → c < 128) := Lib.hid (fun _ _ => by
                                have : c = 34 := by simpa using t34
                                omega)
                              go_wp2_with fail
                              go_meet
                              exact ⟨⟨.none, rfl, HL.out, HA.out⟩, grown_refl _ _⟩
                            | false =>
                              cases t39 : (c == 39) with
                              | true =>
                                have HA : Hid (Css.Esc.none ≠ .hex → asc = true → c < 128) := Lib.hid (fun _ _ => by
                                  have : c = 39 := by simpa using t39
                                  omega)
                                go_wp2_with fail
                                go_meet
                                exact ⟨⟨.none, rfl, HL.out, HA.out⟩, grown_refl _ _⟩
                              | false =>
                                cases t47 : (c == 47) with
                                | true =>
                                  have HA : Hid (∀ e : Css.Esc, e ≠ .hex → asc = true → c < 128) := Lib.hid (fun _ _ _ => by
                                    have : c = 47 := by simpa using t47
                                    omega)
                                  have HLB : Hid (Css.legitS q c .back) := Lib.hid hnl
                                  obtain ⟨od, Bp, hPx, _⟩ := HR1.out.px
                                  have c5 := hPx.feat
                                  have HT := Lib.hid HR1.out.env.tabs
                                  clear hPx
                                  by_cases hp1 : (1 : Int) ≤ p
                                  · obtain ⟨k, hk⟩ : ∃ k : Nat, p = k + 1 := ⟨p - 1, by omega⟩
                                    have e1 : (p : Int) - 1 = (k : Int) := by omega
                                    have hks : k < s.size := by omega
                                    have hb := bt_at s k
                                    have hb0 := bt_lo s k
                                    have hb1 := bt_hi s k
                                    generalize bt s k = b at hb hb0 hb1
                                    clear hk
                                    cases tb : (b == 60) with
                                    | false =>
                                      go_wp2_with fail
                                      refine (c101 _).mono ?_
                                      rintro e w' ⟨rfl, rfl⟩
                                      go_wp2_with fail
                                      go_meet
                                      exact ⟨⟨.none, rfl, HL.out, HA.out _⟩, grown_refl _ _⟩
                                    | true =>
                                      by_cases h6 : (p : Int) + 6 ≤ s.size
                                      · have hz : (s.extract (p + 1) (p + 6)).size = 5 := by
                                          rw [← bytes_len, Lib.extract_data, List.length_take, List.length_drop, bytes_len]
                                          omega
                                        have H102 := Lib.hid (fun tt htt => c102 HT.out (s.extract (p + 1) (p + 6)) tt hz htt)
                                        have e2 : ((p : Int) + 1).toNat = p + 1 := by omega
                                        have e3 : ((p : Int) + 6).toNat = p + 6 := by omega
                                        clear hz
                                        go_wp2_with fail
                                        refine (c101 _).mono ?_
                                        rintro e w' ⟨rfl, rfl⟩
                                        go_wp2_with fail
                                        refine (H102.out _ (by rfl)).mono ?_
                                        rintro e w2 ⟨b2, rfl, hg2⟩
                                        have HG := Lib.hid hg2
                                        clear hg2
                                        cases b2 with
                                        | false =>
                                          go_wp2_with fail
                                          go_meet
                                          exact ⟨⟨.none, rfl, HL.out, HA.out _⟩, HG.out⟩
                                        | true =>
                                          go_wp2_with fail
                                          go_meet
                                          exact ⟨⟨.back, rfl, HLB.out, HA.out _⟩, HG.out⟩
                                      · go_wp2_with fail
                                        refine (c101 _).mono ?_
                                        rintro e w' ⟨rfl, rfl⟩
                                        go_wp2_with fail
                                        go_meet
                                        exact ⟨⟨.none, rfl, HL.out, HA.out _⟩, grown_refl _ _⟩
                                  · go_wp2_with fail
                                    refine (c101 _).mono ?_
                                    rintro e w' ⟨rfl, rfl⟩
                                    go_wp2_with fail
                                    go_meet
                                    exact ⟨⟨.none, rfl, HL.out, HA.out _⟩, grown_refl _ _⟩
                                | false =>
                                  obtain ⟨od, Bp, hPx, _⟩ := HR1.out.px
                                  obtain ⟨c3, c6, c7, c9, c15⟩ := hPx.cells
                                  have HLO := Lib.hid HR1.out.low
                                  clear hPx c3 c6 c9 c15
                                  cases tf : (c == 65279) with
                                  | true =>
                                    have HL2 : Hid (Css.legitS q c .hex) := Lib.hid (by
                                      have : c = 65279 := by simpa using tf
                                      show c < 1048576
                                      omega)
                                    by_cases h128 : 128 ≤ c <;> cases asc
                                    all_goals
                                      go_wp2_with fail
                                      go_meet
                                      exact ⟨⟨.hex, rfl, HL2.out, fun h => absurd rfl h⟩, grown_refl _ _⟩
                                  | false =>
                                    by_cases h128 : 128 ≤ c
                                    · cases asc with
                                      | true =>
                                        have HL2 : Hid (Css.legitS q c .hex) := Lib.hid (HLO.out rfl c (by simp))
                                        go_wp2_with fail
                                        go_meet
                                        exact ⟨⟨.hex, rfl, HL2.out, fun h => absurd rfl h⟩, grown_refl _ _⟩
                                      | false =>
                                        go_wp2_with fail
                                        go_meet
                                        exact ⟨⟨.none, rfl, HL.out, fun _ h => by cases h⟩, grown_refl _ _⟩
                                    · have HA : Hid (c < 128) := Lib.hid (by omega)
                                      cases asc
                                      all_goals
                                        go_wp2_with fail
                                        go_meet
                                        exact ⟨⟨.none, rfl, HL.out, fun _ _ => HA.out⟩, grown_refl _ _⟩
      case rest =>
        obtain ⟨⟨es, rfl, hl, ha⟩, hgc⟩ := hcut
        have HR2 : Hid (QR F B w base g ws asc v T s V q p r (c :: U) v1 wc) := Lib.hid (HR1.out.free hgc)
        have HE := Lib.hid (And.intro hl ha)
        clear HR1 hl ha hgc
        cases te : (escV es != 0) with
        | false =>
          have hes : es = .none := escV_none.1 (by simpa using te)
          have HR3 : Hid (QR F B w base g ws asc v T s V q (p + Css.width c) r U v1 wc) := Lib.hid (by
            have h1 := HE.out
            rw [hes] at h1
            exact HR2.out.plain h1.1 (h1.2 (by simp)))
          clear hes
          go_wp2_with fail
          go_roundg (s.size - (p + Css.width c))
          case measure => omega
          case rel => exact ⟨p + Css.width c, r, U, v1, by go_num, rfl, rfl, by omega, by omega, HR3⟩
        | true =>
          go_upto_if 185 with (fail)
          go_cut [] (fun wd => ∃ v2, Hid (QR F B w base g ws asc v T s V q p p (c :: U) v2 wd))
          case first =>
            · by_cases hr : r < p
              · have hri2 : (r : Int) < p := by omega
                obtain ⟨od, Bp, h1, h2, h3, h4, h5⟩ := HR2.out.px
                have hlen := quote_len (T := T) (q := q) (show (Bp ++ (s.data.toList.drop r).take (p - r)).length ≤ 8 * p by rw [h2]; exact h5)
                have HP := Lib.hid (And.intro h1 (And.intro h2 (And.intro h3 (And.intro h4 h5))))
                have HPd := Lib.hid (h1.free (grown_drew (grown_refl wc none)))
                obtain ⟨c3, c6, c7, c9, c15⟩ := h1.cells
                have hex : (s.extract r p).size = p - r := by rw [← bytes_len, Lib.extract_data, List.length_take, List.length_drop, bytes_len]; omega
                obtain ⟨X, hX⟩ : ∃ X, X = s.extract r p := ⟨_, rfl⟩
                rw [← hX] at hex
                have h63 : (T ++ Css.enc [q] ++ Bp).length + X.size ≤ maxLen := by unfold maxLen; omega
                have h47 : ((T ++ Css.enc [q] ++ Bp).length + X.size) * 1 ≤ 140737488355328 := by omega
                have HX := Lib.hid hX
                clear h1 h2 h3 h4 h5 hlen hex hX c3 c6 c7 c9
                go_wp2_with fail
                go_region_law (refine step_append_src rfl base (.tmp 190) (.tmp 194) 117 9 5 i0 z0 1 1 rfl Tryz.underlying117 HI.out.1 HI.out.2.1 HI.out.2.2.1 HI.out.2.2.2.1 HI.out.2.2.2.2 h01 v1 (T ++ Css.enc [q] ++ Bp).length (bc (T ++ Css.enc [q] ++ Bp)) (by simp [Act.eval, Act.put]) _ X.size (byteCells X) (by simp [Act.eval, Act.put, HX.out]) (Src.ofString _ Tryz.underlying9 X) HPd.out.own HPd.out.base h63 h47 ?_; intro v2 w6 hown hgr hat; rw [bc_bytes] at hown; have hl : X.size = X.data.toList.length := (bytes_len X).symm; rw [hl] at hown; obtain ⟨hfz, ⟨u, hcu⟩, hPx, hKv⟩ := HPd.out.grew hown hgr hat; obtain ⟨A2, m2, k2, hv2⟩ := own_any hown; subst hv2; have HZ := Lib.hid (And.intro hPx (Kv.after (grown_drew (grown_refl wc none)) hKv)); clear hown hgr hat hPx hKv hl)
                go_wp2_with fail
                go_meet
                exact ⟨_, Lib.hid (by obtain ⟨h1, h2, h3, h4, h5⟩ := HP.out; exact HR2.out.flush h1 h2 h3 h4 h5 (by rw [← HX.out]; exact HZ.out.1) hB HZ.out.2)⟩
              · have hri2 : ¬ (r : Int) < p := by omega
                go_wp2_with fail
                go_meet
                exact ⟨v1, Lib.hid (HR2.out.flat (by omega))⟩
          case rest =>
            clear HR2
            obtain ⟨v2, HR2⟩ := hcut
            obtain ⟨od, h1, h3, h4, h5⟩ := HR2.out.done
            have hlen : (T ++ Css.enc [q] ++ Css.enc od).length ≤ T.length + 1 + 8 * p := by
              rw [List.length_append, List.length_append, HQ.out.2.2]
              omega
            have hsz : (s.extract p s.size).size ≤ 1099511627776 := by
              rw [← bytes_len, Lib.extract_to_end, List.length_drop, bytes_len]
              omega
            have H103 := Lib.hid (c103 h1 F HR2.out.env.ans c hc es (s.extract p s.size) U HX.out (fun d hd => HR2.out.valid d (by simp [hd])) hsz false (by omega))
            have HP := Lib.hid h1
            have HD := Lib.hid (And.intro h3 (And.intro h4 h5))
            clear h1 h3 h4 h5 hlen hsz
            go_wp2_with fail
            refine H103.out.mono ?_
            rintro e w3 ⟨rfl, v3, hP3, hK3⟩
            have HR3 : Hid (QR F B w base g ws asc v T s V q (p + Css.width c) (p + Css.width c) U v3 w3) := Lib.hid (HR2.out.esc HE.out.1 HE.out.2 HP.out HD.out.1 HD.out.2.1 HD.out.2.2 hP3 hB hK3)
            clear hP3 hK3
            go_wp2_with fail
            go_roundg (s.size - (p + Css.width c))
            case measure => omega
            case rel => exact ⟨p + Css.width c, p + Css.width c, U, v3, by go_num, by go_num, rfl, Nat.le_refl _, by omega, HR3⟩
end Go.Proofs.YtkfdcbdlcipmfaaGreatFmt
