/- printIdent: what the first code point is printed as. -/
import Derived.Test.YtkfdcbdlcipmfaaGreatFmtGV
import Derived.Test.YtkfdcbdlcipmfaaGreatFmtGS
set_option linter.unusedVariables false
set_option linter.unusedSimpArgs false
namespace Go.Proofs.YtkfdcbdlcipmfaaGreatFmt
open Go.RowKit Go.Extern.Stop Go.Stop Go.Extern

theorem escOf_hi {asc : Bool} {f : Option Css.Esc} {c : Int} (h : (asc && decide (128 ≤ c)) = true) : Css.escOf asc f c = .hex := by
  unfold Css.escOf
  rw [if_pos h]
theorem escOf_mid {asc : Bool} {f : Option Css.Esc} {c : Int} (h : (asc && decide (128 ≤ c)) = false) (h2 : (c == 13 || c == 10 || c == 12 || c == 65279) = true) : Css.escOf asc f c = .hex := by
  unfold Css.escOf
  rw [h, if_neg (by simp), if_pos h2]
theorem escOf_lo {asc : Bool} {f : Option Css.Esc} {c : Int} (h : (asc && decide (128 ≤ c)) = false) (h2 : (c == 13 || c == 10 || c == 12 || c == 65279) = false) : Css.escOf asc f c = f.getD (if Css.continues c then .none else .back) := by
  unfold Css.escOf
  rw [h, if_neg (by simp), h2, if_neg (by simp)]
theorem escV_none {e : Css.Esc} : escV e = 0 ↔ e = .none := by cases e <;> simp [escV]
structure IdR (F : Interp) (B : Nat) (w : World) (base g : Nat) (ws asc : Bool) (v : Value) (T : List UInt8) (s : ByteArray) (V : List Int) (mode : Nat) (need : Bool) (ib p : Nat) (U : List Int) (v1 : Value) (wr : World) : Prop where
  at_ : At s p U
  start : p = 0 → U = V
  valid : ∀ c ∈ U, Css.Valid c
  iter : wr.heap[ib]? = some (.stringIter s p)
  env : Env F B wr
  kept : Kv w wr g v v1
  px : ∃ X, Px wr base g ws asc v1 (T ++ Css.enc X) ∧ X ++ leftI mode asc need p U = Css.pIdent mode asc need V ∧ (Css.enc X).length ≤ 8 * p
theorem IdR.next {F : Interp} {B : Nat} {w : World} {base g : Nat} {ws asc : Bool} {v : Value} {T : List UInt8} {s : ByteArray} {V : List Int} {mode : Nat} {need : Bool} {ib p : Nat} {c : Int} {U : List Int} {v1 : Value} {wr : World}
    (h : IdR F B w base g ws asc v T s V mode need ib p (c :: U) v1 wr) (hib : w.heap.size ≤ ib) (hB : B ≤ ib) :
    ∃ W1, (∀ ty, (Instr.next (.pointer (some ⟨ib, 0, none⟩)) true ty).run Tryz.prog wr = .ok (.tuple #[.bool true, .int .i64 p, .int .i32 c]) W1) ∧ p < s.size ∧ At s (p + Css.width c) U ∧ W1.heap[ib]? = some (.stringIter s (p + Css.width c)) ∧ Env F B W1 ∧ Kv w W1 g v v1 ∧
      ∃ X, Px W1 base g ws asc v1 (T ++ Css.enc X) ∧ X ++ leftI mode asc need p (c :: U) = Css.pIdent mode asc need V ∧ (Css.enc X).length ≤ 8 * p := by
  have hc := h.valid c (by simp)
  obtain ⟨h1, h2, h3⟩ := h.at_.step hc
  obtain ⟨X, hX, hX2, hX3⟩ := h.px
  refine ⟨wr.iterAt ib s (p + Css.width c), fun ty => ?_, h1, h3, Lib.iterAt_heap _ _ _ _ _ h.iter, h.env.row (row_iter _ _ _ _) hB, h.kept.row (row_iter _ _ _ _) hib, X, hX.iter h.iter _, hX2, hX3⟩
  rw [Lib.run_next_any_at wr ib s p ty h.iter h1, h2]
  have := hc.1
  simp only
  rw [show ((c.toNat : Nat) : Int) = c by omega]

theorem IdR.step {F : Interp} {B : Nat} {w : World} {base g : Nat} {ws asc : Bool} {v : Value} {T : List UInt8} {s : ByteArray} {V : List Int} {mode : Nat} {need : Bool} {ib p : Nat} {c : Int} {U : List Int} {v1 v2 : Value} {W1 w2 : World} {es : Css.Esc} {nb : Bool}
    (hB : B ≤ g) (hc : Css.Valid c) (hU : ∀ d ∈ U, Css.Valid d) (h1 : At s (p + Css.width c) U) (h2 : W1.heap[ib]? = some (.stringIter s (p + Css.width c))) (h3 : Env F B W1) (h4 : Kv w W1 g v v1) {X : List Int} (h5 : Px W1 base g ws asc v1 (T ++ Css.enc X))
    (h6 : X ++ leftI mode asc need p (c :: U) = Css.pIdent mode asc need V) (h7 : (Css.enc X).length ≤ 8 * p) (hes : Css.escOf asc (firstE mode p (c :: U)) c = es) (hnb : U = [] → es ≠ .none → nb = need)
    (hP : Px w2 base g ws asc v2 (T ++ Css.enc X ++ Css.enc (Css.pEsc c es U nb))) (hK : Kv W1 w2 g v1 v2) : IdR F B w base g ws asc v T s V mode need ib (p + Css.width c) U v2 w2 := by
  have hw := Css.width_pos c
  refine ⟨h1, fun h => by omega, hU, h5.keepIter hK h2, h3.step h5 hB hK, h4.trans hK, X ++ Css.pEsc c es U nb, ?_, ?_, ?_⟩
  · rw [Css.enc_append, ← List.append_assoc]; exact hP
  · rw [← h6, leftI_cons, hes, List.append_assoc, pEsc_need hnb]
  · have := enc_pEsc_le hc es U nb
    rw [Css.enc_append, List.length_append]
    omega

set_option maxRecDepth 400000 in
set_option maxHeartbeats 4000000 in
theorem c82 {F : Interp} {B : Nat} {w : World} {base g : Nat} {ws asc : Bool} {v : Value} {T : List UInt8} (h : Px w base g ws asc v T) (hE : Env F B w) (hB : B ≤ g) {s : ByteArray} {V : List Int} (hs : s.data.toList = Css.enc V) (hV : ∀ c ∈ V, Css.Valid c) (hne : V ≠ [])
    (mode : Nat) (hm : mode ≤ 3) (need : Bool) (hss : s.size ≤ 2147483648) (hT : T.length + 8 * s.size + 16 ≤ 35184372088832) :
    Calls Tryz.prog 82 #[.pointer (some ⟨g, 0, none⟩), .string s, .int .u8 (mode : Int), .int .u8 (if need then 0 else 1)] w fun e' w' => e' = .returned (.tuple #[]) ∧ ∃ v', Px w' base g ws asc v' (T ++ Css.enc (Css.pIdent mode asc need V)) ∧ Kv w w' g v v' := by
  have HN := Lib.hid (And.intro h (And.intro hE (And.intro hs (And.intro hV hne))))
  have H114 : Hid (∀ W, w.grownBy W none → Calls Tryz.prog 114 #[.string s] W fun e w' => e = .returned (.bool (Css.wouldStart V)) ∧ W.grownBy w' none) := Lib.hid fun W hg => c114 (hE.free hg).tabs hs hV hne
  generalize hmi : (mode : Int) = mi
  have HM := Lib.hid hmi
  clear hmi
  generalize hnd : (if need then (0 : Int) else 1) = nd
  have HND := Lib.hid hnd
  clear h hE hs hV hne hnd
  go_enter Tryz.func82, Tryz.ntmps82
  go_upto_block 0 with (fail)
  go_cut [9] (fun v9 wc => v9 = .int .u8 (escO (Css.firstEsc mode V)) ∧ w.grownBy wc none)
  case first =>
    as_aux_lemma =>
      obtain ⟨hP0, hE0, hs0, hV0, hne0⟩ := HN.out
      have hsp : 0 < s.size := by
        cases V with
        | nil => exact absurd rfl hne0
        | cons c U => exact (byte_at (k := 0) hs0 (hV0 c (by simp))).1
      clear hP0 hE0 hs0 hV0 hne0
      rcases (show mode = 0 ∨ mode = 1 ∨ mode = 2 ∨ mode = 3 by omega) with rfl | rfl | rfl | rfl
      · obtain rfl : 0 = mi := by simpa using HM.out
        cases hw : Css.wouldStart V with
        | false =>
          have HF : Hid (escO (Css.firstEsc 0 V) = 1) := Lib.hid (by simp [Css.firstEsc, hw, escO, escV])
          go_wp2_with fail
          refine (H114.out _ (grown_refl _ _)).mono ?_
          rintro e w' ⟨rfl, hg⟩
          have HG := Lib.hid hg
          clear hg
          rw [hw]
          go_wp2_with fail
          go_meet
          exact ⟨by rw [HF.out], HG.out⟩
        | true =>
          have HF : Hid (escO (Css.firstEsc 0 V) = 0) := Lib.hid (by simp [Css.firstEsc, hw, escO, escV])
          go_wp2_with fail
          refine (H114.out _ (grown_refl _ _)).mono ?_
          rintro e w' ⟨rfl, hg⟩
          have HG := Lib.hid hg
          clear hg
          rw [hw]
          go_wp2_with fail
          go_meet
          exact ⟨by rw [HF.out], HG.out⟩
      · obtain rfl : 1 = mi := by simpa using HM.out
        go_wp2_with fail
        go_meet
        exact ⟨by simp [Css.firstEsc, escO], grown_refl _ _⟩
      · obtain rfl : 2 = mi := by simpa using HM.out
        cases hw : Css.wouldStart V with
        | false =>
          have HF : Hid (escO (Css.firstEsc 2 V) = 1) := Lib.hid (by simp [Css.firstEsc, hw, escO, escV])
          go_wp2_with fail
          refine (H114.out _ (grown_refl _ _)).mono ?_
          rintro e w' ⟨rfl, hg⟩
          have HG := Lib.hid hg
          clear hg
          rw [hw]
          go_wp2_with fail
          go_meet
          exact ⟨by rw [HF.out], HG.out⟩
        | true =>
          cases V with
          | nil => exact absurd rfl HN.out.2.2.2.2
          | cons c U =>
            obtain ⟨h1, h2, h3, h4⟩ := unit_first HN.out.2.2.1 (HN.out.2.2.2.1 c (by simp)) hw
            have hb0 := bt_at s 0
            generalize bt s 0 = b0 at h2 h3 h4 hb0
            cases t1 : (c == 101) <;> cases t2 : (c == 69)
            · have HF : Hid (escO (Css.firstEsc 2 (c :: U)) = 0) := Lib.hid (by simp [Css.firstEsc, hw, escO, escV, Css.pk_cons_zero, t1, t2])
              rw [t1] at h3
              rw [t2] at h4
              clear t1 t2
              by_cases a1 : 48 ≤ b0 <;> by_cases a2 : b0 ≤ 57
              · exact absurd ⟨a1, a2⟩ h2
              all_goals
                first
                  | (exfalso; omega)
                  | skip
              all_goals
                clear h2
                go_wp2_with fail
                refine (H114.out _ (grown_refl _ _)).mono ?_
                rintro e w' ⟨rfl, hg⟩
                have HG := Lib.hid hg
                clear hg
                rw [hw]
                go_wp2_with fail
                go_meet
                exact ⟨by rw [HF.out], HG.out⟩
            all_goals
              first
                | (exfalso; simp only [beq_iff_eq] at t1 t2; omega)
                | skip
            all_goals
              have hc128 : c < 128 := by simp only [beq_iff_eq] at t1 t2; omega
              have hu := unit_e HN.out.2.2.1 (HN.out.2.2.2.1 c (by simp)) hc128 (fun d hd => HN.out.2.2.2.1 d (by simp [hd]))
              have hF : Css.firstEsc 2 (c :: U) = if (Css.isDigit (Css.pk 0 U) || (Css.pk 0 U == 45 && Css.isDigit (Css.pk 1 U))) = true then some .hex else none := by
                simp only [Css.firstEsc, hw, Css.pk_cons_zero, Css.pk_cons_succ, t1, t2]
                simp
              rw [t1] at h3
              rw [t2] at h4
              have a1 : ¬ b0 ≤ 57 := by
                first
                  | (have : b0 = 101 := by simpa using h3
                     omega)
                  | (have : b0 = 69 := by simpa using h4
                     omega)
              have a0 : 48 ≤ b0 := by omega
              clear t1 t2 h2 hc128
              have hb1 := bt_at s 1
              have hb2 := bt_at s 2
              rcases hu with ⟨g, e⟩ | ⟨g, g1, g2, e⟩ | ⟨g, g1, g2, e⟩ | ⟨g, g2, e⟩ | ⟨g, g2, g3, e⟩ | ⟨g, g2, g3, g4, e⟩
              · have HF : Hid (escO (Css.firstEsc 2 (c :: U)) = 0) := Lib.hid (by rw [hF, e]; rfl)
                clear hF e
                have l2 : ¬ (2 : Int) ≤ s.size := by omega
                have l3 : ¬ (3 : Int) ≤ s.size := by omega
                clear g
                go_wp2_with fail
                refine (H114.out _ (grown_refl _ _)).mono ?_
                rintro e w' ⟨rfl, hg⟩
                have HG := Lib.hid hg
                clear hg
                rw [hw]
                go_wp2_with fail
                go_meet
                exact ⟨by rw [HF.out], HG.out⟩
              · have HF : Hid (escO (Css.firstEsc 2 (c :: U)) = 2) := Lib.hid (by rw [hF, e]; rfl)
                clear hF e
                have l2 : (2 : Int) ≤ s.size := by omega
                have l1 : 1 < s.size := by omega
                generalize bt s 1 = b1 at g1 g2 hb1
                clear hb2 g
                go_wp2_with fail
                refine (H114.out _ (grown_refl _ _)).mono ?_
                rintro e w' ⟨rfl, hg⟩
                have HG := Lib.hid hg
                clear hg
                rw [hw]
                go_wp2_with fail
                go_meet
                exact ⟨by rw [HF.out], HG.out⟩
              · have HF : Hid (escO (Css.firstEsc 2 (c :: U)) = 0) := Lib.hid (by rw [hF, e]; rfl)
                clear hF e
                have l2 : (2 : Int) ≤ s.size := by omega
                have l1 : 1 < s.size := by omega
                generalize bt s 1 = b1 at g1 g2 hb1
                clear hb2 g
                by_cases l3 : (3 : Int) ≤ s.size <;> by_cases d1 : 48 ≤ b1 <;> by_cases d2 : b1 ≤ 57
                all_goals
                  first
                    | (exfalso; first | omega | (simp [d1, d2] at g1; done))
                    | skip
                all_goals
                  clear g1
                  go_wp2_with fail
                  refine (H114.out _ (grown_refl _ _)).mono ?_
                  rintro e w' ⟨rfl, hg⟩
                  have HG := Lib.hid hg
                  clear hg
                  rw [hw]
                  go_wp2_with fail
                  go_meet
                  exact ⟨by rw [HF.out], HG.out⟩
              · have HF : Hid (escO (Css.firstEsc 2 (c :: U)) = 0) := Lib.hid (by rw [hF, e]; rfl)
                clear hF e
                have l2 : (2 : Int) ≤ s.size := by omega
                have l1 : 1 < s.size := by omega
                have l3 : ¬ (3 : Int) ≤ s.size := by omega
                rw [g2] at hb1
                clear hb2 g g2
                go_wp2_with fail
                refine (H114.out _ (grown_refl _ _)).mono ?_
                rintro e w' ⟨rfl, hg⟩
                have HG := Lib.hid hg
                clear hg
                rw [hw]
                go_wp2_with fail
                go_meet
                exact ⟨by rw [HF.out], HG.out⟩
              · have HF : Hid (escO (Css.firstEsc 2 (c :: U)) = 0) := Lib.hid (by rw [hF, e]; rfl)
                clear hF e
                have l3 : (3 : Int) ≤ s.size := by omega
                have l2 : (2 : Int) ≤ s.size := by omega
                have l1 : 1 < s.size := by omega
                have l0 : 2 < s.size := by omega
                rw [g2] at hb1
                generalize bt s 2 = b2 at g3 hb2
                clear g g2
                by_cases d1 : 48 ≤ b2 <;> by_cases d2 : b2 ≤ 57
                all_goals
                  first
                    | (exfalso; first | omega | (simp [d1, d2] at g3; done))
                    | skip
                all_goals
                  clear g3
                  go_wp2_with fail
                  refine (H114.out _ (grown_refl _ _)).mono ?_
                  rintro e w' ⟨rfl, hg⟩
                  have HG := Lib.hid hg
                  clear hg
                  rw [hw]
                  go_wp2_with fail
                  go_meet
                  exact ⟨by rw [HF.out], HG.out⟩
              · have HF : Hid (escO (Css.firstEsc 2 (c :: U)) = 2) := Lib.hid (by rw [hF, e]; rfl)
                clear hF e
                have l3 : (3 : Int) ≤ s.size := by omega
                have l2 : (2 : Int) ≤ s.size := by omega
                have l1 : 1 < s.size := by omega
                have l0 : 2 < s.size := by omega
                rw [g2] at hb1
                generalize bt s 2 = b2 at g3 g4 hb2
                clear g g2
                go_wp2_with fail
                refine (H114.out _ (grown_refl _ _)).mono ?_
                rintro e w' ⟨rfl, hg⟩
                have HG := Lib.hid hg
                clear hg
                rw [hw]
                go_wp2_with fail
                go_meet
                exact ⟨by rw [HF.out], HG.out⟩
      · obtain rfl : 3 = mi := by simpa using HM.out
        cases hw : Css.wouldStart V with
        | false =>
          have HF : Hid (escO (Css.firstEsc 3 V) = 1) := Lib.hid (by simp [Css.firstEsc, hw, escO, escV])
          go_wp2_with fail
          refine (H114.out _ (grown_refl _ _)).mono ?_
          rintro e w' ⟨rfl, hg⟩
          have HG := Lib.hid hg
          clear hg
          rw [hw]
          go_wp2_with fail
          go_meet
          exact ⟨by rw [HF.out], HG.out⟩
        | true =>
          cases V with
          | nil => exact absurd rfl HN.out.2.2.2.2
          | cons c U =>
            obtain ⟨h1, h2, h3, h4⟩ := unit_first HN.out.2.2.1 (HN.out.2.2.2.1 c (by simp)) hw
            have hb0 := bt_at s 0
            generalize bt s 0 = b0 at h2 h3 h4 hb0
            have HF : Hid (escO (Css.firstEsc 3 (c :: U)) = 0) := Lib.hid (by simp [Css.firstEsc, hw, escO, escV])
            clear h3 h4
            cases t1 : (b0 == 101) <;> cases t2 : (b0 == 69) <;> by_cases a1 : 48 ≤ b0 <;> by_cases a2 : b0 ≤ 57
            all_goals
              first
                | (exfalso; omega)
                | (exfalso; simp only [beq_iff_eq] at t1 t2; omega)
                | skip
            all_goals
              clear h2
              go_wp2_with fail
              refine (H114.out _ (grown_refl _ _)).mono ?_
              rintro e w' ⟨rfl, hg⟩
              have HG := Lib.hid hg
              clear hg
              rw [hw]
              go_wp2_with fail
              go_meet
              exact ⟨by rw [HF.out], HG.out⟩
  case rest =>
    obtain ⟨rfl, hgc⟩ := hcut
    have HX : Hid (Px wc base g ws asc v T ∧ Env F B wc ∧ Kv w wc g v v) := Lib.hid ⟨HN.out.1.free hgc, HN.out.2.1.free hgc, Kv.after hgc (Kv.refl wc g v)⟩
    have HV := Lib.hid HN.out.2.2
    clear hgc HN H114
    have hfz := fun h => firstEsc_zero (mode := mode) (V := V) h
    have HFZ := Lib.hid hfz
    clear hfz
    generalize hev : escO (Css.firstEsc mode V) = ev at HFZ
    have HEV := Lib.hid hev
    clear hev
    go_upto_if 81 with (fail)
    go_cut [] (fun wd => wc = wd)
    case first =>
      as_aux_lemma =>
        cases t0 : (ev == 0) with
        | false =>
          go_wp2_with fail
          go_meet
          rfl
        | true =>
          obtain ⟨i0, z0, hi0, hz0, hz1, hz2, hz3⟩ := info5
          have HI := Lib.hid (And.intro hi0 (And.intro hz0 (And.intro hz1 (And.intro hz2 hz3))))
          have h01 : 0 < 1 := by omega
          have h63 : T.length + s.size ≤ maxLen := by unfold maxLen; omega
          have h47 : (T.length + s.size) * 1 ≤ 140737488355328 := by omega
          have HFN := Lib.hid (HFZ.out (by simpa using t0))
          clear hi0 hz0 hz1 hz2 hz3
          go_wp2_with fail
          refine wp_scope_fwd 0 rfl (fun Q' a w h => wp_skip h) ?_
          go_wp2_with fail
          go_loopg [11] s.size (fun gk s11 wr => ∃ k : Nat, s11 = .int .i64 k ∧ k ≤ s.size ∧ gk = s.size - k ∧ wc = wr ∧ Hid (∀ i, i < k → bt s i < 128 ∧ Css.continues (bt s i) = true))
          case atStart => exact ⟨0, rfl, by omega, rfl, rfl, Lib.hid fun i hi => absurd hi (by omega)⟩
          case round =>
            obtain ⟨k, rfl, hk, rfl, rfl, HK⟩ := hrel
            by_cases hlt : k < s.size
            · have hb := bt_at s k
              have hb0 := bt_lo s k
              have hb1 := bt_hi s k
              have hbz := bt_pos HV.out.1 HV.out.2.1 hlt
              have HB : Hid (∀ i, i < k + 1 → i < k ∨ bt s i = bt s k) := Lib.hid fun i hi => by
                rcases Nat.lt_succ_iff_lt_or_eq.1 hi with h | h
                · exact .inl h
                · exact .inr (by rw [h])
              generalize bt s k = b at hb hb0 hb1 hbz HB
              by_cases hb2 : 128 ≤ b
              · go_wp2_with fail
                go_step3
                refine ⟨rfl, ?_⟩
                dsimp only
                go_wp2_with fail
                go_meet
                rfl
              · go_wp2_with fail
                refine (c115 b hbz _).mono ?_
                rintro e w' ⟨rfl, rfl⟩
                cases hc : Css.continues b with
                | false =>
                  go_wp2_with fail
                  go_step3
                  refine ⟨rfl, ?_⟩
                  dsimp only
                  go_wp2_with fail
                  go_meet
                  rfl
                | true =>
                  have HK2 : Hid (∀ i, i < k + 1 → bt s i < 128 ∧ Css.continues (bt s i) = true) := Lib.hid fun i hi => by
                    rcases HB.out i hi with h | h
                    · exact HK.out i h
                    · rw [h]; exact ⟨by omega, hc⟩
                  go_wp2_with fail
                  go_roundg (s.size - (k + 1))
                  case measure => omega
                  case rel => exact ⟨k + 1, by go_num, hlt, rfl, rfl, HK2⟩
            · obtain ⟨c3, c6, c7, c9, c15⟩ := HX.out.1.cells
              clear c3 c6 c7 c9
              go_wp2_with ((at_builtin; refine wpList_append_src rfl base (.tmp 102) (.tmp 103) 117 9 5 i0 z0 1 1 rfl Tryz.underlying117 HI.out.1 HI.out.2.1 HI.out.2.2.1 HI.out.2.2.2.1 HI.out.2.2.2.2 h01 v T.length (bc T) rfl _ s.size (byteCells s) rfl (Src.ofString _ Tryz.underlying9 s) HX.out.1.own HX.out.1.base h63 h47 ?_; intro v1 w1 hown hgr hat; rw [bc_bytes] at hown; have hl : s.size = s.data.toList.length := (bytes_len s).symm; rw [hl] at hown; obtain ⟨hfz, ⟨u, hcu⟩, hP, hK⟩ := HX.out.1.grew hown hgr hat; obtain ⟨A1, m1, k1, hv1⟩ := own_any hown; subst hv1; have HR := Lib.hid (And.intro hP (HX.out.2.2.trans hK)); clear hown hgr hat hP hK hl))
              simp only [Exit.jump, Exit.then]
              refine bodyPost_ret (results_none rfl _ _ _) rfl ?_
              have hk' : k = s.size := by omega
              subst hk'
              have hT2 : Css.enc (Css.pIdent mode asc need V) = s.data.toList := by
                rw [pIdent_fast (fast_codes HK.out V 0 HV.out.1 HV.out.2.1) HFN.out, HV.out.1]
              rw [hT2]
              exact ⟨rfl, _, HR.out.1, HR.out.2⟩
    case rest =>
      obtain rfl := hcut
      have HI : Hid (∃ wi ib, wi = wc.iter s 0 ∧ ib = wc.heap.size ∧ w.heap.size ≤ ib ∧ B ≤ ib ∧ IdR F B w base g ws asc v T s V mode need ib 0 V v wi) := Lib.hid ⟨_, _, rfl, rfl, HX.out.2.2.size, HX.out.2.1.le, by
        have hg := grown_iter wc s 0
        refine ⟨⟨?_, ?_⟩, fun _ => rfl, HV.out.2.1, World.iter_heap wc s 0, HX.out.2.1.free hg, HX.out.2.2.free hg, [], ?_, ?_, ?_⟩
        · rw [← HV.out.1]; rfl
        · rw [Nat.zero_add, ← Css.enc_length, ← HV.out.1, bytes_len]
        · simpa [Css.enc] using HX.out.1.free hg
        · simp [leftI]
        · simp [Css.enc]⟩
      obtain ⟨wi, ib, hwi, hib, hib1, hib2, hR⟩ := HI.out
      have HR := Lib.hid hR
      have HW := Lib.hid hwi
      have HB := Lib.hid hib
      clear hwi hib hR HI
      go_wp2_with fail
      rw [← HW.out, ← HB.out]
      clear HW HB
      go_loopg [13, 14, 15, 16] s.size (fun gk s13 s14 s15 s16 wr => ∃ (p : Nat) (U : List Int) (v1 : Value), gk = s.size - p ∧ Hid (IdR F B w base g ws asc v T s V mode need ib p U v1 wr))
      case atStart => exact ⟨0, V, v, rfl, HR⟩
      case round =>
        as_aux_lemma =>
          clear HR
          obtain ⟨p, U, v1, rfl, HR⟩ := hrel
          cases U with
          | nil =>
            have hnx := fun ty => Lib.run_next_end_at (P := Tryz.prog) wr ib s p ty HR.out.iter HR.out.at_.done
            go_wp2_with fail
            go_end0
            obtain ⟨X, hX1, hX2, hX3⟩ := HR.out.px
            rw [leftI_nil, List.append_nil] at hX2
            subst hX2
            exact ⟨rfl, _, hX1, HR.out.kept⟩
          | cons c U =>
            obtain ⟨W1, hnx, hps, hat1, hit1, hE1, hK1, X, hX1, hX2, hX3⟩ := HR.out.next hib1 hib2
            have hc := HR.out.valid c (by simp)
            have hc0 : c ≠ 0 := by have := hc.1; omega
            have HU : Hid ((∀ d ∈ U, Css.Valid d) ∧ (p = 0 → c :: U = V) ∧ At s p (c :: U)) := Lib.hid ⟨fun d hd => HR.out.valid d (by simp [hd]), HR.out.start, HR.out.at_⟩
            have HQ : Hid (At s (p + Css.width c) U ∧ W1.heap[ib]? = some (.stringIter s (p + Css.width c)) ∧ Env F B W1 ∧ Kv w W1 g v v1 ∧ Px W1 base g ws asc v1 (T ++ Css.enc X) ∧ X ++ leftI mode asc need p (c :: U) = Css.pIdent mode asc need V ∧ (Css.enc X).length ≤ 8 * p) := Lib.hid ⟨hat1, hit1, hE1, hK1, hX1, hX2, hX3⟩
            have hwc := Css.width_pos c
            have hwe : p + Css.width c + Css.wd U = s.size := hat1.2
            obtain ⟨c3, c6, c7, c9, c15⟩ := hX1.cells
            clear HR hat1 hit1 hE1 hK1 hX1 hX2 hX3 c3 c6 c9 c15
            go_upto_region 30 with (fail)
            go_cut [121] (fun v121 wc => v121 = .bool (asc && decide (128 ≤ c)) ∧ W1 = wc)
            case first =>
              by_cases h128 : 128 ≤ c <;> cases asc
              all_goals
                go_wp2_with fail
                go_meet
                exact ⟨by simp [h128], rfl⟩
            case rest =>
              obtain ⟨rfl, rfl⟩ := hcut
              clear c7
              generalize hb1 : (asc && decide (128 ≤ c)) = b1
              have HB1 := Lib.hid hb1
              clear hb1
              go_upto_if 121 with (fail)
              go_cut [15] (fun v15 wc => v15 = .int .u8 (escV (Css.escOf asc (firstE mode p (c :: U)) c)) ∧ W1 = wc)
              case first =>
                cases b1 with
                | true =>
                  go_wp2_with fail
                  go_meet
                  exact ⟨by rw [escOf_hi HB1.out]; rfl, rfl⟩
                | false =>
                  go_upto_region 32 with (fail)
                  go_cut [135] (fun v135 wc => v135 = .bool (c == 13 || c == 10 || c == 12 || c == 65279) ∧ W1 = wc)
                  case first =>
                    cases t1 : (c == 13) <;> cases t2 : (c == 10) <;> cases t3 : (c == 12) <;> cases t4 : (c == 65279)
                    all_goals first
                      | (exfalso; simp only [beq_iff_eq] at t1 t2 t3 t4; omega)
                      | skip
                    all_goals
                      go_wp2_with fail
                      go_meet
                      exact ⟨by rw [t1, t2, t3, t4]; rfl, rfl⟩
                  case rest =>
                    obtain ⟨rfl, rfl⟩ := hcut
                    generalize hb2 : (c == 13 || c == 10 || c == 12 || c == 65279) = b2
                    have HB2 := Lib.hid hb2
                    clear hb2
                    cases b2 with
                    | true =>
                      go_wp2_with fail
                      go_meet
                      exact ⟨by rw [escOf_mid HB1.out HB2.out]; rfl, rfl⟩
                    | false =>
                      have HL := Lib.hid (escOf_lo (f := firstE mode p (c :: U)) HB1.out HB2.out)
                      go_wp2_with fail
                      refine (c115 c hc0 _).mono ?_
                      rintro e w' ⟨rfl, rfl⟩
                      by_cases hp : p = 0
                      · have HF : Hid (escO (firstE mode p (c :: U)) = ev) := Lib.hid (by unfold firstE; rw [if_pos hp, HU.out.2.1 hp]; exact HEV.out)
                        have tp : ((p : Int) == 0) = true := by simpa using hp
                        clear hp
                        cases te : (ev == 0) with
                        | true =>
                          have te2 : (ev != 0) = false := by simp only [bne, te]; rfl
                          have HN : Hid (firstE mode p (c :: U) = none) := Lib.hid (by
                            have h1 := HF.out
                            rw [show ev = 0 by simpa using te] at h1
                            cases hfe : firstE mode p (c :: U) with
                            | none => rfl
                            | some e =>
                              exfalso
                              rw [hfe] at h1
                              have h2 : e = .none := escV_none.1 h1
                              subst h2
                              unfold firstE at hfe
                              split at hfe
                              · unfold Css.firstEsc at hfe
                                repeat' split at hfe
                                all_goals simp at hfe
                              · cases hfe)
                          cases hcc : Css.continues c
                          all_goals
                            have HC := Lib.hid hcc
                            clear hcc
                            go_wp2_with fail
                            go_meet
                            exact ⟨by rw [HL.out, HN.out, HC.out]; rfl, rfl⟩
                        | false =>
                          have te2 : (ev != 0) = true := by simp only [bne, te]; rfl
                          have HN : Hid (∀ x, escV ((firstE mode p (c :: U)).getD x) = ev) := Lib.hid fun x => by
                            have h1 := HF.out
                            cases hfe : firstE mode p (c :: U) with
                            | none =>
                              exfalso
                              rw [hfe] at h1
                              rw [← h1] at te
                              simp [escO] at te
                            | some e => rw [hfe] at h1; exact h1
                          cases hcc : Css.continues c
                          all_goals
                            clear hcc
                            go_wp2_with fail
                            go_meet
                            exact ⟨by rw [HL.out, HN.out], rfl⟩
                      · have tp : ((p : Int) == 0) = false := by simpa using hp
                        have HN : Hid (firstE mode p (c :: U) = none) := Lib.hid (by unfold firstE; rw [if_neg hp])
                        clear hp
                        cases hcc : Css.continues c
                        all_goals
                          have HC := Lib.hid hcc
                          clear hcc
                          go_wp2_with fail
                          go_meet
                          exact ⟨by rw [HL.out, HN.out, HC.out]; rfl, rfl⟩
              case rest =>
                clear HB1
                obtain ⟨rfl, rfl⟩ := hcut
                generalize hes : Css.escOf asc (firstE mode p (c :: U)) c = es
                have HES := Lib.hid hes
                clear hes
                go_upto_region 38 with (fail)
                go_cut [16] (fun v16 wc => (∃ nb : Bool, v16 = .bool nb ∧ (U = [] → es ≠ .none → nb = need)) ∧ W1 = wc)
                case first =>
                  have hw4 : (Css.width c : Int) ≤ 4 := by have := enc1_le c; rw [Css.enc1_length] at this; omega
                  have hpi : (p : Int) ≤ 2147483648 := by omega
                  cases need with
                  | false =>
                    have tn : (nd == 0) = false := by rw [← HND.out]; rfl
                    go_wp2_with fail
                    go_meet
                    exact ⟨⟨false, rfl, fun _ _ => rfl⟩, rfl⟩
                  | true =>
                    have tn : (nd == 0) = true := by rw [← HND.out]; rfl
                    cases te : (escV es != 0) with
                    | false =>
                      have HT := Lib.hid te
                      go_wp2_with fail
                      go_meet
                      exact ⟨⟨false, rfl, fun _ h => absurd (escV_none.1 (by simpa using HT.out)) h⟩, rfl⟩
                    | true =>
                      cases U with
                      | nil =>
                        have tp : ((p : Int) + (Css.width c : Int) == (s.size : Int)) = true := by simp [Css.wd] at hwe ⊢; omega
                        clear hwe
                        go_wp2_with fail
                        refine (c116 c hc _).mono ?_
                        rintro e w' ⟨rfl, rfl⟩
                        go_wp2_with fail
                        go_meet
                        exact ⟨⟨true, rfl, fun _ _ => rfl⟩, rfl⟩
                      | cons d U =>
                        have hwd := Css.width_pos d
                        have tp : ((p : Int) + (Css.width c : Int) == (s.size : Int)) = false := by simp [Css.wd] at hwe ⊢; omega
                        clear hwe
                        go_wp2_with fail
                        refine (c116 c hc _).mono ?_
                        rintro e w' ⟨rfl, rfl⟩
                        go_wp2_with fail
                        go_meet
                        exact ⟨⟨false, rfl, fun h => by cases h⟩, rfl⟩
                case rest =>
                  obtain ⟨⟨nb, rfl, hnb⟩, rfl⟩ := hcut
                  have HNB := Lib.hid hnb
                  clear hnb
                  obtain ⟨q1, q2, q3, q4, q5, q6, q7⟩ := HQ.out
                  have hsz : (s.extract p s.size).size ≤ 1099511627776 := by
                    rw [← bytes_len, Lib.extract_to_end, List.length_drop, bytes_len]
                    omega
                  have H103 := Lib.hid (c103 q5 F q3.ans c hc es (s.extract p s.size) U (extract_at HU.out.2.2) HU.out.1 hsz nb (by rw [List.length_append]; omega))
                  clear q1 q2 q3 q4 q5 q6 q7 hsz hwe
                  have hpn : p ≤ s.size := by omega
                  go_wp2_with fail
                  refine H103.out.mono ?_
                  rintro e w2 ⟨rfl, v2, hP2, hK2⟩
                  have HR2 : Hid (IdR F B w base g ws asc v T s V mode need ib (p + Css.width c) U v2 w2) := Lib.hid (by
                    obtain ⟨q1, q2, q3, q4, q5, q6, q7⟩ := HQ.out
                    exact IdR.step hB hc HU.out.1 q1 q2 q3 q4 q5 q6 q7 HES.out HNB.out hP2 hK2)
                  clear hP2 hK2
                  go_wp2_with fail
                  go_roundg (s.size - (p + Css.width c))
                  case measure => omega
                  case rel => exact ⟨p + Css.width c, U, v2, rfl, HR2⟩
end Go.Proofs.YtkfdcbdlcipmfaaGreatFmt
/- unicode.SimpleFold at the letters of style and what they fold to. -/
namespace Go.Proofs.YtkfdcbdlcipmfaaGreatFmt
open Go.RowKit Go.Extern.Stop Go.Stop Go.Extern

set_option maxRecDepth 100000 in
set_option maxHeartbeats 1000000 in
theorem c132_low {w : World} (c : Nat) (f : Int) (hc : c < 128) (h : w.cell? ⟨3, c, none⟩ = some (.int .u16 f)) (hf0 : 0 ≤ f) (hf1 : f ≤ 65535) :
    Calls Tryz.prog 132 #[.int .i32 c] w fun e w' => e = .returned (.int .i32 f) ∧ w = w' := by
  have h0 : (0 : Int) ≤ (c : Int) := by omega
  have h1 : (c : Int) < 128 := by omega
  have h2 : (c : Int) ≤ 1114111 := by omega
  go_enter Tryz.func132, Tryz.ntmps132
  go_wp2
  go_ret
  exact ⟨rfl, rfl⟩

set_option maxRecDepth 100000 in
set_option maxHeartbeats 2000000 in
theorem c132_high {w : World} (ht : FoldTab w) : Calls Tryz.prog 132 #[.int .i32 383] w fun e w' => e = .returned (.int .i32 83) ∧ w = w' := by
  obtain ⟨R, oR, cap, o1, o2, o3⟩ := ht.orbit
  have p47 := o2 47 966 (by simp)
  have p23 := o2 23 837 (by simp)
  have p11 := o2 11 452 (by simp)
  have p5 := o2 5 197 (by simp)
  have p8 := o2 8 304 (by simp)
  have p9 := o2 9 305 (by simp)
  have p10 := o2 10 383 (by simp)
  have O1 := Lib.hid (And.intro o1 o3)
  have P := Lib.hid (And.intro p47 (And.intro p23 (And.intro p11 (And.intro p5 (And.intro p8 (And.intro p9 p10))))))
  clear o1 o2 o3 p47 p23 p11 p5 p8 p9 p10 ht
  have o1 := O1.out.1
  go_enter Tryz.func132, Tryz.ntmps132
  go_wp2_with fail
  go_loopg [3, 4] 94 (fun gk s3 s4 wr => w = wr ∧ ((s3 = .int .i64 0 ∧ s4 = .int .i64 94 ∧ gk = 94) ∨ (s3 = .int .i64 0 ∧ s4 = .int .i64 47 ∧ gk = 47) ∨ (s3 = .int .i64 0 ∧ s4 = .int .i64 23 ∧ gk = 23) ∨ (s3 = .int .i64 0 ∧ s4 = .int .i64 11 ∧ gk = 11) ∨ (s3 = .int .i64 6 ∧ s4 = .int .i64 11 ∧ gk = 5) ∨ (s3 = .int .i64 9 ∧ s4 = .int .i64 11 ∧ gk = 2) ∨ (s3 = .int .i64 9 ∧ s4 = .int .i64 10 ∧ gk = 1) ∨ (s3 = .int .i64 10 ∧ s4 = .int .i64 10 ∧ gk = 0)))
  case atStart => exact ⟨rfl, .inl ⟨rfl, rfl, rfl⟩⟩
  case round =>
    obtain ⟨rfl, hrel⟩ := hrel
    rcases hrel with ⟨rfl, rfl, rfl⟩ | ⟨rfl, rfl, rfl⟩ | ⟨rfl, rfl, rfl⟩ | ⟨rfl, rfl, rfl⟩ | ⟨rfl, rfl, rfl⟩ | ⟨rfl, rfl, rfl⟩ | ⟨rfl, rfl, rfl⟩ | ⟨rfl, rfl, rfl⟩
    · have p := P.out.1
      go_wp2_with fail
      go_roundg 47
      case measure => omega
      case rel => exact ⟨rfl, .inr (.inl ⟨rfl, rfl, rfl⟩)⟩
    · have p := P.out.2.1
      go_wp2_with fail
      go_roundg 23
      case measure => omega
      case rel => exact ⟨rfl, .inr (.inr (.inl ⟨rfl, rfl, rfl⟩))⟩
    · have p := P.out.2.2.1
      go_wp2_with fail
      go_roundg 11
      case measure => omega
      case rel => exact ⟨rfl, .inr (.inr (.inr (.inl ⟨rfl, rfl, rfl⟩)))⟩
    · have p := P.out.2.2.2.1
      go_wp2_with fail
      go_roundg 5
      case measure => omega
      case rel => exact ⟨rfl, .inr (.inr (.inr (.inr (.inl ⟨rfl, rfl, rfl⟩))))⟩
    · have p := P.out.2.2.2.2.1
      go_wp2_with fail
      go_roundg 2
      case measure => omega
      case rel => exact ⟨rfl, .inr (.inr (.inr (.inr (.inr (.inl ⟨rfl, rfl, rfl⟩)))))⟩
    · have p := P.out.2.2.2.2.2.2
      go_wp2_with fail
      go_roundg 1
      case measure => omega
      case rel => exact ⟨rfl, .inr (.inr (.inr (.inr (.inr (.inr (.inl ⟨rfl, rfl, rfl⟩))))))⟩
    · have p := P.out.2.2.2.2.2.1
      go_wp2_with fail
      go_roundg 0
      case measure => omega
      case rel => exact ⟨rfl, .inr (.inr (.inr (.inr (.inr (.inr (.inr (⟨rfl, rfl, rfl⟩)))))))⟩
    · have p := P.out.2.2.2.2.2.2
      have p2 := O1.out.2
      go_wp2_with fail
      go_ret
      exact ⟨rfl, rfl⟩
end Go.Proofs.YtkfdcbdlcipmfaaGreatFmt
