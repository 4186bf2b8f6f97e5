/- printTokens. -/
import Derived.Test.YtkfdcbdlcipmfaaGreatFmtGZ
set_option linter.unusedVariables false
set_option linter.unusedSimpArgs false
namespace Go.Proofs.YtkfdcbdlcipmfaaGreatFmt
open Go.RowKit Go.Extern.Stop Go.Stop Go.Extern

def ToksR (w : World) (base g : Nat) (ws asc : Bool) (v : Value) (T : List UInt8) (ts : List Css.Tree) (e : Ending) (w' : World) : Prop :=
  ∃ out v', e = .returned (.bool (Css.lastAfter (Css.headBefore ts) ts)) ∧ Css.PL asc (Css.headBefore ts) ts out ∧ Css.Asc asc out ∧ (Css.enc out).length ≤ costL ts ∧ Px w' base g ws asc v' (T ++ Css.enc out) ∧ Kv w w' g v v'
def ToksC (N : Nat) : Prop := ∀ (F : Interp) (B : Nat) (w : World) (base g : Nat) (ws asc : Bool) (v : Value) (T : List UInt8) (P : Nat → Prop) (A : Option Addr) (ts : List Css.Tree) (c ind per : Nat) (dec : Bool), Px w base g ws asc v T → Env F B w → B ≤ g → TkL w P A ts → (∀ b, P b → b < B) → Css.WL asc ts → cntL ts < N → ind + cntL ts ≤ 100000 → per ≤ 255 →
  T.length + costL ts + 1000000 ≤ 35184372088832 → costL ts ≤ 2000000000 →
  Calls Tryz.prog 80 #[.pointer (some ⟨g, 0, none⟩), .slice A ts.length c, .agg #[.int .i32 ind, .int .u8 per, .bool dec]] w (ToksR w base g ws asc v T ts)

theorem room9 {a b c k r u v : Nat} (h : a + b + (v + k + r + u) ≤ c) : a + b + k + u ≤ c := by omega
theorem put9 {i k r u v : Nat} (h : i ≤ k) : i + (v + r + u) ≤ v + k + r + u := by omega
theorem cost9 {a k r : Nat} (h : 500000 + 8 * a + k + r ≤ 2000000000) : k ≤ 2000000000 := by omega
theorem wt_kids {asc : Bool} {n : Css.Node} {kids : List Css.Tree} (h : Css.WT asc (.mk n kids)) : Css.WL asc kids := by
  rw [Css.WT] at h
  exact h.2.2
theorem size1 {b : UInt8} : (⟨#[b]⟩ : ByteArray).size = 1 := rfl
theorem say1 {b : UInt8} {x y : Nat} (h : 1 + x ≤ y) : (⟨#[b]⟩ : ByteArray).size + x ≤ y := h
theorem room0 {a b c n k : Nat} (h : a + b + k ≤ c) (hl : n = 0) : a + n + (b + k) ≤ c := by omega

set_option maxRecDepth 400000 in
set_option maxHeartbeats 400000000 in
theorem c80_step (N : Nat) (ih : ToksC N) : ToksC (N + 1) := by
  intro F B w base g ws asc v T P A ts c ind per dec h hE hB hL hP hW hN hi hp hT hc
  have HT : Hid (∀ wa, wa = w.alloc (.cells #[.int .i32 ind, .int .u8 per, .bool dec] 213 (0, 0)) → Tm F B w base g ws asc v T P A ts w.heap.size per dec ind (costL ts + 1000000) [] v wa) := Lib.hid fun wa e => by
    subst e
    have hg := grown_alloc (grown_refl w none) (.cells #[.int .i32 ind, .int .u8 per, .bool dec] 213 (0, 0))
    have hle := hE.le
    have hnil : (Css.enc []).length = 0 := rfl
    have hlt := h.lt
    have hb := h.base
    exact ⟨by simpa [Css.enc] using h.free hg, hE.free hg, Kv.after hg (Kv.refl _ g v), new_blk w _, hL.keep fun b hb => ⟨hb, hg.block b (Nat.lt_of_lt_of_le (hP b hb) hle) (by simp)⟩, hP, hB, Nat.le_refl _, by omega, hle, room0 hT hnil⟩
  have HIH := Lib.hid ih
  have HLOW : Hid (∀ wr vr, Kv w wr g v vr → ∀ b, b < B → wr.heap[b]? = w.heap[b]?) := Lib.hid fun wr vr k => k.low h hB hE.le
  have HLE := Lib.hid (And.intro hE.le (And.intro hB hP))
  have HW := Lib.hid (And.intro hW (And.intro hN hi))
  have HC := Lib.hid (And.intro hT hc)
  have hlen := cntL_len ts
  have hl1 : ts.length ≤ 100000 := by omega
  clear ih h hE hB hL hP hW hN hT hc hlen
  go_enter Tryz.func80, Tryz.ntmps80
  go_upto_region 1 with (fail)
  generalize hwa : w.alloc (.cells #[.int .i32 ind, .int .u8 per, .bool dec] 213 (0, 0)) = wa
  have HM := Lib.hid (HT.out wa hwa.symm)
  clear HT hwa
  generalize w.heap.size = xo at HM ⊢
  go_cut [7] from 24 to 34 (fun v7 wc => v7 = .bool (wsA ts 0) ∧ wa = wc)
  case first =>
    as_aux_lemma =>
      by_cases h0 : 0 < ts.length
      · have h0i : (0 : Int) < ts.length := by omega
        obtain ⟨ad, p, rfl, hb, htk, e0, e1, e2, e3, e4, e5, e6⟩ := HM.out.toks.elem h0
        have hw : wsA ts 0 = ts[0].n.before := by
          cases ts with
          | nil => exact absurd h0 (by simp)
          | cons t ts => rfl
        have hb1 := ws_before ts[0].n
        rw [← hw] at hb1
        generalize tokWs ts[0].n = tw at e6 hb1
        clear hw htk hb e0 e1 e2 e3 e4 e5 HM HIH HW HC
        have ha0 : ad.add (0 * 7) = ad := by simp [Addr.add]
        rw [ha0] at e6
        clear ha0
        go_wp2_with fail
        go_meet
        exact ⟨rfl, rfl⟩
      · have hts : ts = [] := List.eq_nil_of_length_eq_zero (by omega)
        subst hts
        go_wp2_with fail
        go_meet
        exact ⟨rfl, rfl⟩
  case rest =>
    obtain ⟨rfl, rfl⟩ := hcut
    obtain ⟨c3, c6, c7, c9, c15⟩ := HM.out.px.cells
    have o0 := cell_blk HM.out.box (i := 0) rfl
    have o1 := cell_blk HM.out.box (i := 1) rfl
    have o2 := cell_blk HM.out.box (i := 2) rfl
    go_upto_region 3 with (fail)
    go_cut [47] from 38 to 47 (fun v47 wc => v47 = .bool (!ws && dec) ∧ wa = wc)
    case first =>
      as_aux_lemma =>
        clear HIH HW HC
        cases ws <;> cases dec
        all_goals
          go_wp2_with fail
          go_meet
          exact ⟨rfl, rfl⟩
    case rest =>
      obtain ⟨rfl, rfl⟩ := hcut
      clear c3 c6 c7 c9 c15 o0 o1 o2
      go_upto_if 47 with (fail)
      go_cut [8] from 47 to 69 (fun v8 wc => (∃ cp : Nat, v8 = .int .i64 cp ∧ cp ≤ 255) ∧ wa.grownBy wc none)
      case first =>
        as_aux_lemma =>
          cases hq : (!ws && dec) with
          | false =>
            go_wp2_with fail
            go_meet
            exact ⟨⟨per, rfl, hp⟩, grown_refl _ _⟩
          | true =>
            go_wp2_with fail
            go_loopg [8, 9, 50] ts.length (fun gk s8 s9 s50 wr => ∃ k n : Nat, s8 = .int .i64 per ∧ s9 = .int .i64 n ∧ s50 = .int .i64 k ∧ n ≤ k ∧ k ≤ ts.length ∧ gk = ts.length - k ∧ Hid (wa.grownBy wr none))
            case atStart => exact ⟨0, 0, rfl, rfl, rfl, Nat.le_refl _, by omega, rfl, Lib.hid (grown_refl _ _)⟩
            case round =>
              obtain ⟨k, c1, rfl, rfl, rfl, hck, hkl, rfl, HG⟩ := hrel
              by_cases hlt : k < ts.length
              · have HMr := Lib.hid (HM.out.free HG.out)
                obtain ⟨ad, q, rfl, hbk, htk, e0, e1, e2, e3, e4, e5, e6⟩ := HMr.out.toks.elem hlt
                have hb1 := cntL_drop ts k hlt
                have hb2 := costL_drop ts k hlt
                have hb3 := costL_le ts k
                have hb4 := HC.out.2
                have HG2 : Hid (∀ o, wa.grownBy (wr.alloc o) none) := Lib.hid fun o => grown_alloc HG.out o
                have hki : (k : Int) ≤ 100000 := by omega
                have hci : (c1 : Int) ≤ k := by omega
                generalize ts[k] = t at htk e0 e1 e2 e3 e4 e5 e6 hb1 hb2
                cases t with
                | mk n kids =>
                  simp only [Css.Tree.n, cntT, costT] at htk e0 e1 e2 e3 e4 e5 e6 hb1 hb2
                  have hkl2 := cntL_len kids
                  have H109 : Hid (∀ o, Calls Tryz.prog 109 #[tokV q n] (wr.alloc o) (PerR (wr.alloc o))) := Lib.hid fun o => by
                    have hX := HMr.out.free (grown_alloc (grown_refl _ _) o)
                    have hle := HMr.out.env.le
                    have hsz := (grown_alloc (grown_refl wr none) o).size
                    refine c109 hX.env.tabs (P := P) (kids := kids) (TkT.keep (fun b hb => ⟨hb, ?_⟩) _ _ htk) (fun b hb => ?_) (by omega) (by omega)
                    · exact (grown_alloc (grown_refl wr none) o).block b (Nat.lt_of_lt_of_le (HMr.out.low b hb) hle) (by simp)
                    · have := HMr.out.low b hb
                      omega
                  clear htk hb1 hb2 hb3 hb4 hkl2 hbk HMr
                  cases t10 : (n.kind == 10) with
                  | true =>
                    have t27 : (n.kind == 27) = false := by
                      have : n.kind = 10 := by simpa using t10
                      rw [this]; rfl
                    by_cases hc2 : (2 : Int) ≤ c1 + 1
                    · go_wp2_with fail
                      go_meet
                      exact ⟨⟨1, rfl, by omega⟩, HG2.out _⟩
                    · go_wp2_with fail
                      go_roundg (ts.length - (k + 1))
                      case measure => omega
                      case rel => exact ⟨k + 1, c1 + 1, rfl, by go_num, by go_num, by omega, hlt, rfl, HG2.out _⟩
                  | false =>
                    cases t27 : (n.kind == 27) with
                    | false =>
                      go_wp2_with fail
                      go_roundg (ts.length - (k + 1))
                      case measure => omega
                      case rel => exact ⟨k + 1, c1, rfl, rfl, by go_num, by omega, hlt, rfl, HG2.out _⟩
                    | true =>
                      go_wp2_with fail
                      refine (H109.out _).mono ?_
                      rintro e w3 ⟨pv, rfl, hpv, hg3⟩
                      have HG3 := Lib.hid (grown_trans (HG2.out _) hg3)
                      clear hg3 HG2 H109
                      by_cases hp0 : 0 < pv
                      · go_wp2_with fail
                        go_meet
                        exact ⟨⟨1, rfl, by omega⟩, HG3.out⟩
                      · go_wp2_with fail
                        go_roundg (ts.length - (k + 1))
                        case measure => omega
                        case rel => exact ⟨k + 1, c1, rfl, rfl, by go_num, by omega, hlt, rfl, HG3⟩
              · go_wp2_with fail
                go_meet
                exact ⟨⟨per, rfl, hp⟩, HG.out⟩
      case rest =>
        obtain ⟨⟨cp, rfl, hcp⟩, hgc⟩ := hcut
        have HM1 := Lib.hid (HM.out.free hgc)
        clear HM hgc hp
        go_wp2_with fail
        go_loopg [7, 12, 72] ts.length (fun gk s7 s12 s72 wr => ∃ (k c1 : Nat) (X : List Int) (vr : Value), s7 = .bool (wsA ts k) ∧ s12 = .int .i64 c1 ∧ s72 = .int .i64 k ∧ c1 ≤ k ∧ k ≤ ts.length ∧ gk = ts.length - k ∧ Hid (Tm F B w base g ws asc v T P A ts xo per dec ind (costL (ts.drop k) + 1000000) X vr wr ∧ TkR asc ts k X))
        case atStart => exact ⟨0, 0, [], v, rfl, rfl, rfl, Nat.le_refl _, by omega, rfl, Lib.hid ⟨HM1.out, TkR.start asc ts⟩⟩
        case round =>
          obtain ⟨k, c1, X, vr, rfl, rfl, rfl, hck, hkl, rfl, HR⟩ := hrel
          clear HM1
          by_cases hlt : k < ts.length
          · obtain ⟨ad, q, rfl, hbk, htk, e0, e1, e2, e3, e4, e5, e6⟩ := HR.out.1.toks.elem hlt
            have hb1 := cntL_drop ts k hlt
            have hb2 := costL_drop ts k hlt
            have hb3 := costL_le ts k
            have hb4 := HC.out.2
            have hki : (k : Int) ≤ 100000 := by omega
            have hci : (c1 : Int) ≤ k := by omega
            have hwt := WL_get ts HW.out.1 k hlt
            have hnd := wsA_succ hlt
            have hst := fun pre body => HR.out.2.step (pre := pre) (body := body) hlt
            have hN := HW.out.2.1
            generalize htt : ts[k] = t at htk e0 e1 e2 e3 e4 e5 e6 hb1 hb2 hwt hnd hst
            cases t with
            | mk n kids =>
              simp only [Css.Tree.n, cntT, costT] at htk e0 e1 e2 e3 e4 e5 e6 hb1 hb2 hnd hst
              have HS := Lib.hid hst
              have HWT := Lib.hid hwt
              have HND := Lib.hid hnd
              have HNUM : Hid (ind + 1 + cntL kids ≤ 100000 ∧ cntL kids < N ∧ 500000 + 8 * n.text.length + costL kids + costL (ts.drop (k + 1)) ≤ 2000000000) := Lib.hid ⟨by omega, by omega, by omega⟩
              have HTK : Hid (TkT w P (.mk n kids) (tkC q n)) := Lib.hid (TkT.keep (fun b hb => ⟨hb, (HLOW.out _ _ HR.out.1.kv b (HR.out.1.low b hb)).symm⟩) _ _ htk)
              have HN : Hid (∀ wn, wn = wr.alloc (.cells #[.pointer q, .string (str n.text), .int .i32 0, .int .u32 0, .int .u16 (n.unit % 65536), .int .u8 n.kind, .int .u8 (tokWs n)] 105 (0, 0)) → Tn F B w base g ws asc v T P (some ad) ts xo per dec wr.heap.size #[.pointer q, .string (str n.text), .int .i32 0, .int .u32 0, .int .u16 (n.unit % 65536), .int .u8 n.kind, .int .u8 (tokWs n)] ind (500000 + 8 * n.text.length + costL kids + costL (ts.drop (k + 1)) + 1000000) X vr wn) := Lib.hid fun wn e => by
                subst e
                have hg := grown_alloc (grown_refl wr none) (.cells #[.pointer q, .string (str n.text), .int .i32 0, .int .u32 0, .int .u16 (n.unit % 65536), .int .u8 n.kind, .int .u8 (tokWs n)] 105 (0, 0))
                have hm := HR.out.1
                rw [hb2] at hm
                have hx := lt_of_block hm.box
                obtain ⟨C, hCg, _⟩ := hm.px.blk
                have hgl := lt_of_block hCg
                exact ⟨hm.free hg, new_blk wr _, by omega, by omega⟩
              clear hst hwt hnd htk hb1 hb2 hb3 hb4 hN hbk HR
              generalize hndg : wsA ts (k + 1) = nd at HS HND
              go_upto_region 19 with (fail)
              generalize hwn : wr.alloc (.cells #[.pointer q, .string (str n.text), .int .i32 0, .int .u32 0, .int .u16 (n.unit % 65536), .int .u8 n.kind, .int .u8 (tokWs n)] 105 (0, 0)) = wn
              have HT1 := Lib.hid (HN.out wn hwn.symm)
              clear HN hwn e0 e1 e2 e3 e4 e5 e6 htt hi
              generalize wr.heap.size = xt at HT1 ⊢
              have d5 := cell_blk HT1.out.2.1 (i := 5) rfl
              go_upto_if 79 with (fail)
              go_cut [12] from 77 to 79 (fun v12 wc => (∃ c2 : Nat, v12 = .int .i64 c2 ∧ c2 ≤ k + 1) ∧ wn = wc)
              case first =>
                as_aux_lemma =>
                  cases t10 : (n.kind == 10)
                  all_goals
                    go_wp2_with fail
                    go_meet
                    first
                      | exact ⟨⟨c1, rfl, by omega⟩, rfl⟩
                      | exact ⟨⟨c1 + 1, by go_num, by omega⟩, rfl⟩
              case rest =>
                obtain ⟨⟨c2, rfl, hc2⟩, rfl⟩ := hcut
                obtain ⟨t38, t39, t37, t2⟩ := node_kinds (show Css.isNode n = true ∧ _ from HWT.out).1
                clear hck hci
                go_upto_if 85 with (fail)
                clear t38 d5
                go_cut [7] from 82 to 129 (fun v7 wc => ∃ pre v2, Hid (Css.isWs pre ∧ (pre = [] ↔ wsA ts k = false) ∧ (Css.enc pre).length ≤ 210000 ∧ Tn F B w base g ws asc v T P (some ad) ts xo per dec xt #[.pointer q, .string (str n.text), .int .i32 0, .int .u32 0, .int .u16 (n.unit % 65536), .int .u8 n.kind, .int .u8 (tokWs n)] ind (290000 + 8 * n.text.length + costL kids + costL (ts.drop (k + 1)) + 1000000) (X ++ pre) v2 wc))
                case first =>
                  as_aux_lemma =>
                    clear t39 t37 t2 HND HS
                    cases hw : wsA ts k with
                    | false =>
                      go_wp2_with fail
                      go_meet
                      exact ⟨[], vr, Lib.hid ⟨fun c hc => absurd hc (by simp), ⟨fun _ => hw, fun _ => rfl⟩, Nat.zero_le _, by rw [List.append_nil]; exact HT1.out.less (by omega)⟩⟩
                    | true =>
                      go_upto_region 24 with (fail)
                      go_cut [106] from 85 to 106 (fun v106 wc => (∃ b, v106 = .bool b) ∧ wn = wc)
                      case first =>
                        as_aux_lemma =>
                          clear HWT HNUM
                          by_cases hc0 : (0 : Int) < cp
                          · have hcz : ((cp : Int) == 0) = false := beq_eq_false_iff_ne.2 (by omega)
                            by_cases hk : k = 0
                            · have hk0 : ((k : Int) == 0) = true := beq_iff_eq.2 (by omega)
                              clear HT1 hc2 hk
                              go_wp2_with fail
                              go_meet
                              exact ⟨⟨true, rfl⟩, rfl⟩
                            · have hk0 : ((k : Int) == 0) = false := beq_eq_false_iff_ne.2 (by omega)
                              obtain ⟨j, hj⟩ : ∃ j : Nat, k = j + 1 := ⟨k - 1, by omega⟩
                              have hj1 : (k : Int) - 1 = (j : Int) := by omega
                              have hjl : j < ts.length := by omega
                              have hjl2 : (j : Int) < ts.length := by omega
                              obtain ⟨p', _, _, _, _, _, _, e5, _⟩ := HT1.out.1.toks.at_ hjl
                              generalize ts[j].n.kind = kj at e5
                              clear HT1 hc2 hj hk hlt hkl
                              cases t10 : (kj == 10)
                              all_goals go_wp2_with fail
                              all_goals
                                go_meet
                                exact ⟨⟨_, rfl⟩, rfl⟩
                          · clear HT1
                            go_wp2_with fail
                            go_meet
                            exact ⟨⟨false, rfl⟩, rfl⟩
                      case rest =>
                        obtain ⟨⟨b, rfl⟩, rfl⟩ := hcut
                        cases b with
                        | true =>
                          go_wp2_with fail
                          refine (HT1.out.say ⟨#[10]⟩ [10] rfl (499990 + 8 * n.text.length + costL kids + costL (ts.drop (k + 1)) + 1000000) (say1 (by omega))).mono ?_
                          rintro e w2 ⟨rfl, v2, h2⟩
                          have HT2 := Lib.hid h2
                          have o0 := cell_blk h2.1.box (i := 0) rfl
                          clear h2 HT1
                          have hii : (ind : Int) ≤ 100000 := by have := HNUM.out.1; omega
                          go_wp2_with fail
                          refine (HT2.out.dent1 ind (by have := HNUM.out.1; omega) (290000 + 8 * n.text.length + costL kids + costL (ts.drop (k + 1)) + 1000000) (by have := HNUM.out.1; omega)).mono ?_
                          rintro e w3 ⟨rfl, v3, h3⟩
                          have HT3 := Lib.hid h3
                          clear h3 HT2
                          go_wp2_with fail
                          go_meet
                          refine ⟨[10] ++ List.replicate (2 * (ind + 1)) 32, v3, Lib.hid ⟨?_, ⟨fun h => by simp at h, fun h => by rw [hw] at h; cases h⟩, ?_, by rw [← List.append_assoc]; exact HT3.out⟩⟩
                          · intro c hc
                            rcases List.mem_append.1 hc with hc | hc
                            · exact .inr (by simpa using hc)
                            · exact blanks_ws _ c hc
                          · have h10 : (Css.enc [10]).length = 1 := by decide
                            have hbl := blanks_length (ind + 1)
                            have := HNUM.out.1
                            rw [Css.enc_append, List.length_append, enc_blanks]
                            omega
                        | false =>
                          have cl := HT1.out.1.px.cells.1
                          go_wp2_with fail
                          refine (HT1.out.say ⟨#[32]⟩ [32] rfl (290000 + 8 * n.text.length + costL kids + costL (ts.drop (k + 1)) + 1000000) (by rw [size1]; omega)).mono ?_
                          rintro e w2 ⟨rfl, v2, h2⟩
                          have HT2 := Lib.hid h2
                          clear h2 HT1
                          go_wp2_with fail
                          go_meet
                          exact ⟨[32], v2, Lib.hid ⟨fun c hc => .inl (by simpa using hc), ⟨fun h => by simp at h, fun h => by rw [hw] at h; cases h⟩, by decide, HT2.out⟩⟩
                case rest =>
                  obtain ⟨pre, v2, HP⟩ := hcut
                  clear HT1
                  go_upto_region 29 with (fail)
                  go_cut [7] from 130 to 150 (fun v7 wd => v7 = .bool nd ∧ wc = wd)
                  case first =>
                    as_aux_lemma =>
                      clear HNUM HS HTK HWT
                      have d6 := cell_blk HP.out.2.2.2.2.1 (i := 6) rfl
                      have hb2 := ws_after n
                      have hn := HND.out
                      clear HND
                      cases ha : n.after with
                      | true =>
                        rw [ha] at hb2 hn
                        clear HP ha
                        obtain rfl : nd = true := by rw [hn]; rfl
                        clear hn
                        go_wp2_with fail
                        go_meet
                        exact ⟨rfl, rfl⟩
                      | false =>
                        rw [ha] at hb2 hn
                        clear ha
                        by_cases hk2 : k + 1 < ts.length
                        · have hk3 : (k : Int) + 1 < ts.length := by omega
                          obtain ⟨p', _, _, _, _, _, _, _, e6⟩ := HP.out.2.2.2.1.toks.at_ hk2
                          have hbb := ws_before ts[k + 1].n
                          have hh : Css.headBefore (ts.drop (k + 1)) = ts[k + 1].n.before := by rw [List.drop_eq_getElem_cons hk2]; rfl
                          rw [hh, Bool.false_or] at hn
                          rw [← hn] at hbb
                          generalize tokWs ts[k + 1].n = tw2 at e6 hbb
                          clear HP hh hn
                          go_wp2_with fail
                          go_meet
                          exact ⟨rfl, rfl⟩
                        · have hk3 : ¬ (k : Int) + 1 < ts.length := by omega
                          rw [List.drop_eq_nil_of_le (by omega)] at hn
                          obtain rfl : nd = false := by rw [hn]; rfl
                          clear HP hn hk2
                          go_wp2_with fail
                          go_meet
                          exact ⟨rfl, rfl⟩
                  case rest =>
                    obtain ⟨rfl, rfl⟩ := hcut
                    go_upto_if 152 with (fail)
                    go_cut [15] from 151 to 152 (fun v15 wd => v15 = .int .u8 (if nd then 0 else 1) ∧ wc = wd)
                    case first =>
                      as_aux_lemma =>
                        clear HNUM HS HTK HWT HND HP
                        cases nd
                        all_goals
                          go_wp2_with fail
                          go_meet
                          exact ⟨rfl, rfl⟩
                    case rest =>
                      obtain ⟨rfl, rfl⟩ := hcut
                      obtain ⟨wsn, hws⟩ : ∃ x : Int, x = (if nd then 0 else 1) := ⟨_, rfl⟩
                      rw [← hws]
                      have HWN := Lib.hid hws
                      clear hws
                      have c9 := HP.out.2.2.2.1.px.cells.2.2.2.1
                      have d5 := cell_blk HP.out.2.2.2.2.1 (i := 5) rfl
                      go_upto_block 4 with (fail)
                      clear c9 d5
                      go_cut [7] from 153 to 314 (fun v7 wd => v7 = .bool nd ∧ ∃ core v3, Hid (Css.PCore asc nd n core ∧ Css.Asc asc core ∧ (Css.enc core).length ≤ 8 * n.text.length + 64 ∧ Tn F B w base g ws asc v T P (some ad) ts xo per dec xt #[.pointer q, .string (str n.text), .int .i32 0, .int .u32 0, .int .u16 (n.unit % 65536), .int .u8 n.kind, .int .u8 (tokWs n)] ind (280000 + costL kids + costL (ts.drop (k + 1)) + 1000000) (X ++ pre ++ core) v3 wd))
                      case first =>
                        as_aux_lemma =>
                          clear HS HTK HND
                          have hwt := (show Css.isNode n = true ∧ (asc = true → Css.low n.text = true) ∧ Css.WL asc kids from HWT.out)
                          rcases Css.form hwt.1 with ⟨kk, h⟩ | ⟨kk, h⟩ | ⟨kk, h⟩ | ⟨kk, h, _⟩ | ⟨kk, h⟩ | ⟨kk, h⟩ | ⟨kk, h⟩ | ⟨kk, u0, u1, u2, h1, h2⟩ | ⟨kk, h⟩
                          · as_aux_lemma =>
                              have s29 : (n.kind == 29) = true := by rw [kk]; rfl
                              have d1 := cell_blk HP.out.2.2.2.2.1 (i := 1) rfl
                              have hsz := str_size n.text
                              have hdat := str_data n.text
                              have hcost := HNUM.out.2.2
                              have HX := Lib.hid HP.out.2.2.2
                              obtain ⟨m1, m2, m3, m4⟩ := Css.name_codes h
                              have hpl := pIdent_le (asc := asc) (need := nd) (mode := 0) m2
                              rw [m3] at hpl
                              have HF : Hid (Css.PCore asc nd n (Css.pIdent 0 asc nd (Css.codes n.text)) ∧ Css.Asc asc (Css.pIdent 0 asc nd (Css.codes n.text)) ∧ (Css.enc (Css.pIdent 0 asc nd (Css.codes n.text))).length ≤ 8 * n.text.length + 64) := Lib.hid ⟨by unfold Css.PCore; rw [if_pos kk], Css.pIdent_asc _, by omega⟩
                              have H1 := Lib.hid (HX.out.ident (s := str n.text) (V := Css.codes n.text) (by rw [str_data, m3]) m2 m1 0 (by omega) nd (by omega) (280000 + costL kids + costL (ts.drop (k + 1)) + 1000000) (by omega) (by have := pIdent_le (asc := asc) (need := nd) (mode := 0) m2; rw [m3] at this; omega))
                              rw [← HWN.out] at H1
                              clear hsz hdat hcost m1 m2 m3 m4 hpl kk h HX
                              go_wp2_with fail
                              refine H1.out.mono ?_
                              rintro e w3 ⟨rfl, v3, h3⟩
                              have HT3 := Lib.hid h3
                              clear h3 H1
                              go_wp2_with fail
                              go_meet
                              exact ⟨rfl, _, _, Lib.hid ⟨HF.out.1, HF.out.2.1, HF.out.2.2, HT3.out⟩⟩
                          · as_aux_lemma =>
                              have s29 : (n.kind == 29) = false := by rw [kk]; rfl
                              have s39 : (n.kind == 39) = false := by rw [kk]; rfl
                              have s27 : (n.kind == 27) = false := by rw [kk]; rfl
                              have s26 : (n.kind == 26) = false := by rw [kk]; rfl
                              have s1 : (n.kind == 1) = false := by rw [kk]; rfl
                              have s28 : (n.kind == 28) = true := by rw [kk]; rfl
                              have d1 := cell_blk HP.out.2.2.2.2.1 (i := 1) rfl
                              have hsz := str_size n.text
                              have hdat := str_data n.text
                              have hcost := HNUM.out.2.2
                              have HX := Lib.hid HP.out.2.2.2
                              obtain ⟨m1, m2, m3, m4⟩ := Css.name_codes h
                              have hpl := pIdent_le (asc := asc) (need := nd) (mode := 1) m2
                              rw [m3] at hpl
                              have hch : (Css.enc [35]).length = 1 := by decide
                              have HF : Hid (Css.PCore asc nd n (35 :: Css.pIdent 1 asc nd (Css.codes n.text)) ∧ Css.Asc asc (35 :: Css.pIdent 1 asc nd (Css.codes n.text)) ∧ (Css.enc (35 :: Css.pIdent 1 asc nd (Css.codes n.text))).length ≤ 8 * n.text.length + 64) := Lib.hid ⟨by unfold Css.PCore; rw [if_neg (by omega), if_neg (by omega), if_neg (by omega), if_neg (by omega), if_pos kk], Css.Asc.cons (by decide) (Css.pIdent_asc _), by rw [show (35 : Int) :: Css.pIdent 1 asc nd (Css.codes n.text) = [35] ++ Css.pIdent 1 asc nd (Css.codes n.text) from rfl, Css.enc_append, List.length_append]; omega⟩
                              have H0 := Lib.hid (HX.out.say ⟨#[35]⟩ [35] rfl (289990 + 8 * n.text.length + costL kids + costL (ts.drop (k + 1)) + 1000000) (say1 (by omega)))
                              have H1 : Hid (∀ wx vx, Tn F B w base g ws asc v T P (some ad) ts xo per dec xt #[.pointer q, .string (str n.text), .int .i32 0, .int .u32 0, .int .u16 (n.unit % 65536), .int .u8 n.kind, .int .u8 (tokWs n)] ind (289990 + 8 * n.text.length + costL kids + costL (ts.drop (k + 1)) + 1000000) (X ++ pre ++ [35]) vx wx → Calls Tryz.prog 82 #[.pointer (some ⟨g, 0, none⟩), .string (str n.text), .int .u8 1, .int .u8 (if nd then 0 else 1)] wx fun e w' => e = .returned (.tuple #[]) ∧ ∃ v', Tn F B w base g ws asc v T P (some ad) ts xo per dec xt #[.pointer q, .string (str n.text), .int .i32 0, .int .u32 0, .int .u16 (n.unit % 65536), .int .u8 n.kind, .int .u8 (tokWs n)] ind (280000 + costL kids + costL (ts.drop (k + 1)) + 1000000) (X ++ pre ++ [35] ++ Css.pIdent 1 asc nd (Css.codes n.text)) v' w') := Lib.hid fun wx vx hx => hx.ident (by rw [str_data, m3]) m2 m1 1 (by omega) nd (by omega) _ (by omega) (by omega)
                              rw [← HWN.out] at H1
                              clear hsz hdat hcost m1 m2 m3 m4 hpl hch kk h
                              go_wp2_with fail
                              refine H0.out.mono ?_
                              rintro e w3 ⟨rfl, v3, h3⟩
                              have HT3 := Lib.hid h3
                              clear h3 H0
                              have d1 := cell_blk HT3.out.2.1 (i := 1) rfl
                              go_wp2_with fail
                              refine (H1.out _ _ HT3.out).mono ?_
                              rintro e w4 ⟨rfl, v4, h4⟩
                              have HT4 := Lib.hid h4
                              clear h4 H1 HT3 HX
                              go_wp2_with fail
                              go_meet
                              exact ⟨rfl, _, _, Lib.hid ⟨HF.out.1, HF.out.2.1, HF.out.2.2, by rw [show (35 : Int) :: Css.pIdent 1 asc nd (Css.codes n.text) = [35] ++ Css.pIdent 1 asc nd (Css.codes n.text) from rfl, ← List.append_assoc]; exact HT4.out⟩⟩
                          · as_aux_lemma =>
                              have s29 : (n.kind == 29) = false := by rw [kk]; rfl
                              have s39 : (n.kind == 39) = false := by rw [kk]; rfl
                              have s27 : (n.kind == 27) = false := by rw [kk]; rfl
                              have s26 : (n.kind == 26) = false := by rw [kk]; rfl
                              have s1 : (n.kind == 1) = true := by rw [kk]; rfl
                              have d1 := cell_blk HP.out.2.2.2.2.1 (i := 1) rfl
                              have hsz := str_size n.text
                              have hdat := str_data n.text
                              have hcost := HNUM.out.2.2
                              have HX := Lib.hid HP.out.2.2.2
                              obtain ⟨m1, m2, m3, m4⟩ := Css.name_codes h
                              have hpl := pIdent_le (asc := asc) (need := nd) (mode := 0) m2
                              rw [m3] at hpl
                              have hch : (Css.enc [64]).length = 1 := by decide
                              have HF : Hid (Css.PCore asc nd n (64 :: Css.pIdent 0 asc nd (Css.codes n.text)) ∧ Css.Asc asc (64 :: Css.pIdent 0 asc nd (Css.codes n.text)) ∧ (Css.enc (64 :: Css.pIdent 0 asc nd (Css.codes n.text))).length ≤ 8 * n.text.length + 64) := Lib.hid ⟨by unfold Css.PCore; rw [if_neg (by omega), if_neg (by omega), if_neg (by omega), if_pos kk], Css.Asc.cons (by decide) (Css.pIdent_asc _), by rw [show (64 : Int) :: Css.pIdent 0 asc nd (Css.codes n.text) = [64] ++ Css.pIdent 0 asc nd (Css.codes n.text) from rfl, Css.enc_append, List.length_append]; omega⟩
                              have H0 := Lib.hid (HX.out.say ⟨#[64]⟩ [64] rfl (289990 + 8 * n.text.length + costL kids + costL (ts.drop (k + 1)) + 1000000) (say1 (by omega)))
                              have H1 : Hid (∀ wx vx, Tn F B w base g ws asc v T P (some ad) ts xo per dec xt #[.pointer q, .string (str n.text), .int .i32 0, .int .u32 0, .int .u16 (n.unit % 65536), .int .u8 n.kind, .int .u8 (tokWs n)] ind (289990 + 8 * n.text.length + costL kids + costL (ts.drop (k + 1)) + 1000000) (X ++ pre ++ [64]) vx wx → Calls Tryz.prog 82 #[.pointer (some ⟨g, 0, none⟩), .string (str n.text), .int .u8 0, .int .u8 (if nd then 0 else 1)] wx fun e w' => e = .returned (.tuple #[]) ∧ ∃ v', Tn F B w base g ws asc v T P (some ad) ts xo per dec xt #[.pointer q, .string (str n.text), .int .i32 0, .int .u32 0, .int .u16 (n.unit % 65536), .int .u8 n.kind, .int .u8 (tokWs n)] ind (280000 + costL kids + costL (ts.drop (k + 1)) + 1000000) (X ++ pre ++ [64] ++ Css.pIdent 0 asc nd (Css.codes n.text)) v' w') := Lib.hid fun wx vx hx => hx.ident (by rw [str_data, m3]) m2 m1 0 (by omega) nd (by omega) _ (by omega) (by omega)
                              rw [← HWN.out] at H1
                              clear hsz hdat hcost m1 m2 m3 m4 hpl hch kk h
                              go_wp2_with fail
                              refine H0.out.mono ?_
                              rintro e w3 ⟨rfl, v3, h3⟩
                              have HT3 := Lib.hid h3
                              clear h3 H0
                              have d1 := cell_blk HT3.out.2.1 (i := 1) rfl
                              go_wp2_with fail
                              refine (H1.out _ _ HT3.out).mono ?_
                              rintro e w4 ⟨rfl, v4, h4⟩
                              have HT4 := Lib.hid h4
                              clear h4 H1 HT3 HX
                              go_wp2_with fail
                              go_meet
                              exact ⟨rfl, _, _, Lib.hid ⟨HF.out.1, HF.out.2.1, HF.out.2.2, by rw [show (64 : Int) :: Css.pIdent 0 asc nd (Css.codes n.text) = [64] ++ Css.pIdent 0 asc nd (Css.codes n.text) from rfl, ← List.append_assoc]; exact HT4.out⟩⟩
                          · as_aux_lemma =>
                              have s29 : (n.kind == 29) = false := by rw [kk]; rfl
                              have s39 : (n.kind == 39) = false := by rw [kk]; rfl
                              have s27 : (n.kind == 27) = true := by rw [kk]; rfl
                              have d1 := cell_blk HP.out.2.2.2.2.1 (i := 1) rfl
                              have hsz := str_size n.text
                              have hdat := str_data n.text
                              have hcost := HNUM.out.2.2
                              have HX := Lib.hid HP.out.2.2.2
                              obtain ⟨m1, m2, m3, m4⟩ := Css.name_codes h
                              have hpl := pIdent_le (asc := asc) (need := nd) (mode := 0) m2
                              rw [m3] at hpl
                              have hch : (Css.enc [40]).length = 1 := by decide
                              have HF : Hid (Css.PCore asc nd n (Css.pIdent 0 asc nd (Css.codes n.text) ++ [40]) ∧ Css.Asc asc (Css.pIdent 0 asc nd (Css.codes n.text) ++ [40]) ∧ (Css.enc (Css.pIdent 0 asc nd (Css.codes n.text) ++ [40])).length ≤ 8 * n.text.length + 64) := Lib.hid ⟨by unfold Css.PCore; rw [if_neg (by omega), if_pos kk], (Css.pIdent_asc _).append (Css.Asc.cons (by decide) Css.Asc.nil), by rw [Css.enc_append, List.length_append]; omega⟩
                              have H1 := Lib.hid (HX.out.ident (s := str n.text) (V := Css.codes n.text) (by rw [str_data, m3]) m2 m1 0 (by omega) nd (by omega) (280010 + costL kids + costL (ts.drop (k + 1)) + 1000000) (by omega) (by have := pIdent_le (asc := asc) (need := nd) (mode := 0) m2; rw [m3] at this; omega))
                              rw [← HWN.out] at H1
                              clear hsz hdat hcost m1 m2 m3 m4 hpl hch kk h HX
                              go_wp2_with fail
                              refine H1.out.mono ?_
                              rintro e w3 ⟨rfl, v3, h3⟩
                              have HT3 := Lib.hid h3
                              clear h3 H1
                              go_wp2_with fail
                              refine (HT3.out.say ⟨#[40]⟩ [40] rfl (280000 + costL kids + costL (ts.drop (k + 1)) + 1000000) (say1 (by omega))).mono ?_
                              rintro e w4 ⟨rfl, v4, h4⟩
                              have HT4 := Lib.hid h4
                              clear h4 HT3
                              go_wp2_with fail
                              go_meet
                              exact ⟨rfl, _, _, Lib.hid ⟨HF.out.1, HF.out.2.1, HF.out.2.2, by rw [← List.append_assoc]; exact HT4.out⟩⟩
                          · as_aux_lemma =>
                              have s29 : (n.kind == 29) = false := by rw [kk]; rfl
                              have s39 : (n.kind == 39) = false := by rw [kk]; rfl
                              have s27 : (n.kind == 27) = false := by rw [kk]; rfl
                              have s26 : (n.kind == 26) = false := by rw [kk]; rfl
                              have s1 : (n.kind == 1) = false := by rw [kk]; rfl
                              have s28 : (n.kind == 28) = false := by rw [kk]; rfl
                              have s36 : (n.kind == 36) = true := by rw [kk]; rfl
                              have d1 := cell_blk HP.out.2.2.2.2.1 (i := 1) rfl
                              have hsz := str_size n.text
                              have hdat := str_data n.text
                              have hcost := HNUM.out.2.2
                              have HX := Lib.hid HP.out.2.2.2
                              have m2 := Css.plainX_valid h
                              have m3 := Css.enc_codes m2
                              have H1 := Lib.hid (HX.out.quoted (s := str n.text) (V := Css.codes n.text) (by rw [str_data, m3]) m2 (fun ha => Css.low_codes h (hwt.2.1 ha)) (by omega) (280000 + costL kids + costL (ts.drop (k + 1)) + 1000000) (by omega))
                              have HZ : Hid ((str n.text).size = n.text.length) := Lib.hid hsz
                              have HKK := Lib.hid kk
                              clear hsz hdat hcost m2 m3 kk h HX
                              go_wp2_with fail
                              refine H1.out.mono ?_
                              rintro e w3 ⟨rfl, v3, q1, o1, hq, hQ, hA, hl, h3⟩
                              rw [HZ.out] at hl
                              have HT3 := Lib.hid h3
                              have HF : Hid (Css.PCore asc nd n (q1 :: (o1 ++ [q1])) ∧ Css.Asc asc (q1 :: (o1 ++ [q1])) ∧ (Css.enc (q1 :: (o1 ++ [q1]))).length ≤ 8 * n.text.length + 64) := Lib.hid ⟨by have kk := HKK.out; unfold Css.PCore; rw [if_neg (by omega), if_neg (by omega), if_neg (by omega), if_neg (by omega), if_neg (by omega), if_pos kk]; exact ⟨q1, o1, hq, hQ, rfl⟩, by rcases hq with rfl | rfl <;> exact Css.Asc.cons (by decide) (hA.append (Css.Asc.cons (by decide) Css.Asc.nil)), by omega⟩
                              clear h3 H1 hq hQ hA hl
                              go_wp2_with fail
                              go_meet
                              exact ⟨rfl, _, _, Lib.hid ⟨HF.out.1, HF.out.2.1, HF.out.2.2, HT3.out⟩⟩
                          · as_aux_lemma =>
                              have s29 : (n.kind == 29) = false := by rw [kk]; rfl
                              have s39 : (n.kind == 39) = false := by rw [kk]; rfl
                              have s27 : (n.kind == 27) = false := by rw [kk]; rfl
                              have s26 : (n.kind == 26) = false := by rw [kk]; rfl
                              have s1 : (n.kind == 1) = false := by rw [kk]; rfl
                              have s28 : (n.kind == 28) = false := by rw [kk]; rfl
                              have s36 : (n.kind == 36) = false := by rw [kk]; rfl
                              have s37 : (n.kind == 37) = false := by rw [kk]; rfl
                              have s2 : (n.kind == 2) = false := by rw [kk]; rfl
                              have d1 := cell_blk HP.out.2.2.2.2.1 (i := 1) rfl
                              have hsz := str_size n.text
                              have hdat := str_data n.text
                              have hcost := HNUM.out.2.2
                              have HX := Lib.hid HP.out.2.2.2
                              have n29 : ¬ n.kind = 29 := by omega
                              have n27 : ¬ n.kind = 27 := by omega
                              have n26 : ¬ n.kind = 26 := by omega
                              have n1 : ¬ n.kind = 1 := by omega
                              have n28 : ¬ n.kind = 28 := by omega
                              have n36 : ¬ n.kind = 36 := by omega
                              have hpc : Css.PCore asc nd n (Css.codes n.text) := by unfold Css.PCore; rw [if_neg n29, if_neg n27, if_neg n26, if_neg n1, if_neg n28, if_neg n36]
                              obtain ⟨m2, _, m5⟩ := Css.core_facts hwt.1 hpc
                              have m3 := Css.enc_codes m2
                              have HF : Hid (Css.PCore asc nd n (Css.codes n.text) ∧ Css.Asc asc (Css.codes n.text) ∧ (Css.enc (Css.codes n.text)).length ≤ 8 * n.text.length + 64) := Lib.hid ⟨hpc, m5 n36, by rw [m3]; omega⟩
                              have H1 := Lib.hid (HX.out.say (str n.text) (Css.codes n.text) (by rw [str_data, m3]) (280000 + costL kids + costL (ts.drop (k + 1)) + 1000000) (by omega))
                              clear hsz hdat hcost m2 m3 m5 hpc n29 n27 n26 n1 n28 n36 kk h HX
                              go_wp2_with fail
                              refine H1.out.mono ?_
                              rintro e w3 ⟨rfl, v3, h3⟩
                              have HT3 := Lib.hid h3
                              clear h3 H1
                              go_wp2_with fail
                              go_meet
                              exact ⟨rfl, _, _, Lib.hid ⟨HF.out.1, HF.out.2.1, HF.out.2.2, HT3.out⟩⟩
                          · as_aux_lemma =>
                              have s29 : (n.kind == 29) = false := by rw [kk]; rfl
                              have s39 : (n.kind == 39) = false := by rw [kk]; rfl
                              have s27 : (n.kind == 27) = false := by rw [kk]; rfl
                              have s26 : (n.kind == 26) = false := by rw [kk]; rfl
                              have s1 : (n.kind == 1) = false := by rw [kk]; rfl
                              have s28 : (n.kind == 28) = false := by rw [kk]; rfl
                              have s36 : (n.kind == 36) = false := by rw [kk]; rfl
                              have s37 : (n.kind == 37) = false := by rw [kk]; rfl
                              have s2 : (n.kind == 2) = false := by rw [kk]; rfl
                              have d1 := cell_blk HP.out.2.2.2.2.1 (i := 1) rfl
                              have hsz := str_size n.text
                              have hdat := str_data n.text
                              have hcost := HNUM.out.2.2
                              have HX := Lib.hid HP.out.2.2.2
                              have n29 : ¬ n.kind = 29 := by omega
                              have n27 : ¬ n.kind = 27 := by omega
                              have n26 : ¬ n.kind = 26 := by omega
                              have n1 : ¬ n.kind = 1 := by omega
                              have n28 : ¬ n.kind = 28 := by omega
                              have n36 : ¬ n.kind = 36 := by omega
                              have hpc : Css.PCore asc nd n (Css.codes n.text) := by unfold Css.PCore; rw [if_neg n29, if_neg n27, if_neg n26, if_neg n1, if_neg n28, if_neg n36]
                              obtain ⟨m2, _, m5⟩ := Css.core_facts hwt.1 hpc
                              have m3 := Css.enc_codes m2
                              have HF : Hid (Css.PCore asc nd n (Css.codes n.text) ∧ Css.Asc asc (Css.codes n.text) ∧ (Css.enc (Css.codes n.text)).length ≤ 8 * n.text.length + 64) := Lib.hid ⟨hpc, m5 n36, by rw [m3]; omega⟩
                              have H1 := Lib.hid (HX.out.say (str n.text) (Css.codes n.text) (by rw [str_data, m3]) (280000 + costL kids + costL (ts.drop (k + 1)) + 1000000) (by omega))
                              clear hsz hdat hcost m2 m3 m5 hpc n29 n27 n26 n1 n28 n36 kk h HX
                              go_wp2_with fail
                              refine H1.out.mono ?_
                              rintro e w3 ⟨rfl, v3, h3⟩
                              have HT3 := Lib.hid h3
                              clear h3 H1
                              go_wp2_with fail
                              go_meet
                              exact ⟨rfl, _, _, Lib.hid ⟨HF.out.1, HF.out.2.1, HF.out.2.2, HT3.out⟩⟩
                          · as_aux_lemma =>
                              have s29 : (n.kind == 29) = false := by rw [kk]; rfl
                              have s39 : (n.kind == 39) = false := by rw [kk]; rfl
                              have s27 : (n.kind == 27) = false := by rw [kk]; rfl
                              have s26 : (n.kind == 26) = true := by rw [kk]; rfl
                              have hsz := str_size n.text
                              have hcost := HNUM.out.2.2
                              have HX := Lib.hid HP.out.2.2.2
                              obtain ⟨m1, m2, m3, m4⟩ := Css.name_codes h2
                              have p1 := (Css.lone_number h1).1
                              have p2 := Css.plainX_valid p1
                              have p3 := Css.enc_codes p2
                              have hl1 := str_size (n.text.take n.unit.toNat)
                              have hl2 := str_size (n.text.drop n.unit.toNat)
                              have hl3 : (n.text.take n.unit.toNat).length + (n.text.drop n.unit.toNat).length = n.text.length := by rw [← List.length_append, List.take_append_drop]
                              have ha : ∀ core, Css.PCore asc nd n core → Css.Asc asc core := fun core hc => (Css.core_facts hwt.1 hc).2.2 (by omega)
                              have hpl2 := pIdent_le (asc := asc) (need := nd) (mode := 2) m2
                              have hpl3 := pIdent_le (asc := asc) (need := nd) (mode := 3) m2
                              rw [m3] at hpl2 hpl3
                              have HF : Hid (∀ core, core = Css.codes (n.text.take n.unit.toNat) ++ Css.pIdent (if Css.hasE (Css.codes (n.text.take n.unit.toNat)) then 3 else 2) asc nd (Css.codes (n.text.drop n.unit.toNat)) → Css.PCore asc nd n core ∧ Css.Asc asc core ∧ (Css.enc core).length ≤ 8 * n.text.length + 64) := Lib.hid fun core e => by
                                have hc : Css.PCore asc nd n core := by unfold Css.PCore; rw [if_neg (by omega), if_neg (by omega), if_pos kk]; exact e
                                refine ⟨hc, ha core hc, ?_⟩
                                rw [e, Css.enc_append, List.length_append, p3]
                                split <;> omega
                              have H110 := Lib.hid (fun wx => c110 q n (by omega) u2 (by omega) wx)
                              have H112 := Lib.hid (fun wx => c112 q n (by omega) u2 (by omega) wx)
                              have H111 := Lib.hid (fun wx => c111 (w := wx) (s := str (n.text.take n.unit.toNat)) (ee := ⟨#[101, 69]⟩) (V := Css.codes (n.text.take n.unit.toNat)) (by rw [str_data, p3]) p2 rfl (by omega))
                              have H75 : Hid (∀ wx, Tn F B w base g ws asc v T P (some ad) ts xo per dec xt #[.pointer q, .string (str n.text), .int .i32 0, .int .u32 0, .int .u16 (n.unit % 65536), .int .u8 n.kind, .int .u8 (tokWs n)] ind (290000 + 8 * n.text.length + costL kids + costL (ts.drop (k + 1)) + 1000000) (X ++ pre) v2 wx → Calls Tryz.prog 75 #[.pointer (some ⟨g, 0, none⟩), .string (str (n.text.take n.unit.toNat))] wx fun e w' => e = .returned (.tuple #[]) ∧ ∃ v', Tn F B w base g ws asc v T P (some ad) ts xo per dec xt #[.pointer q, .string (str n.text), .int .i32 0, .int .u32 0, .int .u16 (n.unit % 65536), .int .u8 n.kind, .int .u8 (tokWs n)] ind (280016 + 8 * (n.text.drop n.unit.toNat).length + costL kids + costL (ts.drop (k + 1)) + 1000000) (X ++ pre ++ Css.codes (n.text.take n.unit.toNat)) v' w') := Lib.hid fun wx hx => hx.say (str (n.text.take n.unit.toNat)) (Css.codes (n.text.take n.unit.toNat)) (by rw [str_data, p3]) _ (by omega)
                              have H82 : Hid (∀ wx vx (mode : Nat), mode ≤ 3 → Tn F B w base g ws asc v T P (some ad) ts xo per dec xt #[.pointer q, .string (str n.text), .int .i32 0, .int .u32 0, .int .u16 (n.unit % 65536), .int .u8 n.kind, .int .u8 (tokWs n)] ind (280016 + 8 * (n.text.drop n.unit.toNat).length + costL kids + costL (ts.drop (k + 1)) + 1000000) (X ++ pre ++ Css.codes (n.text.take n.unit.toNat)) vx wx → Calls Tryz.prog 82 #[.pointer (some ⟨g, 0, none⟩), .string (str (n.text.drop n.unit.toNat)), .int .u8 (mode : Int), .int .u8 (if nd then 0 else 1)] wx fun e w' => e = .returned (.tuple #[]) ∧ ∃ v', Tn F B w base g ws asc v T P (some ad) ts xo per dec xt #[.pointer q, .string (str n.text), .int .i32 0, .int .u32 0, .int .u16 (n.unit % 65536), .int .u8 n.kind, .int .u8 (tokWs n)] ind (280000 + costL kids + costL (ts.drop (k + 1)) + 1000000) (X ++ pre ++ Css.codes (n.text.take n.unit.toNat) ++ Css.pIdent mode asc nd (Css.codes (n.text.drop n.unit.toNat))) v' w') := Lib.hid fun wx vx mode hm hx => hx.ident (by rw [str_data, m3]) m2 m1 mode hm nd (by omega) _ (by omega) (by have := pIdent_le (asc := asc) (need := nd) (mode := mode) m2; rw [m3] at this; omega)
                              rw [← HWN.out] at H82
                              clear m1 m2 m3 m4 p1 p2 p3 hl1 hl2 hl3 ha hpl2 hpl3 hsz hcost kk u0 u1 u2 h1 h2
                              have d0 := cell_blk HX.out.2.1 (i := 0) rfl
                              have d1 := cell_blk HX.out.2.1 (i := 1) rfl
                              have d2 := cell_blk HX.out.2.1 (i := 2) rfl
                              have d3 := cell_blk HX.out.2.1 (i := 3) rfl
                              have d4 := cell_blk HX.out.2.1 (i := 4) rfl
                              have d5 := cell_blk HX.out.2.1 (i := 5) rfl
                              have d6 := cell_blk HX.out.2.1 (i := 6) rfl
                              go_wp2_with fail
                              refine (H110.out _).mono ?_
                              rintro e w3 ⟨rfl, hg3⟩
                              have HX3 := Lib.hid (HX.out.free hg3)
                              clear hg3 HX d0 d1 d2 d3 d4 d5 d6 H110
                              go_wp2_with fail
                              refine (H75.out _ HX3.out).mono ?_
                              rintro e w4 ⟨rfl, v4, h4⟩
                              have HX4 := Lib.hid h4
                              clear h4 HX3 H75
                              go_wp2_with fail
                              refine (H111.out _).mono ?_
                              rintro e w5 ⟨rfl, hg5⟩
                              have HX5 := Lib.hid (HX4.out.free hg5)
                              clear hg5 HX4 H111
                              have d0 := cell_blk HX5.out.2.1 (i := 0) rfl
                              have d1 := cell_blk HX5.out.2.1 (i := 1) rfl
                              have d2 := cell_blk HX5.out.2.1 (i := 2) rfl
                              have d3 := cell_blk HX5.out.2.1 (i := 3) rfl
                              have d4 := cell_blk HX5.out.2.1 (i := 4) rfl
                              have d5 := cell_blk HX5.out.2.1 (i := 5) rfl
                              have d6 := cell_blk HX5.out.2.1 (i := 6) rfl
                              cases hE : Css.hasE (Css.codes (n.text.take n.unit.toNat)) with
                              | false =>
                                have HF2 := Lib.hid (HF.out _ (by rw [hE]))
                                go_wp2_with fail
                                refine (H112.out _).mono ?_
                                rintro e w6 ⟨rfl, hg6⟩
                                have HX6 := Lib.hid (HX5.out.free hg6)
                                clear hg6 HX5 d0 d1 d2 d3 d4 d5 d6 H112
                                go_wp2_with fail
                                refine (H82.out _ _ 2 (by omega) HX6.out).mono ?_
                                rintro e w7 ⟨rfl, v7, h7⟩
                                have HX7 := Lib.hid h7
                                clear h7 HX6 H82
                                go_wp2_with fail
                                go_meet
                                exact ⟨rfl, _, _, Lib.hid ⟨HF2.out.1, HF2.out.2.1, HF2.out.2.2, by rw [← List.append_assoc]; exact HX7.out⟩⟩
                              | true =>
                                have HF2 := Lib.hid (HF.out _ (by rw [hE]))
                                go_wp2_with fail
                                refine (H112.out _).mono ?_
                                rintro e w6 ⟨rfl, hg6⟩
                                have HX6 := Lib.hid (HX5.out.free hg6)
                                clear hg6 HX5 d0 d1 d2 d3 d4 d5 d6 H112
                                go_wp2_with fail
                                refine (H82.out _ _ 3 (by omega) HX6.out).mono ?_
                                rintro e w7 ⟨rfl, v7, h7⟩
                                have HX7 := Lib.hid h7
                                clear h7 HX6 H82
                                go_wp2_with fail
                                go_meet
                                exact ⟨rfl, _, _, Lib.hid ⟨HF2.out.1, HF2.out.2.1, HF2.out.2.2, by rw [← List.append_assoc]; exact HX7.out⟩⟩
                          · as_aux_lemma =>
                              obtain ⟨_, x36, x26, x29, x27, x1, x28, _⟩ := Css.isSign_cls kk
                              have s29 : (n.kind == 29) = false := beq_eq_false_iff_ne.2 x29
                              have s39 : (n.kind == 39) = false := t39
                              have s27 : (n.kind == 27) = false := beq_eq_false_iff_ne.2 x27
                              have s26 : (n.kind == 26) = false := beq_eq_false_iff_ne.2 x26
                              have s1 : (n.kind == 1) = false := beq_eq_false_iff_ne.2 x1
                              have s28 : (n.kind == 28) = false := beq_eq_false_iff_ne.2 x28
                              have s36 : (n.kind == 36) = false := beq_eq_false_iff_ne.2 x36
                              have s37 : (n.kind == 37) = false := t37
                              have s2 : (n.kind == 2) = false := t2
                              have d1 := cell_blk HP.out.2.2.2.2.1 (i := 1) rfl
                              have hsz := str_size n.text
                              have hdat := str_data n.text
                              have hcost := HNUM.out.2.2
                              have HX := Lib.hid HP.out.2.2.2
                              have n29 := x29
                              have n27 := x27
                              have n26 := x26
                              have n1 := x1
                              have n28 := x28
                              have n36 := x36
                              clear x36 x26 x29 x27 x1 x28 t39 t37 t2
                              have hpc : Css.PCore asc nd n (Css.codes n.text) := by unfold Css.PCore; rw [if_neg n29, if_neg n27, if_neg n26, if_neg n1, if_neg n28, if_neg n36]
                              obtain ⟨m2, _, m5⟩ := Css.core_facts hwt.1 hpc
                              have m3 := Css.enc_codes m2
                              have HF : Hid (Css.PCore asc nd n (Css.codes n.text) ∧ Css.Asc asc (Css.codes n.text) ∧ (Css.enc (Css.codes n.text)).length ≤ 8 * n.text.length + 64) := Lib.hid ⟨hpc, m5 n36, by rw [m3]; omega⟩
                              have H1 := Lib.hid (HX.out.say (str n.text) (Css.codes n.text) (by rw [str_data, m3]) (280000 + costL kids + costL (ts.drop (k + 1)) + 1000000) (by omega))
                              clear hsz hdat hcost m2 m3 m5 hpc n29 n27 n26 n1 n28 n36 kk h HX
                              go_wp2_with fail
                              refine H1.out.mono ?_
                              rintro e w3 ⟨rfl, v3, h3⟩
                              have HT3 := Lib.hid h3
                              clear h3 H1
                              go_wp2_with fail
                              go_meet
                              exact ⟨rfl, _, _, Lib.hid ⟨HF.out.1, HF.out.2.1, HF.out.2.2, HT3.out⟩⟩
                      case rest =>
                        obtain ⟨rfl, core, v3, HK⟩ := hcut
                        cases ho : Css.opens n.kind with
                        | none =>
                          as_aux_lemma =>
                            obtain rfl := HTK.out.leaf ho
                            have d0 := cell_blk HK.out.2.2.2.2.1 (i := 0) rfl
                            have HF : Hid (TkR asc ts (k + 1) (X ++ pre ++ core)) := Lib.hid (HS.out pre core HP.out.1 HP.out.2.1 (show ∃ core', Css.PCore asc nd n core' ∧ _ from ⟨core, HK.out.1, by rw [ho]⟩) HK.out.2.1 (by have := HP.out.2.2.1; have := HK.out.2.2.1; omega))
                            have HL := Lib.hid (HK.out.2.2.2.1.less (m' := costL (ts.drop (k + 1)) + 1000000) (by omega))
                            clear HS HP HK HTK HWT HNUM ho HND HIH HW HC HLOW HLE
                            go_wp2_with fail
                            go_roundg (ts.length - (k + 1))
                            case measure => omega
                            case rel => exact ⟨k + 1, c2, X ++ pre ++ core, v3, by rw [hndg], rfl, by go_num, by omega, hlt, rfl, Lib.hid ⟨HL.out, HF.out⟩⟩
                        | some cc =>
                          obtain ⟨b, A', cap, rfl, hPb, hbk, hTL⟩ := HTK.out.kids ho
                          have HD : Hid (∀ W X' v' m' ind', Tn F B w base g ws asc v T P (some ad) ts xo per dec xt #[.pointer (some ⟨b, 0, none⟩), .string (str n.text), .int .i32 0, .int .u32 0, .int .u16 (n.unit % 65536), .int .u8 n.kind, .int .u8 (tokWs n)] ind' (m') (X') v' W → W.heap[b]? = some (.cells #[.slice A' kids.length cap] 66 (0, 0)) ∧ TkL W P A' kids ∧ TkT W P (.mk n kids) (tkC (some ⟨b, 0, none⟩) n)) := Lib.hid fun W X' v' m' ind' h => ⟨(HLOW.out _ _ h.1.kv b (h.1.low b hPb)).trans hbk, hTL.keep fun x hx => ⟨hx, HLOW.out _ _ h.1.kv x (h.1.low x hx)⟩, TkT.keep (fun x hx => ⟨hx, HLOW.out _ _ h.1.kv x (h.1.low x hx)⟩) _ _ HTK.out⟩
                          have HF : Hid (∀ y inner, Css.isWs y → (Css.enc y).length ≤ 200020 → Css.PL asc (Css.headBefore kids) kids inner → Css.Asc asc inner → (Css.enc inner).length ≤ costL kids → TkR asc ts (k + 1) (X ++ pre ++ core ++ y ++ inner ++ [Css.closeChar cc])) := Lib.hid fun y inner h1 h2 h3 h4 h5 => by
                            have hcl : Css.closeChar cc < 128 ∧ (Css.enc [Css.closeChar cc]).length = 1 := by
                              unfold Css.opens at ho
                              split at ho
                              · obtain rfl : (8 : Int) = cc := by simpa using ho
                                exact ⟨by decide, by decide⟩
                              · split at ho
                                · obtain rfl : (7 : Int) = cc := by simpa using ho
                                  exact ⟨by decide, by decide⟩
                                · split at ho
                                  · obtain rfl : (6 : Int) = cc := by simpa using ho
                                    exact ⟨by decide, by decide⟩
                                  · cases ho
                            have hlen := HP.out.2.2.1
                            have hlen2 := HK.out.2.2.1
                            have := HS.out pre (core ++ (y ++ (inner ++ [Css.closeChar cc]))) HP.out.1 HP.out.2.1 (show ∃ core', Css.PCore asc nd n core' ∧ _ from ⟨core, HK.out.1, by rw [ho]; exact ⟨y, inner, rfl, h1, h3⟩⟩) (HK.out.2.1.append ((Css.Asc.ws h1).append (h4.append (Css.Asc.cons hcl.1 Css.Asc.nil)))) (by
                              rw [Css.enc_append, Css.enc_append, Css.enc_append, List.length_append, List.length_append, List.length_append, hcl.2]; omega)
                            simpa [List.append_assoc] using this
                          have HN0 := Lib.hid HK.out.2.2.2
                          have HKT : Hid (n.text.length ≤ 2147483648 ∧ kids.length ≤ 1000000) := Lib.hid ⟨by have := HNUM.out.2.2; omega, by have := HNUM.out.1; have := cntL_len kids; omega⟩
                          have hii : (ind : Int) ≤ 100000 := by have := HNUM.out.1; omega
                          clear HS HTK HP HK hbk hTL HND HLOW
                          have d0 := cell_blk HN0.out.2.1 (i := 0) rfl
                          go_upto_region 82 with (fail)
                          clear d0
                          have o2 := cell_blk HN0.out.1.box (i := 2) rfl
                          go_cut [323] from 318 to 323 (fun v323 we => (∃ bb, v323 = .bool bb) ∧ wc = we)
                          case first =>
                            as_aux_lemma =>
                              clear HNUM HF HD HN0 HIH HW HC HLE HWT HKT hc2
                              by_cases hc0 : (0 : Int) < cp
                              all_goals cases dec
                              all_goals
                                go_wp2_with fail
                                go_meet
                                exact ⟨⟨_, rfl⟩, rfl⟩
                          case rest =>
                            obtain ⟨⟨bb, rfl⟩, rfl⟩ := hcut
                            clear o2
                            go_upto_if 323 with (fail)
                            go_cut [23] from 323 to 325 (fun v23 we => ∃ pv : Nat, v23 = .int .u8 (pv : Int) ∧ (pv = 0 ∨ pv = 1 ∨ pv = 2 ∨ pv = 4) ∧ Hid (wc.grownBy we none))
                            case first =>
                              as_aux_lemma =>
                                have H109 := Lib.hid (c109 (w := wc) HN0.out.1.env.tabs (HD.out _ _ _ _ _ HN0.out).2.2 (fun x hx => Nat.lt_of_lt_of_le (HN0.out.1.low x hx) HN0.out.1.env.le) HKT.out.1 HKT.out.2)
                                have d0 := cell_blk HN0.out.2.1 (i := 0) rfl
                                have d1 := cell_blk HN0.out.2.1 (i := 1) rfl
                                have d2 := cell_blk HN0.out.2.1 (i := 2) rfl
                                have d3 := cell_blk HN0.out.2.1 (i := 3) rfl
                                have d4 := cell_blk HN0.out.2.1 (i := 4) rfl
                                have d5 := cell_blk HN0.out.2.1 (i := 5) rfl
                                have d6 := cell_blk HN0.out.2.1 (i := 6) rfl
                                clear HNUM HF HD HN0 HIH HW HC HLE HWT HKT hc2
                                cases bb with
                                | false =>
                                  go_wp2_with fail
                                  go_meet
                                  exact ⟨0, rfl, .inl rfl, Lib.hid (grown_refl _ _)⟩
                                | true =>
                                  go_wp2_with fail
                                  refine H109.out.mono ?_
                                  rintro e w3 ⟨pv, rfl, hpv, hg3⟩
                                  have HG3 := Lib.hid hg3
                                  clear hg3
                                  go_wp2_with fail
                                  go_meet
                                  rcases hpv with rfl | rfl | rfl | rfl
                                  · exact ⟨0, rfl, .inl rfl, HG3⟩
                                  · exact ⟨1, rfl, .inr (.inl rfl), HG3⟩
                                  · exact ⟨2, rfl, .inr (.inr (.inl rfl)), HG3⟩
                                  · exact ⟨4, rfl, .inr (.inr (.inr rfl)), HG3⟩
                            case rest =>
                              obtain ⟨pv, rfl, hpv, hge⟩ := hcut
                              have HN1 := Lib.hid (HN0.out.free hge.out)
                              clear HN0 hge
                              go_upto_if 327 with (fail)
                              go_cut [7] from 327 to 344 (fun v7 wf => v7 = .bool nd ∧ ∃ (ix : Nat) (y : List Int) (v4 : Value), Hid (Css.isWs y ∧ (Css.enc y).length ≤ 200020 ∧ ix = (if pv = 0 then ind else ind + 1) ∧ Tn F B w base g ws asc v T P (some ad) ts xo per dec xt #[.pointer (some ⟨b, 0, none⟩), .string (str n.text), .int .i32 0, .int .u32 0, .int .u16 (n.unit % 65536), .int .u8 n.kind, .int .u8 (tokWs n)] ix (70000 + costL kids + costL (ts.drop (k + 1)) + 1000000) (X ++ pre ++ core ++ y) v4 wf))
                              case first =>
                                as_aux_lemma =>
                                  rcases hpv with rfl | hpv
                                  · go_wp2_with fail
                                    go_meet
                                    exact ⟨rfl, ind, [], v3, Lib.hid ⟨fun c hc => absurd hc (by simp), Nat.zero_le _, rfl, by rw [List.append_nil]; exact HN1.out.less (by omega)⟩⟩
                                  · have HO : Hid (∀ wn, wn = wc.setCell ⟨xo, 0, none⟩ (.int .i32 ((ind : Int) + 1)) → ∃ ix : Nat, ix = ind + 1 ∧ Tn F B w base g ws asc v T P (some ad) ts xo per dec xt #[.pointer (some ⟨b, 0, none⟩), .string (str n.text), .int .i32 0, .int .u32 0, .int .u16 (n.unit % 65536), .int .u8 n.kind, .int .u8 (tokWs n)] ix (280000 + costL kids + costL (ts.drop (k + 1)) + 1000000) (X ++ pre ++ core) v3 wn) := Lib.hid fun wn e => by
                                      subst e
                                      exact ⟨ind + 1, rfl, HN1.out.opt (grown_setCell (grown_refl _ _) _ _) (set_blk HN1.out.1.box 0 _)⟩
                                    have fz := free_blk HN1.out.1.box 0
                                    have o0 := cell_blk HN1.out.1.box (i := 0) rfl
                                    clear HN1 HF HD HIH HW HC HLE HWT HKT hc2
                                    rcases hpv with rfl | rfl | rfl
                                    all_goals
                                      go_upto_region 86 with (fail)
                                      generalize hwn : wc.setCell ⟨xo, 0, none⟩ (.int .i32 ((ind : Int) + 1)) = wn
                                      obtain ⟨ix, hix, hT⟩ := HO.out wn hwn.symm
                                      have HT := Lib.hid hT
                                      clear HO hwn hT fz o0
                                      have c6 := HT.out.1.px.cells.2.1
                                      have hix2 : (ix : Int) ≤ 100001 := by omega
                                      have HIXE := Lib.hid hix
                                      clear hix
                                      cases ws with
                                      | true =>
                                        go_wp2_with fail
                                        go_meet
                                        exact ⟨rfl, ix, [], v3, Lib.hid ⟨fun c hc => absurd hc (by simp), Nat.zero_le _, by rw [if_neg (by decide)]; exact HIXE.out, by rw [List.append_nil]; exact HT.out.less (by omega)⟩⟩
                                      | false =>
                                        go_wp2_with fail
                                        refine (HT.out.say ⟨#[10]⟩ [10] rfl (279990 + costL kids + costL (ts.drop (k + 1)) + 1000000) (say1 (by omega))).mono ?_
                                        rintro e w2 ⟨rfl, v2, h2⟩
                                        have HT2 := Lib.hid h2
                                        have o0 := cell_blk h2.1.box (i := 0) rfl
                                        clear h2 HT c6
                                        go_wp2_with fail
                                        refine (HT2.out.dent1 ix (by omega) (70000 + costL kids + costL (ts.drop (k + 1)) + 1000000) (by have := HNUM.out.1; omega)).mono ?_
                                        rintro e w3 ⟨rfl, v5, h3⟩
                                        have HT3 := Lib.hid h3
                                        clear h3 HT2 o0
                                        go_wp2_with fail
                                        go_meet
                                        refine ⟨rfl, ix, [10] ++ List.replicate (2 * (ix + 1)) 32, v5, Lib.hid ⟨?_, ?_, by rw [if_neg (by decide)]; exact HIXE.out, by rw [← List.append_assoc]; exact HT3.out⟩⟩
                                        · intro c hc
                                          rcases List.mem_append.1 hc with hc | hc
                                          · exact .inr (by simpa using hc)
                                          · exact blanks_ws _ c hc
                                        · have h10 : (Css.enc [10]).length = 1 := by decide
                                          have hbl := blanks_length (ix + 1)
                                          rw [Css.enc_append, List.length_append, enc_blanks]
                                          omega
                              case rest =>
                                obtain ⟨rfl, ix, y, v4, HY⟩ := hcut
                                clear HN1
                                have HIX : Hid (ix + cntL kids ≤ 100000) := Lib.hid (by have h1 := HY.out.2.2.1; have := HNUM.out.1; split at h1 <;> omega)
                                have H80 : Hid (∀ W, wc.grownBy W none → Calls Tryz.prog 80 #[.pointer (some ⟨g, 0, none⟩), .slice A' kids.length cap, .agg #[.int .i32 ix, .int .u8 (pv : Int), .bool false]] W fun e w' => ∃ bo inner v5, e = .returned (.bool bo) ∧ Css.PL asc (Css.headBefore kids) kids inner ∧ Css.Asc asc inner ∧ (Css.enc inner).length ≤ costL kids ∧ Tn F B w base g ws asc v T P (some ad) ts xo per dec xt #[.pointer (some ⟨b, 0, none⟩), .string (str n.text), .int .i32 0, .int .u32 0, .int .u16 (n.unit % 65536), .int .u8 n.kind, .int .u8 (tokWs n)] ix (70000 + costL (ts.drop (k + 1)) + 1000000) (X ++ pre ++ core ++ y ++ inner) v5 w') := Lib.hid fun W hgW => by
                                  have hN := HY.out.2.2.2.free hgW
                                  have hd := HD.out _ _ _ _ _ hN
                                  have hroom := hN.1.room
                                  have hkc := HNUM.out
                                  refine (HIH.out F B W base g ws asc v4 (T ++ Css.enc (X ++ pre ++ core ++ y)) P A' kids cap ix pv false hN.1.px hN.1.env hN.1.hB hd.2.1 hN.1.low (wt_kids HWT.out) hkc.2.1 HIX.out (by omega) (by rw [List.length_append]; exact room9 hroom) (cost9 hkc.2.2)).mono ?_
                                  rintro e w' ⟨inner, v5, rfl, h1, h2, h3, h4, h5⟩
                                  exact ⟨_, inner, v5, rfl, h1, h2, h3, hN.put h4 h5 (put9 h3)⟩
                                have d0 := cell_blk HY.out.2.2.2.2.1 (i := 0) rfl
                                have o0 := cell_blk HY.out.2.2.2.1.box (i := 0) rfl
                                have b0 := cell_blk (HD.out _ _ _ _ _ HY.out.2.2.2).1 (i := 0) rfl
                                have HC2 := Lib.hid hc2
                                clear HIH HIX HWT HKT hc2
                                go_upto_region 89 with (fail)
                                go_cut [7] from 345 to 354 (fun v7 wh => v7 = .bool nd ∧ ∃ inner v5, Hid (Css.PL asc (Css.headBefore kids) kids inner ∧ Css.Asc asc inner ∧ (Css.enc inner).length ≤ costL kids ∧ Tn F B w base g ws asc v T P (some ad) ts xo per dec xt #[.pointer (some ⟨b, 0, none⟩), .string (str n.text), .int .i32 0, .int .u32 0, .int .u16 (n.unit % 65536), .int .u8 n.kind, .int .u8 (tokWs n)] ix (70000 + costL (ts.drop (k + 1)) + 1000000) (X ++ pre ++ core ++ y ++ inner) v5 wh))
                                case first =>
                                  · clear HF HD HW HC HLE HNUM
                                    go_region_with (go_at_call 80; refine (H80.out _ (grown_drewN (grown_refl _ _) _)).mono ?_; rintro e w5 ⟨bo, inner, v5, rfl, h1, h2, h3, h4⟩; have HZ := Lib.hid (And.intro h1 (And.intro h2 (And.intro h3 h4))); clear h1 h2 h3 h4)
                                    all_goals
                                      go_wp2_with fail
                                      go_meet
                                      exact ⟨rfl, inner, v5, HZ⟩
                                case rest =>
                                  obtain ⟨rfl, inner, v5, HZ⟩ := hcut
                                  clear d0 o0 b0 H80
                                  go_upto_if 356 with (fail)
                                  go_cut [7] from 356 to 360 (fun v7 wi => v7 = .bool nd ∧ Hid (Tn F B w base g ws asc v T P (some ad) ts xo per dec xt #[.pointer (some ⟨b, 0, none⟩), .string (str n.text), .int .i32 0, .int .u32 0, .int .u16 (n.unit % 65536), .int .u8 n.kind, .int .u8 (tokWs n)] ind (70000 + costL (ts.drop (k + 1)) + 1000000) (X ++ pre ++ core ++ y ++ inner) v5 wi))
                                  case first =>
                                    as_aux_lemma =>
                                      have hix := HY.out.2.2.1
                                      by_cases hp0 : pv = 0
                                      · rw [if_pos hp0] at hix
                                        subst hix
                                        subst hp0
                                        go_wp2_with fail
                                        go_meet
                                        exact ⟨rfl, Lib.hid HZ.out.2.2.2⟩
                                      · rw [if_neg hp0] at hix
                                        have hpp : (0 : Int) < pv := by omega
                                        have hix2 : (ix : Int) ≤ 100001 := by omega
                                        have hix3 : (1 : Int) ≤ ix := by omega
                                        have HO : Hid (∀ wn, wn = wc.setCell ⟨xo, 0, none⟩ (.int .i32 ((ix : Int) - 1)) → Tn F B w base g ws asc v T P (some ad) ts xo per dec xt #[.pointer (some ⟨b, 0, none⟩), .string (str n.text), .int .i32 0, .int .u32 0, .int .u16 (n.unit % 65536), .int .u8 n.kind, .int .u8 (tokWs n)] ind (70000 + costL (ts.drop (k + 1)) + 1000000) (X ++ pre ++ core ++ y ++ inner) v5 wn) := Lib.hid fun wn e => by
                                          subst e
                                          have hv : (ix : Int) - 1 = ((ind : Nat) : Int) := by omega
                                          rw [hv]
                                          exact HZ.out.2.2.2.opt (grown_setCell (grown_refl _ _) _ _) (set_blk HZ.out.2.2.2.1.box 0 _)
                                        have fz := free_blk HZ.out.2.2.2.1.box 0
                                        have o0 := cell_blk HZ.out.2.2.2.1.box (i := 0) rfl
                                        clear HY HF HD HW HC HLE HNUM HZ hix
                                        go_wp2_with fail
                                        go_meet
                                        exact ⟨rfl, Lib.hid (HO.out _ rfl)⟩
                                  case rest =>
                                    obtain ⟨rfl, HI⟩ := hcut
                                    have HF2 := Lib.hid (HF.out y inner HY.out.1 HY.out.2.1 HZ.out.1 HZ.out.2.1 HZ.out.2.2.1)
                                    clear HF HD HY HZ HW HC HLE
                                    have d5 := cell_blk HI.out.2.1 (i := 5) rfl
                                    have hk4 : (n.kind = 27 ∧ cc = 8) ∨ (n.kind = 33 ∧ cc = 8) ∨ (n.kind = 31 ∧ cc = 6) ∨ (n.kind = 32 ∧ cc = 7) := by
                                      unfold Css.opens at ho
                                      simp only [Bool.or_eq_true, beq_iff_eq] at ho
                                      split at ho
                                      · rename_i hk; rcases hk with hk | hk <;> simp at ho <;> omega
                                      · split at ho
                                        · simp at ho; omega
                                        · split at ho
                                          · simp at ho; omega
                                          · cases ho
                                    clear ho
                                    rcases hk4 with ⟨kk, rfl⟩ | ⟨kk, rfl⟩ | ⟨kk, rfl⟩ | ⟨kk, rfl⟩
                                    · as_aux_lemma =>
                                        have s27 : (n.kind == 27) = true := by rw [kk]; rfl
                                        clear kk HNUM
                                        go_wp2_with fail
                                        refine (HI.out.say ⟨#[41]⟩ [41] rfl (costL (ts.drop (k + 1)) + 1000000) (say1 (by omega))).mono ?_
                                        rintro e w9 ⟨rfl, v9, h9⟩
                                        have HL := Lib.hid h9.1
                                        clear h9 HI d5
                                        go_wp2_with fail
                                        go_roundg (ts.length - (k + 1))
                                        case measure => omega
                                        case rel => exact ⟨k + 1, c2, _, v9, by rw [hndg], rfl, by go_num, by have := HC2.out; omega, hlt, rfl, Lib.hid ⟨HL.out, HF2.out⟩⟩
                                    · as_aux_lemma =>
                                        have s27 : (n.kind == 27) = false := by rw [kk]; rfl
                                        have s33 : (n.kind == 33) = true := by rw [kk]; rfl
                                        clear kk HNUM
                                        go_wp2_with fail
                                        refine (HI.out.say ⟨#[41]⟩ [41] rfl (costL (ts.drop (k + 1)) + 1000000) (say1 (by omega))).mono ?_
                                        rintro e w9 ⟨rfl, v9, h9⟩
                                        have HL := Lib.hid h9.1
                                        clear h9 HI d5
                                        go_wp2_with fail
                                        go_roundg (ts.length - (k + 1))
                                        case measure => omega
                                        case rel => exact ⟨k + 1, c2, _, v9, by rw [hndg], rfl, by go_num, by have := HC2.out; omega, hlt, rfl, Lib.hid ⟨HL.out, HF2.out⟩⟩
                                    · as_aux_lemma =>
                                        have s27 : (n.kind == 27) = false := by rw [kk]; rfl
                                        have s33 : (n.kind == 33) = false := by rw [kk]; rfl
                                        have s31 : (n.kind == 31) = true := by rw [kk]; rfl
                                        clear kk HNUM
                                        go_wp2_with fail
                                        refine (HI.out.say ⟨#[125]⟩ [125] rfl (costL (ts.drop (k + 1)) + 1000000) (say1 (by omega))).mono ?_
                                        rintro e w9 ⟨rfl, v9, h9⟩
                                        have HL := Lib.hid h9.1
                                        clear h9 HI d5
                                        go_wp2_with fail
                                        go_roundg (ts.length - (k + 1))
                                        case measure => omega
                                        case rel => exact ⟨k + 1, c2, _, v9, by rw [hndg], rfl, by go_num, by have := HC2.out; omega, hlt, rfl, Lib.hid ⟨HL.out, HF2.out⟩⟩
                                    · as_aux_lemma =>
                                        have s27 : (n.kind == 27) = false := by rw [kk]; rfl
                                        have s33 : (n.kind == 33) = false := by rw [kk]; rfl
                                        have s31 : (n.kind == 31) = false := by rw [kk]; rfl
                                        have s32 : (n.kind == 32) = true := by rw [kk]; rfl
                                        clear kk HNUM
                                        go_wp2_with fail
                                        refine (HI.out.say ⟨#[93]⟩ [93] rfl (costL (ts.drop (k + 1)) + 1000000) (say1 (by omega))).mono ?_
                                        rintro e w9 ⟨rfl, v9, h9⟩
                                        have HL := Lib.hid h9.1
                                        clear h9 HI d5
                                        go_wp2_with fail
                                        go_roundg (ts.length - (k + 1))
                                        case measure => omega
                                        case rel => exact ⟨k + 1, c2, _, v9, by rw [hndg], rfl, by go_num, by have := HC2.out; omega, hlt, rfl, Lib.hid ⟨HL.out, HF2.out⟩⟩
          · obtain rfl : k = ts.length := by omega
            have HE := Lib.hid (HR.out.2.stop)
            have HX := Lib.hid HR.out.1
            have HTc := Lib.hid HC.out.1
            have hwl := wsA_last ts
            clear HR HW HC HIH hck hkl HLE hlt
            generalize hll : Css.lastAfter (Css.headBefore ts) ts = la at hwl HE ⊢
            rw [hwl]
            cases la with
            | false =>
              go_wp2_with fail
              go_ret
              exact ⟨X ++ [], vr, by rw [hll]; rfl, HE.out.1, HE.out.2.1, HE.out.2.2, by rw [List.append_nil]; exact HX.out.px, HX.out.kv⟩
            | true =>
              go_wp2_with fail
              refine (HX.out.say ⟨#[32]⟩ [32] rfl 999990 (by rw [size1]; omega)).mono ?_
              rintro e w2 ⟨rfl, v2, h2⟩
              have HX2 := Lib.hid h2
              clear h2 HX
              go_wp2_with fail
              go_ret
              exact ⟨X ++ [32], v2, by rw [hll]; rfl, HE.out.1, HE.out.2.1, HE.out.2.2, HX2.out.px, HX2.out.kv⟩
theorem c80 : ∀ N, ToksC N
  | 0 => fun F B w base g ws asc v T P A ts c ind per dec h hE hB hL hP hW hN => absurd hN (Nat.not_lt_zero _)
  | N + 1 => c80_step N (c80 N)
end Go.Proofs.YtkfdcbdlcipmfaaGreatFmt
