/- Declaration. -/
import Derived.Test.YtkfdcbdlcipmfaaGreatFmtHG
set_option linter.unusedVariables false
set_option linter.unusedSimpArgs false
namespace Go.Proofs.YtkfdcbdlcipmfaaGreatFmt
open Go.RowKit Go.Extern.Stop Go.Stop Go.Extern

theorem declText_len {asc : Bool} {name : List UInt8} {body R : List Int} {n : Nat} (hn : Css.isName name = true) (hss : name.length ≤ 1048576) (hb : (Css.enc body).length ≤ 520000000) (hR : (Css.enc R).length ≤ n) : (Css.enc (Css.declText asc name body R)).length ≤ 530000000 + n := by
  have h1 := ident_len (asc := asc) (need := false) hn hss
  unfold Css.declText
  rw [Css.enc_append, List.length_append, enc_cons_len (by decide), Css.enc_append, List.length_append]
  omega
def declQ (asc ws : Bool) (key : List UInt8) (ts : List Css.Tree) (imp : Bool) (X : List Int) : Prop := ∃ body, Css.PL asc (Css.headBefore ts) ts body ∧ Css.Asc asc body ∧ (Css.enc body).length ≤ costL ts ∧ X = declX asc ws 0 key body imp false
theorem declX_eq (asc ws : Bool) (key : List UInt8) (body : List Int) (imp : Bool) : declX asc ws 0 key body imp false = Css.declText asc key body ((if imp then 33 :: Css.impCodes else []) ++ 59 :: Css.nl ws) := by
  unfold declX
  cases ws <;> simp
def DecTo (imp asc ws : Bool) (key : List UInt8) (ts : List Css.Tree) (s : ByteArray) : Prop := if imp then ImpTo asc ws key ts s else DeclTo asc ws key ts s
theorem declX_to {asc ws : Bool} {key : List UInt8} {ts : List Css.Tree} {imp : Bool} {body : List Int} (hn : Css.isName key = true) (hss : key.length ≤ 1048576) (hc : costL ts ≤ 520000000) (b1 : Css.PL asc (Css.headBefore ts) ts body) (b2 : Css.Asc asc body) (b3 : (Css.enc body).length ≤ costL ts) :
    DecTo imp asc ws key ts (str (Css.enc (declX asc ws 0 key body imp false))) := by
  have hR : (Css.enc ((if imp then 33 :: Css.impCodes else []) ++ 59 :: Css.nl ws)).length ≤ 20 := by cases imp <;> cases ws <;> decide
  have hl := declText_len (asc := asc) hn hss (Nat.le_trans b3 hc) hR
  rw [← declX_eq] at hl
  cases imp
  · exact ⟨by rw [str_size]; omega, body, b1, b2, by rw [str_data, declX_eq]; rfl⟩
  · exact ⟨by rw [str_size]; omega, body, b1, b2, by rw [str_data, declX_eq]; rfl⟩

set_option maxRecDepth 400000 in
set_option maxHeartbeats 40000000 in
theorem c22 {F : Interp} {w : World} {ws asc : Bool} {key : List UInt8} {A : Option Addr} {c : Nat} {l : List Css.Node} {ts : List Css.Tree} (imp : Bool) (h1 : F.told.answers w.tape) (h2 : Tabs w) (hp : Prep asc l ts) (htok : ∀ n ∈ l, Tokable n) (hN : Nd w w.heap.size A l) (hc : l.length ≤ c) (hn : namedB asc key = true) (hla : imp = true → ts = [] ∨ Css.lastAfter (Css.headBefore ts) ts = true) :
    Calls Tryz.prog 22 #[.string (str key), .slice A l.length c, .bool imp, .bool ws, .bool asc] w fun e w' => ∃ s, e = .returned (.string s) ∧ w.grownBy w' none ∧ DecTo imp asc ws key ts s := by
  obtain ⟨hss, hnm, _⟩ := named_of hn
  have H33 : Hid (Calls Tryz.prog 33 #[.slice A l.length c, .int .i64 0] w (TokR l 0 w)) := Lib.hid (c33 (l.length + 1) w A c l 0 hN hc (by omega) hp.len htok (by omega) (by omega))
  have HP := Lib.hid (And.intro h1 (And.intro h2 (And.intro hp (And.intro hss hnm))))
  have HLA := Lib.hid hla
  clear h1 h2 hp htok hN hn hss hnm hla
  go_enter Tryz.func22, Tryz.ntmps22
  go_wp2_with fail
  refine H33.out.mono ?_
  rintro e w1 ⟨A', c', ts', r, rfl, hg, hps, hL⟩
  obtain ⟨rfl, rfl⟩ := parses_det HP.out.2.2.1.tr.parses hps
  have H34 : Hid (∀ W, W = w1.alloc (.cells #[.string (str key), .slice A' ts'.length c', .int .i32 0, .int .i32 0, .int .u16 0, .bool imp] 77 (0, 0)) → w.grownBy W none ∧ Calls Tryz.prog 34 #[.iface 69 (.pointer (some ⟨w1.heap.size, 0, none⟩)), .bool ws, .bool asc] W fun e w' => ∃ X, e = .returned (.string (str (Css.enc X))) ∧ W.grownBy w' none ∧ declQ asc ws key ts' imp X) := Lib.hid fun W e => by
    have hgW : w1.grownBy W none := by rw [e]; exact grown_alloc (grown_refl _ _) _
    have hbW : W.heap[w1.heap.size]? = some (declB key A' ts'.length c' imp) := by rw [e]; exact new_blk _ _
    have hzW : W.heap.size = w1.heap.size + 1 := by rw [e]; simp
    clear e
    have hwW := grown_trans hg hgW
    refine ⟨hwW, c34 (xr := w1.heap.size) fun w3 g base v hg3 hP3 hge => ?_⟩
    have hE := (Env.start (F := F) (w := W) (by rw [hwW.tape]; exact HP.out.1) (HP.out.2.1.free hwW)).free hg3
    have hcc := HP.out.2.2.1.cost
    refine (c56_decl hP3 hE hge (by simp) (xr := w1.heap.size) imp false 0 (by omega) (free_keep hg3 hbW) (by omega) (hL.keep fun b hb => ⟨hb, (grown_trans hgW hg3).block b hb.2 (by simp)⟩) (fun b hb => by have := hb.2; omega) HP.out.2.2.1.tr.wl hcc.2 hcc.1 HP.out.2.2.2.2 HP.out.2.2.2.1 HLA.out).mono ?_
    rintro e w4 ⟨rfl, body, v', b1, b2, b3, hPm, hK⟩
    exact ⟨rfl, _, v', ⟨body, b1, b2, b3, rfl⟩, by simpa using hPm.px, hK⟩
  clear hps hL hg
  go_wp2_with fail
  obtain ⟨hw, h34⟩ := H34.out _ rfl
  refine h34.mono ?_
  rintro e w2 ⟨X, rfl, hg2, body, b1, b2, b3, rfl⟩
  have HZ := Lib.hid (And.intro (grown_trans hw hg2) (declX_to (ws := ws) (imp := imp) HP.out.2.2.2.2 HP.out.2.2.2.1 HP.out.2.2.1.cost.1 b1 b2 b3))
  clear hw h34 hg2 b1 b2 b3
  go_wp2_with fail
  exact bodyPost_ret (v := .string (str (Css.enc (declX asc ws 0 key body imp false)))) (by simp [results, Tryz.results22, go_sem]) rfl ⟨_, rfl, HZ.out⟩
end Go.Proofs.YtkfdcbdlcipmfaaGreatFmt
/- Qualified. -/
namespace Go.Proofs.YtkfdcbdlcipmfaaGreatFmt
open Go.RowKit Go.Extern.Stop Go.Stop Go.Extern

def ruleQ (asc ws : Bool) (key : List UInt8) (ts1 ts2 : List Css.Tree) (X : List Int) : Prop := ∃ body1 body2, Css.PL asc (Css.headBefore ts1) ts1 body1 ∧ Css.Asc asc body1 ∧ (Css.enc body1).length ≤ costL ts1 ∧ Css.PL asc (Css.headBefore ts2) ts2 body2 ∧ Css.Asc asc body2 ∧ (Css.enc body2).length ≤ costL ts2 ∧ X = Css.ruleText asc (Css.gapOf ws ts1) (Css.nlOf ws) (Css.endOf ws) key body1 body2
theorem ruleQ_to {asc ws : Bool} {key : List UInt8} {ts1 ts2 : List Css.Tree} {X : List Int} (hn : Css.isName key = true) (hss : key.length ≤ 1048576) (hc1 : costL ts1 ≤ 520000000) (hc2 : costL ts2 ≤ 520000000) (h : ruleQ asc ws key ts1 ts2 X) : RuleTo asc ws key ts1 ts2 (str (Css.enc X)) := by
  obtain ⟨body1, body2, b1, b2, b3, b4, b5, b6, rfl⟩ := h
  have hR : (Css.enc (Css.endOf ws)).length ≤ 20 := by cases ws <;> decide
  have hl := declText_len (asc := asc) hn hss (Nat.le_trans b6 hc2) hR
  have hg : (Css.enc (Css.gapOf ws ts1)).length ≤ 1 := by unfold Css.gapOf; split <;> decide
  have hnl : (Css.enc (Css.nlOf ws)).length ≤ 3 := by cases ws <;> decide
  refine ⟨?_, body1, body2, b1, b2, b4, b5, str_data _⟩
  rw [str_size]
  unfold Css.ruleText
  rw [Css.enc_append, List.length_append, Css.enc_append, List.length_append, enc_cons_len (by decide), Css.enc_append, List.length_append]
  omega

set_option maxRecDepth 400000 in
set_option maxHeartbeats 40000000 in
theorem c18 {F : Interp} {w : World} {ws asc : Bool} {key : List UInt8} {A1 A2 : Option Addr} {c1 c2 : Nat} {l1 l2 : List Css.Node} {ts1 ts2 : List Css.Tree} (h1 : F.told.answers w.tape) (h2 : Tabs w) (hp1 : Prep asc l1 ts1) (htok1 : ∀ n ∈ l1, Tokable n) (hN1 : Nd w w.heap.size A1 l1) (hc1 : l1.length ≤ c1)
    (hp2 : Prep asc l2 ts2) (htok2 : ∀ n ∈ l2, Tokable n) (hN2 : Nd w w.heap.size A2 l2) (hc2 : l2.length ≤ c2) (hn : namedB asc key = true) :
    Calls Tryz.prog 18 #[.slice A1 l1.length c1, .string (str key), .slice A2 l2.length c2, .bool ws, .bool asc] w fun e w' => ∃ s, e = .returned (.string s) ∧ w.grownBy w' none ∧ RuleTo asc ws key ts1 ts2 s := by
  obtain ⟨hss, hnm, _⟩ := named_of hn
  have H33 : Hid (Calls Tryz.prog 33 #[.slice A1 l1.length c1, .int .i64 0] w (TokR l1 0 w)) := Lib.hid (c33 (l1.length + 1) w A1 c1 l1 0 hN1 hc1 (by omega) hp1.len htok1 (by omega) (by omega))
  have H33b : Hid (∀ W, w.grownBy W none → Calls Tryz.prog 33 #[.slice A2 l2.length c2, .int .i64 0] W (TokR l2 0 W)) := Lib.hid fun W hg => c33 (l2.length + 1) W A2 c2 l2 0 (Sl.more (Sl.free hN2 hg (Nat.le_refl _)) hg.size) hc2 (by omega) hp2.len htok2 (by omega) (by omega)
  have HP := Lib.hid (And.intro h1 (And.intro h2 (And.intro hp1 (And.intro hp2 (And.intro hss hnm)))))
  clear h1 h2 hp1 htok1 hN1 hp2 htok2 hN2 hn hss hnm hc1 hc2
  go_enter Tryz.func18, Tryz.ntmps18
  go_wp2_with fail
  refine H33.out.mono ?_
  rintro e w1 ⟨A1', c1', ts1', r1, rfl, hg1, hps1, hL1⟩
  obtain ⟨rfl, rfl⟩ := parses_det HP.out.2.2.1.tr.parses hps1
  have HL1 := Lib.hid (And.intro hg1 hL1)
  clear hps1 hL1 hg1
  go_wp2_with fail
  refine (H33b.out _ HL1.out.1).mono ?_
  rintro e w2 ⟨A2', c2', ts2', r2, rfl, hg2, hps2, hL2⟩
  obtain ⟨rfl, rfl⟩ := parses_det HP.out.2.2.2.1.tr.parses hps2
  have H34 : Hid (∀ W, W = ((w2.alloc (.cells #[.string (str key), .slice A2' ts2'.length c2', .int .i32 0, .int .i32 0, .int .u16 0, .bool false] 77 (0, 0))).alloc (.cells #[.iface 69 (.pointer (some ⟨w2.heap.size, 0, none⟩)), .int .i32 0] 81 (0, 0))).alloc (.cells #[.slice A1' ts1'.length c1', .slice (some ⟨w2.heap.size + 1, 0, none⟩) 1 1, .int .i32 0] 86 (0, 0)) →
      w.grownBy W none ∧ Calls Tryz.prog 34 #[.iface 84 (.pointer (some ⟨w2.heap.size + 1 + 1, 0, none⟩)), .bool ws, .bool asc] W fun e w' => ∃ X, e = .returned (.string (str (Css.enc X))) ∧ W.grownBy w' none ∧ ruleQ asc ws key ts1' ts2' X) := Lib.hid fun W e => by
    have g1 := grown_alloc (grown_refl w2 none) (.cells #[.string (str key), .slice A2' ts2'.length c2', .int .i32 0, .int .i32 0, .int .u16 0, .bool false] 77 (0, 0))
    have g2 := grown_alloc (grown_refl (w2.alloc (.cells #[.string (str key), .slice A2' ts2'.length c2', .int .i32 0, .int .i32 0, .int .u16 0, .bool false] 77 (0, 0))) none) (.cells #[.iface 69 (.pointer (some ⟨w2.heap.size, 0, none⟩)), .int .i32 0] 81 (0, 0))
    have g3 := grown_alloc (grown_refl ((w2.alloc (.cells #[.string (str key), .slice A2' ts2'.length c2', .int .i32 0, .int .i32 0, .int .u16 0, .bool false] 77 (0, 0))).alloc (.cells #[.iface 69 (.pointer (some ⟨w2.heap.size, 0, none⟩)), .int .i32 0] 81 (0, 0))) none) (.cells #[.slice A1' ts1'.length c1', .slice (some ⟨w2.heap.size + 1, 0, none⟩) 1 1, .int .i32 0] 86 (0, 0))
    have hgW : w2.grownBy W none := by rw [e]; exact grown_trans g1 (grown_trans g2 g3)
    have hb1 : W.heap[w2.heap.size]? = some (declB key A2' ts2'.length c2' false) := by rw [e]; exact free_keep g3 (free_keep g2 (new_blk _ _))
    have hb2 : W.heap[w2.heap.size + 1]? = some (rulesB w2.heap.size) := by rw [e]; exact free_keep g3 (new_blk' (by simp))
    have hb3 : W.heap[w2.heap.size + 1 + 1]? = some (.cells #[.slice A1' ts1'.length c1', .slice (some ⟨w2.heap.size + 1, 0, none⟩) 1 1, .int .i32 0] 86 (0, 0)) := by rw [e]; exact new_blk' (by simp)
    have hzW : W.heap.size = w2.heap.size + 3 := by rw [e]; simp
    clear e g1 g2 g3
    have h12 := HL1.out.1.size
    have h22 := hg2.size
    have hwW := grown_trans HL1.out.1 (grown_trans hg2 hgW)
    refine ⟨hwW, c34 (xr := w2.heap.size + 1 + 1) fun w3 g base v hg3 hP3 hge => ?_⟩
    have hE := (Env.start (F := F) (w := W) (by rw [hwW.tape]; exact HP.out.1) (HP.out.2.1.free hwW)).free hg3
    have hcc1 := HP.out.2.2.1.cost
    have hcc2 := HP.out.2.2.2.1.cost
    refine (c56_rule hP3 hE hge (by simp) (xq := w2.heap.size + 1 + 1) (xs := w2.heap.size + 1) (xr := w2.heap.size) (free_keep hg3 hb3) (by omega) (free_keep hg3 hb2) (by omega) (free_keep hg3 hb1) (by omega)
      (HL1.out.2.keep fun b hb => ⟨hb, (grown_trans hg2 (grown_trans hgW hg3)).block b hb.2 (by simp)⟩) (fun b hb => by have := hb.2; omega) HP.out.2.2.1.tr.wl hcc1.2 hcc1.1
      (hL2.keep fun b hb => ⟨hb, (grown_trans hgW hg3).block b hb.2 (by simp)⟩) (fun b hb => by have := hb.2; omega) HP.out.2.2.2.1.tr.wl hcc2.2 hcc2.1 HP.out.2.2.2.2.2 HP.out.2.2.2.2.1).mono ?_
    rintro e w4 ⟨rfl, body1, body, v', b1, b2, b3, b4, b5, b6, hPm⟩
    exact ⟨rfl, _, v', ⟨body1, body, b1, b2, b3, b4, b5, b6, rfl⟩, by simpa using hPm.px, hPm.kv⟩
  clear hps2 hL2 hg2
  go_wp2_with fail
  obtain ⟨hw, h34⟩ := H34.out _ rfl
  refine h34.mono ?_
  rintro e w3 ⟨X, rfl, hg3, hX⟩
  have HZ := Lib.hid (And.intro (grown_trans hw hg3) (ruleQ_to HP.out.2.2.2.2.2 HP.out.2.2.2.2.1 HP.out.2.2.1.cost.1 HP.out.2.2.2.1.cost.1 hX))
  clear hw h34 hg3 hX
  go_wp2_with fail
  exact bodyPost_ret (v := .string (str (Css.enc X))) (by simp [results, Tryz.results18, go_sem]) rfl ⟨_, rfl, HZ.out⟩
end Go.Proofs.YtkfdcbdlcipmfaaGreatFmt
/- wakes. -/
namespace Go.Proofs.YtkfdcbdlcipmfaaGreatFmt
open Go.RowKit Go.Extern.Stop Go.Stop Go.Extern

def wakeN : Css.Node := ⟨29, 0, 0, [97], false, false⟩
theorem wake_prep : Prep false [wakeN] [.mk wakeN []] := by
  obtain ⟨ts, h⟩ := Css.isTrees_of (ascii := false) (l := [wakeN]) (by kernel_rfl) (by simp [Css.tightL]) (by simp)
  obtain ⟨rfl, _⟩ := parses_det (Css.Parses.leaf (n := wakeN) (by decide) (by decide) (.nil 0)) h.parses
  exact ⟨h, by kernel_rfl, by decide, by simp [wakeN], by decide⟩
theorem wake_to {s : ByteArray} (h : AtTo false true [120] [.mk wakeN []] s) : s = ⟨#[64, 120, 32, 97, 59]⟩ := by
  obtain ⟨_, body, hb, _, he⟩ := h
  have hbody : body = [97] := by
    unfold Css.PL at hb
    obtain ⟨pre, b, rest, rfl, _, h2, h3, h4⟩ := hb
    have hp : pre = [] := h2.2 rfl
    have hr : rest = [] := h4
    unfold Css.PT at h3
    obtain ⟨core, hc, hbc⟩ := h3
    have h29 : Css.opens wakeN.kind = none := by decide
    rw [h29] at hbc
    have hb2 : b = core := hbc
    have hcc : core = Css.pIdent 0 false false (Css.codes [97]) := hc
    rw [hp, hr, hb2, hcc]
    exact (show [] ++ (Css.pIdent 0 false false (Css.codes [97]) ++ []) = ([97] : List Int) by kernel_rfl)
  subst hbody
  have hx : Css.enc (Css.atText false [120] [.mk wakeN []] [97] (Css.nl true)) = [64, 120, 32, 97, 59] := by kernel_rfl
  rw [hx] at he
  cases s with
  | mk d => 
    have : d = #[64, 120, 32, 97, 59] := by
      apply Array.ext'
      exact he
    rw [this]

set_option maxRecDepth 400000 in
theorem c13 {F : Interp} {w : World} (h1 : F.told.answers w.tape) (h2 : Tabs w) : Calls Tryz.prog 13 #[] w fun e w' => e = .returned (.bool true) ∧ w.grownBy w' none := by
  have H19 : Hid (∀ W, W = w.alloc (.cells (nodesC [wakeN]).toArray 45 (0, 0)) → w.grownBy W none ∧ Calls Tryz.prog 19 #[.string (str [120]), .slice (some ⟨w.heap.size, 0, none⟩) 1 1, .bool true, .bool false] W fun e w' => ∃ s, e = .returned (.string s) ∧ W.grownBy w' none ∧ AtTo false true [120] [.mk wakeN []] s) := Lib.hid fun W e => by
    have hgW : w.grownBy W none := by rw [e]; exact grown_alloc (grown_refl _ _) _
    have hbW : W.heap[w.heap.size]? = some (.cells (nodesC [wakeN]).toArray 45 (0, 0)) := by rw [e]; exact new_blk _ _
    have hz : w.heap.size < W.heap.size := lt_of_block hbW
    refine ⟨hgW, c19 (F := F) (l := [wakeN]) (by rw [hgW.tape]; exact h1) (h2.free hgW) wake_prep (by simp [Tokable, wakeN]) ⟨rfl, fun _ => ⟨⟨w.heap.size, 0, none⟩, rfl, hz, fun j u hj => ?_⟩⟩ (Nat.le_refl _) (by kernel_rfl)⟩
    rcases j with _ | j
    · exact cell_blk (i := 0) hbW (by simpa using hj)
    · rw [add_lit _ (by omega)]
      simp only [Nat.zero_add]
      exact cell_blk (i := j + 1) hbW (by simpa using hj)
  unfold nodesC nodeCells wakeN at H19
  simp only [List.flatMap_cons, List.flatMap_nil, List.append_nil] at H19
  clear h1 h2
  go_enter Tryz.func13, Tryz.ntmps13
  go_wp2_with fail
  obtain ⟨hw, h19⟩ := H19.out _ rfl
  refine h19.mono ?_
  rintro e w2 ⟨s, rfl, hg, hs⟩
  obtain rfl := wake_to hs
  have HZ := Lib.hid (grown_trans hw hg)
  clear hw h19 hg hs
  go_wp2_with fail
  exact bodyPost_ret (v := .bool true) (by simp [results, Tryz.results13, go_sem]) rfl ⟨rfl, HZ.out⟩
end Go.Proofs.YtkfdcbdlcipmfaaGreatFmt
/- Between, value. -/
namespace Go.Proofs.YtkfdcbdlcipmfaaGreatFmt
open Go.RowKit Go.Extern.Stop Go.Stop Go.Extern

set_option maxRecDepth 400000 in
theorem c36 {s A Z M : ByteArray} {k : Nat} {w : World} (hs : s.size = k + Z.size) (hk : k = A.size + M.size) (e1 : s.extract 0 A.size = A) (e2 : s.extract k s.size = Z) (e3 : s.extract A.size k = M) (hz : s.size ≤ 1200000000) :
    Calls Tryz.prog 36 #[.string s, .string A, .string Z] w fun e w' => e = .returned (.string M) ∧ w = w' := by
  have h1 : ¬ ((s.size : Int) < A.size + Z.size) := by omega
  have h2 : (s.size : Int) - Z.size = (k : Int) := by omega
  have h3 : (A.size : Int) ≤ s.size := by omega
  have h4 : (k : Int) ≤ s.size := by omega
  have h5 : (A.size : Int) ≤ k := by omega
  have h6 : (A.size : Int) ≤ 1200000000 := by omega
  have h7 : (Z.size : Int) ≤ 1200000000 := by omega
  have h8 : (s.size : Int) ≤ 1200000000 := by omega
  have h11 : (A.size : Int) + Z.size ≤ 1200000000 := by omega
  clear hs hk hz
  go_enter Tryz.func36, Tryz.ntmps36
  go_wp2_with fail
  exact bodyPost_ret (v := .string M) (by simp [results, Tryz.results36, go_sem]) rfl ⟨rfl, rfl⟩

def ValTo (asc : Bool) (ts : List Css.Tree) (s : ByteArray) : Prop :=
  s.size ≤ 600000000 ∧ ∃ body, Css.PL asc (Css.headBefore ts) ts body ∧ Css.Asc asc body ∧ s.data.toList = Css.enc body
def endZ (m : Bool) : ByteArray := if m then ⟨#[59]⟩ else ⟨#[59, 10]⟩
theorem str_eta (s : ByteArray) : s = str s.data.toList := by cases s; simp [str]
theorem val_cut {s : ByteArray} {asc m : Bool} {ts : List Css.Tree} (h : DeclTo asc m [107] ts s) :
    ∃ k M, s.size = k + (endZ m).size ∧ k = 2 + M.size ∧ s.extract 0 2 = ⟨#[107, 58]⟩ ∧ s.extract k s.size = endZ m ∧ s.extract 2 k = M ∧ s.size ≤ 1200000000 ∧ ValTo asc ts M := by
  obtain ⟨hz, body, b1, b2, he⟩ := h
  have hp : Css.pIdent 0 asc false (Css.codes [107]) = [107] := by cases asc <;> kernel_rfl
  have hL : s.data.toList = 107 :: 58 :: (Css.enc body ++ (endZ m).data.toList) := by
    rw [he]
    unfold Css.declText
    rw [hp, Css.enc_append, show Css.enc [107] = [107] from by decide, show ∀ l : List Int, Css.enc (58 :: l) = 58 :: Css.enc l from fun l => by simp [Css.enc, show Css.enc1 58 = [58] from by decide], Css.enc_append]
    have hR : Css.enc (59 :: Css.nl m) = (endZ m).data.toList := by cases m <;> decide
    rw [hR]
    rfl
  have hlen : s.size = 2 + (Css.enc body).length + (endZ m).size := by
    have h1 : s.size = s.data.toList.length := (Array.length_toList).symm
    have h2 : (endZ m).size = (endZ m).data.toList.length := (Array.length_toList).symm
    rw [h1, h2, hL]
    simp
    omega
  have hs := str_eta s
  refine ⟨2 + (Css.enc body).length, str (Css.enc body), hlen, by rw [str_size], ?_, ?_, ?_, by omega, ⟨by rw [str_size]; omega, body, b1, b2, str_data _⟩⟩
  · rw [hs, str_take, hL]; rfl
  · have h1 : s.size = s.data.toList.length := (Array.length_toList).symm
    have : (str s.data.toList).extract (2 + (Css.enc body).length) s.data.toList.length = str (s.data.toList.drop (2 + (Css.enc body).length)) := str_drop _ _
    rw [← hs, ← h1] at this
    rw [this, hL]
    rw [show (107 :: 58 :: (Css.enc body ++ (endZ m).data.toList) : List UInt8) = ([107, 58] ++ Css.enc body) ++ (endZ m).data.toList from by simp, List.drop_left' (by simp; omega)]
    exact (str_eta _).symm
  · exact str_sub (by rw [hL]; simp)

set_option maxRecDepth 400000 in
set_option maxHeartbeats 4000000 in
theorem c23 {F : Interp} {w : World} {ws asc : Bool} {A : Option Addr} {c : Nat} {l : List Css.Node} {ts : List Css.Tree} (h1 : F.told.answers w.tape) (h2 : Tabs w) (hp : Prep asc l ts) (htok : ∀ n ∈ l, Tokable n) (hN : Nd w w.heap.size A l) (hc : l.length ≤ c) :
    Calls Tryz.prog 23 #[.slice A l.length c, .bool ws, .bool asc] w fun e w' => ∃ s, e = .returned (.string s) ∧ w.grownBy w' none ∧ ValTo asc ts s := by
  have H22 : Hid (Calls Tryz.prog 22 #[.string ⟨#[107]⟩, .slice A l.length c, .bool false, .bool ws, .bool asc] w fun e w' => ∃ s, e = .returned (.string s) ∧ w.grownBy w' none ∧ DecTo false asc ws [107] ts s) := Lib.hid (c22 false h1 h2 hp htok hN hc (by cases asc <;> kernel_rfl) (by simp))
  clear h1 h2 hp htok hN hc
  cases ws
  all_goals
    go_enter Tryz.func23, Tryz.ntmps23
    go_wp2_with fail
    refine H22.out.mono ?_
    rintro e w1 ⟨s, rfl, hg, hd⟩
    obtain ⟨k, M, z1, z2, z3, z4, z5, z6, z7⟩ := val_cut (show DeclTo asc _ [107] ts s from hd)
    have H36 := Lib.hid (c36 (w := w1) (A := ⟨#[107, 58]⟩) z1 z2 z3 z4 z5 z6)
    have HZ := Lib.hid (And.intro hg z7)
    clear hg hd z1 z2 z3 z4 z5 z6 z7
    unfold endZ at H36
    simp only [if_true, if_false, Bool.false_eq_true, reduceIte] at H36
    go_wp2_with fail
    refine H36.out.mono ?_
    rintro e w2 ⟨rfl, rfl⟩
    go_wp2_with fail
    exact bodyPost_ret (v := .string M) (by simp [results, Tryz.results23, go_sem]) rfl ⟨M, rfl, HZ.out⟩
end Go.Proofs.YtkfdcbdlcipmfaaGreatFmt
