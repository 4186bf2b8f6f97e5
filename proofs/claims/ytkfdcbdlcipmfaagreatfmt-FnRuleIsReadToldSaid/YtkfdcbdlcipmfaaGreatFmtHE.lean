/- printRuleBlock, of one declaration; printRule, of a rule with one. -/
import Derived.Test.YtkfdcbdlcipmfaaGreatFmtHD
set_option linter.unusedVariables false
set_option linter.unusedSimpArgs false
namespace Go.Proofs.YtkfdcbdlcipmfaaGreatFmt
open Go.RowKit Go.Extern.Stop Go.Stop Go.Extern

def rulesB (xr : Nat) : Obj := .cells #[.iface 69 (.pointer (some ⟨xr, 0, none⟩)), .int .i32 0] 81 (0, 0)
def blockX (asc ws : Bool) (key : List UInt8) (body : List Int) : List Int :=
  if ws then 123 :: (Css.declText asc key body [] ++ [125]) else 123 :: 10 :: 32 :: 32 :: (Css.declText asc key body [59, 10] ++ [125])

set_option maxRecDepth 400000 in
set_option maxHeartbeats 40000000 in
theorem c84 {F : Interp} {B : Nat} {w : World} {base g : Nat} {ws asc : Bool} {v : Value} {T : List UInt8} (h : Px w base g ws asc v T) (hE : Env F B w) (hB : B ≤ g) (hT : T.length ≤ 9000000000)
    {xs xr : Nat} {cap : Nat} {name : List UInt8} {A : Option Addr} {c : Nat} {ts : List Css.Tree} {P : Nat → Prop} (hs : w.heap[xs]? = some (rulesB xr)) (hxs : xs < B) (hr : w.heap[xr]? = some (declB name A ts.length c false)) (hx : xr < B)
    (hL : TkL w P A ts) (hP : ∀ b, P b → b < B) (hW : Css.WL asc ts) (hcnt : cntL ts ≤ 1000) (hcost : costL ts ≤ 520000000) (hn : Css.isName name = true) (hss : name.length ≤ 1048576) :
    Calls Tryz.prog 84 #[.pointer (some ⟨g, 0, none⟩), .slice (some ⟨xs, 0, none⟩) 1 cap, .int .i32 0, .agg #[.int .i32 0]] w fun e w' => e = .returned (.tuple #[]) ∧
      ∃ body v', Css.PL asc (Css.headBefore ts) ts body ∧ Css.Asc asc body ∧ (Css.enc body).length ≤ costL ts ∧ Pm F B w base g ws asc v T 100000 (blockX asc ws name body) v' w' := by
  have HS : Hid (∀ o, Pm F B w base g ws asc v T 2000000000 [] v (w.alloc o)) := Lib.hid fun o => (Pm.start h hE hB 2000000000 (by omega)).free (grown_alloc (grown_refl _ _) o)
  have HR : Hid (∀ {m X vr wr}, Pm F B w base g ws asc v T m X vr wr → wr.heap[xs]? = some (rulesB xr)) := Lib.hid fun h => (h.low xs hxs).trans hs
  have HD : Hid (∀ {m X vr wr}, Pm F B w base g ws asc v T m X vr wr → (Css.enc X).length ≤ 1000 → 1300000000 ≤ m → Calls Tryz.prog 56 #[.pointer (some ⟨g, 0, none⟩), ruleV 69 xr, .int .i32 1, .bool ws] wr fun e w' => e = .returned (.tuple #[]) ∧
      ∃ body v', Css.PL asc (Css.headBefore ts) ts body ∧ Css.Asc asc body ∧ (Css.enc body).length ≤ costL ts ∧ Pm F B w base g ws asc v T 1000000 (X ++ declX asc ws 1 name body false ws) v' w') := Lib.hid (by
    intro h hX hm
    refine (c56_decl h.px h.env h.hB (by rw [List.length_append]; omega) false ws 1 (by omega) ((h.low xr hx).trans hr) hx (hL.keep fun b hb => ⟨hb, h.low b (hP b hb)⟩) hP hW hcnt hcost hn hss (fun e => by cases e)).mono ?_
    rintro e w' ⟨rfl, body, v', p1, p2, p3, p4, p5⟩
    obtain ⟨m1, m2, m3, m4⟩ := Css.name_codes hn
    have hpl := pIdent_le (asc := asc) (need := false) (mode := 0) m2
    rw [m3] at hpl
    have hpx := p4.px
    have hlen : (Css.enc (declX asc ws 1 name body false ws)).length ≤ 8388608 + 520000000 + 100 := by
      unfold declX Css.declText
      have h58 : ∀ Y, (Css.enc (58 :: Y)).length = 1 + (Css.enc Y).length := fun Y => by
        rw [show (58 : Int) :: Y = [58] ++ Y from rfl, Css.enc_append, List.length_append]; rfl
      have ht : (Css.enc ((if ws then [] else [59]) ++ Css.nl ws)).length ≤ 2 := by cases ws <;> decide
      have hh : (Css.enc (if ws then [] else List.replicate (2 * 1) 32)).length ≤ 2 := by cases ws <;> decide
      rw [Css.enc_append, Css.enc_append, List.length_append, List.length_append, h58, Css.enc_append, List.length_append]
      simp only [Bool.false_eq_true, if_false, List.nil_append]
      omega
    exact ⟨rfl, body, v', p1, p2, p3, h.put (Y := declX asc ws 1 name body false ws) hpx p5 (by omega)⟩)
  clear h hE hB hT hs hxs hr hx hL hP hW hcnt hcost hn hss
  unfold ruleV at HD
  go_enter Tryz.func84, Tryz.ntmps84
  go_upto_region 1 with (fail)
  generalize hwa : w.alloc (.cells #[.int .i32 0] 71 (0, 0)) = wa
  have HM : Hid (Pm F B w base g ws asc v T 2000000000 [] v wa) := Lib.hid (by rw [← hwa]; exact HS.out _)
  clear HS hwa
  have c6 := HM.out.px.cells.2.1
  cases ws with
  | true =>
    go_wp2_with fail
    refine (HM.out.say ⟨#[123]⟩ [123] rfl 1900000000 (by rw [size1]; omega)).mono ?_
    rintro e w1 ⟨rfl, v1, h1⟩
    have HX1 : Hid (Pm F B w base g true asc v T 1900000000 [123] v1 w1) := Lib.hid (by simpa using h1)
    clear h1 HM c6
    go_wp2_with fail
    go_loopg [22] 1 (fun gk s22 wr => ∃ k : Nat, s22 = .int .i64 k ∧ k ≤ 1 ∧ gk = 1 - k ∧ Hid ((k = 0 → ∃ vr, Pm F B w base g true asc v T 1900000000 [123] vr wr) ∧ (k = 1 → ∃ body vr, Css.PL asc (Css.headBefore ts) ts body ∧ Css.Asc asc body ∧ (Css.enc body).length ≤ costL ts ∧ Pm F B w base g true asc v T 1000000 ([123] ++ declX asc true 1 name body false true) vr wr)))
    case atStart => exact ⟨0, rfl, by omega, rfl, Lib.hid ⟨fun _ => ⟨v1, HX1.out⟩, fun e => by omega⟩⟩
    case round =>
      clear HX1
      obtain ⟨k, rfl, hk, rfl, HW⟩ := hrel
      by_cases h0 : k = 0
      · subst h0
        obtain ⟨vr, hP⟩ := HW.out.1 rfl
        have HX := Lib.hid hP
        have b0 := cell_blk (HR.out hP) (i := 0) rfl
        have b1 := cell_blk (HR.out hP) (i := 1) rfl
        have HX2 : Hid (∀ o, Pm F B w base g true asc v T 1900000000 [123] vr (wr.alloc o)) := Lib.hid fun o => hP.free (grown_alloc (grown_refl _ _) o)
        have c6 := fun o => (HX2.out o).px.cells.2.1
        clear hP HW
        go_wp2_with fail
        refine (HD.out (HX2.out _) (by decide) (by omega)).mono ?_
        rintro e w2 ⟨rfl, body, v2, p1, p2, p3, p4⟩
        have HZ := Lib.hid (And.intro p1 (And.intro p2 (And.intro p3 p4)))
        clear p1 p2 p3 p4 HX HX2 b0 b1
        go_wp2_with fail
        go_roundg 0
        case measure => omega
        case rel => exact ⟨1, rfl, by omega, rfl, Lib.hid ⟨fun e => by omega, fun _ => ⟨body, v2, HZ.out⟩⟩⟩
      · obtain rfl : k = 1 := by omega
        obtain ⟨body, vr, p1, p2, p3, p4⟩ := HW.out.2 rfl
        have HX := Lib.hid p4
        have HP := Lib.hid (And.intro p1 (And.intro p2 p3))
        obtain ⟨_, c6, _, c9, _⟩ := p4.px.cells
        clear p1 p2 p3 p4 HW HD
        go_wp2_with fail
        refine (HX.out.say ⟨#[125]⟩ [125] rfl 100000 (by rw [size1]; omega)).mono ?_
        rintro e w4 ⟨rfl, v4, h4⟩
        have HX4 := Lib.hid h4
        clear h4 HX
        go_wp2_with fail
        go_end0
        refine ⟨rfl, body, v4, HP.out.1, HP.out.2.1, HP.out.2.2, ?_⟩
        have e := HX4.out
        unfold blockX
        unfold declX Css.declText Css.nl at e
        unfold Css.declText
        simpa [List.replicate] using e
  | false =>
    go_wp2_with fail
    refine (HM.out.say ⟨#[123, 10]⟩ [123, 10] rfl 1900000000 (by show 2 + _ ≤ _; omega)).mono ?_
    rintro e w1 ⟨rfl, v1, h1⟩
    have HX1 : Hid (Pm F B w base g false asc v T 1900000000 [123, 10] v1 w1) := Lib.hid (by simpa using h1)
    clear h1 HM c6
    go_wp2_with fail
    go_loopg [22] 1 (fun gk s22 wr => ∃ k : Nat, s22 = .int .i64 k ∧ k ≤ 1 ∧ gk = 1 - k ∧ Hid ((k = 0 → ∃ vr, Pm F B w base g false asc v T 1900000000 [123, 10] vr wr) ∧ (k = 1 → ∃ body vr, Css.PL asc (Css.headBefore ts) ts body ∧ Css.Asc asc body ∧ (Css.enc body).length ≤ costL ts ∧ Pm F B w base g false asc v T 1000000 ([123, 10] ++ declX asc false 1 name body false false) vr wr)))
    case atStart => exact ⟨0, rfl, by omega, rfl, Lib.hid ⟨fun _ => ⟨v1, HX1.out⟩, fun e => by omega⟩⟩
    case round =>
      clear HX1
      obtain ⟨k, rfl, hk, rfl, HW⟩ := hrel
      by_cases h0 : k = 0
      · subst h0
        obtain ⟨vr, hP⟩ := HW.out.1 rfl
        have HX := Lib.hid hP
        have b0 := cell_blk (HR.out hP) (i := 0) rfl
        have b1 := cell_blk (HR.out hP) (i := 1) rfl
        have HX2 : Hid (∀ o, Pm F B w base g false asc v T 1900000000 [123, 10] vr (wr.alloc o)) := Lib.hid fun o => hP.free (grown_alloc (grown_refl _ _) o)
        have c6 := fun o => (HX2.out o).px.cells.2.1
        clear hP HW
        go_wp2_with fail
        refine (HD.out (HX2.out _) (by decide) (by omega)).mono ?_
        rintro e w2 ⟨rfl, body, v2, p1, p2, p3, p4⟩
        have HZ := Lib.hid (And.intro p1 (And.intro p2 (And.intro p3 p4)))
        clear p1 p2 p3 p4 HX HX2 b0 b1
        go_wp2_with fail
        go_roundg 0
        case measure => omega
        case rel => exact ⟨1, rfl, by omega, rfl, Lib.hid ⟨fun e => by omega, fun _ => ⟨body, v2, HZ.out⟩⟩⟩
      · obtain rfl : k = 1 := by omega
        obtain ⟨body, vr, p1, p2, p3, p4⟩ := HW.out.2 rfl
        have HX := Lib.hid p4
        have HP := Lib.hid (And.intro p1 (And.intro p2 p3))
        obtain ⟨_, c6, _, c9, _⟩ := p4.px.cells
        clear p1 p2 p3 p4 HW HD
        go_wp2_with fail
        refine (HX.out.dent 0 (by omega) 900000 (by omega)).mono ?_
        rintro e w3 ⟨rfl, v3, h3, _⟩
        have HX3 := Lib.hid h3
        clear h3 HX
        go_wp2_with fail
        refine (HX3.out.say ⟨#[125]⟩ [125] rfl 100000 (by rw [size1]; omega)).mono ?_
        rintro e w4 ⟨rfl, v4, h4⟩
        have HX4 := Lib.hid h4
        clear h4 HX3
        go_wp2_with fail
        go_end0
        refine ⟨rfl, body, v4, HP.out.1, HP.out.2.1, HP.out.2.2, ?_⟩
        have e := HX4.out
        unfold blockX
        unfold declX Css.declText Css.nl at e
        unfold Css.declText
        simpa [List.replicate] using e
set_option maxRecDepth 400000 in
set_option maxHeartbeats 40000000 in
theorem c56_rule {F : Interp} {B : Nat} {w : World} {base g : Nat} {ws asc : Bool} {v : Value} {T : List UInt8} (h : Px w base g ws asc v T) (hE : Env F B w) (hB : B ≤ g) (hT : T.length ≤ 1000000000)
    {xq xs xr : Nat} {cap : Nat} {name : List UInt8} {A A1 : Option Addr} {c c1 : Nat} {ts ts1 : List Css.Tree} {P P1 : Nat → Prop} (hq : w.heap[xq]? = some (.cells #[.slice A1 ts1.length c1, .slice (some ⟨xs, 0, none⟩) 1 cap, .int .i32 0] 86 (0, 0))) (hxq : xq < B) (hs : w.heap[xs]? = some (rulesB xr)) (hxs : xs < B) (hr : w.heap[xr]? = some (declB name A ts.length c false)) (hx : xr < B)
    (hL1 : TkL w P1 A1 ts1) (hP1 : ∀ b, P1 b → b < B) (hW1 : Css.WL asc ts1) (hcnt1 : cntL ts1 ≤ 1000) (hcost1 : costL ts1 ≤ 520000000)
    (hL : TkL w P A ts) (hP : ∀ b, P b → b < B) (hWts : Css.WL asc ts) (hcnt : cntL ts ≤ 1000) (hcost : costL ts ≤ 520000000) (hn : Css.isName name = true) (hss : name.length ≤ 1048576) :
    Calls Tryz.prog 56 #[.pointer (some ⟨g, 0, none⟩), ruleV 84 xq, .int .i32 0, .bool false] w fun e w' => e = .returned (.tuple #[]) ∧
      ∃ body1 body v', Css.PL asc (Css.headBefore ts1) ts1 body1 ∧ Css.Asc asc body1 ∧ (Css.enc body1).length ≤ costL ts1 ∧ Css.PL asc (Css.headBefore ts) ts body ∧ Css.Asc asc body ∧ (Css.enc body).length ≤ costL ts ∧ Pm F B w base g ws asc v T 0 (Css.ruleText asc (Css.gapOf ws ts1) (Css.nlOf ws) (Css.endOf ws) name body1 body) v' w' := by
  have HS : Hid (∀ o, Pm F B w base g ws asc v T 3000000000 [] v (w.alloc o)) := Lib.hid fun o => (Pm.start h hE hB 3000000000 (by omega)).free (grown_alloc (grown_refl _ _) o)
  have HR : Hid (∀ {m X vr wr}, Pm F B w base g ws asc v T m X vr wr → wr.heap[xq]? = some (.cells #[.slice A1 ts1.length c1, .slice (some ⟨xs, 0, none⟩) 1 cap, .int .i32 0] 86 (0, 0))) := Lib.hid fun h => (h.low xq hxq).trans hq
  have HTK : Hid (∀ {m X vr wr}, Pm F B w base g ws asc v T m X vr wr → ∀ m', 530000000 + m' ≤ m → Calls Tryz.prog 80 #[.pointer (some ⟨g, 0, none⟩), .slice A1 ts1.length c1, .agg #[.int .i32 0, .int .u8 0, .bool false]] wr fun e w' => e = .returned (.bool (Css.lastAfter (Css.headBefore ts1) ts1)) ∧
      ∃ body v', Css.PL asc (Css.headBefore ts1) ts1 body ∧ Css.Asc asc body ∧ (Css.enc body).length ≤ costL ts1 ∧ Pm F B w base g ws asc v T m' (X ++ body) v' w') := Lib.hid fun h m' hm => h.toks c1 hL1 hP1 hW1 hcnt1 hcost1 0 (by omega) false m' hm
  have HBL : Hid (∀ {m X vr wr}, Pm F B w base g ws asc v T m X vr wr → (Css.enc X).length ≤ 600000000 → 700000000 ≤ m → ∀ W, wr.grownBy W none → Calls Tryz.prog 84 #[.pointer (some ⟨g, 0, none⟩), .slice (some ⟨xs, 0, none⟩) 1 cap, .int .i32 0, .agg #[.int .i32 0]] W fun e w' => e = .returned (.tuple #[]) ∧
      ∃ body v', Css.PL asc (Css.headBefore ts) ts body ∧ Css.Asc asc body ∧ (Css.enc body).length ≤ costL ts ∧ Pm F B w base g ws asc v T 1000 (X ++ blockX asc ws name body) v' w') := Lib.hid (by
    intro h hX hm W hW
    have h := h.free hW
    refine (c84 h.px h.env h.hB (by rw [List.length_append]; omega) ((h.low xs hxs).trans hs) hxs ((h.low xr hx).trans hr) hx (hL.keep fun b hb => ⟨hb, h.low b (hP b hb)⟩) hP hWts hcnt hcost hn hss).mono ?_
    rintro e w' ⟨rfl, body, v', p1, p2, p3, p4⟩
    obtain ⟨m1, m2, m3, m4⟩ := Css.name_codes hn
    have hpl := pIdent_le (asc := asc) (need := false) (mode := 0) m2
    rw [m3] at hpl
    have hlen : (Css.enc (blockX asc ws name body)).length ≤ 8388608 + 520000000 + 100 := by
      have h58 : ∀ (c : Int) Y, c = 58 ∨ c = 123 ∨ c = 10 ∨ c = 32 → (Css.enc (c :: Y)).length = 1 + (Css.enc Y).length := fun c Y hc => by
        rw [show c :: Y = [c] ++ Y from rfl, Css.enc_append, List.length_append]; rcases hc with rfl | rfl | rfl | rfl <;> rfl
      have e1 : (Css.enc [125]).length = 1 := by decide
      have e2 : (Css.enc ([] : List Int)).length = 0 := by decide
      have e3 : (Css.enc [59, 10]).length = 2 := by decide
      unfold blockX Css.declText
      split
      · rw [h58 _ _ (by simp), Css.enc_append, Css.enc_append, List.length_append, List.length_append, h58 _ _ (by simp), Css.enc_append, List.length_append]
        omega
      · rw [h58 _ _ (by simp), h58 _ _ (by simp), h58 _ _ (by simp), h58 _ _ (by simp), Css.enc_append, Css.enc_append, List.length_append, List.length_append, h58 _ _ (by simp), Css.enc_append, List.length_append]
        omega
    exact ⟨rfl, body, v', p1, p2, p3, h.put (Y := blockX asc ws name body) p4.px p4.kv (by omega)⟩)
  have HGB : Hid (w.heap.size ≠ g) := Lib.hid (by have := h.base; have := h.lt; omega)
  have HC1 := Lib.hid hcost1
  have ta0 : ∀ W, (Instr.typeAssert (.iface 84 (.pointer (some ⟨xq, 0, none⟩))) 79 172 true).run Tryz.prog W = .ok (.tuple #[.pointer none, .bool false]) W := ta_other Tryz.underlying172 rfl (by kernel_rfl) _ _
  have ta1 : ∀ W, (Instr.typeAssert (.iface 84 (.pointer (some ⟨xq, 0, none⟩))) 79 183 true).run Tryz.prog W = .ok (.tuple #[.pointer none, .bool false]) W := ta_other Tryz.underlying183 rfl (by kernel_rfl) _ _
  have ta2 : ∀ W, (Instr.typeAssert (.iface 84 (.pointer (some ⟨xq, 0, none⟩))) 79 189 true).run Tryz.prog W = .ok (.tuple #[.pointer none, .bool false]) W := ta_other Tryz.underlying189 rfl (by kernel_rfl) _ _
  have ta3 : ∀ W, (Instr.typeAssert (.iface 84 (.pointer (some ⟨xq, 0, none⟩))) 79 220 true).run Tryz.prog W = .ok (.tuple #[.pointer none, .bool false]) W := ta_other Tryz.underlying220 rfl (by kernel_rfl) _ _
  have ta4 : ∀ W, (Instr.typeAssert (.iface 84 (.pointer (some ⟨xq, 0, none⟩))) 79 235 true).run Tryz.prog W = .ok (.tuple #[.pointer none, .bool false]) W := ta_other Tryz.underlying235 rfl (by kernel_rfl) _ _
  have ta5 : ∀ W, (Instr.typeAssert (.iface 84 (.pointer (some ⟨xq, 0, none⟩))) 79 87 true).run Tryz.prog W = .ok (.tuple #[.pointer none, .bool false]) W := ta_other Tryz.underlying87 rfl (by kernel_rfl) _ _
  have ta6 : ∀ W, (Instr.typeAssert (.iface 84 (.pointer (some ⟨xq, 0, none⟩))) 79 179 true).run Tryz.prog W = .ok (.tuple #[.pointer none, .bool false]) W := ta_other Tryz.underlying179 rfl (by kernel_rfl) _ _
  have ta7 : ∀ W, (Instr.typeAssert (.iface 84 (.pointer (some ⟨xq, 0, none⟩))) 79 84 true).run Tryz.prog W = .ok (.tuple #[.pointer (some ⟨xq, 0, none⟩), .bool true]) W := ta_same Tryz.underlying84 _ _
  clear h hE hB hT hq hxq hs hxs hr hx hL1 hP1 hW1 hcnt1 hcost1 hL hP hWts hcnt hcost hn hss
  unfold ruleV
  go_enter Tryz.func56, Tryz.ntmps56
  go_upto_region 14 with (fail)
  generalize hwa : w.alloc (.cells #[.iface 84 (.pointer (some ⟨xq, 0, none⟩)), .int .i32 0] 81 (0, 0)) = wa
  have HM : Hid (Pm F B w base g ws asc v T 3000000000 [] v wa ∧ wa.heap[w.heap.size]? = some (.cells #[.iface 84 (.pointer (some ⟨xq, 0, none⟩)), .int .i32 0] 81 (0, 0))) := Lib.hid (by rw [← hwa]; exact ⟨HS.out _, new_blk w _⟩)
  clear HS hwa
  obtain ⟨c3, c6, _, c9, _⟩ := HM.out.1.px.cells
  go_upto_if 160 with (fail)
  cases ws with
  | true =>
    have HX : Hid (Pm F B w base g true asc v T 2999999900 [] v wa) := Lib.hid (HM.out.1.less (by omega))
    have b0 := cell_blk HM.out.2 (i := 0) rfl
    clear HM c3 c6 c9 HGB
    have r0 := cell_blk (HR.out HX.out) (i := 0) rfl
    go_wp2_with fail
    refine (HTK.out HX.out 2000000000 (by omega)).mono ?_
    rintro e w5 ⟨rfl, body1, v5, p1, p2, p3, h5⟩
    have HX5 : Hid (Pm F B w base g true asc v T 2000000000 body1 v5 w5) := Lib.hid (by simpa using h5)
    have HP := Lib.hid (And.intro p1 (And.intro p2 p3))
    have c6 := h5.px.cells.2.1
    have r1 := cell_blk (HR.out h5) (i := 1) rfl
    have r2 := cell_blk (HR.out h5) (i := 2) rfl
    have hlb : (Css.enc body1).length ≤ 520000000 := by have := HC1.out; omega
    clear h5 HX b0 r0 p1 p2 p3 ta0 ta1 ta2 ta3 ta4 ta5 ta6 ta7
    generalize hla : Css.lastAfter (Css.headBefore ts1) ts1 = la
    have HLA := Lib.hid hla
    clear hla
    cases la with
    | true =>
      go_wp2_with fail
      have HB2 := Lib.hid (HBL.out HX5.out (by omega) (by omega))
      clear HBL HTK
      go_region_with (go_at_call 84; refine (HB2.out _ (grown_drewN (grown_refl _ _) _)).mono ?_; rintro e w7 ⟨rfl, body, v7, q1, q2, q3, q4⟩; have HZ := Lib.hid (And.intro q1 (And.intro q2 (And.intro q3 q4))); have c6 := q4.px.cells.2.1; clear q1 q2 q3 q4)
      all_goals
        clear HB2 HX5
        go_wp2_with fail
        go_end0
        refine ⟨rfl, body1, body, v7, HP.out.1, HP.out.2.1, HP.out.2.2, HZ.out.1, HZ.out.2.1, HZ.out.2.2.1, ?_⟩
        have e := (HZ.out.2.2.2.less (m' := 0) (by omega))
        unfold blockX Css.declText at e
        unfold Css.ruleText Css.gapOf Css.nlOf Css.endOf Css.declText
        rw [HLA.out]
        simpa using e
    | false =>
      go_wp2_with fail
      have HB2 := Lib.hid (HBL.out HX5.out (by omega) (by omega))
      clear HBL HTK
      go_region_with (go_at_call 84; refine (HB2.out _ (grown_drewN (grown_refl _ _) _)).mono ?_; rintro e w7 ⟨rfl, body, v7, q1, q2, q3, q4⟩; have HZ := Lib.hid (And.intro q1 (And.intro q2 (And.intro q3 q4))); have c6 := q4.px.cells.2.1; clear q1 q2 q3 q4)
      all_goals
        clear HB2 HX5
        go_wp2_with fail
        go_end0
        refine ⟨rfl, body1, body, v7, HP.out.1, HP.out.2.1, HP.out.2.2, HZ.out.1, HZ.out.2.1, HZ.out.2.2.1, ?_⟩
        have e := (HZ.out.2.2.2.less (m' := 0) (by omega))
        unfold blockX Css.declText at e
        unfold Css.ruleText Css.gapOf Css.nlOf Css.endOf Css.declText
        rw [HLA.out]
        simpa using e
  | false =>
    clear c3 c6 c9
    go_wp2_with fail
    refine (HM.out.1.dent 0 (by omega) 2999999900 (by omega)).mono ?_
    rintro e w1 ⟨rfl, v1, h1, hk1⟩
    have HX : Hid (Pm F B w base g false asc v T 2999999900 [] v1 w1) := Lib.hid (by simpa using h1)
    have b0 := cell_blk (hk1 _ _ _ HM.out.2 HGB.out (by decide)) (i := 0) rfl
    clear h1 hk1 HM HGB
    have r0 := cell_blk (HR.out HX.out) (i := 0) rfl
    go_wp2_with fail
    refine (HTK.out HX.out 2000000000 (by omega)).mono ?_
    rintro e w5 ⟨rfl, body1, v5, p1, p2, p3, h5⟩
    have HX5 : Hid (Pm F B w base g false asc v T 2000000000 body1 v5 w5) := Lib.hid (by simpa using h5)
    have HP := Lib.hid (And.intro p1 (And.intro p2 p3))
    have c6 := h5.px.cells.2.1
    have r1 := cell_blk (HR.out h5) (i := 1) rfl
    have r2 := cell_blk (HR.out h5) (i := 2) rfl
    have hlb : (Css.enc body1).length ≤ 520000000 := by have := HC1.out; omega
    clear h5 HX b0 r0 p1 p2 p3 ta0 ta1 ta2 ta3 ta4 ta5 ta6 ta7
    generalize hla : Css.lastAfter (Css.headBefore ts1) ts1 = la
    have HLA := Lib.hid hla
    clear hla
    cases la with
    | true =>
      go_wp2_with fail
      have HB2 := Lib.hid (HBL.out HX5.out (by omega) (by omega))
      clear HBL HTK
      go_region_with (go_at_call 84; refine (HB2.out _ (grown_drewN (grown_refl _ _) _)).mono ?_; rintro e w7 ⟨rfl, body, v7, q1, q2, q3, q4⟩; have HZ := Lib.hid (And.intro q1 (And.intro q2 (And.intro q3 q4))); have c6 := q4.px.cells.2.1; clear q1 q2 q3 q4)
      all_goals
        clear HB2 HX5
        go_wp2_with fail
        refine (HZ.out.2.2.2.say ⟨#[10]⟩ [10] rfl 0 (by rw [size1]; omega)).mono ?_
        rintro e w8 ⟨rfl, v8, h8⟩
        have HX8 := Lib.hid h8
        clear h8
        go_wp2_with fail
        go_end0
        refine ⟨rfl, body1, body, v8, HP.out.1, HP.out.2.1, HP.out.2.2, HZ.out.1, HZ.out.2.1, HZ.out.2.2.1, ?_⟩
        have e := HX8.out
        unfold blockX Css.declText at e
        unfold Css.ruleText Css.gapOf Css.nlOf Css.endOf Css.declText
        rw [HLA.out]
        simpa using e
    | false =>
      go_wp2_with fail
      refine (HX5.out.say ⟨#[32]⟩ [32] rfl 1999999000 (by rw [size1]; omega)).mono ?_
      rintro e w6 ⟨rfl, v6, h6⟩
      have HX6 := Lib.hid h6
      have r1 := cell_blk (HR.out h6) (i := 1) rfl
      have r2 := cell_blk (HR.out h6) (i := 2) rfl
      have hlb6 : (Css.enc (body1 ++ [32])).length ≤ 520000001 := by rw [Css.enc_append, List.length_append]; have : (Css.enc [32]).length = 1 := by decide
                                                                     omega
      clear h6 HX5
      go_wp2_with fail
      have HB2 := Lib.hid (HBL.out HX6.out (by omega) (by omega))
      clear HBL HTK
      go_region_with (go_at_call 84; refine (HB2.out _ (grown_drewN (grown_refl _ _) _)).mono ?_; rintro e w7 ⟨rfl, body, v7, q1, q2, q3, q4⟩; have HZ := Lib.hid (And.intro q1 (And.intro q2 (And.intro q3 q4))); have c6 := q4.px.cells.2.1; clear q1 q2 q3 q4)
      all_goals
        clear HB2 HX6
        go_wp2_with fail
        refine (HZ.out.2.2.2.say ⟨#[10]⟩ [10] rfl 0 (by rw [size1]; omega)).mono ?_
        rintro e w8 ⟨rfl, v8, h8⟩
        have HX8 := Lib.hid h8
        clear h8
        go_wp2_with fail
        go_end0
        refine ⟨rfl, body1, body, v8, HP.out.1, HP.out.2.1, HP.out.2.2, HZ.out.1, HZ.out.2.1, HZ.out.2.2.1, ?_⟩
        have e := HX8.out
        unfold blockX Css.declText at e
        unfold Css.ruleText Css.gapOf Css.nlOf Css.endOf Css.declText
        rw [HLA.out]
        simpa using e
end Go.Proofs.YtkfdcbdlcipmfaaGreatFmt
