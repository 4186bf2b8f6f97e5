/- printRule, of an at-rule and of a declaration. -/
import Derived.Test.YtkfdcbdlcipmfaaGreatFmtHA
import Derived.Stop.Asserts
set_option linter.unusedVariables false
set_option linter.unusedSimpArgs false
namespace Go.Proofs.YtkfdcbdlcipmfaaGreatFmt
open Go.RowKit Go.Extern.Stop Go.Stop Go.Extern

theorem ta_other {P : Program} {t a e : TypeId} (hu : P.underlying a = some (.pointer e)) (hne : (t == a) = false) (hz : (P.info? a).map (·.zero) = some (some (.pointer none))) (v : Value) (xT : TypeId) (w : World) :
    (Instr.typeAssert (.iface t v) xT a true).run P w = .ok (.tuple #[.pointer none, .bool false]) w := by
  obtain ⟨j, hj, hz'⟩ := Option.map_eq_some_iff.1 hz
  have hne2 : t ≠ a := by simpa using hne
  simp [Instr.typeAssert, run_underlying hu, typeInfo, hj, zeroValue, hz', hne2]
theorem ta_same {P : Program} {a e : TypeId} (hu : P.underlying a = some (.pointer e)) (v : Value) (xT : TypeId) (w : World) :
    (Instr.typeAssert (.iface a v) xT a true).run P w = .ok (.tuple #[v, .bool true]) w := by
  simp [Instr.typeAssert, run_underlying hu]

structure Pm (F : Interp) (B : Nat) (w : World) (base g : Nat) (ws asc : Bool) (v : Value) (T : List UInt8) (m : Nat) (X : List Int) (vr : Value) (wr : World) : Prop where
  px : Px wr base g ws asc vr (T ++ Css.enc X)
  env : Env F B wr
  kv : Kv w wr g v vr
  low : ∀ b, b < B → wr.heap[b]? = w.heap[b]?
  hB : B ≤ g
  room : T.length + (Css.enc X).length + m ≤ 35184372088832
section
variable {F : Interp} {B : Nat} {w : World} {base g : Nat} {ws asc : Bool} {v : Value} {T : List UInt8} {m : Nat} {X : List Int} {vr v' : Value} {wr w' : World}
theorem Pm.start (h : Px w base g ws asc v T) (hE : Env F B w) (hB : B ≤ g) (m : Nat) (hm : T.length + m ≤ 35184372088832) : Pm F B w base g ws asc v T m [] v w :=
  ⟨by simpa [Css.enc] using h, hE, Kv.refl _ _ _, fun _ _ => rfl, hB, by simpa [Css.enc] using hm⟩
theorem Pm.free (h : Pm F B w base g ws asc v T m X vr wr) (hg : wr.grownBy w' none) : Pm F B w base g ws asc v T m X vr w' :=
  ⟨h.px.free hg, h.env.free hg, h.kv.free hg, fun b hb => (hg.block b (Nat.lt_of_lt_of_le hb h.env.le) (by simp)).trans (h.low b hb), h.hB, h.room⟩
theorem Pm.less {m' : Nat} (h : Pm F B w base g ws asc v T m X vr wr) (hm : m' ≤ m) : Pm F B w base g ws asc v T m' X vr wr :=
  ⟨h.px, h.env, h.kv, h.low, h.hB, by have := h.room; omega⟩
theorem Pm.put {m' : Nat} {Y : List Int} (h : Pm F B w base g ws asc v T m X vr wr) (hP : Px w' base g ws asc v' (T ++ Css.enc X ++ Css.enc Y)) (hK : Kv wr w' g vr v') (hm : (Css.enc Y).length + m' ≤ m) :
    Pm F B w base g ws asc v T m' (X ++ Y) v' w' :=
  ⟨by rw [Css.enc_append, ← List.append_assoc]; exact hP, h.env.step h.px h.hB hK, h.kv.trans hK, fun b hb => (hK.low h.px h.hB h.env.le b hb).trans (h.low b hb), h.hB, by
    have := h.room
    rw [Css.enc_append, List.length_append]; omega⟩
theorem Pm.say (h : Pm F B w base g ws asc v T m X vr wr) (s : ByteArray) (Y : List Int) (hs : s.data.toList = Css.enc Y) (m' : Nat) (hm : s.size + m' ≤ m) :
    Calls Tryz.prog 75 #[.pointer (some ⟨g, 0, none⟩), .string s] wr fun e w' => e = .returned (.tuple #[]) ∧ ∃ v', Pm F B w base g ws asc v T m' (X ++ Y) v' w' := by
  have hr := h.room
  refine (c75 h.px s (by rw [List.length_append]; omega)).mono ?_
  rintro e w' ⟨rfl, v', hP, hK⟩
  rw [hs] at hP
  have hl := bytes_len s
  rw [hs] at hl
  exact ⟨rfl, v', h.put hP hK (by omega)⟩
theorem Pm.dent (h : Pm F B w base g ws asc v T m X vr wr) (n : Nat) (hn : n ≤ 1000000) (m' : Nat) (hm : 2 * n + m' ≤ m) :
    Calls Tryz.prog 74 #[.pointer (some ⟨g, 0, none⟩), .int .i32 n] wr fun e w' => e = .returned (.tuple #[]) ∧ ∃ v', Pm F B w base g ws asc v T m' (X ++ List.replicate (2 * n) 32) v' w' ∧ (∀ b cs t, wr.heap[b]? = some (.cells cs t (0, 0)) → b ≠ g → t ≠ 5 → w'.heap[b]? = some (.cells cs t (0, 0))) := by
  have hr := h.room
  refine (c74 h.px n hn (by rw [List.length_append]; omega)).mono ?_
  rintro e w' ⟨rfl, v', hP, hK⟩
  have hl : (blanks n).length = 2 * n := blanks_length n
  exact ⟨rfl, v', h.put (by rw [enc_blanks]; exact hP) hK (by rw [enc_blanks, hl]; omega), fun b cs t hb hg ht => h.px.keep hK hb hg ht⟩
theorem Pm.ident (h : Pm F B w base g ws asc v T m X vr wr) {name : List UInt8} (hn : Css.isName name = true) (need : Bool) (hss : name.length ≤ 1048576) (m' : Nat) (hm' : 8388700 + m' ≤ m) :
    Calls Tryz.prog 82 #[.pointer (some ⟨g, 0, none⟩), .string (str name), .int .u8 0, .int .u8 (if need then 0 else 1)] wr fun e w' => e = .returned (.tuple #[]) ∧ ∃ v', Pm F B w base g ws asc v T m' (X ++ Css.pIdent 0 asc need (Css.codes name)) v' w' := by
  have hr := h.room
  obtain ⟨m1, m2, m3, m4⟩ := Css.name_codes hn
  have hsz := str_size name
  have hpl := pIdent_le (asc := asc) (need := need) (mode := 0) m2
  rw [m3] at hpl
  refine (c82 h.px h.env h.hB (s := str name) (V := Css.codes name) (by rw [str_data, m3]) m2 m1 0 (by omega) need (by omega) (by rw [List.length_append]; omega)).mono ?_
  rintro e w' ⟨rfl, v', hP, hK⟩
  exact ⟨rfl, v', h.put hP hK (by omega)⟩
theorem Pm.toks (h : Pm F B w base g ws asc v T m X vr wr) {P : Nat → Prop} {A : Option Addr} {ts : List Css.Tree} (c : Nat) (hL : TkL w P A ts) (hP : ∀ b, P b → b < B) (hW : Css.WL asc ts) (hcnt : cntL ts ≤ 1000) (hcost : costL ts ≤ 520000000) (ind : Nat) (hi : ind ≤ 10) (dec : Bool) (m' : Nat) (hm : 530000000 + m' ≤ m) :
    Calls Tryz.prog 80 #[.pointer (some ⟨g, 0, none⟩), .slice A ts.length c, .agg #[.int .i32 (ind : Int), .int .u8 0, .bool dec]] wr fun e w' => e = .returned (.bool (Css.lastAfter (Css.headBefore ts) ts)) ∧
      ∃ body v', Css.PL asc (Css.headBefore ts) ts body ∧ Css.Asc asc body ∧ (Css.enc body).length ≤ costL ts ∧ Pm F B w base g ws asc v T m' (X ++ body) v' w' := by
  have hr := h.room
  refine (c80 1001 F B wr base g ws asc vr (T ++ Css.enc X) P A ts c ind 0 dec h.px h.env h.hB (hL.keep fun b hb => ⟨hb, h.low b (hP b hb)⟩) hP hW (by omega) (by omega) (by omega) (by rw [List.length_append]; omega) (by omega)).mono ?_
  rintro e w' ⟨body, v', rfl, h1, h2, h3, h4, h5⟩
  exact ⟨rfl, body, v', h1, h2, h3, h.put h4 h5 (by omega)⟩
end

def ruleV (t : Nat) (x : Nat) : Value := .agg #[.iface t (.pointer (some ⟨x, 0, none⟩)), .int .i32 0]

set_option maxRecDepth 400000 in
set_option maxHeartbeats 40000000 in
theorem c56_at {F : Interp} {B : Nat} {w : World} {base g : Nat} {ws asc : Bool} {v : Value} {T : List UInt8} (h : Px w base g ws asc v T) (hE : Env F B w) (hB : B ≤ g) (hT : T.length ≤ 10000000000)
    {xr : Nat} {name : List UInt8} {A : Option Addr} {c : Nat} {ts : List Css.Tree} {P : Nat → Prop} (hr : w.heap[xr]? = some (.cells #[.string (str name), .slice A ts.length c, .slice none 0 0] 89 (0, 0))) (hx : xr < B)
    (hL : TkL w P A ts) (hP : ∀ b, P b → b < B) (hW : Css.WL asc ts) (hcnt : cntL ts ≤ 1000) (hcost : costL ts ≤ 520000000) (hn : Css.isName name = true) (hss : name.length ≤ 1048576) :
    Calls Tryz.prog 56 #[.pointer (some ⟨g, 0, none⟩), ruleV 87 xr, .int .i32 0, .bool false] w fun e w' => e = .returned (.tuple #[]) ∧
      ∃ body v', Css.PL asc (Css.headBefore ts) ts body ∧ Css.Asc asc body ∧ (Css.enc body).length ≤ costL ts ∧ Pm F B w base g ws asc v T 0 (Css.atText asc name ts body (Css.nl ws)) v' w' := by
  have HS : Hid (∀ o, Pm F B w base g ws asc v T 1000000000 [] v (w.alloc o)) := Lib.hid fun o => (Pm.start h hE hB 1000000000 (by omega)).free (grown_alloc (grown_refl _ _) o)
  have HR : Hid (∀ {m X vr wr}, Pm F B w base g ws asc v T m X vr wr → wr.heap[xr]? = some (.cells #[.string (str name), .slice A ts.length c, .slice none 0 0] 89 (0, 0))) := Lib.hid fun h => (h.low xr hx).trans hr
  have HTK : Hid (∀ {m X vr wr}, Pm F B w base g ws asc v T m X vr wr → ∀ m', 530000000 + m' ≤ m → Calls Tryz.prog 80 #[.pointer (some ⟨g, 0, none⟩), .slice A ts.length c, .agg #[.int .i32 0, .int .u8 0, .bool false]] wr fun e w' => e = .returned (.bool (Css.lastAfter (Css.headBefore ts) ts)) ∧
      ∃ body v', Css.PL asc (Css.headBefore ts) ts body ∧ Css.Asc asc body ∧ (Css.enc body).length ≤ costL ts ∧ Pm F B w base g ws asc v T m' (X ++ body) v' w') := Lib.hid fun h m' hm => h.toks c hL hP hW hcnt hcost 0 (by omega) false m' hm
  have HID : Hid (∀ {m X vr wr}, Pm F B w base g ws asc v T m X vr wr → ∀ m', 8388700 + m' ≤ m → ∀ need, Calls Tryz.prog 82 #[.pointer (some ⟨g, 0, none⟩), .string (str name), .int .u8 0, .int .u8 (if need then 0 else 1)] wr fun e w' => e = .returned (.tuple #[]) ∧ ∃ v', Pm F B w base g ws asc v T m' (X ++ Css.pIdent 0 asc need (Css.codes name)) v' w') := Lib.hid fun h m' hm need => h.ident hn need hss m' hm
  have hlen : ts.length ≤ 1000 := by have := cntL_len ts; omega
  have HT : Hid (ts.isEmpty = true ↔ ts.length = 0) := Lib.hid (by cases ts <;> simp)
  have HGB : Hid (w.heap.size ≠ g) := Lib.hid (by have := h.base; have := h.lt; omega)
  have ta1 : ∀ W, (Instr.typeAssert (.iface 87 (.pointer (some ⟨xr, 0, none⟩))) 79 172 true).run Tryz.prog W = .ok (.tuple #[.pointer none, .bool false]) W := ta_other Tryz.underlying172 rfl (by kernel_rfl) _ _
  have ta2 : ∀ W, (Instr.typeAssert (.iface 87 (.pointer (some ⟨xr, 0, none⟩))) 79 183 true).run Tryz.prog W = .ok (.tuple #[.pointer none, .bool false]) W := ta_other Tryz.underlying183 rfl (by kernel_rfl) _ _
  have ta3 : ∀ W, (Instr.typeAssert (.iface 87 (.pointer (some ⟨xr, 0, none⟩))) 79 189 true).run Tryz.prog W = .ok (.tuple #[.pointer none, .bool false]) W := ta_other Tryz.underlying189 rfl (by kernel_rfl) _ _
  have ta4 : ∀ W, (Instr.typeAssert (.iface 87 (.pointer (some ⟨xr, 0, none⟩))) 79 220 true).run Tryz.prog W = .ok (.tuple #[.pointer none, .bool false]) W := ta_other Tryz.underlying220 rfl (by kernel_rfl) _ _
  have ta5 : ∀ W, (Instr.typeAssert (.iface 87 (.pointer (some ⟨xr, 0, none⟩))) 79 235 true).run Tryz.prog W = .ok (.tuple #[.pointer none, .bool false]) W := ta_other Tryz.underlying235 rfl (by kernel_rfl) _ _
  have ta6 : ∀ W, (Instr.typeAssert (.iface 87 (.pointer (some ⟨xr, 0, none⟩))) 79 87 true).run Tryz.prog W = .ok (.tuple #[.pointer (some ⟨xr, 0, none⟩), .bool true]) W := ta_same Tryz.underlying87 _ _
  clear h hE hB hT hr hx hL hP hW hcnt hcost hn hss
  unfold ruleV
  go_enter Tryz.func56, Tryz.ntmps56
  go_upto_region 14 with (fail)
  generalize hwa : w.alloc (.cells #[.iface 87 (.pointer (some ⟨xr, 0, none⟩)), .int .i32 0] 81 (0, 0)) = wa
  have HM : Hid (Pm F B w base g ws asc v T 1000000000 [] v wa ∧ wa.heap[w.heap.size]? = some (.cells #[.iface 87 (.pointer (some ⟨xr, 0, none⟩)), .int .i32 0] 81 (0, 0))) := Lib.hid (by rw [← hwa]; exact ⟨HS.out _, new_blk w _⟩)
  clear HS hwa
  obtain ⟨c3, c6, _, c9, _⟩ := HM.out.1.px.cells
  go_upto_if 160 with (fail)
  cases ws with
  | true =>
    have HX := Lib.hid (HM.out.1.less (m' := 999999900) (by omega))
    have b0 := cell_blk HM.out.2 (i := 0) rfl
    clear HM c3 c6 c9 HGB
    go_wp2_with fail
    refine (HX.out.say ⟨#[64]⟩ [64] rfl 999999000 (by rw [size1]; omega)).mono ?_
    rintro e w2 ⟨rfl, v2, h2⟩
    have HX2 := Lib.hid h2
    have r0 := cell_blk (HR.out h2) (i := 0) rfl
    have r1 := cell_blk (HR.out h2) (i := 1) rfl
    have r2 := cell_blk (HR.out h2) (i := 2) rfl
    clear h2 HX b0 ta1 ta2 ta3 ta4 ta5 ta6
    by_cases hts : ts.length = 0
    · have hemp : ts.isEmpty = true := HT.out.2 hts
      have heq : ((ts.length : Int) == 0) = true := beq_iff_eq.2 (by omega)
      have hgt : ¬ (0 : Int) < ts.length := by omega
      have HE := Lib.hid hemp
      clear hts hemp
      go_wp2_with fail
      refine (HID.out HX2.out 990000000 (by omega) false).mono ?_
      rintro e w3 ⟨rfl, v3, h3⟩
      have HX3 := Lib.hid h3
      have r0 := cell_blk (HR.out h3) (i := 0) rfl
      have r1 := cell_blk (HR.out h3) (i := 1) rfl
      have r2 := cell_blk (HR.out h3) (i := 2) rfl
      have c6 := h3.px.cells.2.1
      clear h3 HX2
      go_wp2_with fail
      refine (HTK.out HX3.out 100000 (by omega)).mono ?_
      rintro e w5 ⟨rfl, body, v5, p1, p2, p3, h5⟩
      have HX5 := Lib.hid h5
      have HP := Lib.hid (And.intro p1 (And.intro p2 p3))
      have r1 := cell_blk (HR.out h5) (i := 1) rfl
      have r2 := cell_blk (HR.out h5) (i := 2) rfl
      have c6 := h5.px.cells.2.1
      clear h5 HX3 p1 p2 p3
      go_wp2_with fail
      refine (HX5.out.say ⟨#[59]⟩ [59] rfl 50000 (by rw [size1]; omega)).mono ?_
      rintro e w6 ⟨rfl, v6, h6⟩
      have HX6 := Lib.hid h6
      have c6 := h6.px.cells.2.1
      clear h6 HX5
      go_wp2_with fail
      go_end0
      refine ⟨rfl, body, v6, HP.out.1, HP.out.2.1, HP.out.2.2, ?_⟩
      have e := HX6.out.less (m' := 0) (by omega)
      unfold Css.atText Css.nl
      rw [HE.out]
      simpa using e
    · have hemp : ts.isEmpty = false := by cases he : ts.isEmpty with | false => rfl | true => exact absurd (HT.out.1 he) hts
      have heq : ((ts.length : Int) == 0) = false := beq_eq_false_iff_ne.2 (by omega)
      have hgt : (0 : Int) < ts.length := by omega
      have HE := Lib.hid hemp
      clear hts hemp
      go_wp2_with fail
      refine (HID.out HX2.out 990000000 (by omega) true).mono ?_
      rintro e w3 ⟨rfl, v3, h3⟩
      have HX3 := Lib.hid h3
      have r0 := cell_blk (HR.out h3) (i := 0) rfl
      have r1 := cell_blk (HR.out h3) (i := 1) rfl
      have r2 := cell_blk (HR.out h3) (i := 2) rfl
      have c6 := h3.px.cells.2.1
      clear h3 HX2
      go_wp2_with fail
      refine (HX3.out.say ⟨#[32]⟩ [32] rfl 989999000 (by rw [size1]; omega)).mono ?_
      rintro e w4 ⟨rfl, v4, h4⟩
      have HX4 := Lib.hid h4
      have r1 := cell_blk (HR.out h4) (i := 1) rfl
      have r2 := cell_blk (HR.out h4) (i := 2) rfl
      have c6 := h4.px.cells.2.1
      clear h4 HX3
      go_wp2_with fail
      refine (HTK.out HX4.out 100000 (by omega)).mono ?_
      rintro e w5 ⟨rfl, body, v5, p1, p2, p3, h5⟩
      have HX5 := Lib.hid h5
      have HP := Lib.hid (And.intro p1 (And.intro p2 p3))
      have r1 := cell_blk (HR.out h5) (i := 1) rfl
      have r2 := cell_blk (HR.out h5) (i := 2) rfl
      have c6 := h5.px.cells.2.1
      clear h5 HX4 p1 p2 p3
      go_wp2_with fail
      refine (HX5.out.say ⟨#[59]⟩ [59] rfl 50000 (by rw [size1]; omega)).mono ?_
      rintro e w6 ⟨rfl, v6, h6⟩
      have HX6 := Lib.hid h6
      have c6 := h6.px.cells.2.1
      clear h6 HX5
      go_wp2_with fail
      go_end0
      refine ⟨rfl, body, v6, HP.out.1, HP.out.2.1, HP.out.2.2, ?_⟩
      have e := HX6.out.less (m' := 0) (by omega)
      unfold Css.atText Css.nl
      rw [HE.out]
      simpa using e
  | false =>
    clear c3 c6 c9
    go_wp2_with fail
    refine (HM.out.1.dent 0 (by omega) 999999900 (by omega)).mono ?_
    rintro e w1 ⟨rfl, v1, h1, hk1⟩
    have HX : Hid (Pm F B w base g false asc v T 999999900 [] v1 w1) := Lib.hid (by simpa using h1)
    have b0 := cell_blk (hk1 _ _ _ HM.out.2 HGB.out (by decide)) (i := 0) rfl
    clear h1 hk1 HM HGB
    go_wp2_with fail
    refine (HX.out.say ⟨#[64]⟩ [64] rfl 999999000 (by rw [size1]; omega)).mono ?_
    rintro e w2 ⟨rfl, v2, h2⟩
    have HX2 := Lib.hid h2
    have r0 := cell_blk (HR.out h2) (i := 0) rfl
    have r1 := cell_blk (HR.out h2) (i := 1) rfl
    have r2 := cell_blk (HR.out h2) (i := 2) rfl
    clear h2 HX b0 ta1 ta2 ta3 ta4 ta5 ta6
    by_cases hts : ts.length = 0
    · have hemp : ts.isEmpty = true := HT.out.2 hts
      have heq : ((ts.length : Int) == 0) = true := beq_iff_eq.2 (by omega)
      have hgt : ¬ (0 : Int) < ts.length := by omega
      have HE := Lib.hid hemp
      clear hts hemp
      go_wp2_with fail
      refine (HID.out HX2.out 990000000 (by omega) false).mono ?_
      rintro e w3 ⟨rfl, v3, h3⟩
      have HX3 := Lib.hid h3
      have r0 := cell_blk (HR.out h3) (i := 0) rfl
      have r1 := cell_blk (HR.out h3) (i := 1) rfl
      have r2 := cell_blk (HR.out h3) (i := 2) rfl
      have c6 := h3.px.cells.2.1
      clear h3 HX2
      go_wp2_with fail
      refine (HTK.out HX3.out 100000 (by omega)).mono ?_
      rintro e w5 ⟨rfl, body, v5, p1, p2, p3, h5⟩
      have HX5 := Lib.hid h5
      have HP := Lib.hid (And.intro p1 (And.intro p2 p3))
      have r1 := cell_blk (HR.out h5) (i := 1) rfl
      have r2 := cell_blk (HR.out h5) (i := 2) rfl
      have c6 := h5.px.cells.2.1
      clear h5 HX3 p1 p2 p3
      go_wp2_with fail
      refine (HX5.out.say ⟨#[59]⟩ [59] rfl 50000 (by rw [size1]; omega)).mono ?_
      rintro e w6 ⟨rfl, v6, h6⟩
      have HX6 := Lib.hid h6
      have c6 := h6.px.cells.2.1
      clear h6 HX5
      go_wp2_with fail
      refine (HX6.out.say ⟨#[10]⟩ [10] rfl 0 (by rw [size1]; omega)).mono ?_
      rintro e w7 ⟨rfl, v7, h7⟩
      have HX7 := Lib.hid h7
      clear h7 HX6
      go_wp2_with fail
      go_end0
      refine ⟨rfl, body, v7, HP.out.1, HP.out.2.1, HP.out.2.2, ?_⟩
      have e := HX7.out.less (m' := 0) (by omega)
      unfold Css.atText Css.nl
      rw [HE.out]
      simpa using e
    · have hemp : ts.isEmpty = false := by cases he : ts.isEmpty with | false => rfl | true => exact absurd (HT.out.1 he) hts
      have heq : ((ts.length : Int) == 0) = false := beq_eq_false_iff_ne.2 (by omega)
      have hgt : (0 : Int) < ts.length := by omega
      have HE := Lib.hid hemp
      clear hts hemp
      go_wp2_with fail
      refine (HID.out HX2.out 990000000 (by omega) true).mono ?_
      rintro e w3 ⟨rfl, v3, h3⟩
      have HX3 := Lib.hid h3
      have r0 := cell_blk (HR.out h3) (i := 0) rfl
      have r1 := cell_blk (HR.out h3) (i := 1) rfl
      have r2 := cell_blk (HR.out h3) (i := 2) rfl
      have c6 := h3.px.cells.2.1
      clear h3 HX2
      go_wp2_with fail
      refine (HX3.out.say ⟨#[32]⟩ [32] rfl 989999000 (by rw [size1]; omega)).mono ?_
      rintro e w4 ⟨rfl, v4, h4⟩
      have HX4 := Lib.hid h4
      have r1 := cell_blk (HR.out h4) (i := 1) rfl
      have r2 := cell_blk (HR.out h4) (i := 2) rfl
      have c6 := h4.px.cells.2.1
      clear h4 HX3
      go_wp2_with fail
      refine (HTK.out HX4.out 100000 (by omega)).mono ?_
      rintro e w5 ⟨rfl, body, v5, p1, p2, p3, h5⟩
      have HX5 := Lib.hid h5
      have HP := Lib.hid (And.intro p1 (And.intro p2 p3))
      have r1 := cell_blk (HR.out h5) (i := 1) rfl
      have r2 := cell_blk (HR.out h5) (i := 2) rfl
      have c6 := h5.px.cells.2.1
      clear h5 HX4 p1 p2 p3
      go_wp2_with fail
      refine (HX5.out.say ⟨#[59]⟩ [59] rfl 50000 (by rw [size1]; omega)).mono ?_
      rintro e w6 ⟨rfl, v6, h6⟩
      have HX6 := Lib.hid h6
      have c6 := h6.px.cells.2.1
      clear h6 HX5
      go_wp2_with fail
      refine (HX6.out.say ⟨#[10]⟩ [10] rfl 0 (by rw [size1]; omega)).mono ?_
      rintro e w7 ⟨rfl, v7, h7⟩
      have HX7 := Lib.hid h7
      clear h7 HX6
      go_wp2_with fail
      go_end0
      refine ⟨rfl, body, v7, HP.out.1, HP.out.2.1, HP.out.2.2, ?_⟩
      have e := HX7.out.less (m' := 0) (by omega)
      unfold Css.atText Css.nl
      rw [HE.out]
      simpa using e
end Go.Proofs.YtkfdcbdlcipmfaaGreatFmt
/- printRule, of a declaration. -/
namespace Go.Proofs.YtkfdcbdlcipmfaaGreatFmt
open Go.RowKit Go.Extern.Stop Go.Stop Go.Extern

def declB (key : List UInt8) (A : Option Addr) (n c : Nat) (imp : Bool) : Obj := .cells #[.string (str key), .slice A n c, .int .i32 0, .int .i32 0, .int .u16 0, .bool imp] 77 (0, 0)
def declX (asc ws : Bool) (ind : Nat) (key : List UInt8) (body : List Int) (imp om : Bool) : List Int :=
  (if ws then [] else List.replicate (2 * ind) 32) ++ Css.declText asc key body ((if imp then 33 :: Css.impCodes else []) ++ ((if om then [] else [59]) ++ Css.nl ws))

set_option maxRecDepth 400000 in
set_option maxHeartbeats 40000000 in
theorem c56_decl {F : Interp} {B : Nat} {w : World} {base g : Nat} {ws asc : Bool} {v : Value} {T : List UInt8} (h : Px w base g ws asc v T) (hE : Env F B w) (hB : B ≤ g) (hT : T.length ≤ 10000000000)
    {xr : Nat} {name : List UInt8} {A : Option Addr} {c : Nat} {ts : List Css.Tree} {P : Nat → Prop} (imp om : Bool) (ind : Nat) (hind : ind ≤ 10) (hr : w.heap[xr]? = some (declB name A ts.length c imp)) (hx : xr < B)
    (hL : TkL w P A ts) (hP : ∀ b, P b → b < B) (hW : Css.WL asc ts) (hcnt : cntL ts ≤ 1000) (hcost : costL ts ≤ 520000000) (hn : Css.isName name = true) (hss : name.length ≤ 1048576) (hla : imp = true → ts = [] ∨ Css.lastAfter (Css.headBefore ts) ts = true) :
    Calls Tryz.prog 56 #[.pointer (some ⟨g, 0, none⟩), ruleV 69 xr, .int .i32 (ind : Int), .bool om] w fun e w' => e = .returned (.tuple #[]) ∧
      ∃ body v', Css.PL asc (Css.headBefore ts) ts body ∧ Css.Asc asc body ∧ (Css.enc body).length ≤ costL ts ∧ Pm F B w base g ws asc v T 0 (declX asc ws ind name body imp om) v' w' ∧ Kv w w' g v v' := by
  have HS : Hid (∀ o, Pm F B w base g ws asc v T 1000000000 [] v (w.alloc o)) := Lib.hid fun o => (Pm.start h hE hB 1000000000 (by omega)).free (grown_alloc (grown_refl _ _) o)
  have HR : Hid (∀ {m X vr wr}, Pm F B w base g ws asc v T m X vr wr → wr.heap[xr]? = some (declB name A ts.length c imp)) := Lib.hid fun h => (h.low xr hx).trans hr
  have HTK : Hid (∀ {m X vr wr}, Pm F B w base g ws asc v T m X vr wr → ∀ m', 530000000 + m' ≤ m → Calls Tryz.prog 80 #[.pointer (some ⟨g, 0, none⟩), .slice A ts.length c, .agg #[.int .i32 (ind : Int), .int .u8 0, .bool true]] wr fun e w' => e = .returned (.bool (Css.lastAfter (Css.headBefore ts) ts)) ∧
      ∃ body v', Css.PL asc (Css.headBefore ts) ts body ∧ Css.Asc asc body ∧ (Css.enc body).length ≤ costL ts ∧ Pm F B w base g ws asc v T m' (X ++ body) v' w') := Lib.hid fun h m' hm => h.toks c hL hP hW hcnt hcost ind hind true m' hm
  have HID : Hid (∀ {m X vr wr}, Pm F B w base g ws asc v T m X vr wr → ∀ m', 8388700 + m' ≤ m → ∀ need, Calls Tryz.prog 82 #[.pointer (some ⟨g, 0, none⟩), .string (str name), .int .u8 0, .int .u8 (if need then 0 else 1)] wr fun e w' => e = .returned (.tuple #[]) ∧ ∃ v', Pm F B w base g ws asc v T m' (X ++ Css.pIdent 0 asc need (Css.codes name)) v' w') := Lib.hid fun h m' hm need => h.ident hn need hss m' hm
  have hlen : ts.length ≤ 1000 := by have := cntL_len ts; omega
  have HGB : Hid (w.heap.size ≠ g) := Lib.hid (by have := h.base; have := h.lt; omega)
  have HIND := Lib.hid hind
  have HLA : Hid (imp = true → ts.length = 0 ∨ Css.lastAfter (Css.headBefore ts) ts = true) := Lib.hid fun hi => by rcases hla hi with rfl | h; exact .inl rfl; exact .inr h
  have ta0 : ∀ W, (Instr.typeAssert (.iface 69 (.pointer (some ⟨xr, 0, none⟩))) 79 172 true).run Tryz.prog W = .ok (.tuple #[.pointer none, .bool false]) W := ta_other Tryz.underlying172 rfl (by kernel_rfl) _ _
  have ta1 : ∀ W, (Instr.typeAssert (.iface 69 (.pointer (some ⟨xr, 0, none⟩))) 79 183 true).run Tryz.prog W = .ok (.tuple #[.pointer none, .bool false]) W := ta_other Tryz.underlying183 rfl (by kernel_rfl) _ _
  have ta2 : ∀ W, (Instr.typeAssert (.iface 69 (.pointer (some ⟨xr, 0, none⟩))) 79 189 true).run Tryz.prog W = .ok (.tuple #[.pointer none, .bool false]) W := ta_other Tryz.underlying189 rfl (by kernel_rfl) _ _
  have ta3 : ∀ W, (Instr.typeAssert (.iface 69 (.pointer (some ⟨xr, 0, none⟩))) 79 220 true).run Tryz.prog W = .ok (.tuple #[.pointer none, .bool false]) W := ta_other Tryz.underlying220 rfl (by kernel_rfl) _ _
  have ta4 : ∀ W, (Instr.typeAssert (.iface 69 (.pointer (some ⟨xr, 0, none⟩))) 79 235 true).run Tryz.prog W = .ok (.tuple #[.pointer none, .bool false]) W := ta_other Tryz.underlying235 rfl (by kernel_rfl) _ _
  have ta5 : ∀ W, (Instr.typeAssert (.iface 69 (.pointer (some ⟨xr, 0, none⟩))) 79 87 true).run Tryz.prog W = .ok (.tuple #[.pointer none, .bool false]) W := ta_other Tryz.underlying87 rfl (by kernel_rfl) _ _
  have ta6 : ∀ W, (Instr.typeAssert (.iface 69 (.pointer (some ⟨xr, 0, none⟩))) 79 179 true).run Tryz.prog W = .ok (.tuple #[.pointer none, .bool false]) W := ta_other Tryz.underlying179 rfl (by kernel_rfl) _ _
  have ta7 : ∀ W, (Instr.typeAssert (.iface 69 (.pointer (some ⟨xr, 0, none⟩))) 79 84 true).run Tryz.prog W = .ok (.tuple #[.pointer none, .bool false]) W := ta_other Tryz.underlying84 rfl (by kernel_rfl) _ _
  have ta8 : ∀ W, (Instr.typeAssert (.iface 69 (.pointer (some ⟨xr, 0, none⟩))) 79 69 true).run Tryz.prog W = .ok (.tuple #[.pointer (some ⟨xr, 0, none⟩), .bool true]) W := ta_same Tryz.underlying69 _ _
  clear h hE hB hT hr hx hL hP hW hcnt hcost hn hss hind hla
  unfold ruleV
  go_enter Tryz.func56, Tryz.ntmps56
  go_upto_region 14 with (fail)
  generalize hwa : w.alloc (.cells #[.iface 69 (.pointer (some ⟨xr, 0, none⟩)), .int .i32 0] 81 (0, 0)) = wa
  have HM : Hid (Pm F B w base g ws asc v T 1000000000 [] v wa ∧ wa.heap[w.heap.size]? = some (.cells #[.iface 69 (.pointer (some ⟨xr, 0, none⟩)), .int .i32 0] 81 (0, 0))) := Lib.hid (by rw [← hwa]; exact ⟨HS.out _, new_blk w _⟩)
  clear HS hwa
  obtain ⟨c3, c6, _, c9, _⟩ := HM.out.1.px.cells
  go_upto_if 160 with (fail)
  cases ws with
  | true =>
    cases om with
    | true =>
      have HX : Hid (Pm F B w base g true asc v T 999999900 [] v wa) := Lib.hid (HM.out.1.less (by omega))
      have b0 := cell_blk HM.out.2 (i := 0) rfl
      clear HM c3 c6 c9 HGB
      have r0 := cell_blk (HR.out HX.out) (i := 0) rfl
      go_wp2_with fail
      refine (HID.out HX.out 990000000 (by omega) false).mono ?_
      rintro e w3 ⟨rfl, v3, h3⟩
      have HX3 := Lib.hid h3
      have r1 := cell_blk (HR.out h3) (i := 1) rfl
      clear h3 HX b0 r0 ta0 ta1 ta2 ta3 ta4 ta5 ta6 ta7 ta8
      go_wp2_with fail
      refine (HX3.out.say ⟨#[58]⟩ [58] rfl 989999000 (by rw [size1]; omega)).mono ?_
      rintro e w4 ⟨rfl, v4, h4⟩
      have HX4 := Lib.hid h4
      have c6 := h4.px.cells.2.1
      have r1 := cell_blk (HR.out h4) (i := 1) rfl
      have r5 := cell_blk (HR.out h4) (i := 5) rfl
      clear h4 HX3
      go_wp2_with fail
      refine (HTK.out HX4.out 100000 (by omega)).mono ?_
      rintro e w5 ⟨rfl, body, v5, p1, p2, p3, h5⟩
      have HX5 := Lib.hid h5
      have HP := Lib.hid (And.intro p1 (And.intro p2 p3))
      have r1 := cell_blk (HR.out h5) (i := 1) rfl
      have r5 := cell_blk (HR.out h5) (i := 5) rfl
      have c6 := h5.px.cells.2.1
      clear h5 HX4 p1 p2 p3
      generalize Css.lastAfter (Css.headBefore ts) ts = la at HLA ⊢
      cases imp with
      | false =>
        go_wp2_with fail
        go_end0
        refine ⟨rfl, body, v5, HP.out.1, HP.out.2.1, HP.out.2.2, ?_, HX5.out.kv⟩
        have e := HX5.out.less (m' := 0) (by omega)
        unfold declX Css.declText Css.nl
        simpa using e
      | true =>
        have hgap : la = true ∨ ((ts.length : Int) = 0 ∧ la = false) := by
          cases la with
          | true => exact .inl rfl
          | false =>
            rcases HLA.out rfl with h | h
            · exact .inr ⟨by omega, rfl⟩
            · cases h
        rcases hgap with rfl | ⟨hz, rfl⟩
        · skip
          go_wp2_with fail
          refine (HX5.out.say ⟨#[33, 105, 109, 112, 111, 114, 116, 97, 110, 116]⟩ (33 :: Css.impCodes) (by decide) 90000 (by show 10 + _ ≤ _; omega)).mono ?_
          rintro e w6 ⟨rfl, v6, h6⟩
          have HX6 := Lib.hid h6
          have c6 := h6.px.cells.2.1
          have r1 := cell_blk (HR.out h6) (i := 1) rfl
          have r5 := cell_blk (HR.out h6) (i := 5) rfl
          clear h6 HX5
          go_wp2_with fail
          go_end0
          refine ⟨rfl, body, v6, HP.out.1, HP.out.2.1, HP.out.2.2, ?_, HX6.out.kv⟩
          have e := HX6.out.less (m' := 0) (by omega)
          unfold declX Css.declText Css.nl
          simpa using e
        · have hgt : ¬ (0 : Int) < ts.length := by omega
          clear hz
          go_wp2_with fail
          refine (HX5.out.say ⟨#[33, 105, 109, 112, 111, 114, 116, 97, 110, 116]⟩ (33 :: Css.impCodes) (by decide) 90000 (by show 10 + _ ≤ _; omega)).mono ?_
          rintro e w6 ⟨rfl, v6, h6⟩
          have HX6 := Lib.hid h6
          have c6 := h6.px.cells.2.1
          have r1 := cell_blk (HR.out h6) (i := 1) rfl
          have r5 := cell_blk (HR.out h6) (i := 5) rfl
          clear h6 HX5
          go_wp2_with fail
          go_end0
          refine ⟨rfl, body, v6, HP.out.1, HP.out.2.1, HP.out.2.2, ?_, HX6.out.kv⟩
          have e := HX6.out.less (m' := 0) (by omega)
          unfold declX Css.declText Css.nl
          simpa using e
    | false =>
      have HX : Hid (Pm F B w base g true asc v T 999999900 [] v wa) := Lib.hid (HM.out.1.less (by omega))
      have b0 := cell_blk HM.out.2 (i := 0) rfl
      clear HM c3 c6 c9 HGB
      have r0 := cell_blk (HR.out HX.out) (i := 0) rfl
      go_wp2_with fail
      refine (HID.out HX.out 990000000 (by omega) false).mono ?_
      rintro e w3 ⟨rfl, v3, h3⟩
      have HX3 := Lib.hid h3
      have r1 := cell_blk (HR.out h3) (i := 1) rfl
      clear h3 HX b0 r0 ta0 ta1 ta2 ta3 ta4 ta5 ta6 ta7 ta8
      go_wp2_with fail
      refine (HX3.out.say ⟨#[58]⟩ [58] rfl 989999000 (by rw [size1]; omega)).mono ?_
      rintro e w4 ⟨rfl, v4, h4⟩
      have HX4 := Lib.hid h4
      have c6 := h4.px.cells.2.1
      have r1 := cell_blk (HR.out h4) (i := 1) rfl
      have r5 := cell_blk (HR.out h4) (i := 5) rfl
      clear h4 HX3
      go_wp2_with fail
      refine (HTK.out HX4.out 100000 (by omega)).mono ?_
      rintro e w5 ⟨rfl, body, v5, p1, p2, p3, h5⟩
      have HX5 := Lib.hid h5
      have HP := Lib.hid (And.intro p1 (And.intro p2 p3))
      have r1 := cell_blk (HR.out h5) (i := 1) rfl
      have r5 := cell_blk (HR.out h5) (i := 5) rfl
      have c6 := h5.px.cells.2.1
      clear h5 HX4 p1 p2 p3
      generalize Css.lastAfter (Css.headBefore ts) ts = la at HLA ⊢
      cases imp with
      | false =>
        go_wp2_with fail
        refine (HX5.out.say ⟨#[59]⟩ [59] rfl 50000 (by rw [size1]; omega)).mono ?_
        rintro e w7 ⟨rfl, v7, h7⟩
        have HX7 := Lib.hid h7
        have c6 := h7.px.cells.2.1
        have r1 := cell_blk (HR.out h7) (i := 1) rfl
        have r5 := cell_blk (HR.out h7) (i := 5) rfl
        clear h7 HX5
        go_wp2_with fail
        go_end0
        refine ⟨rfl, body, v7, HP.out.1, HP.out.2.1, HP.out.2.2, ?_, HX7.out.kv⟩
        have e := HX7.out.less (m' := 0) (by omega)
        unfold declX Css.declText Css.nl
        simpa using e
      | true =>
        have hgap : la = true ∨ ((ts.length : Int) = 0 ∧ la = false) := by
          cases la with
          | true => exact .inl rfl
          | false =>
            rcases HLA.out rfl with h | h
            · exact .inr ⟨by omega, rfl⟩
            · cases h
        rcases hgap with rfl | ⟨hz, rfl⟩
        · skip
          go_wp2_with fail
          refine (HX5.out.say ⟨#[33, 105, 109, 112, 111, 114, 116, 97, 110, 116]⟩ (33 :: Css.impCodes) (by decide) 90000 (by show 10 + _ ≤ _; omega)).mono ?_
          rintro e w6 ⟨rfl, v6, h6⟩
          have HX6 := Lib.hid h6
          have c6 := h6.px.cells.2.1
          have r1 := cell_blk (HR.out h6) (i := 1) rfl
          have r5 := cell_blk (HR.out h6) (i := 5) rfl
          clear h6 HX5
          go_wp2_with fail
          refine (HX6.out.say ⟨#[59]⟩ [59] rfl 50000 (by rw [size1]; omega)).mono ?_
          rintro e w7 ⟨rfl, v7, h7⟩
          have HX7 := Lib.hid h7
          have c6 := h7.px.cells.2.1
          have r1 := cell_blk (HR.out h7) (i := 1) rfl
          have r5 := cell_blk (HR.out h7) (i := 5) rfl
          clear h7 HX6
          go_wp2_with fail
          go_end0
          refine ⟨rfl, body, v7, HP.out.1, HP.out.2.1, HP.out.2.2, ?_, HX7.out.kv⟩
          have e := HX7.out.less (m' := 0) (by omega)
          unfold declX Css.declText Css.nl
          simpa using e
        · have hgt : ¬ (0 : Int) < ts.length := by omega
          clear hz
          go_wp2_with fail
          refine (HX5.out.say ⟨#[33, 105, 109, 112, 111, 114, 116, 97, 110, 116]⟩ (33 :: Css.impCodes) (by decide) 90000 (by show 10 + _ ≤ _; omega)).mono ?_
          rintro e w6 ⟨rfl, v6, h6⟩
          have HX6 := Lib.hid h6
          have c6 := h6.px.cells.2.1
          have r1 := cell_blk (HR.out h6) (i := 1) rfl
          have r5 := cell_blk (HR.out h6) (i := 5) rfl
          clear h6 HX5
          go_wp2_with fail
          refine (HX6.out.say ⟨#[59]⟩ [59] rfl 50000 (by rw [size1]; omega)).mono ?_
          rintro e w7 ⟨rfl, v7, h7⟩
          have HX7 := Lib.hid h7
          have c6 := h7.px.cells.2.1
          have r1 := cell_blk (HR.out h7) (i := 1) rfl
          have r5 := cell_blk (HR.out h7) (i := 5) rfl
          clear h7 HX6
          go_wp2_with fail
          go_end0
          refine ⟨rfl, body, v7, HP.out.1, HP.out.2.1, HP.out.2.2, ?_, HX7.out.kv⟩
          have e := HX7.out.less (m' := 0) (by omega)
          unfold declX Css.declText Css.nl
          simpa using e
  | false =>
    cases om with
    | true =>
      clear c3 c6 c9
      go_wp2_with fail
      refine (HM.out.1.dent ind (by have := HIND.out; omega) 999999900 (by have := HIND.out; omega)).mono ?_
      rintro e w1 ⟨rfl, v1, h1, hk1⟩
      have HX : Hid (Pm F B w base g false asc v T 999999900 (List.replicate (2 * ind) 32) v1 w1) := Lib.hid (by simpa using h1)
      have b0 := cell_blk (hk1 _ _ _ HM.out.2 HGB.out (by decide)) (i := 0) rfl
      clear h1 hk1 HM HGB
      have r0 := cell_blk (HR.out HX.out) (i := 0) rfl
      go_wp2_with fail
      refine (HID.out HX.out 990000000 (by omega) false).mono ?_
      rintro e w3 ⟨rfl, v3, h3⟩
      have HX3 := Lib.hid h3
      have r1 := cell_blk (HR.out h3) (i := 1) rfl
      clear h3 HX b0 r0 ta0 ta1 ta2 ta3 ta4 ta5 ta6 ta7 ta8
      go_wp2_with fail
      refine (HX3.out.say ⟨#[58]⟩ [58] rfl 989999000 (by rw [size1]; omega)).mono ?_
      rintro e w4 ⟨rfl, v4, h4⟩
      have HX4 := Lib.hid h4
      have c6 := h4.px.cells.2.1
      have r1 := cell_blk (HR.out h4) (i := 1) rfl
      have r5 := cell_blk (HR.out h4) (i := 5) rfl
      clear h4 HX3
      go_wp2_with fail
      refine (HTK.out HX4.out 100000 (by omega)).mono ?_
      rintro e w5 ⟨rfl, body, v5, p1, p2, p3, h5⟩
      have HX5 := Lib.hid h5
      have HP := Lib.hid (And.intro p1 (And.intro p2 p3))
      have r1 := cell_blk (HR.out h5) (i := 1) rfl
      have r5 := cell_blk (HR.out h5) (i := 5) rfl
      have c6 := h5.px.cells.2.1
      clear h5 HX4 p1 p2 p3
      generalize Css.lastAfter (Css.headBefore ts) ts = la at HLA ⊢
      cases imp with
      | false =>
        go_wp2_with fail
        refine (HX5.out.say ⟨#[10]⟩ [10] rfl 0 (by rw [size1]; omega)).mono ?_
        rintro e w8 ⟨rfl, v8, h8⟩
        have HX8 := Lib.hid h8
        clear h8 HX5
        go_wp2_with fail
        go_end0
        refine ⟨rfl, body, v8, HP.out.1, HP.out.2.1, HP.out.2.2, ?_, HX8.out.kv⟩
        have e := HX8.out.less (m' := 0) (by omega)
        unfold declX Css.declText Css.nl
        simpa using e
      | true =>
        have hgap : la = true ∨ ((ts.length : Int) = 0 ∧ la = false) := by
          cases la with
          | true => exact .inl rfl
          | false =>
            rcases HLA.out rfl with h | h
            · exact .inr ⟨by omega, rfl⟩
            · cases h
        rcases hgap with rfl | ⟨hz, rfl⟩
        · skip
          go_wp2_with fail
          refine (HX5.out.say ⟨#[33, 105, 109, 112, 111, 114, 116, 97, 110, 116]⟩ (33 :: Css.impCodes) (by decide) 90000 (by show 10 + _ ≤ _; omega)).mono ?_
          rintro e w6 ⟨rfl, v6, h6⟩
          have HX6 := Lib.hid h6
          have c6 := h6.px.cells.2.1
          have r1 := cell_blk (HR.out h6) (i := 1) rfl
          have r5 := cell_blk (HR.out h6) (i := 5) rfl
          clear h6 HX5
          go_wp2_with fail
          refine (HX6.out.say ⟨#[10]⟩ [10] rfl 0 (by rw [size1]; omega)).mono ?_
          rintro e w8 ⟨rfl, v8, h8⟩
          have HX8 := Lib.hid h8
          clear h8 HX6
          go_wp2_with fail
          go_end0
          refine ⟨rfl, body, v8, HP.out.1, HP.out.2.1, HP.out.2.2, ?_, HX8.out.kv⟩
          have e := HX8.out.less (m' := 0) (by omega)
          unfold declX Css.declText Css.nl
          simpa using e
        · have hgt : ¬ (0 : Int) < ts.length := by omega
          clear hz
          go_wp2_with fail
          refine (HX5.out.say ⟨#[33, 105, 109, 112, 111, 114, 116, 97, 110, 116]⟩ (33 :: Css.impCodes) (by decide) 90000 (by show 10 + _ ≤ _; omega)).mono ?_
          rintro e w6 ⟨rfl, v6, h6⟩
          have HX6 := Lib.hid h6
          have c6 := h6.px.cells.2.1
          have r1 := cell_blk (HR.out h6) (i := 1) rfl
          have r5 := cell_blk (HR.out h6) (i := 5) rfl
          clear h6 HX5
          go_wp2_with fail
          refine (HX6.out.say ⟨#[10]⟩ [10] rfl 0 (by rw [size1]; omega)).mono ?_
          rintro e w8 ⟨rfl, v8, h8⟩
          have HX8 := Lib.hid h8
          clear h8 HX6
          go_wp2_with fail
          go_end0
          refine ⟨rfl, body, v8, HP.out.1, HP.out.2.1, HP.out.2.2, ?_, HX8.out.kv⟩
          have e := HX8.out.less (m' := 0) (by omega)
          unfold declX Css.declText Css.nl
          simpa using e
    | false =>
      clear c3 c6 c9
      go_wp2_with fail
      refine (HM.out.1.dent ind (by have := HIND.out; omega) 999999900 (by have := HIND.out; omega)).mono ?_
      rintro e w1 ⟨rfl, v1, h1, hk1⟩
      have HX : Hid (Pm F B w base g false asc v T 999999900 (List.replicate (2 * ind) 32) v1 w1) := Lib.hid (by simpa using h1)
      have b0 := cell_blk (hk1 _ _ _ HM.out.2 HGB.out (by decide)) (i := 0) rfl
      clear h1 hk1 HM HGB
      have r0 := cell_blk (HR.out HX.out) (i := 0) rfl
      go_wp2_with fail
      refine (HID.out HX.out 990000000 (by omega) false).mono ?_
      rintro e w3 ⟨rfl, v3, h3⟩
      have HX3 := Lib.hid h3
      have r1 := cell_blk (HR.out h3) (i := 1) rfl
      clear h3 HX b0 r0 ta0 ta1 ta2 ta3 ta4 ta5 ta6 ta7 ta8
      go_wp2_with fail
      refine (HX3.out.say ⟨#[58]⟩ [58] rfl 989999000 (by rw [size1]; omega)).mono ?_
      rintro e w4 ⟨rfl, v4, h4⟩
      have HX4 := Lib.hid h4
      have c6 := h4.px.cells.2.1
      have r1 := cell_blk (HR.out h4) (i := 1) rfl
      have r5 := cell_blk (HR.out h4) (i := 5) rfl
      clear h4 HX3
      go_wp2_with fail
      refine (HTK.out HX4.out 100000 (by omega)).mono ?_
      rintro e w5 ⟨rfl, body, v5, p1, p2, p3, h5⟩
      have HX5 := Lib.hid h5
      have HP := Lib.hid (And.intro p1 (And.intro p2 p3))
      have r1 := cell_blk (HR.out h5) (i := 1) rfl
      have r5 := cell_blk (HR.out h5) (i := 5) rfl
      have c6 := h5.px.cells.2.1
      clear h5 HX4 p1 p2 p3
      generalize Css.lastAfter (Css.headBefore ts) ts = la at HLA ⊢
      cases imp with
      | false =>
        go_wp2_with fail
        refine (HX5.out.say ⟨#[59]⟩ [59] rfl 50000 (by rw [size1]; omega)).mono ?_
        rintro e w7 ⟨rfl, v7, h7⟩
        have HX7 := Lib.hid h7
        have c6 := h7.px.cells.2.1
        have r1 := cell_blk (HR.out h7) (i := 1) rfl
        have r5 := cell_blk (HR.out h7) (i := 5) rfl
        clear h7 HX5
        go_wp2_with fail
        refine (HX7.out.say ⟨#[10]⟩ [10] rfl 0 (by rw [size1]; omega)).mono ?_
        rintro e w8 ⟨rfl, v8, h8⟩
        have HX8 := Lib.hid h8
        clear h8 HX7
        go_wp2_with fail
        go_end0
        refine ⟨rfl, body, v8, HP.out.1, HP.out.2.1, HP.out.2.2, ?_, HX8.out.kv⟩
        have e := HX8.out.less (m' := 0) (by omega)
        unfold declX Css.declText Css.nl
        simpa using e
      | true =>
        have hgap : la = true ∨ ((ts.length : Int) = 0 ∧ la = false) := by
          cases la with
          | true => exact .inl rfl
          | false =>
            rcases HLA.out rfl with h | h
            · exact .inr ⟨by omega, rfl⟩
            · cases h
        rcases hgap with rfl | ⟨hz, rfl⟩
        · skip
          go_wp2_with fail
          refine (HX5.out.say ⟨#[33, 105, 109, 112, 111, 114, 116, 97, 110, 116]⟩ (33 :: Css.impCodes) (by decide) 90000 (by show 10 + _ ≤ _; omega)).mono ?_
          rintro e w6 ⟨rfl, v6, h6⟩
          have HX6 := Lib.hid h6
          have c6 := h6.px.cells.2.1
          have r1 := cell_blk (HR.out h6) (i := 1) rfl
          have r5 := cell_blk (HR.out h6) (i := 5) rfl
          clear h6 HX5
          go_wp2_with fail
          refine (HX6.out.say ⟨#[59]⟩ [59] rfl 50000 (by rw [size1]; omega)).mono ?_
          rintro e w7 ⟨rfl, v7, h7⟩
          have HX7 := Lib.hid h7
          have c6 := h7.px.cells.2.1
          have r1 := cell_blk (HR.out h7) (i := 1) rfl
          have r5 := cell_blk (HR.out h7) (i := 5) rfl
          clear h7 HX6
          go_wp2_with fail
          refine (HX7.out.say ⟨#[10]⟩ [10] rfl 0 (by rw [size1]; omega)).mono ?_
          rintro e w8 ⟨rfl, v8, h8⟩
          have HX8 := Lib.hid h8
          clear h8 HX7
          go_wp2_with fail
          go_end0
          refine ⟨rfl, body, v8, HP.out.1, HP.out.2.1, HP.out.2.2, ?_, HX8.out.kv⟩
          have e := HX8.out.less (m' := 0) (by omega)
          unfold declX Css.declText Css.nl
          simpa using e
        · have hgt : ¬ (0 : Int) < ts.length := by omega
          clear hz
          go_wp2_with fail
          refine (HX5.out.say ⟨#[33, 105, 109, 112, 111, 114, 116, 97, 110, 116]⟩ (33 :: Css.impCodes) (by decide) 90000 (by show 10 + _ ≤ _; omega)).mono ?_
          rintro e w6 ⟨rfl, v6, h6⟩
          have HX6 := Lib.hid h6
          have c6 := h6.px.cells.2.1
          have r1 := cell_blk (HR.out h6) (i := 1) rfl
          have r5 := cell_blk (HR.out h6) (i := 5) rfl
          clear h6 HX5
          go_wp2_with fail
          refine (HX6.out.say ⟨#[59]⟩ [59] rfl 50000 (by rw [size1]; omega)).mono ?_
          rintro e w7 ⟨rfl, v7, h7⟩
          have HX7 := Lib.hid h7
          have c6 := h7.px.cells.2.1
          have r1 := cell_blk (HR.out h7) (i := 1) rfl
          have r5 := cell_blk (HR.out h7) (i := 5) rfl
          clear h7 HX6
          go_wp2_with fail
          refine (HX7.out.say ⟨#[10]⟩ [10] rfl 0 (by rw [size1]; omega)).mono ?_
          rintro e w8 ⟨rfl, v8, h8⟩
          have HX8 := Lib.hid h8
          clear h8 HX7
          go_wp2_with fail
          go_end0
          refine ⟨rfl, body, v8, HP.out.1, HP.out.2.1, HP.out.2.2, ?_, HX8.out.kv⟩
          have e := HX8.out.less (m' := 0) (by omega)
          unfold declX Css.declText Css.nl
          simpa using e
end Go.Proofs.YtkfdcbdlcipmfaaGreatFmt
