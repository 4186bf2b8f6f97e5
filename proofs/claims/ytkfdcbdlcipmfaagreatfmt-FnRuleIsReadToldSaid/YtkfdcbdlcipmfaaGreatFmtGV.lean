/- The tables of Go's library in memory, and what fmt answers; a code point is decoded; does a name start without escapes. -/
import Derived.Test.YtkfdcbdlcipmfaaGreatFmtGB
import Derived.Test.YtkfdcbdlcipmfaaGreatFmtGS
import Derived.Test.YtkfdcbdlcipmfaaGreatFmtGR
import Derived.Test.YtkfdcbdlcipmfaaGreatFmtGU
import Derived.Lib.OthersKept
import Derived.ScopeJumps
import Derived.WalkMore
set_option linter.unusedVariables false
set_option linter.unusedSimpArgs false
namespace Go.Proofs.YtkfdcbdlcipmfaaGreatFmt
open Go.RowKit Go.Extern.Stop Go.Stop Go.Extern
structure FoldTab (w : World) : Prop where
 fold : ∀ c f, (c, f) ∈ [((115 : Nat), (383 : Int)), (83, 115), (116, 84), (84, 116), (121, 89), (89, 121), (108, 76), (76, 108), (101, 69), (69, 101)] → w.cell? ⟨3, c, none⟩ = some (.int .u16 f)
 orbit : ∃ R oR cap, w.cell? ⟨4, 0, none⟩ = some (.slice (some ⟨R, oR, none⟩) 94 cap) ∧ (∀ i a, (i, a) ∈ [((47 : Nat), (966 : Int)), (23, 837), (11, 452), (5, 197), (8, 304), (9, 305), (10, 383)] → w.cell? ⟨R, oR + i * 2, none⟩ = some (.int .u16 a)) ∧ w.cell? ⟨R, oR + 21, none⟩ = some (.int .u16 83)
structure Tabs (w : World) : Prop where
 utf8 : Lib.Utf8Tabs 1 2 w
 case : Lib.CaseVar 5 Lib.caseA w
 fold : FoldTab w
theorem cell_same {w w' : World} (h : ∀ b, b < w.heap.size → w'.heap[b]? = w.heap[b]?) {p : Addr} {u : Value} (hc : w.cell? p = some u) : w'.cell? p = some u :=
 (World.cell?_of_block (h p.block (World.block_lt_of_cell? _ _ hc))).trans hc
theorem Tabs.same {w w' : World} (t : Tabs w) (h : ∀ b, b < w.heap.size → w'.heap[b]? = w.heap[b]?) : Tabs w' := by
 obtain ⟨⟨u1, u2⟩, ⟨R, oR, cap, c1, c2⟩, ⟨f1, ⟨R', oR', cap', o1, o2, o3⟩⟩⟩ := t
 refine ⟨⟨fun c hc => cell_same h (u1 c hc), fun i hi => ⟨cell_same h (u2 i hi).1, cell_same h (u2 i hi).2⟩⟩, ⟨R, oR, cap, cell_same h c1, fun i hi => ?_⟩, ⟨fun c f hm => cell_same h (f1 c f hm), R', oR', cap', cell_same h o1, fun i a hm => cell_same h (o2 i a hm), cell_same h o3⟩⟩
 obtain ⟨d1, d2, d3, d4, d5⟩ := c2 i hi
 exact ⟨cell_same h d1, cell_same h d2, cell_same h d3, cell_same h d4, cell_same h d5⟩
structure Env (F : Interp) (B : Nat) (w : World) : Prop where
 ans : F.told.answers w.tape
 le : B ≤ w.heap.size
 was : ∃ w0, Tabs w0 ∧ w0.heap.size ≤ B ∧ ∀ b, b < B → w.heap[b]? = w0.heap[b]?
section
variable {F : Interp} {B : Nat} {w w' : World}
theorem Env.tabs (h : Env F B w) : Tabs w := by
 obtain ⟨w0, t, hb, hs⟩ := h.was
 exact t.same fun b hlt => hs b (by omega)
theorem Env.keep (h : Env F B w) (ht : w'.tape = w.tape) (hz : B ≤ w'.heap.size) (hb : ∀ b, b < B → w'.heap[b]? = w.heap[b]?) : Env F B w' := by
 obtain ⟨w0, t, hb0, hs⟩ := h.was
 exact ⟨by rw [ht]; exact h.ans, hz, w0, t, hb0, fun b hlt => (hb b hlt).trans (hs b hlt)⟩
theorem Env.free (h : Env F B w) (hg : w.grownBy w' none) : Env F B w' := h.keep hg.tape (Nat.le_trans h.le hg.size) fun b hb => hg.block b (Nat.lt_of_lt_of_le hb h.le) (by simp)
theorem Env.step {base g : Nat} {ws asc : Bool} {v v' : Value} {T : List UInt8} (h : Env F B w) (hP : Px w base g ws asc v T) (hB : B ≤ g) (k : Kv w w' g v v') : Env F B w' :=
 h.keep k.tape (Nat.le_trans h.le k.size) fun b hb => k.block b (Nat.lt_of_lt_of_le hb h.le) (by omega) (fun e => by have := own_base hP.own b e.symm; have := hP.lt; omega)
theorem Env.start (h1 : F.told.answers w.tape) (h2 : Tabs w) : Env F w.heap.size w := ⟨h1, Nat.le_refl _, w, h2, Nat.le_refl _, fun _ _ => rfl⟩
end
theorem Tabs.free {w w' : World} (t : Tabs w) (hg : w.grownBy w' none) : Tabs w' := t.same fun b hb => hg.block b hb (by simp)
theorem below_free {w w' : World} (h : Below w.heap.size w w') : w.grownBy w' none := ⟨h.os, h.tape, h.output, h.size, fun i hi _ => h.block i hi⟩
theorem dec_nil {s : ByteArray} (h : s.data.toList = Css.enc []) : Lib.decodeGo s = (65533, 0) := by
 have : s.size = 0 := by rw [← bytes_len, h]; rfl
 unfold Lib.decodeGo
 rw [if_pos this]
theorem dec_head {s : ByteArray} {c : Int} {V : List Int} (h : s.data.toList = Css.enc (c :: V)) (hc : Css.Valid c) : Lib.decodeGo s = (c.toNat, Css.width c) := by
 have hl : Css.enc (c :: V) = Css.enc1 c ++ Css.enc V := by simp [Css.enc]
 have hsz : 0 < s.size := by
  have := Css.width_pos c
  rw [← bytes_len, h, hl, List.length_append, Css.enc1_length]
  omega
 unfold Lib.decodeGo
 rw [if_neg (by omega), ← Lib.decodeL_drop, List.drop_zero, h, hl]
 exact decodeL_enc1 hc _
theorem c100 {w : World} (ht : Tabs w) {s : ByteArray} {c : Int} {V : List Int} (h : s.data.toList = Css.enc (c :: V)) (hc : Css.Valid c) :
  Calls Tryz.prog 100 #[.string s] w fun e w' => e = .returned (.tuple #[.int .i32 c, .int .i64 (Css.width c : Nat)]) ∧ w.grownBy w' none := by
 refine (Tryz.utf8_DecodeRuneInString s w ht.utf8).mono fun e w' ⟨he, hb⟩ => ⟨?_, below_free hb⟩
 rw [he, dec_head h hc]
 have := hc.1
 rw [show ((c.toNat : Nat) : Int) = c by omega]
theorem c100_nil {w : World} (ht : Tabs w) {s : ByteArray} (h : s.data.toList = Css.enc []) :
  Calls Tryz.prog 100 #[.string s] w fun e w' => e = .returned (.tuple #[.int .i32 65533, .int .i64 0]) ∧ w.grownBy w' none := by
 refine (Tryz.utf8_DecodeRuneInString s w ht.utf8).mono fun e w' ⟨he, hb⟩ => ⟨?_, below_free hb⟩
 rw [he, dec_nil h]
 rfl
theorem extract_enc {s : ByteArray} {c : Int} {V : List Int} (h : s.data.toList = Css.enc (c :: V)) : Css.width c ≤ s.size ∧ (s.extract (Css.width c) s.size).data.toList = Css.enc V := by
 have hl : Css.enc (c :: V) = Css.enc1 c ++ Css.enc V := by simp [Css.enc]
 have hw := Css.enc1_length c
 refine ⟨by rw [← bytes_len, h, hl, List.length_append]; omega, ?_⟩
 have : (s.extract (Css.width c) s.size).data.toList = s.data.toList.drop (Css.width c) := by
  have := Lib.extract_to_end s (Css.width c)
  first | exact this | simpa using this
 rw [this, h, hl, ← hw, List.drop_left]
set_option maxRecDepth 100000 in
set_option maxHeartbeats 2000000 in
theorem c114 {w : World} (ht : Tabs w) {s : ByteArray} {V : List Int} (h : s.data.toList = Css.enc V) (hV : ∀ c ∈ V, Css.Valid c) (hne : V ≠ []) :
  Calls Tryz.prog 114 #[.string s] w fun e w' => e = .returned (.bool (Css.wouldStart V)) ∧ w.grownBy w' none := by
 cases V with
 | nil => exact absurd rfl hne
 | cons c V =>
  have hc := hV c (by simp)
  have hc0 : c ≠ 0 := by have := hc.1; omega
  obtain ⟨hle, hx⟩ := extract_enc h
  have H1 := Lib.hid (c100 ht h hc)
  have HT := Lib.hid ht
  have HX := Lib.hid hx
  have HV := Lib.hid hV
  have hw0 := Css.width_pos c
  have hw3 : c = 65533 → ¬ (Css.width c : Int) ≤ 1 := by rintro rfl; decide
  clear ht h hV hx hne
  have HW : Hid (Css.wouldStart (c :: V) = (Css.starts c || (c == 45 && (Css.starts (Css.pk 0 V) || Css.pk 0 V == 45)))) := Lib.hid rfl
  have hw4 : ∀ d : Int, d = 65533 → ¬ (Css.width d : Int) ≤ 1 := by rintro d rfl; decide
  cases t1 : (c == 65533) <;> cases h1 : Css.starts c <;> cases t2 : (c == 45)
  all_goals first
   | (exfalso; simp only [beq_iff_eq] at t1; subst t1; first | exact absurd h1 (by decide) | exact absurd t2 (by decide))
   | (exfalso; simp only [beq_iff_eq] at t2; subst t2; exact absurd h1 (by decide))
   | skip
  ·rw [h1, t2] at HW
   go_enter Tryz.func114, Tryz.ntmps114
   go_wp2_with fail
   refine H1.out.mono ?_
   rintro e w1 ⟨rfl, hg1⟩
   have HG1 := Lib.hid hg1
   clear hg1 H1
   go_wp2_with fail
   refine (c138 c hc0 _).mono ?_
   rintro e w' ⟨rfl, rfl⟩
   rw [h1]
   go_wp2_with fail
   go_ret
   exact ⟨ret_bool (by rw [HW.out]; rfl), HG1.out⟩
  ·rw [h1, t2] at HW
   cases V with
   | nil =>
    have H2 : Hid (∀ w1, w.grownBy w1 none → Calls Tryz.prog 100 #[.string (s.extract (Css.width c) s.size)] w1 fun e w' => e = .returned (.tuple #[.int .i32 65533, .int .i64 0]) ∧ w1.grownBy w' none) := Lib.hid fun w1 hg => c100_nil (HT.out.free hg) HX.out
    go_enter Tryz.func114, Tryz.ntmps114
    go_wp2_with fail
    refine H1.out.mono ?_
    rintro e w1 ⟨rfl, hg1⟩
    have HG1 := Lib.hid hg1
    clear hg1 H1
    go_wp2_with fail
    refine (c138 c hc0 _).mono ?_
    rintro e w' ⟨rfl, rfl⟩
    rw [h1]
    go_wp2_with fail
    refine (H2.out _ HG1.out).mono ?_
    rintro e w2 ⟨rfl, hg2⟩
    have HG2 := Lib.hid (grown_trans HG1.out hg2)
    clear hg2
    go_wp2_with fail
    go_ret
    exact ⟨ret_bool (by rw [HW.out]; rfl), HG2.out⟩
   | cons d V =>
    have hd := HV.out d (by simp)
    have hd0 : d ≠ 0 := by have := hd.1; omega
    have hpk : Css.pk 0 (d :: V) = d := Css.pk_cons_zero d V
    rw [hpk] at HW
    have H2 : Hid (∀ w1, w.grownBy w1 none → Calls Tryz.prog 100 #[.string (s.extract (Css.width c) s.size)] w1 fun e w' => e = .returned (.tuple #[.int .i32 d, .int .i64 (Css.width d : Nat)]) ∧ w1.grownBy w' none) := Lib.hid fun w1 hg => c100 (HT.out.free hg) HX.out hd
    have hw5 := hw4 d
    have hw6 := Css.width_pos d
    clear hpk hw4 hw3
    cases t3 : (d == 65533) <;> cases h3 : Css.starts d <;> cases t4 : (d == 45)
    all_goals first
     | (exfalso; simp only [beq_iff_eq] at t3; subst t3; first | exact absurd h3 (by decide) | exact absurd t4 (by decide))
     | (exfalso; simp only [beq_iff_eq] at t4; subst t4; exact absurd h3 (by decide))
     | skip
    all_goals
     rw [h3, t4] at HW
     first | (have hw7 : ¬ (Css.width d : Int) ≤ 1 := hw5 (by simpa using t3)) | skip
     clear hw5
     go_enter Tryz.func114, Tryz.ntmps114
     go_wp2_with fail
     refine H1.out.mono ?_
     rintro e w1 ⟨rfl, hg1⟩
     have HG1 := Lib.hid hg1
     clear hg1
     go_wp2_with fail
     refine (c138 c hc0 _).mono ?_
     rintro e w' ⟨rfl, rfl⟩
     rw [h1]
     go_wp2_with fail
     refine (H2.out _ HG1.out).mono ?_
     rintro e w2 ⟨rfl, hg2⟩
     have HG2 := Lib.hid (grown_trans HG1.out hg2)
     clear hg2
     go_wp2_with fail
     refine (c138 d hd0 _).mono ?_
     rintro e w' ⟨rfl, rfl⟩
     rw [h3]
     go_wp2_with fail
     go_ret
     exact ⟨ret_bool (by rw [HW.out]; rfl), HG2.out⟩
  all_goals
   rw [h1, t2] at HW
   first | (have hw7 : ¬ (Css.width c : Int) ≤ 1 := hw3 (by simpa using t1)) | skip
   clear hw3 hw4
   go_enter Tryz.func114, Tryz.ntmps114
   go_wp2_with fail
   refine H1.out.mono ?_
   rintro e w1 ⟨rfl, hg1⟩
   have HG1 := Lib.hid hg1
   clear hg1
   go_wp2_with fail
   refine (c138 c hc0 _).mono ?_
   rintro e w' ⟨rfl, rfl⟩
   rw [h1]
   go_wp2_with fail
   go_ret
   exact ⟨ret_bool (by rw [HW.out]; rfl), HG1.out⟩
end Go.Proofs.YtkfdcbdlcipmfaaGreatFmt
/- What the first code point of a name is printed as, as the program asks its bytes; names that need no escape. -/
namespace Go.Proofs.YtkfdcbdlcipmfaaGreatFmt
open Go.RowKit Go.Extern.Stop Go.Stop Go.Extern
def escV : Css.Esc → Int | .none => 0 | .back => 1 | .hex => 2
def escO : Option Css.Esc → Int | none => 0 | some e => escV e
theorem byte_at {s : ByteArray} {k : Nat} {d : Int} {U : List Int} (h : s.data.toList.drop k = Css.enc (d :: U)) (hd : Css.Valid d) :
  k < s.size ∧ ((d < 128 ∧ bt s k = d ∧ s.data.toList.drop (k + 1) = Css.enc U) ∨ (128 ≤ d ∧ 192 ≤ bt s k)) := by
 obtain ⟨b, r, he, hb⟩ := enc1_first hd
 have hl : Css.enc (d :: U) = Css.enc1 d ++ Css.enc U := by simp [Css.enc]
 rw [hl, he] at h
 obtain ⟨h1, h2⟩ := bt_of h
 refine ⟨h1, ?_⟩
 rcases hb with ⟨e1, e2⟩ | ⟨e1, e2⟩
 ·refine .inl ⟨e1, by rw [h2]; exact e2, ?_⟩
  have hr : r = [] := by
   unfold Css.enc1 at he
   rw [if_pos e1] at he
   simp at he
   exact he.2
  subst hr
  rw [← List.drop_drop, h]
  rfl
 ·exact .inr ⟨e1, by rw [h2]; omega⟩
theorem byte_end {s : ByteArray} {k : Nat} (hk : k ≤ s.size) (h : s.data.toList.drop k = Css.enc []) : s.size = k := by
 have := congrArg List.length h
 rw [List.length_drop, bytes_len] at this
 simp [Css.enc] at this
 omega
theorem fast_codes {s : ByteArray} (hb : ∀ i, i < s.size → bt s i < 128 ∧ Css.continues (bt s i) = true) : ∀ (V : List Int) (k : Nat), s.data.toList.drop k = Css.enc V → (∀ c ∈ V, Css.Valid c) → ∀ c ∈ V, c < 128 ∧ Css.continues c = true
 | [], _, _, _ => fun _ h => absurd h (by simp)
 | d :: U, k, h, hV => by
  obtain ⟨h1, h2⟩ := byte_at h (hV d (by simp))
  have hbk := hb k h1
  rcases h2 with ⟨e1, e2, e3⟩ | ⟨e1, e2⟩
  ·intro c hc
   rcases List.mem_cons.1 hc with rfl | hc
   ·rw [← e2]; exact hbk
   ·exact fast_codes hb U (k + 1) e3 (fun c hc => hV c (by simp [hc])) c hc
  ·omega
theorem esc_fast {asc : Bool} {c : Int} (h : c < 128) (hc : Css.continues c = true) : Css.escOf asc none c = .none := by
 unfold Css.escOf
 have h1 : ¬ 128 ≤ c := by omega
 have h2 : (c == 13 || c == 10 || c == 12 || c == 65279) = false := by
  cases hx : (c == 13 || c == 10 || c == 12 || c == 65279) with
  | false => rfl
  | true =>
   exfalso
   simp at hx
   rcases hx with ((rfl | rfl) | rfl) | rfl
   ·exact absurd hc (by decide)
   ·exact absurd hc (by decide)
   ·exact absurd hc (by decide)
   ·omega
 simp [h1, h2, hc]
theorem pTail_fast {asc need : Bool} : ∀ V : List Int, (∀ c ∈ V, c < 128 ∧ Css.continues c = true) → Css.pTail asc need V = V
 | [], _ => rfl
 | c :: V, h => by
  have hc := h c (by simp)
  rw [Css.pTail, esc_fast hc.1 hc.2, pTail_fast V (fun d hd => h d (by simp [hd]))]
  rfl
theorem pIdent_fast {mode : Nat} {asc need : Bool} {V : List Int} (h : ∀ c ∈ V, c < 128 ∧ Css.continues c = true) (hf : Css.firstEsc mode V = none) : Css.pIdent mode asc need V = V := by
 cases V with
 | nil => rfl
 | cons c V =>
  have hc := h c (by simp)
  rw [Css.pIdent, hf, esc_fast hc.1 hc.2, pTail_fast V (fun d hd => h d (by simp [hd]))]
  rfl
theorem enc_pEsc_le {c : Int} (hc : Css.Valid c) (e : Css.Esc) (V : List Int) (need : Bool) : (Css.enc (Css.pEsc c e V need)).length ≤ 8 := by
 have h1 := enc1_le c
 have hx : (Css.enc (Css.pEsc c .hex V need)).length ≤ 8 := by
  have h6 := hexStr_six 5 c.toNat (by have := hc.2.1; omega)
  rw [pEsc_hex, Css.enc_append, List.length_append, enc_hex, List.length_map, enc_gap]
  simp only [List.length_cons]
  split <;> simp <;> omega
 cases e with
 | none => simp [Css.pEsc, Css.enc]; omega
 | hex => exact hx
 | back =>
  cases hb : Css.isHexC c with
  | false =>
   have : Css.pEsc c .back V need = [92, c] := by simp [Css.pEsc, hb]
   rw [this]
   have e1 : (Css.enc1 92).length = 1 := by decide
   simp [Css.enc, e1]
   omega
  | true =>
   have : Css.pEsc c .back V need = Css.pEsc c .hex V need := by simp [Css.pEsc, hb]
   rw [this]
   exact hx
theorem pEsc_need {c : Int} {e : Css.Esc} {V : List Int} {a b : Bool} (h : V = [] → e ≠ .none → a = b) : Css.pEsc c e V a = Css.pEsc c e V b := by
 cases V with
 | nil =>
  cases e with
  | none => rfl
  | back => rw [h rfl (by simp)]
  | hex => rw [h rfl (by simp)]
 | cons d V => cases e <;> rfl
def leftI (mode : Nat) (asc need : Bool) (p : Nat) (U : List Int) : List Int := if p = 0 then Css.pIdent mode asc need U else Css.pTail asc need U
def firstE (mode : Nat) (p : Nat) (U : List Int) : Option Css.Esc := if p = 0 then Css.firstEsc mode U else none
theorem leftI_cons {mode : Nat} {asc need : Bool} {p : Nat} {c : Int} {U : List Int} : leftI mode asc need p (c :: U) = Css.pEsc c (Css.escOf asc (firstE mode p (c :: U)) c) U need ++ leftI mode asc need (p + Css.width c) U := by
 have hw := Css.width_pos c
 unfold leftI firstE
 rw [if_neg (show ¬ p + Css.width c = 0 by omega)]
 split <;> rfl
theorem leftI_nil {mode : Nat} {asc need : Bool} {p : Nat} : leftI mode asc need p [] = [] := by
 unfold leftI
 split <;> rfl
end Go.Proofs.YtkfdcbdlcipmfaaGreatFmt
/- printIdent: what the first code point is printed as. -/
namespace Go.Proofs.YtkfdcbdlcipmfaaGreatFmt
open Go.RowKit Go.Extern.Stop Go.Stop Go.Extern
theorem wp_scope_fwd {P : Program} {c rest : Code} {Q : Exit → Act → World → Prop} {a : Act} {w : World} (l : Nat) (hf : findLabel c l = some rest) (hr : ∀ (Q' : Exit → Act → World → Prop) a w, Q' .normal a w → rest.wp P Q' a w)
  (first : c.wp P (Exit.jump l (fun a w => Q .normal a w) Q) a w) : (Code.scope c).wp P Q a w :=
 wp_scope_jumps l (fun a w => Q .normal a w) (fun _ _ => 0) hf first fun a w hJ => hr _ a w hJ
theorem c103 {w : World} {base g : Nat} {ws asc : Bool} {v : Value} {T : List UInt8} (h : Px w base g ws asc v T) (F : Interp) (hF : F.told.answers w.tape) (c : Int) (hc : Css.Valid c)
  (e : Css.Esc) (rest : ByteArray) (V : List Int) (hr : rest.data.toList = Css.enc1 c ++ Css.enc V) (hV : ∀ d ∈ V, Css.Valid d) (hrs : rest.size ≤ 1099511627776) (need : Bool) (hs : T.length + 16 ≤ 35184372088832) :
  Calls Tryz.prog 103 #[.pointer (some ⟨g, 0, none⟩), .int .i32 c, .int .u8 (escV e), .string rest, .bool need] w fun e' w' => e' = .returned (.tuple #[]) ∧ ∃ v', Px w' base g ws asc v' (T ++ Css.enc (Css.pEsc c e V need)) ∧ Kv w w' g v v' := by
 have e1 : Css.enc [c] = Css.enc1 c := by simp [Css.enc]
 cases e with
 | none =>
  have : Css.pEsc c .none V need = [c] := rfl
  rw [this, e1]
  exact c103_none h c hc rest need (by omega)
 | hex => exact c103_hex h F hF c hc 2 (.inl rfl) rest V hr hV hrs need hs
 | back =>
  cases hb : Css.isHexC c with
  | false =>
   have : Css.pEsc c .back V need = [92, c] := by simp [Css.pEsc, hb]
   have e2 : Css.enc [92, c] = 92 :: Css.enc1 c := by
    have : Css.enc1 92 = [92] := by decide
    simp [Css.enc, this]
   rw [this, e2]
   exact c103_back h c hc hb rest need (by omega)
  | true =>
   have : Css.pEsc c .back V need = Css.pEsc c .hex V need := by simp [Css.pEsc, hb]
   rw [this]
   exact c103_hex h F hF c hc 1 (.inr ⟨rfl, hb⟩) rest V hr hV hrs need hs
theorem row_iter (w : World) (k : Nat) (s : ByteArray) (p : Nat) : w.grownBy (w.iterAt k s p) (some k) :=
 ⟨rfl, rfl, rfl, by rw [Lib.iterAt_size]; exact Nat.le_refl _, fun i hi hne => Lib.iterAt_other w k i s p (fun e => hne (by rw [e]))⟩
theorem Px.noIter {w : World} {base g : Nat} {ws asc : Bool} {v : Value} {T : List UInt8} (h : Px w base g ws asc v T) {k : Nat} {s : ByteArray} {p : Nat} (hk : w.heap[k]? = some (.stringIter s p)) : k ≠ g ∧ some k ≠ v.ownBlock := by
 obtain ⟨C, hc, _⟩ := h.blk
 refine ⟨fun e => ?_, fun e => ?_⟩
 ·subst e
  rw [hk] at hc
  cases hc
 ·rcases h.own.2 with ⟨rfl, _⟩ | ⟨g1, c1, cur1, rfl, _, hh1, _⟩
  ·simp [Value.ownBlock] at e
  ·have e : k = g1 := by simpa [Value.ownBlock] using e
   subst e
   rw [hh1] at hk
   cases hk
theorem Px.iter {w : World} {base g : Nat} {ws asc : Bool} {v : Value} {T : List UInt8} (h : Px w base g ws asc v T) {k : Nat} {s : ByteArray} {p : Nat} (hk : w.heap[k]? = some (.stringIter s p)) (p' : Nat) : Px (w.iterAt k s p') base g ws asc v T := by
 obtain ⟨n1, n2⟩ := h.noIter hk
 obtain ⟨C, hc, hp⟩ := h.blk
 have hr := row_iter w k s p'
 exact ⟨⟨C, (hr.block g (lt_of_block hc) (by simp; omega)).trans hc, hp⟩, h.own.kept hr (.inr fun e => n2 e.symm), h.lt, Nat.le_trans h.base hr.size⟩
theorem Px.keepIter {w w' : World} {base g : Nat} {ws asc : Bool} {v v' : Value} {T : List UInt8} (h : Px w base g ws asc v T) (k : Kv w w' g v v') {b : Nat} {s : ByteArray} {p : Nat} (hb : w.heap[b]? = some (.stringIter s p)) : w'.heap[b]? = some (.stringIter s p) := by
 obtain ⟨n1, n2⟩ := h.noIter hb
 exact (k.block b (lt_of_block hb) n1 n2).trans hb
theorem Env.row {F : Interp} {B : Nat} {w w' : World} (h : Env F B w) {k : Nat} (hr : w.grownBy w' (some k)) (hk : B ≤ k) : Env F B w' :=
 h.keep hr.tape (Nat.le_trans h.le hr.size) fun b hb => hr.block b (Nat.lt_of_lt_of_le hb h.le) (by simp; omega)
theorem extract_at {s : ByteArray} {p : Nat} {c : Int} {U : List Int} (h : At s p (c :: U)) : (s.extract p s.size).data.toList = Css.enc1 c ++ Css.enc U := by
 rw [Lib.extract_to_end]
 have := h.1
 rw [show Css.enc (c :: U) = Css.enc1 c ++ Css.enc U by simp [Css.enc]] at this
 exact this
theorem firstEsc_zero {mode : Nat} {V : List Int} (h : escO (Css.firstEsc mode V) = 0) : Css.firstEsc mode V = none := by
 unfold Css.firstEsc at h ⊢
 repeat' split at h
 all_goals first
  | (simp [escO, escV] at h; done)
  | simp [*]
theorem enc_pos {V : List Int} (hV : ∀ c ∈ V, Css.Valid c) : ∀ b ∈ Css.enc V, b.toNat ≠ 0 := by
 intro b hb
 obtain ⟨c, hc, hb⟩ := List.mem_flatMap.1 hb
 obtain ⟨h0, h1, h2⟩ := hV c hc
 unfold Css.enc1 at hb
 by_cases a1 : c < 128
 ·rw [if_pos a1] at hb
  simp at hb
  rw [hb, Css.byte_toNat (by omega) (by omega)]
  omega
 by_cases a2 : c < 2048
 ·rw [if_neg a1, if_pos a2] at hb
  simp at hb
  rcases hb with rfl | rfl <;> rw [Css.byte_toNat (by omega) (by omega)] <;> omega
 by_cases a3 : c < 65536
 ·rw [if_neg a1, if_neg a2, if_pos a3] at hb
  simp at hb
  rcases hb with rfl | rfl | rfl <;> rw [Css.byte_toNat (by omega) (by omega)] <;> omega
 ·rw [if_neg a1, if_neg a2, if_neg a3] at hb
  simp at hb
  rcases hb with rfl | rfl | rfl | rfl <;> rw [Css.byte_toNat (by omega) (by omega)] <;> omega
theorem bt_pos {s : ByteArray} {V : List Int} (hs : s.data.toList = Css.enc V) (hV : ∀ c ∈ V, Css.Valid c) {k : Nat} (hk : k < s.size) : bt s k ≠ 0 := by
 have hm : s[k] ∈ Css.enc V := by
  rw [← hs]
  exact Array.mem_toList_iff.2 (Array.getElem_mem (by simpa using hk))
 have := enc_pos hV _ hm
 unfold bt
 rw [dif_pos hk]
 omega
theorem would_cons {c : Int} {U : List Int} : Css.wouldStart (c :: U) = (Css.starts c || (c == 45 && (Css.starts (Css.pk 0 U) || Css.pk 0 U == 45))) := rfl
theorem unit_first {s : ByteArray} {c : Int} {U : List Int} (hs : s.data.toList = Css.enc (c :: U)) (hc : Css.Valid c) (hw : Css.wouldStart (c :: U) = true) :
  0 < s.size ∧ ¬ (48 ≤ bt s 0 ∧ bt s 0 ≤ 57) ∧ ((bt s 0 == 101) = (c == 101)) ∧ ((bt s 0 == 69) = (c == 69)) := by
 obtain ⟨h1, h2⟩ := byte_at (k := 0) hs hc
 refine ⟨h1, ?_⟩
 have hn : ¬ (48 ≤ c ∧ c ≤ 57) := by
  rw [would_cons] at hw
  simp only [Bool.or_eq_true, Bool.and_eq_true, beq_iff_eq] at hw
  rcases hw with hw | hw
  ·have := (Css.starts_facts hw).2.1
   simp [Css.isDigit] at this
   omega
  ·omega
 rcases h2 with ⟨e1, e2, _⟩ | ⟨e1, e2⟩
 ·rw [e2]; exact ⟨hn, rfl, rfl⟩
 ·refine ⟨by omega, ?_, ?_⟩
  ·rw [show (bt s 0 == 101) = false by simp; omega, show (c == 101) = false by simp; omega]
  ·rw [show (bt s 0 == 69) = false by simp; omega, show (c == 69) = false by simp; omega]
theorem digit_byte {b d : Int} (h : (d < 128 ∧ b = d) ∨ (128 ≤ d ∧ 192 ≤ b)) : (decide (48 ≤ b) && decide (b ≤ 57)) = Css.isDigit d := by
 rcases h with ⟨_, rfl⟩ | ⟨h1, h2⟩
 ·rfl
 ·have e1 : decide (b ≤ 57) = false := by simp; omega
  have e2 : decide (d ≤ 57) = false := by simp; omega
  simp [Css.isDigit, e1, e2]
inductive UnitE (s : ByteArray) (U : List Int) : Prop where
 | one (h : s.size = 1) (e : (Css.isDigit (Css.pk 0 U) || (Css.pk 0 U == 45 && Css.isDigit (Css.pk 1 U))) = false)
 | digit (h : 2 ≤ s.size) (h1 : 48 ≤ bt s 1) (h2 : bt s 1 ≤ 57) (e : (Css.isDigit (Css.pk 0 U) || (Css.pk 0 U == 45 && Css.isDigit (Css.pk 1 U))) = true)
 | other (h : 2 ≤ s.size) (h1 : (decide (48 ≤ bt s 1) && decide (bt s 1 ≤ 57)) = false) (h2 : (bt s 1 == 45) = false) (e : (Css.isDigit (Css.pk 0 U) || (Css.pk 0 U == 45 && Css.isDigit (Css.pk 1 U))) = false)
 | two (h : s.size = 2) (h2 : bt s 1 = 45) (e : (Css.isDigit (Css.pk 0 U) || (Css.pk 0 U == 45 && Css.isDigit (Css.pk 1 U))) = false)
 | minus (h : 3 ≤ s.size) (h2 : bt s 1 = 45) (h3 : (decide (48 ≤ bt s 2) && decide (bt s 2 ≤ 57)) = false) (e : (Css.isDigit (Css.pk 0 U) || (Css.pk 0 U == 45 && Css.isDigit (Css.pk 1 U))) = false)
 | minusDigit (h : 3 ≤ s.size) (h2 : bt s 1 = 45) (h3 : 48 ≤ bt s 2) (h4 : bt s 2 ≤ 57) (e : (Css.isDigit (Css.pk 0 U) || (Css.pk 0 U == 45 && Css.isDigit (Css.pk 1 U))) = true)
theorem unit_e {s : ByteArray} {c : Int} {U : List Int} (hs : s.data.toList = Css.enc (c :: U)) (hc : Css.Valid c) (h128 : c < 128) (hU : ∀ d ∈ U, Css.Valid d) : UnitE s U := by
 obtain ⟨h1, h2⟩ := byte_at (k := 0) hs hc
 have h3 : s.data.toList.drop 1 = Css.enc U := by
  rcases h2 with ⟨_, _, h3⟩ | ⟨h3, _⟩
  ·exact h3
  ·omega
 cases U with
 | nil => exact .one (byte_end h1 h3) (by simp [Css.pk_nil]; decide)
 | cons d U =>
  obtain ⟨g1, g2⟩ := byte_at (k := 1) h3 (hU d (by simp))
  have hdig := digit_byte (b := bt s 1) (d := d) (by rcases g2 with ⟨a, b, _⟩ | h; exact .inl ⟨a, b⟩; exact .inr h)
  cases hd : Css.isDigit d with
  | true =>
   rw [hd] at hdig
   simp only [Bool.and_eq_true, decide_eq_true_eq] at hdig
   exact .digit g1 hdig.1 hdig.2 (by rw [Css.pk_cons_zero, hd]; rfl)
  | false =>
   rw [hd] at hdig
   by_cases h45 : d = 45
   ·subst h45
    have hb : bt s 1 = 45 ∧ s.data.toList.drop 2 = Css.enc U := by
     rcases g2 with ⟨_, a, b⟩ | ⟨a, _⟩
     ·exact ⟨a, b⟩
     ·omega
    cases U with
    | nil => exact .two (byte_end g1 hb.2) hb.1 (by simp [Css.pk_cons_zero, Css.pk_cons_succ, Css.pk_nil]; decide)
    | cons f U =>
     obtain ⟨k1, k2⟩ := byte_at (k := 2) hb.2 (hU f (by simp))
     have hdig2 := digit_byte (b := bt s 2) (d := f) (by rcases k2 with ⟨a, b, _⟩ | h; exact .inl ⟨a, b⟩; exact .inr h)
     have hp : Css.pk 1 (45 :: f :: U) = f := by rw [Css.pk_cons_succ, Css.pk_cons_zero]
     cases hf : Css.isDigit f with
     | true =>
      rw [hf] at hdig2
      simp only [Bool.and_eq_true, decide_eq_true_eq] at hdig2
      exact .minusDigit k1 hb.1 hdig2.1 hdig2.2 (by rw [Css.pk_cons_zero, hp, hf]; rfl)
     | false =>
      rw [hf] at hdig2
      exact .minus k1 hb.1 hdig2 (by rw [Css.pk_cons_zero, hp, hf]; rfl)
   ·refine .other g1 hdig ?_ (by rw [Css.pk_cons_zero, hd, show (d == 45) = false by simpa using h45]; rfl)
    rcases g2 with ⟨_, a, _⟩ | ⟨_, a⟩
    ·rw [a]; simpa using h45
    ·simp; omega
end Go.Proofs.YtkfdcbdlcipmfaaGreatFmt
