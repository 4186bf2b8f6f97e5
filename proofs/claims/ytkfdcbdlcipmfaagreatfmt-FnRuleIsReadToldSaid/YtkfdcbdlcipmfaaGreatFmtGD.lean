/- The reference's lexer in memory: what its methods peek and take do. The text has at most 2^60 bytes. -/
import Derived.Test.YtkfdcbdlcipmfaaGreatFmtProg
import Derived.WalkKit
import Derived.WalkLawsBesides
import Derived.WalkSpells
import Derived.BigQuiet
import Derived.Deep.QuietTactic
import Derived.Outline
import Derived.Laws.BitsLemmas
import Derived.Lib.Hide
import Derived.OneCell
import Derived.Deep.Draws
import Derived.Deep.LoopGhost
import Derived.Test.YtkfdcbdlcipmfaaGreatFmtGC
set_option linter.unusedVariables false
set_option linter.unusedSimpArgs false
namespace Go.Proofs.YtkfdcbdlcipmfaaGreatFmt
open Go.RowKit
theorem cell_blk {w : World} {g : Nat} {cs : Array Value} {t : TypeId} (h : w.heap[g]? = some (.cells cs t (0, 0))) {i : Nat} {v : Value} (hv : cs[i]? = some v) : w.cell? ⟨g, i, none⟩ = some v := by
 simp [World.cell?, h, hv]
theorem free_blk {w : World} {g : Nat} {cs : Array Value} {t : TypeId} (h : w.heap[g]? = some (.cells cs t (0, 0))) (i : Nat) : w.frozen? ⟨g, i, none⟩ = false := by
 simp [World.frozen?, h]
theorem set_blk {w : World} {g : Nat} {cs : Array Value} {t : TypeId} (h : w.heap[g]? = some (.cells cs t (0, 0))) (i : Nat) (u : Value) : (w.setCell ⟨g, i, none⟩ u).heap[g]? = some (.cells (cs.setIfInBounds i u) t (0, 0)) := by
 have hlt := lt_of_block h
 have h' : w.heap[g] = .cells cs t (0, 0) := by simpa [Array.getElem?_eq_getElem hlt] using h
 show (w.heap.modify g _)[g]? = _
 rw [Array.getElem?_eq_getElem (by simpa using hlt), Array.getElem_modify_self, h']
 rfl
theorem drewN_heap (w : World) (n : Nat) : (w.drewN n).heap = w.heap := rfl
theorem quiet_eq {P : Program} {f : FuncId} {args : Array Value} {w : World} {n : Nat} {v : Value}
  (h : Calls P f args (w.drewN n) fun e w' => e = .returned v ∧ w.drewN n = w') : Calls P f args (w.drewN n) fun e w'' => e = .returned v ∧ ∃ m, w'' = w.drewN m :=
 h.mono fun _ _ ⟨he, hm⟩ => ⟨he, n, hm.symm⟩
theorem grown_refl (w : World) (r : Option Nat) : w.grownBy w r := ⟨rfl, rfl, rfl, Nat.le_refl _, fun _ _ _ => rfl⟩
theorem grown_trans {a b c : World} {r : Option Nat} (h : a.grownBy b r) (k : b.grownBy c r) : a.grownBy c r :=
 ⟨k.os.trans h.os, k.tape.trans h.tape, k.output.trans h.output, Nat.le_trans h.size k.size, fun i hi hr => (k.block i (Nat.lt_of_lt_of_le hi h.size) hr).trans (h.block i hi hr)⟩
theorem grown_drewN {a b : World} {r : Option Nat} (h : a.grownBy b r) (n : Nat) : a.grownBy (b.drewN n) r := ⟨h.os, h.tape, h.output, h.size, h.block⟩
theorem grown_drew {a b : World} {r : Option Nat} (h : a.grownBy b r) : a.grownBy b.drew r := ⟨h.os, h.tape, h.output, h.size, h.block⟩
theorem grown_setCell {a b : World} {g : Nat} (h : a.grownBy b (some g)) (i : Nat) (u : Value) : a.grownBy (b.setCell ⟨g, i, none⟩ u) (some g) :=
 grown_trans h ⟨rfl, rfl, rfl, by simp [World.setCell], fun k hk hr => Below.heap_setCell _ _ _ _ (fun e => hr (by rw [e]))⟩
theorem grown_alloc {a b : World} {r : Option Nat} (h : a.grownBy b r) (o : Obj) : a.grownBy (b.alloc o) r :=
 grown_trans h ⟨rfl, rfl, rfl, by simp, fun k hk _ => Below.heap_alloc _ _ _ hk⟩
theorem map_free {w wr w' : World} {b : Nat} (hg : w.grownBy wr none) (h : wr.grownBy w' (some b)) (hb : w.heap.size ≤ b) : w.grownBy w' none :=
 ⟨h.os.trans hg.os, h.tape.trans hg.tape, h.output.trans hg.output, Nat.le_trans hg.size h.size, fun k hk _ => (h.block k (Nat.lt_of_lt_of_le hk hg.size) (by simp; omega)).trans (hg.block k hk (by simp))⟩
structure Lx (w : World) (g : Nat) (s : ByteArray) (U : List Int) (cv : Value) (op : Bool) : Prop where
 blk : w.heap[g]? = some (.cells #[.string s, .int .i64 ((s.size - Css.wd U : Nat) : Int), cv, .bool op] 146 (0, 0))
 left : Css.codes (sfx s (s.size - Css.wd U)) = U
 fits : Css.wd U ≤ s.size
 size : s.size ≤ 1152921504606846976
abbrev Kp (w w' : World) (g : Nat) : Prop := w.grownBy w' (some g)
theorem sfx_length (s : ByteArray) (i : Nat) : (sfx s i).length = s.size - i := by simp [sfx]
theorem sfx_drop (s : ByteArray) (i n : Nat) : (sfx s i).drop n = sfx s (i + n) := by simp [sfx]
theorem left_head {s : ByteArray} {U : List Int} (hl : Css.codes (sfx s (s.size - Css.wd U)) = U) (hf : Css.wd U ≤ s.size) :
  (Css.rune (sfx s (s.size - Css.wd U))).1 = Css.pk 0 U ∧ s.size - Css.wd U + (Css.rune (sfx s (s.size - Css.wd U))).2 = s.size - Css.wd U.tail ∧
   Css.codes (sfx s (s.size - Css.wd U.tail)) = U.tail ∧ Css.wd U.tail ≤ s.size := by
 cases U with
 | nil =>
  have h0 : sfx s (s.size - Css.wd []) = [] := sfx_nil s _ (by simp [Css.wd])
  rw [h0]
  simp [Css.rune, Css.pk_nil, Css.wd, sfx_nil s s.size (Nat.le_refl _), Css.codes]
 | cons c U =>
  cases hs : sfx s (s.size - Css.wd (c :: U)) with
  | nil => rw [hs] at hl; simp [Css.codes] at hl
  | cons b r =>
   rw [hs, Css.codes_cons] at hl
   simp only [List.cons.injEq] at hl
   have g := Css.rune_got (b := b) (r := r)
   have hw : (Css.rune (b :: r)).2 = Css.width c := by rw [g.1, hl.1]
   have hd : (b :: r).drop (Css.rune (b :: r)).2 = sfx s (s.size - Css.wd U) := by
    rw [hw, ← hs, sfx_drop]
    congr 1
    simp only [Css.wd] at hf ⊢
    omega
   refine ⟨by rw [Css.pk_cons_zero]; exact hl.1, ?_, ?_, ?_⟩
   ·simp only [List.tail_cons, Css.wd] at hf ⊢
    rw [hw]; omega
   ·rw [List.tail_cons, ← hd]; exact hl.2
   ·simp only [List.tail_cons, Css.wd] at hf ⊢
    omega
theorem rune_small (l : List UInt8) : (Css.rune l).2 ≤ 4 := by
 cases l with
 | nil => simp [Css.rune]
 | cons b r =>
  have := (Css.rune_got (b := b) (r := r)).1
  rw [this]; unfold Css.width; repeat' split
  all_goals omega
theorem Lx.grown {w w' : World} {g : Nat} {s : ByteArray} {U : List Int} {cv : Value} {op : Bool} (h : Lx w g s U cv op) (e : w'.heap[g]? = w.heap[g]?) : Lx w' g s U cv op :=
 ⟨e.trans h.blk, h.left, h.fits, h.size⟩
set_option maxRecDepth 100000 in
set_option maxHeartbeats 400000 in
theorem c61 {w : World} {g : Nat} {s : ByteArray} {U : List Int} {cv : Value} {op : Bool} (h : Lx w g s U cv op) :
  Calls Tryz.prog 61 #[.pointer (some ⟨g, 0, none⟩)] w fun e w' => e = .returned (.int .i64 (Css.pk 0 U)) ∧ Lx w' g s U.tail cv op ∧ Kp w w' g := by
 obtain ⟨hb, hl, hf, hs⟩ := h
 obtain ⟨e1, e2, e3, e4⟩ := left_head hl hf
 have hc0 := cell_blk hb (i := 0) (v := .string s) rfl
 have hc1 := cell_blk hb (i := 1) (v := .int .i64 ((s.size - Css.wd U : Nat) : Int)) rfl
 have hf1 := free_blk hb 1
 have HB := Lib.hid hb
 clear hb hl
 have hm := rune_small (sfx s (s.size - Css.wd U))
 have H52 := fun w => c52 s (s.size - Css.wd U) w hs
 generalize Css.rune (sfx s (s.size - Css.wd U)) = q at e1 e2 hm H52
 obtain ⟨c, m⟩ := q
 simp only at e1 e2 hm H52
 generalize s.size - Css.wd U = p at hc0 hc1 HB e2 H52
 have hp1 : p + m ≤ s.size := by omega
 have E1 := Lib.hid e1
 have E2 := Lib.hid e2
 clear e1 e2 hf
 have H := Lib.hid H52
 clear H52
 go_enter Tryz.func61, Tryz.ntmps61
 go_wp2
 go_quiet ((go_at_call 52; exact quiet_eq (H.out _)))
 go_wp2
 go_ret
 refine ⟨by rw [← E1.out]; rfl, ⟨?_, e3, e4, hs⟩, grown_setCell (grown_drewN (grown_refl _ _) _) _ _⟩
 have := set_blk (w := w.drewN nq) HB.out 1 (.int .i64 ((p : Int) + m))
 rw [← E2.out]
 simpa using this
set_option maxRecDepth 100000 in
set_option maxHeartbeats 400000 in
theorem c59 {w : World} {g : Nat} {s : ByteArray} {U : List Int} {cv : Value} {op : Bool} (h : Lx w g s U cv op) (k : Nat) (hk : k ≤ 3) :
  Calls Tryz.prog 59 #[.pointer (some ⟨g, 0, none⟩), .int .i64 k] w fun e w' => e = .returned (.int .i64 (Css.pk k U)) ∧ w = w' := by
 obtain ⟨hb, hl, hf, hs⟩ := h
 have hc0 := cell_blk hb (i := 0) (v := .string s) rfl
 have hc1 := cell_blk hb (i := 1) (v := .int .i64 ((s.size - Css.wd U : Nat) : Int)) rfl
 have HB := Lib.hid hb
 clear hb
 have hle : s.size - Css.wd U ≤ s.size := by omega
 have H1 : Hid (Css.codes (sfx s (s.size - Css.wd (U.drop 0))) = U.drop 0 ∧ Css.wd (U.drop 0) ≤ s.size) := ⟨by simpa using hl, by simpa using hf⟩
 have H0 : Hid (s.size - Css.wd U = s.size - Css.wd (U.drop 0)) := by show _ = _; simp
 clear hl hf
 generalize s.size - Css.wd U = p at hc0 hc1 HB H0 hle
 go_enter Tryz.func59, Tryz.ntmps59
 go_wp2
 go_loop [5, 15] (fun v5 v15 => ∃ i p' : Nat, v5 = .int .i64 p' ∧ v15 = .int .i64 i ∧ i ≤ k ∧ p' ≤ s.size ∧ Hid (p' = s.size - Css.wd (U.drop i)) ∧ Hid (Css.codes (sfx s (s.size - Css.wd (U.drop i))) = U.drop i ∧ Css.wd (U.drop i) ≤ s.size)) (fun _ v15 => k - (intOf v15).toNat)
 case atStart => exact ⟨0, p, rfl, rfl, by omega, hle, H0, H1⟩
 case round =>
  clear H0 H1 HB
  obtain ⟨i, p', rfl, rfl, hi, hp', HE, HX⟩ := hrel
  obtain ⟨x1, x2⟩ := HX.out
  obtain ⟨e1, e2, e3, e4⟩ := left_head x1 x2
  rw [← HE.out] at e1 e2
  have hm := rune_small (sfx s p')
  have H52 := fun w => c52 s p' w hs
  generalize Css.rune (sfx s p') = q at e1 e2 hm H52
  obtain ⟨c, m⟩ := q
  simp only at e1 e2 hm H52
  have hpm : p' + m ≤ s.size := by omega
  have E1 := Lib.hid e1
  have E2 := Lib.hid e2
  have E3 := Lib.hid (And.intro e3 e4)
  clear e1 e2 e3 e4 x1 x2 HE HX
  have H := Lib.hid H52
  clear H52
  by_cases hlt : i < k
  ·go_wp2_with (go_at_call 52; refine (H.out _).mono ?_; rintro e w' ⟨rfl, rfl⟩)
   go_round
   case rel =>
    rw [List.tail_drop] at E2 E3
    exact ⟨i + 1, p' + m, by go_num, by go_num, by omega, hpm, E2, E3⟩
   case measure => simp [intOf]; omega
  ·obtain rfl : i = k := by omega
   clear hlt
   go_wp2_with (go_at_call 52; refine (H.out _).mono ?_; rintro e w' ⟨rfl, rfl⟩)
   go_ret
   refine ⟨?_, rfl⟩
   have : Css.pk i U = c := by rw [E1.out]; simp [Css.pk]
   rw [this]; rfl
end Go.Proofs.YtkfdcbdlcipmfaaGreatFmt
/- The reference's lexer in memory: ends of lines, digits, whitespace, escapes. The text has at most 2^60 bytes. -/
namespace Go.Proofs.YtkfdcbdlcipmfaaGreatFmt
open Go.RowKit
section peeks
variable {w : World} {g : Nat} {s : ByteArray} {U : List Int} {cv : Value} {op : Bool} (h : Lx w g s U cv op)
include h
theorem c59_0 : Calls Tryz.prog 59 #[.pointer (some ⟨g, 0, none⟩), .int .i64 0] w fun e w' => e = .returned (.int .i64 (Css.pk 0 U)) ∧ w = w' := c59 h 0 (by omega)
theorem c59_1 : Calls Tryz.prog 59 #[.pointer (some ⟨g, 0, none⟩), .int .i64 1] w fun e w' => e = .returned (.int .i64 (Css.pk 1 U)) ∧ w = w' := c59 h 1 (by omega)
theorem c59_2 : Calls Tryz.prog 59 #[.pointer (some ⟨g, 0, none⟩), .int .i64 2] w fun e w' => e = .returned (.int .i64 (Css.pk 2 U)) ∧ w = w' := c59 h 2 (by omega)
theorem c59_3 : Calls Tryz.prog 59 #[.pointer (some ⟨g, 0, none⟩), .int .i64 3] w fun e w' => e = .returned (.int .i64 (Css.pk 3 U)) ∧ w = w' := c59 h 3 (by omega)
end peeks
theorem Kp.refl (w : World) (g : Nat) : Kp w w g := grown_refl _ _
theorem Kp.trans {a b c : World} {g : Nat} (h : Kp a b g) (k : Kp b c g) : Kp a c g := grown_trans h k
theorem Lx.pk_nil {w : World} {g : Nat} {s : ByteArray} {U : List Int} {cv : Value} {op : Bool} (h : Lx w g s U cv op) (h1 : Css.pk 0 U = -1) : U = [] := by
 cases U with
 | nil => rfl
 | cons c U =>
  have hm : c ∈ Css.codes (sfx s (s.size - Css.wd (c :: U))) := by rw [h.left]; simp
  rw [Css.pk_cons_zero] at h1
  subst h1
  rcases Css.codes_mem hm with h | h | h
  ·exact absurd h (by decide)
  ·exact absurd h (by decide)
  ·exact absurd h.1 (by decide)
set_option maxRecDepth 100000 in
set_option maxHeartbeats 400000 in
theorem c93 {w : World} {g : Nat} {s : ByteArray} {U : List Int} {cv : Value} {op : Bool} (h : Lx w g s U cv op) :
  Calls Tryz.prog 93 #[.pointer (some ⟨g, 0, none⟩)] w fun e w' => e = .returned (.tuple #[]) ∧ Lx w' g s (Css.newline U) cv op ∧ Kp w w' g := by
 by_cases h1 : Css.pk 0 U = 13
 ·have H1 := Lib.hid h1
  have h1b : (Css.pk 0 U == 13) = true := by simp [h1]
  clear h1
  by_cases h2 : Css.pk 0 U.tail = 10
  ·have hn : Css.newline U = U.tail.tail := by
    unfold Css.newline
    rw [Css.pk_tail] at h2
    rw [if_pos (by simp [H1.out, h2])]
    simp [List.tail_drop, ← List.drop_one]
   have h2b : (Css.pk 0 U.tail == 10) = true := by simp [h2]
   rw [hn]; clear hn h2
   go_enter Tryz.func93, Tryz.ntmps93
   go_wp2_with fail
   refine (c61 h).mono ?_
   rintro e w1 ⟨rfl, hL1, hK1⟩
   go_wp2_with fail
   refine (c59_0 hL1).mono ?_
   rintro e w' ⟨rfl, rfl⟩
   go_wp2_with fail
   refine (c61 hL1).mono ?_
   rintro e w2 ⟨rfl, hL2, hK2⟩
   go_wp2
   go_end0
   exact ⟨rfl, hL2, hK1.trans hK2⟩
  ·have hn : Css.newline U = U.tail := by
    unfold Css.newline
    rw [Css.pk_tail] at h2
    rw [if_neg (by simp [h2])]
   have h2b : (Css.pk 0 U.tail == 10) = false := by simp [h2]
   rw [hn]; clear hn h2
   go_enter Tryz.func93, Tryz.ntmps93
   go_wp2_with fail
   refine (c61 h).mono ?_
   rintro e w1 ⟨rfl, hL1, hK1⟩
   go_wp2_with fail
   refine (c59_0 hL1).mono ?_
   rintro e w' ⟨rfl, rfl⟩
   go_wp2
   go_end0
   exact ⟨rfl, hL1, hK1⟩
 ·have hn : Css.newline U = U.tail := by
   unfold Css.newline
   rw [if_neg (by simp [h1])]
  have h1b : (Css.pk 0 U == 13) = false := by simp [h1]
  rw [hn]; clear hn h1
  go_enter Tryz.func93, Tryz.ntmps93
  go_wp2_with fail
  refine (c61 h).mono ?_
  rintro e w1 ⟨rfl, hL1, hK1⟩
  go_wp2
  go_end0
  exact ⟨rfl, hL1, hK1⟩
theorem digits_pos {U : List Int} (h : Css.isDigit (Css.pk 0 U) = true) : Css.digits U = Css.digits U.tail ∧ U.tail.length < U.length := by
 cases U with
 | nil => exact absurd h (by decide)
 | cons c U => rw [Css.pk_cons_zero] at h; simp [Css.digits, h]
theorem digits_neg {U : List Int} (h : Css.isDigit (Css.pk 0 U) = false) : Css.digits U = U := by
 cases U with
 | nil => rfl
 | cons c U => rw [Css.pk_cons_zero] at h; simp [Css.digits, h]
theorem spaces_pos {U : List Int} (h : Css.isSpace (Css.pk 0 U) = true) : Css.spaces U = Css.spaces U.tail ∧ U.tail.length < U.length := by
 cases U with
 | nil => exact absurd h (by decide)
 | cons c U => rw [Css.pk_cons_zero] at h; simp [Css.spaces, h]
theorem spaces_neg {U : List Int} (h : Css.isSpace (Css.pk 0 U) = false) : Css.spaces U = U := by
 cases U with
 | nil => rfl
 | cons c U => rw [Css.pk_cons_zero] at h; simp [Css.spaces, h]
set_option maxRecDepth 100000 in
set_option maxHeartbeats 400000 in
theorem c94 {w : World} {g : Nat} {s : ByteArray} {U : List Int} {cv : Value} {op : Bool} (h : Lx w g s U cv op) :
  Calls Tryz.prog 94 #[.pointer (some ⟨g, 0, none⟩)] w fun e w' => e = .returned (.tuple #[]) ∧ Lx w' g s (Css.digits U) cv op ∧ Kp w w' g := by
 have HK := Lib.hid (Kp.refl w g)
 go_enter Tryz.func94, Tryz.ntmps94
 go_wp2
 go_loopg [] U.length (fun k wr => ∃ V : List Int, V.length ≤ k ∧ Lx wr g s V cv op ∧ Hid (Kp w wr g) ∧ Hid (Css.digits U = Css.digits V))
 case atStart => exact ⟨U, Nat.le_refl _, h, HK, Lib.hid rfl⟩
 case round =>
  clear h HK
  obtain ⟨V, hk, h, HK, HD⟩ := hrel
  cases hd : Css.isDigit (Css.pk 0 V) with
  | true =>
   obtain ⟨e1, e2⟩ := digits_pos hd
   have HE := Lib.hid e1
   clear e1
   go_wp2_with fail
   refine (c59_0 h).mono ?_
   rintro e w' ⟨rfl, rfl⟩
   go_wp2_with fail
   refine (c90 _ _).mono ?_
   rintro e w' ⟨rfl, rfl⟩
   go_wp2_with fail
   refine (c61 h).mono ?_
   rintro e w1 ⟨rfl, hL1, hK1⟩
   go_wp2
   go_roundg V.tail.length
   case measure => omega
   case rel => exact ⟨V.tail, Nat.le_refl _, hL1, Kp.trans HK.out hK1, HD.out.trans HE.out⟩
  | false =>
   have HE := Lib.hid (digits_neg hd)
   go_wp2_with fail
   refine (c59_0 h).mono ?_
   rintro e w' ⟨rfl, rfl⟩
   go_wp2_with fail
   refine (c90 _ _).mono ?_
   rintro e w' ⟨rfl, rfl⟩
   go_wp2
   go_end0
   exact ⟨rfl, by rw [HD.out, HE.out]; exact h, HK.out⟩
set_option maxRecDepth 100000 in
set_option maxHeartbeats 400000 in
theorem c65 {w : World} {g : Nat} {s : ByteArray} {U : List Int} {cv : Value} {op : Bool} (h : Lx w g s U cv op) :
  Calls Tryz.prog 65 #[.pointer (some ⟨g, 0, none⟩)] w fun e w' => e = .returned (.tuple #[]) ∧ Lx w' g s (Css.spaces U) cv op ∧ Kp w w' g := by
 have HK := Lib.hid (Kp.refl w g)
 go_enter Tryz.func65, Tryz.ntmps65
 go_wp2
 go_loopg [] U.length (fun k wr => ∃ V : List Int, V.length ≤ k ∧ Lx wr g s V cv op ∧ Hid (Kp w wr g) ∧ Hid (Css.spaces U = Css.spaces V))
 case atStart => exact ⟨U, Nat.le_refl _, h, HK, Lib.hid rfl⟩
 case round =>
  clear h HK
  obtain ⟨V, hk, h, HK, HD⟩ := hrel
  cases hd : Css.isSpace (Css.pk 0 V) with
  | true =>
   obtain ⟨e1, e2⟩ := spaces_pos hd
   have HE := Lib.hid e1
   clear e1
   go_wp2_with fail
   refine (c59_0 h).mono ?_
   rintro e w' ⟨rfl, rfl⟩
   go_wp2_with fail
   refine (c64 _ _).mono ?_
   rintro e w' ⟨rfl, rfl⟩
   go_wp2_with fail
   refine (c61 h).mono ?_
   rintro e w1 ⟨rfl, hL1, hK1⟩
   go_wp2
   go_roundg V.tail.length
   case measure => omega
   case rel => exact ⟨V.tail, Nat.le_refl _, hL1, Kp.trans HK.out hK1, HD.out.trans HE.out⟩
  | false =>
   have HE := Lib.hid (spaces_neg hd)
   go_wp2_with fail
   refine (c59_0 h).mono ?_
   rintro e w' ⟨rfl, rfl⟩
   go_wp2_with fail
   refine (c64 _ _).mono ?_
   rintro e w' ⟨rfl, rfl⟩
   go_wp2
   go_end0
   exact ⟨rfl, by rw [HD.out, HE.out]; exact h, HK.out⟩
theorem Lx.opened {w : World} {g : Nat} {s : ByteArray} {U : List Int} {cv : Value} {op : Bool} (h : Lx w g s U cv op) : Lx (w.setCell ⟨g, 3, none⟩ (.bool true)) g s U cv true :=
 ⟨by simpa using set_blk h.blk 3 (.bool true), h.left, h.fits, h.size⟩
theorem Kp.opened (w : World) (g : Nat) (v : Value) (i : Nat) : Kp w (w.setCell ⟨g, i, none⟩ v) g := grown_setCell (grown_refl _ _) _ _
theorem hexRun_pos {n : Nat} {v : Int} {U : List Int} (h : 0 ≤ Css.hexv (Css.pk 0 U)) : Css.hexRun (n + 1) v U = Css.hexRun n (v * 16 + Css.hexv (Css.pk 0 U)) U.tail := by
 simp [Css.hexRun, h]
theorem hexRun_neg {n : Nat} {v : Int} {U : List Int} (h : Css.hexv (Css.pk 0 U) < 0) : Css.hexRun n v U = (v, U) := by
 cases n with
 | zero => rfl
 | succ n => simp only [Css.hexRun]; rw [if_neg (by omega)]
theorem hexv_le (c : Int) : Css.hexv c ≤ 15 := by
 unfold Css.hexv Css.isDigit
 repeat' split
 all_goals (try simp at *) <;> omega
set_option maxRecDepth 100000 in
set_option maxHeartbeats 1000000 in
theorem c63 {w : World} {g : Nat} {s : ByteArray} {U : List Int} {cv : Value} {op : Bool} (h : Lx w g s U cv op) :
  Calls Tryz.prog 63 #[.pointer (some ⟨g, 0, none⟩)] w fun e w' => e = .returned (.int .i64 (Css.esc U).1) ∧ Lx w' g s (Css.esc U).2.1 cv (op || (Css.esc U).2.2) ∧ Kp w w' g := by
 by_cases h1 : Css.hexv (Css.pk 0 U) < 0
 ·by_cases h2 : Css.pk 0 U = -1
  ·have he : Css.esc U = (65533, U.tail, true) := by unfold Css.esc; rw [if_pos h1, if_pos (by simp [h2])]
   rw [he]; simp only [Bool.or_true]
   have h2b : (Css.pk 0 U == -1) = true := by simp [h2]
   have h1b : decide (Css.hexv (Css.pk 0 U) < 0) = true := by simp [h1]
   clear he h1 h2
   go_enter Tryz.func63, Tryz.ntmps63
   go_wp2_with fail
   refine (c59_0 h).mono ?_
   rintro e w' ⟨rfl, rfl⟩
   go_wp2_with fail
   refine (c92 _ _).mono ?_
   rintro e w' ⟨rfl, rfl⟩
   go_wp2_with fail
   refine (c61 h).mono ?_
   rintro e w1 ⟨rfl, hL1, hK1⟩
   have hf3 := free_blk hL1.blk 3
   have hc3 := cell_blk hL1.blk (i := 3) (v := .bool op) rfl
   go_wp2
   go_ret
   exact ⟨rfl, hL1.opened, hK1.trans (Kp.opened _ _ _ _)⟩
  ·have he : Css.esc U = (Css.pk 0 U, U.tail, false) := by unfold Css.esc; rw [if_pos h1, if_neg (by simp [h2])]
   rw [he]; simp only [Bool.or_false]
   have h2b : (Css.pk 0 U == -1) = false := by simp [h2]
   have h1b : decide (Css.hexv (Css.pk 0 U) < 0) = true := by simp [h1]
   clear he h1 h2
   go_enter Tryz.func63, Tryz.ntmps63
   go_wp2_with fail
   refine (c59_0 h).mono ?_
   rintro e w' ⟨rfl, rfl⟩
   go_wp2_with fail
   refine (c92 _ _).mono ?_
   rintro e w' ⟨rfl, rfl⟩
   go_wp2_with fail
   refine (c61 h).mono ?_
   rintro e w1 ⟨rfl, hL1, hK1⟩
   go_wp2
   go_ret
   exact ⟨rfl, hL1, hK1⟩
 ·have h1b : decide (Css.hexv (Css.pk 0 U) < 0) = false := by simpa using h1
  have HD := Lib.hid (show Css.esc U = (if Css.isNewline (Css.pk 0 (Css.hexRun 6 0 U).2) then (Css.fixv (Css.hexRun 6 0 U).1, Css.newline (Css.hexRun 6 0 U).2, true) else if Css.isSpace (Css.pk 0 (Css.hexRun 6 0 U).2) then (Css.fixv (Css.hexRun 6 0 U).1, (Css.hexRun 6 0 U).2.tail, false) else (Css.fixv (Css.hexRun 6 0 U).1, (Css.hexRun 6 0 U).2, false)) by unfold Css.esc; rw [if_neg h1])
  generalize Css.esc U = r at HD
  have HK := Lib.hid (Kp.refl w g)
  clear h1
  go_enter Tryz.func63, Tryz.ntmps63
  go_wp2_with fail
  refine (c59_0 h).mono ?_
  rintro e w' ⟨rfl, rfl⟩
  go_wp2_with fail
  refine (c92 _ _).mono ?_
  rintro e w' ⟨rfl, rfl⟩
  go_wp2_with fail
  go_loopg [4, 5] 6 (fun k v4 v5 wr => ∃ (V : List Int) (v : Int) (i : Nat), v4 = .int .i64 v ∧ v5 = .int .i64 i ∧ k + i = 6 ∧ 0 ≤ v ∧ v < 16 ^ i ∧ Lx wr g s V cv op ∧ Hid (Kp w wr g) ∧ Hid (Css.hexRun 6 0 U = Css.hexRun k v V))
  case atStart => exact ⟨U, 0, 0, rfl, rfl, rfl, by omega, by decide, h, HK, Lib.hid rfl⟩
  case round =>
   clear h HK h1b
   obtain ⟨V, v, i, rfl, rfl, hki, hv0, hv1, h, HK, HR⟩ := hrel
   have hi6 : i ≤ 6 := by omega
   have hp : (16 : Int) ^ i ≤ 16777216 := by
    have : i = 0 ∨ i = 1 ∨ i = 2 ∨ i = 3 ∨ i = 4 ∨ i = 5 ∨ i = 6 := by omega
    rcases this with rfl | rfl | rfl | rfl | rfl | rfl | rfl <;> decide
   have hv2 : v < 16777216 := by omega
   have HV := Lib.hid hv1
   clear hv1 hp
   by_cases hx : i < 6 ∧ 0 ≤ Css.hexv (Css.pk 0 V)
   ·obtain ⟨hx1, hx2⟩ := hx
    obtain ⟨k, rfl⟩ : ∃ m, gk = m + 1 := ⟨gk - 1, by omega⟩
    have hle := hexv_le (Css.pk 0 V)
    have HR2 := Lib.hid (HR.out.trans (hexRun_pos hx2))
    clear HR
    go_wp2_with fail
    refine (c59_0 h).mono ?_
    rintro e w' ⟨rfl, rfl⟩
    go_wp2_with fail
    refine (c92 _ _).mono ?_
    rintro e w' ⟨rfl, rfl⟩
    go_wp2_with fail
    refine (c61 h).mono ?_
    rintro e w1 ⟨rfl, hL1, hK1⟩
    go_wp2_with fail
    refine (c92 _ _).mono ?_
    rintro e w' ⟨rfl, rfl⟩
    go_wp2
    go_roundg k
    case measure => omega
    case rel =>
     refine ⟨V.tail, v * 16 + Css.hexv (Css.pk 0 V), i + 1, rfl, by go_num, by omega, by omega, ?_, hL1, Kp.trans HK.out hK1, HR2.out⟩
     have := HV.out
     rw [Int.pow_succ]; omega
   ·have hend : Css.hexRun 6 0 U = (v, V) := by
     rw [HR.out]
     by_cases h6 : i = 6
     ·obtain rfl : gk = 0 := by omega
      rfl
     ·exact hexRun_neg (by omega)
    rw [hend] at HD
    have HE := Lib.hid hend
    simp only at HD
    clear hend HR
    have hcase : (i < 6 ∧ Css.hexv (Css.pk 0 V) < 0) ∨ 6 ≤ i := by omega
    have hv : (v == 0) = true ∨ ((v == 0) = false ∧ (1114111 < v ∨ (v ≤ 1114111 ∧ (v < 55296 ∨ (55296 ≤ v ∧ (v < 57344 ∨ 57344 ≤ v)))))) := by
     by_cases h0 : v = 0
     ·simp [h0]
     ·right; exact ⟨by simp [h0], by omega⟩
    clear hx
    rcases hcase with ⟨hq1, hq2⟩ | hq1
    ·rcases hv with hv | ⟨hv, hv2 | ⟨hv2, hv3 | ⟨hv3, hv4 | hv4⟩⟩⟩
     ·have hfx : Css.fixv v = 65533 := by have hv0 := hv; simp only [beq_iff_eq, beq_eq_false_iff_ne] at hv0; unfold Css.fixv; first | (rw [if_pos (by simp; omega)]; done) | rw [if_neg (by simp; omega)]
      rw [hfx] at HD; clear hfx
      cases hn : Css.isNewline (Css.pk 0 V) with
      | true =>
       rw [hn, if_pos rfl] at HD
       have hf3 := free_blk h.blk 3
       have hc3 := cell_blk h.blk (i := 3) (v := .bool op) rfl
       go_wp2_with fail
       refine (c59_0 h).mono ?_
       rintro e w' ⟨rfl, rfl⟩
       go_wp2_with fail
       refine (c92 _ _).mono ?_
       rintro e w' ⟨rfl, rfl⟩
       go_wp2_with fail
       refine (c59_0 h).mono ?_
       rintro e w' ⟨rfl, rfl⟩
       go_wp2_with fail
       refine (c91 _ _).mono ?_
       rintro e w' ⟨rfl, rfl⟩
       go_wp2_with fail
       refine (c93 h.opened).mono ?_
       rintro e w1 ⟨rfl, hL1, hK1⟩
       go_wp2
       go_ret
       rw [HD.out]
       exact ⟨rfl, by simpa using hL1, (HK.out.trans (Kp.opened _ _ _ _)).trans hK1⟩
      | false =>
       rw [hn, if_neg (by simp)] at HD
       cases hs : Css.isSpace (Css.pk 0 V) with
       | true =>
        rw [hs, if_pos rfl] at HD
        go_wp2_with fail
        refine (c59_0 h).mono ?_
        rintro e w' ⟨rfl, rfl⟩
        go_wp2_with fail
        refine (c92 _ _).mono ?_
        rintro e w' ⟨rfl, rfl⟩
        go_wp2_with fail
        refine (c59_0 h).mono ?_
        rintro e w' ⟨rfl, rfl⟩
        go_wp2_with fail
        refine (c91 _ _).mono ?_
        rintro e w' ⟨rfl, rfl⟩
        go_wp2_with fail
        refine (c59_0 h).mono ?_
        rintro e w' ⟨rfl, rfl⟩
        go_wp2_with fail
        refine (c64 _ _).mono ?_
        rintro e w' ⟨rfl, rfl⟩
        go_wp2_with fail
        refine (c61 h).mono ?_
        rintro e w1 ⟨rfl, hL1, hK1⟩
        go_wp2
        go_ret
        rw [HD.out]
        exact ⟨rfl, by simpa using hL1, HK.out.trans hK1⟩
       | false =>
        rw [hs, if_neg (by simp)] at HD
        go_wp2_with fail
        refine (c59_0 h).mono ?_
        rintro e w' ⟨rfl, rfl⟩
        go_wp2_with fail
        refine (c92 _ _).mono ?_
        rintro e w' ⟨rfl, rfl⟩
        go_wp2_with fail
        refine (c59_0 h).mono ?_
        rintro e w' ⟨rfl, rfl⟩
        go_wp2_with fail
        refine (c91 _ _).mono ?_
        rintro e w' ⟨rfl, rfl⟩
        go_wp2_with fail
        refine (c59_0 h).mono ?_
        rintro e w' ⟨rfl, rfl⟩
        go_wp2_with fail
        refine (c64 _ _).mono ?_
        rintro e w' ⟨rfl, rfl⟩
        go_wp2
        go_ret
        rw [HD.out]
        exact ⟨rfl, by simpa using h, HK.out⟩
     ·have hfx : Css.fixv v = 65533 := by have hv0 := hv; simp only [beq_iff_eq, beq_eq_false_iff_ne] at hv0; unfold Css.fixv; first | (rw [if_pos (by simp; omega)]; done) | rw [if_neg (by simp; omega)]
      rw [hfx] at HD; clear hfx
      cases hn : Css.isNewline (Css.pk 0 V) with
      | true =>
       rw [hn, if_pos rfl] at HD
       have hf3 := free_blk h.blk 3
       have hc3 := cell_blk h.blk (i := 3) (v := .bool op) rfl
       go_wp2_with fail
       refine (c59_0 h).mono ?_
       rintro e w' ⟨rfl, rfl⟩
       go_wp2_with fail
       refine (c92 _ _).mono ?_
       rintro e w' ⟨rfl, rfl⟩
       go_wp2_with fail
       refine (c59_0 h).mono ?_
       rintro e w' ⟨rfl, rfl⟩
       go_wp2_with fail
       refine (c91 _ _).mono ?_
       rintro e w' ⟨rfl, rfl⟩
       go_wp2_with fail
       refine (c93 h.opened).mono ?_
       rintro e w1 ⟨rfl, hL1, hK1⟩
       go_wp2
       go_ret
       rw [HD.out]
       exact ⟨rfl, by simpa using hL1, (HK.out.trans (Kp.opened _ _ _ _)).trans hK1⟩
      | false =>
       rw [hn, if_neg (by simp)] at HD
       cases hs : Css.isSpace (Css.pk 0 V) with
       | true =>
        rw [hs, if_pos rfl] at HD
        go_wp2_with fail
        refine (c59_0 h).mono ?_
        rintro e w' ⟨rfl, rfl⟩
        go_wp2_with fail
        refine (c92 _ _).mono ?_
        rintro e w' ⟨rfl, rfl⟩
        go_wp2_with fail
        refine (c59_0 h).mono ?_
        rintro e w' ⟨rfl, rfl⟩
        go_wp2_with fail
        refine (c91 _ _).mono ?_
        rintro e w' ⟨rfl, rfl⟩
        go_wp2_with fail
        refine (c59_0 h).mono ?_
        rintro e w' ⟨rfl, rfl⟩
        go_wp2_with fail
        refine (c64 _ _).mono ?_
        rintro e w' ⟨rfl, rfl⟩
        go_wp2_with fail
        refine (c61 h).mono ?_
        rintro e w1 ⟨rfl, hL1, hK1⟩
        go_wp2
        go_ret
        rw [HD.out]
        exact ⟨rfl, by simpa using hL1, HK.out.trans hK1⟩
       | false =>
        rw [hs, if_neg (by simp)] at HD
        go_wp2_with fail
        refine (c59_0 h).mono ?_
        rintro e w' ⟨rfl, rfl⟩
        go_wp2_with fail
        refine (c92 _ _).mono ?_
        rintro e w' ⟨rfl, rfl⟩
        go_wp2_with fail
        refine (c59_0 h).mono ?_
        rintro e w' ⟨rfl, rfl⟩
        go_wp2_with fail
        refine (c91 _ _).mono ?_
        rintro e w' ⟨rfl, rfl⟩
        go_wp2_with fail
        refine (c59_0 h).mono ?_
        rintro e w' ⟨rfl, rfl⟩
        go_wp2_with fail
        refine (c64 _ _).mono ?_
        rintro e w' ⟨rfl, rfl⟩
        go_wp2
        go_ret
        rw [HD.out]
        exact ⟨rfl, by simpa using h, HK.out⟩
     ·have hfx : Css.fixv v = v := by have hv0 := hv; simp only [beq_iff_eq, beq_eq_false_iff_ne] at hv0; unfold Css.fixv; first | (rw [if_pos (by simp; omega)]; done) | rw [if_neg (by simp; omega)]
      rw [hfx] at HD; clear hfx
      cases hn : Css.isNewline (Css.pk 0 V) with
      | true =>
       rw [hn, if_pos rfl] at HD
       have hf3 := free_blk h.blk 3
       have hc3 := cell_blk h.blk (i := 3) (v := .bool op) rfl
       go_wp2_with fail
       refine (c59_0 h).mono ?_
       rintro e w' ⟨rfl, rfl⟩
       go_wp2_with fail
       refine (c92 _ _).mono ?_
       rintro e w' ⟨rfl, rfl⟩
       go_wp2_with fail
       refine (c59_0 h).mono ?_
       rintro e w' ⟨rfl, rfl⟩
       go_wp2_with fail
       refine (c91 _ _).mono ?_
       rintro e w' ⟨rfl, rfl⟩
       go_wp2_with fail
       refine (c93 h.opened).mono ?_
       rintro e w1 ⟨rfl, hL1, hK1⟩
       go_wp2
       go_ret
       rw [HD.out]
       exact ⟨rfl, by simpa using hL1, (HK.out.trans (Kp.opened _ _ _ _)).trans hK1⟩
      | false =>
       rw [hn, if_neg (by simp)] at HD
       cases hs : Css.isSpace (Css.pk 0 V) with
       | true =>
        rw [hs, if_pos rfl] at HD
        go_wp2_with fail
        refine (c59_0 h).mono ?_
        rintro e w' ⟨rfl, rfl⟩
        go_wp2_with fail
        refine (c92 _ _).mono ?_
        rintro e w' ⟨rfl, rfl⟩
        go_wp2_with fail
        refine (c59_0 h).mono ?_
        rintro e w' ⟨rfl, rfl⟩
        go_wp2_with fail
        refine (c91 _ _).mono ?_
        rintro e w' ⟨rfl, rfl⟩
        go_wp2_with fail
        refine (c59_0 h).mono ?_
        rintro e w' ⟨rfl, rfl⟩
        go_wp2_with fail
        refine (c64 _ _).mono ?_
        rintro e w' ⟨rfl, rfl⟩
        go_wp2_with fail
        refine (c61 h).mono ?_
        rintro e w1 ⟨rfl, hL1, hK1⟩
        go_wp2
        go_ret
        rw [HD.out]
        exact ⟨rfl, by simpa using hL1, HK.out.trans hK1⟩
       | false =>
        rw [hs, if_neg (by simp)] at HD
        go_wp2_with fail
        refine (c59_0 h).mono ?_
        rintro e w' ⟨rfl, rfl⟩
        go_wp2_with fail
        refine (c92 _ _).mono ?_
        rintro e w' ⟨rfl, rfl⟩
        go_wp2_with fail
        refine (c59_0 h).mono ?_
        rintro e w' ⟨rfl, rfl⟩
        go_wp2_with fail
        refine (c91 _ _).mono ?_
        rintro e w' ⟨rfl, rfl⟩
        go_wp2_with fail
        refine (c59_0 h).mono ?_
        rintro e w' ⟨rfl, rfl⟩
        go_wp2_with fail
        refine (c64 _ _).mono ?_
        rintro e w' ⟨rfl, rfl⟩
        go_wp2
        go_ret
        rw [HD.out]
        exact ⟨rfl, by simpa using h, HK.out⟩
     ·have hfx : Css.fixv v = 65533 := by have hv0 := hv; simp only [beq_iff_eq, beq_eq_false_iff_ne] at hv0; unfold Css.fixv; first | (rw [if_pos (by simp; omega)]; done) | rw [if_neg (by simp; omega)]
      rw [hfx] at HD; clear hfx
      cases hn : Css.isNewline (Css.pk 0 V) with
      | true =>
       rw [hn, if_pos rfl] at HD
       have hf3 := free_blk h.blk 3
       have hc3 := cell_blk h.blk (i := 3) (v := .bool op) rfl
       go_wp2_with fail
       refine (c59_0 h).mono ?_
       rintro e w' ⟨rfl, rfl⟩
       go_wp2_with fail
       refine (c92 _ _).mono ?_
       rintro e w' ⟨rfl, rfl⟩
       go_wp2_with fail
       refine (c59_0 h).mono ?_
       rintro e w' ⟨rfl, rfl⟩
       go_wp2_with fail
       refine (c91 _ _).mono ?_
       rintro e w' ⟨rfl, rfl⟩
       go_wp2_with fail
       refine (c93 h.opened).mono ?_
       rintro e w1 ⟨rfl, hL1, hK1⟩
       go_wp2
       go_ret
       rw [HD.out]
       exact ⟨rfl, by simpa using hL1, (HK.out.trans (Kp.opened _ _ _ _)).trans hK1⟩
      | false =>
       rw [hn, if_neg (by simp)] at HD
       cases hs : Css.isSpace (Css.pk 0 V) with
       | true =>
        rw [hs, if_pos rfl] at HD
        go_wp2_with fail
        refine (c59_0 h).mono ?_
        rintro e w' ⟨rfl, rfl⟩
        go_wp2_with fail
        refine (c92 _ _).mono ?_
        rintro e w' ⟨rfl, rfl⟩
        go_wp2_with fail
        refine (c59_0 h).mono ?_
        rintro e w' ⟨rfl, rfl⟩
        go_wp2_with fail
        refine (c91 _ _).mono ?_
        rintro e w' ⟨rfl, rfl⟩
        go_wp2_with fail
        refine (c59_0 h).mono ?_
        rintro e w' ⟨rfl, rfl⟩
        go_wp2_with fail
        refine (c64 _ _).mono ?_
        rintro e w' ⟨rfl, rfl⟩
        go_wp2_with fail
        refine (c61 h).mono ?_
        rintro e w1 ⟨rfl, hL1, hK1⟩
        go_wp2
        go_ret
        rw [HD.out]
        exact ⟨rfl, by simpa using hL1, HK.out.trans hK1⟩
       | false =>
        rw [hs, if_neg (by simp)] at HD
        go_wp2_with fail
        refine (c59_0 h).mono ?_
        rintro e w' ⟨rfl, rfl⟩
        go_wp2_with fail
        refine (c92 _ _).mono ?_
        rintro e w' ⟨rfl, rfl⟩
        go_wp2_with fail
        refine (c59_0 h).mono ?_
        rintro e w' ⟨rfl, rfl⟩
        go_wp2_with fail
        refine (c91 _ _).mono ?_
        rintro e w' ⟨rfl, rfl⟩
        go_wp2_with fail
        refine (c59_0 h).mono ?_
        rintro e w' ⟨rfl, rfl⟩
        go_wp2_with fail
        refine (c64 _ _).mono ?_
        rintro e w' ⟨rfl, rfl⟩
        go_wp2
        go_ret
        rw [HD.out]
        exact ⟨rfl, by simpa using h, HK.out⟩
     ·have hfx : Css.fixv v = v := by have hv0 := hv; simp only [beq_iff_eq, beq_eq_false_iff_ne] at hv0; unfold Css.fixv; first | (rw [if_pos (by simp; omega)]; done) | rw [if_neg (by simp; omega)]
      rw [hfx] at HD; clear hfx
      cases hn : Css.isNewline (Css.pk 0 V) with
      | true =>
       rw [hn, if_pos rfl] at HD
       have hf3 := free_blk h.blk 3
       have hc3 := cell_blk h.blk (i := 3) (v := .bool op) rfl
       go_wp2_with fail
       refine (c59_0 h).mono ?_
       rintro e w' ⟨rfl, rfl⟩
       go_wp2_with fail
       refine (c92 _ _).mono ?_
       rintro e w' ⟨rfl, rfl⟩
       go_wp2_with fail
       refine (c59_0 h).mono ?_
       rintro e w' ⟨rfl, rfl⟩
       go_wp2_with fail
       refine (c91 _ _).mono ?_
       rintro e w' ⟨rfl, rfl⟩
       go_wp2_with fail
       refine (c93 h.opened).mono ?_
       rintro e w1 ⟨rfl, hL1, hK1⟩
       go_wp2
       go_ret
       rw [HD.out]
       exact ⟨rfl, by simpa using hL1, (HK.out.trans (Kp.opened _ _ _ _)).trans hK1⟩
      | false =>
       rw [hn, if_neg (by simp)] at HD
       cases hs : Css.isSpace (Css.pk 0 V) with
       | true =>
        rw [hs, if_pos rfl] at HD
        go_wp2_with fail
        refine (c59_0 h).mono ?_
        rintro e w' ⟨rfl, rfl⟩
        go_wp2_with fail
        refine (c92 _ _).mono ?_
        rintro e w' ⟨rfl, rfl⟩
        go_wp2_with fail
        refine (c59_0 h).mono ?_
        rintro e w' ⟨rfl, rfl⟩
        go_wp2_with fail
        refine (c91 _ _).mono ?_
        rintro e w' ⟨rfl, rfl⟩
        go_wp2_with fail
        refine (c59_0 h).mono ?_
        rintro e w' ⟨rfl, rfl⟩
        go_wp2_with fail
        refine (c64 _ _).mono ?_
        rintro e w' ⟨rfl, rfl⟩
        go_wp2_with fail
        refine (c61 h).mono ?_
        rintro e w1 ⟨rfl, hL1, hK1⟩
        go_wp2
        go_ret
        rw [HD.out]
        exact ⟨rfl, by simpa using hL1, HK.out.trans hK1⟩
       | false =>
        rw [hs, if_neg (by simp)] at HD
        go_wp2_with fail
        refine (c59_0 h).mono ?_
        rintro e w' ⟨rfl, rfl⟩
        go_wp2_with fail
        refine (c92 _ _).mono ?_
        rintro e w' ⟨rfl, rfl⟩
        go_wp2_with fail
        refine (c59_0 h).mono ?_
        rintro e w' ⟨rfl, rfl⟩
        go_wp2_with fail
        refine (c91 _ _).mono ?_
        rintro e w' ⟨rfl, rfl⟩
        go_wp2_with fail
        refine (c59_0 h).mono ?_
        rintro e w' ⟨rfl, rfl⟩
        go_wp2_with fail
        refine (c64 _ _).mono ?_
        rintro e w' ⟨rfl, rfl⟩
        go_wp2
        go_ret
        rw [HD.out]
        exact ⟨rfl, by simpa using h, HK.out⟩
    ·rcases hv with hv | ⟨hv, hv2 | ⟨hv2, hv3 | ⟨hv3, hv4 | hv4⟩⟩⟩
     ·have hfx : Css.fixv v = 65533 := by have hv0 := hv; simp only [beq_iff_eq, beq_eq_false_iff_ne] at hv0; unfold Css.fixv; first | (rw [if_pos (by simp; omega)]; done) | rw [if_neg (by simp; omega)]
      rw [hfx] at HD; clear hfx
      cases hn : Css.isNewline (Css.pk 0 V) with
      | true =>
       rw [hn, if_pos rfl] at HD
       have hf3 := free_blk h.blk 3
       have hc3 := cell_blk h.blk (i := 3) (v := .bool op) rfl
       go_wp2_with fail
       refine (c59_0 h).mono ?_
       rintro e w' ⟨rfl, rfl⟩
       go_wp2_with fail
       refine (c91 _ _).mono ?_
       rintro e w' ⟨rfl, rfl⟩
       go_wp2_with fail
       refine (c93 h.opened).mono ?_
       rintro e w1 ⟨rfl, hL1, hK1⟩
       go_wp2
       go_ret
       rw [HD.out]
       exact ⟨rfl, by simpa using hL1, (HK.out.trans (Kp.opened _ _ _ _)).trans hK1⟩
      | false =>
       rw [hn, if_neg (by simp)] at HD
       cases hs : Css.isSpace (Css.pk 0 V) with
       | true =>
        rw [hs, if_pos rfl] at HD
        go_wp2_with fail
        refine (c59_0 h).mono ?_
        rintro e w' ⟨rfl, rfl⟩
        go_wp2_with fail
        refine (c91 _ _).mono ?_
        rintro e w' ⟨rfl, rfl⟩
        go_wp2_with fail
        refine (c59_0 h).mono ?_
        rintro e w' ⟨rfl, rfl⟩
        go_wp2_with fail
        refine (c64 _ _).mono ?_
        rintro e w' ⟨rfl, rfl⟩
        go_wp2_with fail
        refine (c61 h).mono ?_
        rintro e w1 ⟨rfl, hL1, hK1⟩
        go_wp2
        go_ret
        rw [HD.out]
        exact ⟨rfl, by simpa using hL1, HK.out.trans hK1⟩
       | false =>
        rw [hs, if_neg (by simp)] at HD
        go_wp2_with fail
        refine (c59_0 h).mono ?_
        rintro e w' ⟨rfl, rfl⟩
        go_wp2_with fail
        refine (c91 _ _).mono ?_
        rintro e w' ⟨rfl, rfl⟩
        go_wp2_with fail
        refine (c59_0 h).mono ?_
        rintro e w' ⟨rfl, rfl⟩
        go_wp2_with fail
        refine (c64 _ _).mono ?_
        rintro e w' ⟨rfl, rfl⟩
        go_wp2
        go_ret
        rw [HD.out]
        exact ⟨rfl, by simpa using h, HK.out⟩
     ·have hfx : Css.fixv v = 65533 := by have hv0 := hv; simp only [beq_iff_eq, beq_eq_false_iff_ne] at hv0; unfold Css.fixv; first | (rw [if_pos (by simp; omega)]; done) | rw [if_neg (by simp; omega)]
      rw [hfx] at HD; clear hfx
      cases hn : Css.isNewline (Css.pk 0 V) with
      | true =>
       rw [hn, if_pos rfl] at HD
       have hf3 := free_blk h.blk 3
       have hc3 := cell_blk h.blk (i := 3) (v := .bool op) rfl
       go_wp2_with fail
       refine (c59_0 h).mono ?_
       rintro e w' ⟨rfl, rfl⟩
       go_wp2_with fail
       refine (c91 _ _).mono ?_
       rintro e w' ⟨rfl, rfl⟩
       go_wp2_with fail
       refine (c93 h.opened).mono ?_
       rintro e w1 ⟨rfl, hL1, hK1⟩
       go_wp2
       go_ret
       rw [HD.out]
       exact ⟨rfl, by simpa using hL1, (HK.out.trans (Kp.opened _ _ _ _)).trans hK1⟩
      | false =>
       rw [hn, if_neg (by simp)] at HD
       cases hs : Css.isSpace (Css.pk 0 V) with
       | true =>
        rw [hs, if_pos rfl] at HD
        go_wp2_with fail
        refine (c59_0 h).mono ?_
        rintro e w' ⟨rfl, rfl⟩
        go_wp2_with fail
        refine (c91 _ _).mono ?_
        rintro e w' ⟨rfl, rfl⟩
        go_wp2_with fail
        refine (c59_0 h).mono ?_
        rintro e w' ⟨rfl, rfl⟩
        go_wp2_with fail
        refine (c64 _ _).mono ?_
        rintro e w' ⟨rfl, rfl⟩
        go_wp2_with fail
        refine (c61 h).mono ?_
        rintro e w1 ⟨rfl, hL1, hK1⟩
        go_wp2
        go_ret
        rw [HD.out]
        exact ⟨rfl, by simpa using hL1, HK.out.trans hK1⟩
       | false =>
        rw [hs, if_neg (by simp)] at HD
        go_wp2_with fail
        refine (c59_0 h).mono ?_
        rintro e w' ⟨rfl, rfl⟩
        go_wp2_with fail
        refine (c91 _ _).mono ?_
        rintro e w' ⟨rfl, rfl⟩
        go_wp2_with fail
        refine (c59_0 h).mono ?_
        rintro e w' ⟨rfl, rfl⟩
        go_wp2_with fail
        refine (c64 _ _).mono ?_
        rintro e w' ⟨rfl, rfl⟩
        go_wp2
        go_ret
        rw [HD.out]
        exact ⟨rfl, by simpa using h, HK.out⟩
     ·have hfx : Css.fixv v = v := by have hv0 := hv; simp only [beq_iff_eq, beq_eq_false_iff_ne] at hv0; unfold Css.fixv; first | (rw [if_pos (by simp; omega)]; done) | rw [if_neg (by simp; omega)]
      rw [hfx] at HD; clear hfx
      cases hn : Css.isNewline (Css.pk 0 V) with
      | true =>
       rw [hn, if_pos rfl] at HD
       have hf3 := free_blk h.blk 3
       have hc3 := cell_blk h.blk (i := 3) (v := .bool op) rfl
       go_wp2_with fail
       refine (c59_0 h).mono ?_
       rintro e w' ⟨rfl, rfl⟩
       go_wp2_with fail
       refine (c91 _ _).mono ?_
       rintro e w' ⟨rfl, rfl⟩
       go_wp2_with fail
       refine (c93 h.opened).mono ?_
       rintro e w1 ⟨rfl, hL1, hK1⟩
       go_wp2
       go_ret
       rw [HD.out]
       exact ⟨rfl, by simpa using hL1, (HK.out.trans (Kp.opened _ _ _ _)).trans hK1⟩
      | false =>
       rw [hn, if_neg (by simp)] at HD
       cases hs : Css.isSpace (Css.pk 0 V) with
       | true =>
        rw [hs, if_pos rfl] at HD
        go_wp2_with fail
        refine (c59_0 h).mono ?_
        rintro e w' ⟨rfl, rfl⟩
        go_wp2_with fail
        refine (c91 _ _).mono ?_
        rintro e w' ⟨rfl, rfl⟩
        go_wp2_with fail
        refine (c59_0 h).mono ?_
        rintro e w' ⟨rfl, rfl⟩
        go_wp2_with fail
        refine (c64 _ _).mono ?_
        rintro e w' ⟨rfl, rfl⟩
        go_wp2_with fail
        refine (c61 h).mono ?_
        rintro e w1 ⟨rfl, hL1, hK1⟩
        go_wp2
        go_ret
        rw [HD.out]
        exact ⟨rfl, by simpa using hL1, HK.out.trans hK1⟩
       | false =>
        rw [hs, if_neg (by simp)] at HD
        go_wp2_with fail
        refine (c59_0 h).mono ?_
        rintro e w' ⟨rfl, rfl⟩
        go_wp2_with fail
        refine (c91 _ _).mono ?_
        rintro e w' ⟨rfl, rfl⟩
        go_wp2_with fail
        refine (c59_0 h).mono ?_
        rintro e w' ⟨rfl, rfl⟩
        go_wp2_with fail
        refine (c64 _ _).mono ?_
        rintro e w' ⟨rfl, rfl⟩
        go_wp2
        go_ret
        rw [HD.out]
        exact ⟨rfl, by simpa using h, HK.out⟩
     ·have hfx : Css.fixv v = 65533 := by have hv0 := hv; simp only [beq_iff_eq, beq_eq_false_iff_ne] at hv0; unfold Css.fixv; first | (rw [if_pos (by simp; omega)]; done) | rw [if_neg (by simp; omega)]
      rw [hfx] at HD; clear hfx
      cases hn : Css.isNewline (Css.pk 0 V) with
      | true =>
       rw [hn, if_pos rfl] at HD
       have hf3 := free_blk h.blk 3
       have hc3 := cell_blk h.blk (i := 3) (v := .bool op) rfl
       go_wp2_with fail
       refine (c59_0 h).mono ?_
       rintro e w' ⟨rfl, rfl⟩
       go_wp2_with fail
       refine (c91 _ _).mono ?_
       rintro e w' ⟨rfl, rfl⟩
       go_wp2_with fail
       refine (c93 h.opened).mono ?_
       rintro e w1 ⟨rfl, hL1, hK1⟩
       go_wp2
       go_ret
       rw [HD.out]
       exact ⟨rfl, by simpa using hL1, (HK.out.trans (Kp.opened _ _ _ _)).trans hK1⟩
      | false =>
       rw [hn, if_neg (by simp)] at HD
       cases hs : Css.isSpace (Css.pk 0 V) with
       | true =>
        rw [hs, if_pos rfl] at HD
        go_wp2_with fail
        refine (c59_0 h).mono ?_
        rintro e w' ⟨rfl, rfl⟩
        go_wp2_with fail
        refine (c91 _ _).mono ?_
        rintro e w' ⟨rfl, rfl⟩
        go_wp2_with fail
        refine (c59_0 h).mono ?_
        rintro e w' ⟨rfl, rfl⟩
        go_wp2_with fail
        refine (c64 _ _).mono ?_
        rintro e w' ⟨rfl, rfl⟩
        go_wp2_with fail
        refine (c61 h).mono ?_
        rintro e w1 ⟨rfl, hL1, hK1⟩
        go_wp2
        go_ret
        rw [HD.out]
        exact ⟨rfl, by simpa using hL1, HK.out.trans hK1⟩
       | false =>
        rw [hs, if_neg (by simp)] at HD
        go_wp2_with fail
        refine (c59_0 h).mono ?_
        rintro e w' ⟨rfl, rfl⟩
        go_wp2_with fail
        refine (c91 _ _).mono ?_
        rintro e w' ⟨rfl, rfl⟩
        go_wp2_with fail
        refine (c59_0 h).mono ?_
        rintro e w' ⟨rfl, rfl⟩
        go_wp2_with fail
        refine (c64 _ _).mono ?_
        rintro e w' ⟨rfl, rfl⟩
        go_wp2
        go_ret
        rw [HD.out]
        exact ⟨rfl, by simpa using h, HK.out⟩
     ·have hfx : Css.fixv v = v := by have hv0 := hv; simp only [beq_iff_eq, beq_eq_false_iff_ne] at hv0; unfold Css.fixv; first | (rw [if_pos (by simp; omega)]; done) | rw [if_neg (by simp; omega)]
      rw [hfx] at HD; clear hfx
      cases hn : Css.isNewline (Css.pk 0 V) with
      | true =>
       rw [hn, if_pos rfl] at HD
       have hf3 := free_blk h.blk 3
       have hc3 := cell_blk h.blk (i := 3) (v := .bool op) rfl
       go_wp2_with fail
       refine (c59_0 h).mono ?_
       rintro e w' ⟨rfl, rfl⟩
       go_wp2_with fail
       refine (c91 _ _).mono ?_
       rintro e w' ⟨rfl, rfl⟩
       go_wp2_with fail
       refine (c93 h.opened).mono ?_
       rintro e w1 ⟨rfl, hL1, hK1⟩
       go_wp2
       go_ret
       rw [HD.out]
       exact ⟨rfl, by simpa using hL1, (HK.out.trans (Kp.opened _ _ _ _)).trans hK1⟩
      | false =>
       rw [hn, if_neg (by simp)] at HD
       cases hs : Css.isSpace (Css.pk 0 V) with
       | true =>
        rw [hs, if_pos rfl] at HD
        go_wp2_with fail
        refine (c59_0 h).mono ?_
        rintro e w' ⟨rfl, rfl⟩
        go_wp2_with fail
        refine (c91 _ _).mono ?_
        rintro e w' ⟨rfl, rfl⟩
        go_wp2_with fail
        refine (c59_0 h).mono ?_
        rintro e w' ⟨rfl, rfl⟩
        go_wp2_with fail
        refine (c64 _ _).mono ?_
        rintro e w' ⟨rfl, rfl⟩
        go_wp2_with fail
        refine (c61 h).mono ?_
        rintro e w1 ⟨rfl, hL1, hK1⟩
        go_wp2
        go_ret
        rw [HD.out]
        exact ⟨rfl, by simpa using hL1, HK.out.trans hK1⟩
       | false =>
        rw [hs, if_neg (by simp)] at HD
        go_wp2_with fail
        refine (c59_0 h).mono ?_
        rintro e w' ⟨rfl, rfl⟩
        go_wp2_with fail
        refine (c91 _ _).mono ?_
        rintro e w' ⟨rfl, rfl⟩
        go_wp2_with fail
        refine (c59_0 h).mono ?_
        rintro e w' ⟨rfl, rfl⟩
        go_wp2_with fail
        refine (c64 _ _).mono ?_
        rintro e w' ⟨rfl, rfl⟩
        go_wp2
        go_ret
        rw [HD.out]
        exact ⟨rfl, by simpa using h, HK.out⟩
end Go.Proofs.YtkfdcbdlcipmfaaGreatFmt
