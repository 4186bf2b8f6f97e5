/- What the reference's tests of texts answer: plain, a name, low. The text has at most 2^60 bytes. -/
import Derived.Test.YtkfdcbdlcipmfaaGreatFmtProg
import Derived.WalkKit
import Derived.WalkLawsBesides
import Derived.WalkSpells
import Derived.BigQuiet
import Derived.Deep.QuietTactic
import Derived.Outline
import Derived.Laws.BitsLemmas
import Derived.Lib.Hide
import Derived.OneCell
import Derived.Deep.Draws
import Derived.Deep.LoopGhost
import Derived.Laws.BytesArg
import Derived.Test.YtkfdcbdlcipmfaaGreatFmtGA
import Derived.Test.YtkfdcbdlcipmfaaGreatFmtGE
import Derived.Deep.AppendLies
import Derived.Deep.AppendSrc
import Derived.Maps.OwnOps
import Derived.Test.YtkfdcbdlcipmfaaGreatFmtGD
set_option linter.unusedVariables false
set_option linter.unusedSimpArgs false
namespace Go.Proofs.YtkfdcbdlcipmfaaGreatFmt
open Go.RowKit
def okc (c : Int) : Bool := c != -2 && c != 0
theorem codes_step {s : ByteArray} {p : Nat} (h : p < s.size) : Css.codes (sfx s p) = (Css.rune (sfx s p)).1 :: Css.codes (sfx s (p + (Css.rune (sfx s p)).2)) ∧ 0 < (Css.rune (sfx s p)).2 ∧ p + (Css.rune (sfx s p)).2 ≤ s.size := by
 cases hs : sfx s p with
 | nil => rw [sfx_cons s p h] at hs; cases hs
 | cons b r =>
  have g := Css.rune_got (b := b) (r := r)
  refine ⟨?_, ?_, ?_⟩
  ·rw [← sfx_drop, hs]; exact Css.codes_cons b r
  ·rw [g.1]; exact Css.width_pos _
  ·have h1 := g.2.1
   have h2 := sfx_length s p
   rw [hs] at h2
   omega
def PlainAt (s : ByteArray) (p : Nat) : Bool := (Css.codes (sfx s p)).all okc && (p != 0 || Css.pk 0 (Css.codes (sfx s p)) != 65279)
theorem plain_zero (s : ByteArray) : PlainAt s 0 = Css.plain s.data.toList := by
 simp [PlainAt, Css.plain, Css.plainX, sfx]
 rfl
theorem plain_end {s : ByteArray} {p : Nat} (h : s.size ≤ p) : PlainAt s p = true := by
 simp [PlainAt, sfx_nil s p h, Css.codes, Css.pk_nil]
theorem plain_bad {s : ByteArray} {p : Nat} (h : p < s.size) (hb : ((Css.rune (sfx s p)).1 == -2 || (Css.rune (sfx s p)).1 == 0 || (p == 0 && (Css.rune (sfx s p)).1 == 65279)) = true) : PlainAt s p = false := by
 unfold PlainAt
 rw [(codes_step h).1, Css.pk_cons_zero]
 generalize (Css.rune (sfx s p)).1 = c at hb
 simp [okc] at hb ⊢
 rcases hb with (rfl | rfl) | ⟨rfl, rfl⟩ <;> simp
theorem plain_good {s : ByteArray} {p : Nat} (h : p < s.size) (hb : ((Css.rune (sfx s p)).1 == -2 || (Css.rune (sfx s p)).1 == 0 || (p == 0 && (Css.rune (sfx s p)).1 == 65279)) = false) : PlainAt s p = PlainAt s (p + (Css.rune (sfx s p)).2) := by
 have hc := codes_step h
 unfold PlainAt
 rw [hc.1, Css.pk_cons_zero]
 have hp : (p + (Css.rune (sfx s p)).2 != 0) = true := by simp; omega
 rw [hp]
 generalize (Css.rune (sfx s p)).1 = c at hb ⊢
 simp only [Bool.or_eq_false_iff, Bool.and_eq_false_iff, beq_eq_false_iff_ne] at hb
 simp only [List.all_cons, okc, Bool.true_or, Bool.and_true]
 have h1 : (c != -2) = true := by simpa using hb.1.1
 have h2 : (c != 0) = true := by simpa using hb.1.2
 have h3 : (p != 0 || c != 65279) = true := by simp; omega
 rw [h1, h2, h3]
 simp
set_option maxRecDepth 100000 in
set_option maxHeartbeats 1000000 in
theorem c43 (s : ByteArray) (w : World) (hs : s.size ≤ 1152921504606846976) : Calls Tryz.prog 43 #[.string s] w fun e w' => e = .returned (.bool (Css.plain s.data.toList)) ∧ w = w' := by
 rw [← plain_zero]
 generalize hR : PlainAt s 0 = R
 have HR := Lib.hid hR
 clear hR
 go_enter Tryz.func43, Tryz.ntmps43
 go_wp2_with fail
 go_loop [3] (fun v3 => ∃ p : Nat, v3 = .int .i64 p ∧ p ≤ s.size ∧ Hid (PlainAt s p = R)) (fun v3 => s.size - (intOf v3).toNat)
 case atStart => exact ⟨0, rfl, by omega, HR⟩
 case round =>
  clear HR
  obtain ⟨p, rfl, hp, HP⟩ := hrel
  by_cases hlt : p < s.size
  ·have hst := codes_step hlt
   have hm := rune_small (sfx s p)
   have hbad := plain_bad hlt
   have hgood := plain_good hlt
   have H52 := fun w => c52 s p w hs
   generalize Css.rune (sfx s p) = q at hst hm hbad hgood H52
   obtain ⟨c, m⟩ := q
   simp only at hst hm hbad hgood H52
   have hm0 := hst.2.1
   have hm1 := hst.2.2
   clear hst
   have H := Lib.hid H52
   have HB := Lib.hid hbad
   have HG := Lib.hid hgood
   clear H52 hbad hgood
   go_wp2_with fail
   refine (H.out _).mono ?_
   rintro e w' ⟨rfl, rfl⟩
   cases t1 : (c == -2) with
   | true =>
    have hf := HB.out (by rw [t1]; rfl)
    have HF := Lib.hid (HP.out.symm.trans hf)
    clear hf
    go_wp2_with fail
    go_ret
    exact ⟨by rw [HF.out]; rfl, rfl⟩
   | false =>
    cases t2 : (c == 0) with
    | true =>
     have hf := HB.out (by rw [t1, t2]; rfl)
     have HF := Lib.hid (HP.out.symm.trans hf)
     clear hf
     go_wp2_with fail
     go_ret
     exact ⟨by rw [HF.out]; rfl, rfl⟩
    | false =>
     cases t3 : ((p : Int) == 0) with
     | true =>
      have hp0 : (p == 0) = true := by simp at t3 ⊢; omega
      cases t4 : (c == 65279) with
      | true =>
       have hf := HB.out (by rw [t1, t2, hp0, t4]; rfl)
       have HF := Lib.hid (HP.out.symm.trans hf)
       clear hf hp0
       go_wp2_with fail
       go_ret
       exact ⟨by rw [HF.out]; rfl, rfl⟩
      | false =>
       have hf := HG.out (by rw [t1, t2, hp0, t4]; rfl)
       have HF := Lib.hid (hf.symm.trans HP.out)
       clear hf hp0
       go_wp2_with fail
       go_round
       case rel => exact ⟨p + m, by go_num, hm1, HF⟩
       case measure => simp [intOf]; omega
     | false =>
      have hp0 : (p == 0) = false := by simp at t3 ⊢; omega
      have hf := HG.out (by rw [t1, t2, hp0]; rfl)
      have HF := Lib.hid (hf.symm.trans HP.out)
      clear hf hp0
      go_wp2_with fail
      go_round
      case rel => exact ⟨p + m, by go_num, hm1, HF⟩
      case measure => simp [intOf]; omega
  ·have HF := Lib.hid (HP.out.symm.trans (plain_end (s := s) (p := p) (by omega)))
   go_wp2_with fail
   go_ret
   exact ⟨by rw [HF.out]; rfl, rfl⟩
theorem plainX_cons (l : List UInt8) : Css.plain (120 :: l) = Css.plainX l := by
 have e : (120 : UInt8) :: l = Css.enc1 120 ++ l := by rfl
 have e2 : Css.codes ((120 : UInt8) :: l) = 120 :: Css.codes l := by rw [e, Css.codes_enc1 (by exact ⟨by decide, by decide, by decide⟩)]
 unfold Css.plain Css.plainX
 rw [e2, Css.pk_cons_zero, List.all_cons, show ((120 : Int) != -2 && (120 : Int) != 0) = true from by decide, show ((120 : Int) != 65279) = true from by decide, Bool.true_and, Bool.and_true]
theorem x_append (s : ByteArray) : ({ data := #[120] } ++ s : ByteArray).data.toList = 120 :: s.data.toList := by
 have h := congrArg (fun b : ByteArray => b.data.toList) (str_append [120] s.data.toList)
 rw [show str s.data.toList = s from by simp [str]] at h
 refine h.trans ?_
 simp [str]
theorem bytes_len (s : ByteArray) : s.data.toList.length = s.size := Array.length_toList
theorem x_size (s : ByteArray) : ({ data := #[120] } ++ s : ByteArray).size = s.size + 1 := by
 have := congrArg List.length (x_append s)
 rw [List.length_cons, bytes_len, bytes_len] at this
 exact this
set_option maxRecDepth 100000 in
set_option maxHeartbeats 400000 in
theorem c42 (s : ByteArray) (w : World) (hs : s.size ≤ 2147483648) : Calls Tryz.prog 42 #[.string s] w fun e w' => e = .returned (.bool (Css.isName s.data.toList)) ∧ w = w' := by
 cases h : s.data.toList.isEmpty with
 | true =>
  have hn : Css.isName s.data.toList = false := by simp [Css.isName, h]
  rw [hn]
  have h1 : s.toList.isEmpty = true := by rw [ByteArray.toList_eq]; exact h
  have h2 : s.toList = [] := by simpa using h1
  clear h hn
  go_enter Tryz.func42, Tryz.ntmps42
  go_wp2_with fail
  go_ret
  exact ⟨rfl, rfl⟩
 | false =>
  have hn : Css.isName s.data.toList = Css.plain ({ data := #[120] } ++ s : ByteArray).data.toList := by rw [x_append, plainX_cons]; simp [Css.isName, h]
  rw [hn]
  have h1 : s.toList.isEmpty = false := by rw [ByteArray.toList_eq]; exact h
  have hx := x_size s
  have hxs : ({ data := #[120] } ++ s : ByteArray).size ≤ 1152921504606846976 := by omega
  clear h hn hx
  go_enter Tryz.func42, Tryz.ntmps42
  go_wp2_with fail
  refine (c43 _ _ hxs).mono ?_
  rintro e w' ⟨rfl, rfl⟩
  go_wp2_with fail
  go_ret
  exact ⟨rfl, rfl⟩
set_option maxRecDepth 100000 in
theorem c29 (s : ByteArray) (w : World) (hs : s.size ≤ 2147483648) : Calls Tryz.prog 29 #[.string s] w fun e w' => e = .returned (.bool (Css.isName s.data.toList)) ∧ w = w' := by
 go_enter Tryz.func29, Tryz.ntmps29
 go_wp2_with fail
 refine (c42 s _ hs).mono ?_
 rintro e w' ⟨rfl, rfl⟩
 go_wp2_with fail
 go_ret
 exact ⟨rfl, rfl⟩
theorem low_step {s : ByteArray} {p : Nat} (h : p < s.size) : Css.low (sfx s p) = (decide (bt s p < 244) && Css.low (sfx s (p + 1))) := by
 rw [sfx_cons s p h]
 have := bt_at s p h
 simp only [Css.low, List.all_cons]
 congr 1
 rw [← this]
 simp only [decide_eq_decide]
 omega
set_option maxRecDepth 100000 in
set_option maxHeartbeats 400000 in
theorem c38 (s : ByteArray) (w : World) (hs : s.size ≤ 1152921504606846976) : Calls Tryz.prog 38 #[.string s] w fun e w' => e = .returned (.bool (Css.low s.data.toList)) ∧ w = w' := by
 have h0 : Css.low s.data.toList = Css.low (sfx s 0) := by simp [sfx]
 rw [h0]
 clear h0
 generalize hR : Css.low (sfx s 0) = R
 have HR := Lib.hid hR
 clear hR
 go_enter Tryz.func38, Tryz.ntmps38
 go_wp2_with fail
 go_loop [3, 6] (fun v3 v6 => ∃ p : Nat, v6 = .int .i64 p ∧ p ≤ s.size ∧ Hid (Css.low (sfx s p) = R)) (fun v3 v6 => s.size - (intOf v6).toNat)
 case atStart => exact ⟨0, rfl, by omega, HR⟩
 case round =>
  clear HR
  obtain ⟨p, rfl, hp, HP⟩ := hrel
  by_cases hlt : p < s.size
  ·have hst := low_step hlt
   have hb := bt_at s p
   have hb0 := bt_lo s p
   generalize bt s p = b at hst hb hb0
   by_cases h4 : b < 244
   ·have HF := Lib.hid ((show Css.low (sfx s p) = Css.low (sfx s (p + 1)) by rw [hst]; simp [h4]).symm.trans HP.out)
    clear hst
    go_wp2_with fail
    go_round
    case rel => exact ⟨p + 1, by go_num, hlt, HF⟩
    case measure => simp [intOf]; omega
   ·have HF := Lib.hid (HP.out.symm.trans (show Css.low (sfx s p) = false by rw [hst]; simp [h4]))
    have h4' : 244 ≤ b := by omega
    clear hst h4
    go_wp2_with fail
    go_ret
    exact ⟨by rw [HF.out]; rfl, rfl⟩
  ·have HF := Lib.hid (HP.out.symm.trans (show Css.low (sfx s p) = true by rw [sfx_nil s p (by omega)]; rfl))
   go_wp2_with fail
   go_ret
   exact ⟨by rw [HF.out]; rfl, rfl⟩
def lowA (ascii : Bool) (l : List UInt8) : Bool := !ascii || Css.low l
set_option maxRecDepth 100000 in
theorem c26 (s : ByteArray) (a : Bool) (w : World) (hs : s.size ≤ 1152921504606846976) : Calls Tryz.prog 26 #[.string s, .bool a] w fun e w' => e = .returned (.bool (lowA a s.data.toList)) ∧ w = w' := by
 cases a with
 | false =>
  go_enter Tryz.func26, Tryz.ntmps26
  go_wp2_with fail
  go_ret
  exact ⟨rfl, rfl⟩
 | true =>
  go_enter Tryz.func26, Tryz.ntmps26
  go_wp2_with fail
  refine (c38 s _ hs).mono ?_
  rintro e w' ⟨rfl, rfl⟩
  go_wp2_with fail
  go_ret
  exact ⟨by simp [lowA], rfl⟩
def namedB (a : Bool) (l : List UInt8) : Bool := decide (l.length ≤ 1048576) && (Css.isName l && lowA a l)
set_option maxRecDepth 100000 in
theorem c12 (s : ByteArray) (a : Bool) (w : World) (hs : s.size ≤ 2147483648) : Calls Tryz.prog 12 #[.string s, .bool a] w fun e w' => e = .returned (.bool (namedB a s.data.toList)) ∧ w = w' := by
 have hl : s.data.toList.length = s.size := bytes_len s
 by_cases h : s.size ≤ 1048576
 ·have hn : namedB a s.data.toList = (Css.isName s.data.toList && lowA a s.data.toList) := by unfold namedB; rw [decide_eq_true (by rw [hl]; exact h), Bool.true_and]
  rw [hn]
  have h' : (s.size : Int) ≤ 1048576 := by omega
  cases t1 : Css.isName s.data.toList with
  | true =>
   clear hl hn
   go_enter Tryz.func12, Tryz.ntmps12
   go_wp2_with fail
   refine (c29 s _ hs).mono ?_
   rintro e w' ⟨rfl, rfl⟩
   rw [t1]
   go_wp2_with fail
   refine (c26 s a _ (by omega)).mono ?_
   rintro e w' ⟨rfl, rfl⟩
   go_wp2_with fail
   go_ret
   exact ⟨by simp, rfl⟩
  | false =>
   clear hl hn
   go_enter Tryz.func12, Tryz.ntmps12
   go_wp2_with fail
   refine (c29 s _ hs).mono ?_
   rintro e w' ⟨rfl, rfl⟩
   rw [t1]
   go_wp2_with fail
   go_ret
   exact ⟨by simp, rfl⟩
 ·have hn : namedB a s.data.toList = false := by unfold namedB; rw [decide_eq_false (by rw [hl]; exact h), Bool.false_and]
  rw [hn]
  have h' : 1048576 < (s.size : Int) := by omega
  clear hl hn h
  go_enter Tryz.func12, Tryz.ntmps12
  go_wp2_with fail
  go_ret
  exact ⟨rfl, rfl⟩
set_option maxRecDepth 100000 in
theorem c30 (k : Int) (w : World) : Calls Tryz.prog 30 #[.int .i64 k] w fun e w' => e = .returned (.tuple #[.int .i64 ((Css.opens k).getD 0), .bool (Css.opens k).isSome]) ∧ w = w' := by
 cases t1 : (k == 27) <;> cases t2 : (k == 33) <;> cases t3 : (k == 32) <;> cases t4 : (k == 31)
 all_goals
  have ho : Hid (Css.opens k = Css.opens k) := Lib.hid rfl
  go_enter Tryz.func30, Tryz.ntmps30
  go_wp2_with fail
  go_ret2
  exact ⟨by simp [Css.opens, t1, t2, t3, t4], rfl⟩
end Go.Proofs.YtkfdcbdlcipmfaaGreatFmt
/- Words for memory: a slice that reads as a list; append from whatever source to a row of the call's own; a look-up of a bool in a map of the call's own. -/
namespace Go.Proofs.YtkfdcbdlcipmfaaGreatFmt
open Go.RowKit
theorem block_of_add (a : Addr) (n : Nat) : (a.add n).block = a.block := by unfold Addr.add; split <;> rfl
theorem add_of_add (a : Addr) (i j : Nat) : (a.add i).add j = a.add (i + j) := by
 unfold Addr.add
 by_cases hi : i = 0 <;> by_cases hj : j = 0 <;> simp [hi, hj, Nat.add_assoc]
def Sl (w : World) (B size : Nat) (A : Option Addr) (n : Nat) (xs : List Value) : Prop :=
 xs.length = n * size ∧ (0 < n → ∃ ad, A = some ad ∧ ad.block < B ∧ ∀ j u, xs[j]? = some u → w.cell? (ad.add j) = some u)
section
variable {w w' : World} {B B' size n : Nat} {A : Option Addr} {xs : List Value}
theorem Sl.empty : Sl w B size A 0 [] := ⟨by simp, fun h => absurd h (by omega)⟩
theorem Sl.keep (h : Sl w B size A n xs) (hk : ∀ p : Addr, p.block < B → w'.cell? p = w.cell? p) : Sl w' B size A n xs :=
 ⟨h.1, fun hn => by
  obtain ⟨ad, e, hb, hc⟩ := h.2 hn
  exact ⟨ad, e, hb, fun j u hu => (hk _ (by rw [block_of_add]; exact hb)).trans (hc j u hu)⟩⟩
theorem Sl.more (h : Sl w B size A n xs) (hB : B ≤ B') : Sl w B' size A n xs :=
 ⟨h.1, fun hn => by
  obtain ⟨ad, e, hb, hc⟩ := h.2 hn
  exact ⟨ad, e, by omega, hc⟩⟩
theorem Sl.same (h : Sl w B size A n xs) (hk : ∀ b, b < B → w'.heap[b]? = w.heap[b]?) : Sl w' B size A n xs := h.keep fun p hp => World.cell?_of_block (hk p.block hp)
theorem Sl.grown (h : Sl w B size A n xs) {row : Option Nat} (hg : w.grownBy w' row) (hB : B ≤ w.heap.size) (hr : ∀ g, row = some g → B ≤ g) : Sl w' B size A n xs :=
 h.same fun b hb => hg.block b (by omega) (fun e => by have := hr _ e.symm; omega)
theorem Sl.free (h : Sl w B size A n xs) (hg : w.grownBy w' none) (hB : B ≤ w.heap.size) : Sl w' B size A n xs := h.grown hg hB (fun g e => by cases e)
theorem Sl.drewN (h : Sl w B size A n xs) (k : Nat) : Sl (w.drewN k) B size A n xs := h
theorem Sl.alloc (h : Sl w B size A n xs) (hB : B ≤ w.heap.size) (o : Obj) : Sl (w.alloc o) B size A n xs := h.free (grown_alloc (grown_refl _ _) o) hB
theorem Sl.of_own {base : Nat} {e : TypeId} {c : Nat} (h : w.ownsRow base e size (.slice A n c) n xs) : Sl w w.heap.size size A n xs := by
 refine ⟨h.1, fun hn => ?_⟩
 obtain ⟨g, cap, hv, _, hlt⟩ := h.form hn
 have hA : A = some ⟨g, 0, none⟩ := by injection hv
 subst hA
 exact ⟨_, rfl, hlt, h.cells (g := g) rfl⟩
end
section
variable {P : Program}
theorem run_append_own_src (w : World) (base : Nat) (t tx ty e : TypeId) (i : TypeInfo) (z : Value) (size bytes : Nat) (ht : P.underlying t = some (.slice e)) (hi : P.info? e = some i) (hz : i.zero = some z)
  (hsize : i.size = size) (hby : i.bytes = bytes) (hzs : z.cells.size = size) (hsz : 0 < size)
  (v : Value) (n : Nat) (xs : List Value) (hown : w.ownsRow base e size v n xs) (x : Value) (m : Nat) (news : List Value) (hs : Src P size tx x m news w)
  (h63 : n + m ≤ maxLen) (hbytes : (n + m) * bytes ≤ 140737488355328) (hbase : base ≤ w.heap.size) :
  ∃ v' w', (Builtin.append_ #[t, tx] ty #[v, x]).run P w = .ok v' w' ∧ w'.ownsRow base e size v' (n + m) (xs ++ news) ∧ w.grownBy w' v.ownBlock ∧ (v'.ownBlock = v.ownBlock ∨ v'.ownBlock = some w.heap.size) := by
 subst hsize
 subst hby
 have hsmall : n + m ≤ 9223372036854775807 := by simp only [maxLen] at h63; omega
 have hl := hs.newsLen
 have hlen : (xs ++ news).length = (n + m) * i.size := by rw [List.length_append, hown.1, hl, Nat.add_mul]
 have grown : ∀ (old : Nat), old < n + m → ∀ (row : Option Nat),
   (w.drew.alloc (.cells ((xs ++ news).toArray ++ Builtin.zeroCells z.cells (grownCap w (n + m) old e - (n + m))) e)).ownsRow base e i.size
    (.slice (some ⟨w.heap.size, 0, none⟩) (n + m) (grownCap w (n + m) old e)) (n + m) (xs ++ news) ∧
   w.grownBy (w.drew.alloc (.cells ((xs ++ news).toArray ++ Builtin.zeroCells z.cells (grownCap w (n + m) old e - (n + m))) e)) row := by
  intro old ho row
  have hge := grownCap_ge w (n + m) old e
  have hcm : grownCap w (n + m) old e ≤ maxLen := grownCap_le_maxLen w (n + m) old e h63
  refine ⟨⟨hlen, .inr ⟨w.heap.size, _, _, rfl, hbase, heap_alloc_new w.drew _, hge, hcm, ?_, ?_⟩⟩, ⟨rfl, rfl, rfl, by simp, fun k hk _ => Below.heap_alloc w.drew _ k hk⟩⟩
  ·simp only [Array.size_append, List.size_toArray, size_zeroCells, hzs, hlen, ← Nat.add_mul]
   congr 1
   omega
  ·simp only [Array.toList_append, ← hlen]
   exact List.take_left
 rcases hown.2 with ⟨rfl, rfl⟩ | ⟨g, cap, cur, rfl, hbg, hg, hnc, hcm, hcs, htake⟩
 ·have hx : xs = [] := List.eq_nil_of_length_eq_zero (by simpa using hown.1)
  subst hx
  by_cases hm : m = 0
  ·subst hm
   have hn : news = [] := List.eq_nil_of_length_eq_zero (by simpa using hl)
   subst hn
   refine ⟨.slice none 0 0, w, ?_, World.ownsRow_nil w base e i.size, ⟨rfl, rfl, rfl, Nat.le_refl _, fun _ _ _ => rfl⟩, Or.inl rfl⟩
   have hc := hs.cells
   rcases hs.kind with ⟨e', hk⟩ | hk <;> simp [Builtin.append_, run_underlying ht, run_underlying hk, sizeOf, typeInfo, hi, hs.len, hc]
  ·have hr := run_append_grow_src (P := P) w t tx ty e i z ht hi hz none 0 0 [] (run_firstCells_none _ _ _ _ _) x m news hs (by omega) (by omega) (growslice_fits (by omega) hbytes)
   have hgr := grown 0 (by omega) (Value.ownBlock (.slice none 0 0))
   simp only [Nat.zero_add, List.nil_append] at hgr hr ⊢
   exact ⟨_, _, hr, hgr.1, hgr.2, Or.inr rfl⟩
 ·by_cases hroom : n + m ≤ cap
  ·have hfit : n * i.size + news.length ≤ cur.size := by rw [hl, hcs, ← Nat.add_mul]; exact Nat.mul_le_mul_right _ hroom
   have hst := run_storeCells_at P g (n * i.size) e news 0 cur w hg (by simpa using hfit) hs.one
   simp only [Nat.add_zero] at hst
   have hr : (Builtin.append_ #[t, tx] ty #[.slice (some ⟨g, 0, none⟩) n cap, x]).run P w =
     .ok (.slice (some ⟨g, 0, none⟩) (n + m) cap) (w.setRow g (cur.toList.take (n * i.size) ++ news ++ cur.toList.drop (n * i.size + news.length)).toArray) := by
    rcases hs.kind with ⟨e', hk⟩ | hk <;> simp [Builtin.append_, run_underlying ht, run_underlying hk, sizeOf, typeInfo, hi, hs.len, hroom, hs.cells, Addr.add_lit, hst]
   refine ⟨_, _, hr, ⟨hlen, .inr ⟨g, cap, _, rfl, hbg, setRow_heap w g cur _ e _ hg, hroom, hcm, ?_, ?_⟩⟩, ⟨rfl, rfl, rfl, by simp, fun k _ hk => setRow_other w g k _ (fun e => hk (by simp [Value.ownBlock, e]))⟩, Or.inl rfl⟩
   ·simp only [List.size_toArray, List.length_append, List.length_take, List.length_drop, Array.length_toList]
    omega
   ·rw [htake, ← hlen]
    exact List.take_left
  ·have holds : ∀ j u, xs[j]? = some u → w.cell? ((⟨g, 0, none⟩ : Addr).add j) = some u := hown.cells (g := g) rfl
   have hr := run_append_grow_src (P := P) w t tx ty e i z ht hi hz (some ⟨g, 0, none⟩) n cap xs (run_firstCells_some w.drew i.size n ⟨g, 0, none⟩ n cap xs hown.1 (by simpa using holds)) x m news hs (by omega) (by omega) (growslice_fits (by omega) hbytes)
   have hgr := grown cap (by omega) (Value.ownBlock (.slice (some ⟨g, 0, none⟩) n cap))
   exact ⟨_, _, hr, hgr.1, hgr.2, Or.inr rfl⟩
theorem wp_append_src {o : Oper} {a : Act} {W : World} {K : Act → World → Prop} {Q : Exit → Act → World → Prop} (base : Nat) (s x : Operand) (t tx e : TypeId) (i : TypeInfo) (z : Value) (size bytes : Nat)
  (ho : o.op = .call { callee := .builtin .append, args := #[s, x], argTypes := #[t, tx] })
  (ht : P.underlying t = some (.slice e)) (hi : P.info? e = some i) (hz : i.zero = some z) (hz1 : i.size = size) (hz2 : i.bytes = bytes) (hzs : z.cells.size = size) (hs0 : 0 < size)
  (v : Value) (n : Nat) (xs : List Value) (hs : a.eval s = v) (xv : Value) (m : Nat) (news : List Value) (hx : a.eval x = xv) (hsrc : Src P size tx xv m news W)
  (HO : W.ownsRow base e size v n xs) (hbase : base ≤ W.heap.size) (h63 : n + m ≤ maxLen) (hl : (n + m) * bytes ≤ 140737488355328)
  (h : ∀ v1 w1, w1.ownsRow base e size v1 (n + m) (xs ++ news) → W.grownBy w1 v.ownBlock → (v1.ownBlock = v.ownBlock ∨ ∃ b, v1.ownBlock = some b ∧ W.heap.size ≤ b) → K (a.put o.dst v1) w1) : o.wp P a W K Q := by
 obtain ⟨v1, w1, hr, hown, hgr, hat⟩ := run_append_own_src (P := P) W base t tx o.type e i z size bytes ht hi hz hz1 hz2 hzs hs0 v n xs HO xv m news hsrc h63 hl hbase
 unfold Oper.wp execOp
 simp only [ho, resolve, invoke, builtin, Sem.run_bind, Sem.run_pure, Result.andThen_ok, List.map_toArray, List.map_cons, List.map_nil, hs, hx, hr]
 refine h v1 w1 hown hgr ?_
 rcases hat with hat | hat
 ·exact .inl hat
 ·exact .inr ⟨_, hat, Nat.le_refl _⟩
theorem wpList_append_src {ops : Array Oper} {rest : List Oper} {o : Oper} {a : Act} {W : World} {Q : Exit → Act → World → Prop} (hgd : o.guard = none) (base : Nat) (s x : Operand) (t tx e : TypeId) (i : TypeInfo) (z : Value) (size bytes : Nat)
  (ho : o.op = .call { callee := .builtin .append, args := #[s, x], argTypes := #[t, tx] })
  (ht : P.underlying t = some (.slice e)) (hi : P.info? e = some i) (hz : i.zero = some z) (hz1 : i.size = size) (hz2 : i.bytes = bytes) (hzs : z.cells.size = size) (hs0 : 0 < size)
  (v : Value) (n : Nat) (xs : List Value) (hs : a.eval s = v) (xv : Value) (m : Nat) (news : List Value) (hx : a.eval x = xv) (hsrc : Src P size tx xv m news W)
  (HO : W.ownsRow base e size v n xs) (hbase : base ≤ W.heap.size) (h63 : n + m ≤ maxLen) (hl : (n + m) * bytes ≤ 140737488355328)
  (h : ∀ v1 w1, w1.ownsRow base e size v1 (n + m) (xs ++ news) → W.grownBy w1 v.ownBlock → (v1.ownBlock = v.ownBlock ∨ ∃ b, v1.ownBlock = some b ∧ W.heap.size ≤ b) → wpList P ops Q rest (a.put o.dst v1) w1) : wpList P ops Q (o :: rest) a W :=
 wpList_plain hgd fun _ hK => wp_append_src base s x t tx e i z size bytes ho ht hi hz hz1 hz2 hzs hs0 v n xs hs xv m news hx hsrc HO hbase h63 hl fun v' w' h2 h3 h4 => hK _ _ (h v' w' h2 h3 h4)
theorem step_append_src {ops : Array Oper} {o : Oper} {a : Act} {W : World} {K : Act → World → Prop} {Q : Exit → Act → World → Prop} {E : Prop} (hgd : o.guard = none) (base : Nat) (s x : Operand) (t tx e : TypeId) (i : TypeInfo) (z : Value) (size bytes : Nat)
  (ho : o.op = .call { callee := .builtin .append, args := #[s, x], argTypes := #[t, tx] })
  (ht : P.underlying t = some (.slice e)) (hi : P.info? e = some i) (hz : i.zero = some z) (hz1 : i.size = size) (hz2 : i.bytes = bytes) (hzs : z.cells.size = size) (hs0 : 0 < size)
  (v : Value) (n : Nat) (xs : List Value) (hs : a.eval s = v) (xv : Value) (m : Nat) (news : List Value) (hx : a.eval x = xv) (hsrc : Src P size tx xv m news W)
  (HO : W.ownsRow base e size v n xs) (hbase : base ≤ W.heap.size) (h63 : n + m ≤ maxLen) (hl : (n + m) * bytes ≤ 140737488355328)
  (h : ∀ v1 w1, w1.ownsRow base e size v1 (n + m) (xs ++ news) → W.grownBy w1 v.ownBlock → (v1.ownBlock = v.ownBlock ∨ ∃ b, v1.ownBlock = some b ∧ W.heap.size ≤ b) → K (a.put o.dst v1) w1) :
  if Region.wanted o (yielded ops a.tmps) = true then Oper.wp P o a W K Q else E := by
 have hw : Region.wanted o (yielded ops a.tmps) = true := by simp [Region.wanted, hgd]
 rw [if_pos hw]
 exact wp_append_src base s x t tx e i z size bytes ho ht hi hz hz1 hz2 hzs hs0 v n xs hs xv m news hx hsrc HO hbase h63 hl h
theorem Src.block {size : Nat} {W : World} {tx e' : TypeId} (hk : P.underlying tx = some (.slice e')) (g : Nat) (cs : List Value) (t : TypeId) (hb : W.heap[g]? = some (.cells cs.toArray t (0, 0))) (hl : cs.length = size) (h1 : ∀ u ∈ cs, u.oneCell' = true) :
  Src P size tx (.slice (some ⟨g, 0, none⟩) 1 1) 1 cs W :=
 Src.ofSlice W hk _ _ _ _ (by rw [hl, Nat.one_mul]) (by simpa using World.news_of_block (cs := cs.toArray) hb) h1
theorem Src.slice {size n B c : Nat} {W : World} {A : Option Addr} {xs : List Value} {tx e' : TypeId} (hk : P.underlying tx = some (.slice e')) (h : Sl W B size A n xs) (h1 : ∀ u ∈ xs, u.oneCell' = true) : Src P size tx (.slice A n c) n xs W := by
 rcases Nat.eq_zero_or_pos n with h0 | h0
 ·subst h0
  have hx : xs = [] := List.eq_nil_of_length_eq_zero (by simpa using h.1)
  subst hx
  cases A with
  | none => exact Src.ofNil W hk c
  | some ad => exact Src.ofSlice W hk ad 0 c [] (by simp) (by simp) (by simp)
 ·obtain ⟨ad, rfl, _, hc⟩ := h.2 h0
  exact Src.ofSlice W hk ad n c xs h.1 hc h1
end
theorem plainElem_bool_inv {H : Type} {P : Program} {e : TypeId} (he : P.underlying e = some .bool) {v : Value} {z : DataW H × List MemPlace} (h : plainElem P e v = some z) : ∃ a, v = .bool a ∧ z = (.lit (.bool a), []) := by
 unfold plainElem at h
 rw [he] at h
 cases v <;> simp at h
 exact ⟨_, rfl, h.symm⟩
theorem wpList_lookup_own_bool {H : Type} {P : Program} (w : World) {ops : Array Oper} {rest : List Oper} {o : Oper} {a : Act} {Q : Exit → Act → World → Prop}
  (hg : o.guard = none) (m x : Operand) (t : TypeId) (hop : o.op = Op.lookup t m x false)
  (k e : TypeId) (K : Go.Maps.Keyed P k) (ht : P.underlying t = some (.map k e)) (he : P.underlying e = some .bool) (hz : (zeroValue e).run P w = .ok (.bool false) w) (b n : Nat) (D : DataW H)
  (hm : a.eval m = .map (some b)) (hown : w.ownsMap P k (plainElem P e) b n D) (key : Value) (kl : Lit) (hx : a.eval x = key) (hkey : keyOf P k key = some kl)
  (hK : ∀ c : Bool, D.atKey kl (.lit (.bool false)) = .lit (.bool c) → wpList P ops Q rest (a.put o.dst (.bool c)) w) :
  wpList P ops Q (o :: rest) a w := by
 refine wpList_plain hg fun K' hK' => ?_
 obtain ⟨v, ps, hrun, hv⟩ := hown.lookup K ht hz (plainElem_bool he false) hkey
 obtain ⟨c, rfl, hc⟩ := plainElem_bool_inv he hv
 simp only [Prod.mk.injEq] at hc
 unfold Oper.wp
 simp [execOp, hop, hm, hx, hrun, Result.andThen]
 exact hK' _ _ (hK c hc.1)
end Go.Proofs.YtkfdcbdlcipmfaaGreatFmt
/- Lists of nodes in memory; what the tests of sizes answer. -/
namespace Go.Proofs.YtkfdcbdlcipmfaaGreatFmt
open Go.RowKit
theorem flat_get {α : Type} (f : α → List Value) (s : Nat) (hs : ∀ x, (f x).length = s) : ∀ (l : List α) (k j : Nat) (hk : k < l.length), j < s → (l.flatMap f)[k * s + j]? = (f l[k])[j]?
 | [], k, j, hk, _ => absurd hk (by simp)
 | x :: l, 0, j, hk, hj => by
  rw [List.flatMap_cons, Nat.zero_mul, Nat.zero_add, List.getElem?_append_left (by rw [hs]; exact hj)]
  rfl
 | x :: l, k + 1, j, hk, hj => by
  rw [List.flatMap_cons, List.getElem?_append_right (by rw [hs, Nat.succ_mul]; omega), hs, show (k + 1) * s + j - s = k * s + j from by rw [Nat.succ_mul]; omega]
  exact flat_get f s hs l k j (by simpa using hk) hj
theorem flat_length {α : Type} (f : α → List Value) (s : Nat) (hs : ∀ x, (f x).length = s) (l : List α) : (l.flatMap f).length = l.length * s := by
 induction l with
 | nil => simp
 | cons x l ih => rw [List.flatMap_cons, List.length_append, hs, ih, List.length_cons, Nat.succ_mul, Nat.add_comm]
theorem Sl.elem {α : Type} {f : α → List Value} {s : Nat} (hs : ∀ x, (f x).length = s) {w : World} {B n : Nat} {A : Option Addr} {l : List α} (h : Sl w B s A n (l.flatMap f)) (hl : l.length = n) {k : Nat} (hk : k < l.length) :
  ∃ ad, A = some ad ∧ ad.block < B ∧ ∀ j, j < s → w.cell? (ad.add (k * s + j)) = (f l[k])[j]? := by
 obtain ⟨ad, e, hb, hc⟩ := h.2 (by omega)
 refine ⟨ad, e, hb, fun j hj => ?_⟩
 have hg := flat_get f s hs l k j hk hj
 have hlen : j < (f l[k]).length := by rw [hs]; exact hj
 rw [List.getElem?_eq_getElem hlen] at hg ⊢
 exact hc _ _ hg
def nodeCells (n : Css.Node) : List Value := [.int .i64 n.kind, .int .i64 n.unit, .int .i64 n.depth, .string (str n.text), .bool n.before, .bool n.after]
theorem nodeCells_length (n : Css.Node) : (nodeCells n).length = 6 := rfl
def nodesC (l : List Css.Node) : List Value := l.flatMap nodeCells
def Nd (w : World) (B : Nat) (A : Option Addr) (l : List Css.Node) : Prop := Sl w B 6 A l.length (nodesC l)
theorem add_lit (p : Addr) {j : Nat} (hj : 0 < j) : p.add j = ⟨p.block, p.off + j, none⟩ := by
 unfold Addr.add
 rw [if_neg (by omega)]
theorem Nd.elem {w : World} {B : Nat} {A : Option Addr} {l : List Css.Node} (h : Nd w B A l) {k : Nat} (hk : k < l.length) :
  ∃ ad, A = some ad ∧ ad.block < B ∧ w.cell? (ad.add (k * 6)) = some (.int .i64 l[k].kind) ∧ w.cell? ⟨(ad.add (k * 6)).block, (ad.add (k * 6)).off + 1, none⟩ = some (.int .i64 l[k].unit) ∧
   w.cell? ⟨(ad.add (k * 6)).block, (ad.add (k * 6)).off + 2, none⟩ = some (.int .i64 l[k].depth) ∧ w.cell? ⟨(ad.add (k * 6)).block, (ad.add (k * 6)).off + 3, none⟩ = some (.string (str l[k].text)) ∧
   w.cell? ⟨(ad.add (k * 6)).block, (ad.add (k * 6)).off + 4, none⟩ = some (.bool l[k].before) ∧ w.cell? ⟨(ad.add (k * 6)).block, (ad.add (k * 6)).off + 5, none⟩ = some (.bool l[k].after) := by
 obtain ⟨ad, e, hb, hc⟩ := Sl.elem nodeCells_length (show Sl w B 6 A l.length (l.flatMap nodeCells) from h) rfl hk
 have hj : ∀ j, 0 < j → j < 6 → w.cell? ⟨(ad.add (k * 6)).block, (ad.add (k * 6)).off + j, none⟩ = (nodeCells l[k])[j]? := fun j h0 h6 => by
  rw [← add_lit _ h0, add_of_add]
  exact hc j h6
 exact ⟨ad, e, hb, hc 0 (by omega), hj 1 (by omega) (by omega), hj 2 (by omega) (by omega), hj 3 (by omega) (by omega), hj 4 (by omega) (by omega), hj 5 (by omega) (by omega)⟩
def nodeVal (n : Css.Node) : Value := .agg #[.int .i64 n.kind, .int .i64 n.unit, .int .i64 n.depth, .string (str n.text), .bool n.before, .bool n.after]
set_option maxRecDepth 100000 in
theorem c24 (n : Css.Node) (w : World) : Calls Tryz.prog 24 #[nodeVal n] w fun e w' => e = .returned (.bool (decide (n.text.length ≤ 2147483647))) ∧ w.grownBy w' none := by
 have hs := str_size n.text
 unfold nodeVal
 by_cases h : n.text.length ≤ 2147483647
 ·have h' : ((str n.text).size : Int) ≤ 2147483647 := by omega
  rw [decide_eq_true h]
  clear h
  go_enter Tryz.func24, Tryz.ntmps24
  go_wp2_with fail
  go_ret
  exact ⟨rfl, grown_alloc (grown_refl _ _) _⟩
 ·have h' : 2147483647 < ((str n.text).size : Int) := by omega
  rw [decide_eq_false h]
  clear h
  go_enter Tryz.func24, Tryz.ntmps24
  go_wp2_with fail
  go_ret
  exact ⟨rfl, grown_alloc (grown_refl _ _) _⟩
def FitsL (l : List Css.Node) : Prop := l.length ≤ 2147483647 ∧ ∀ n ∈ l, n.text.length ≤ 2147483647
set_option maxRecDepth 100000 in
set_option maxHeartbeats 400000 in
theorem c10 {w : World} {A : Option Addr} {c : Nat} {l : List Css.Node} (h : Nd w w.heap.size A l) :
  Calls Tryz.prog 10 #[.slice A l.length c] w fun e w' => ∃ b, e = .returned (.bool b) ∧ w.grownBy w' none ∧ (b = true → FitsL l) := by
 by_cases hl : l.length ≤ 2147483647
 ·have hl' : (l.length : Int) ≤ 2147483647 := by omega
  have H := Lib.hid h
  clear h
  go_enter Tryz.func10, Tryz.ntmps10
  go_wp2_with fail
  go_loopw [10] (fun v10 wr => ∃ k : Nat, k ≤ l.length ∧ v10 = .int .i64 k ∧ Hid (w.grownBy wr none) ∧ Hid (∀ i (hi : i < l.length), i < k → l[i].text.length ≤ 2147483647)) (fun v10 _ => l.length - (intOf v10).toNat)
  case atStart => exact ⟨0, by omega, rfl, Lib.hid (grown_refl _ _), Lib.hid (fun i hi h => absurd h (by omega))⟩
  case round =>
   obtain ⟨k, hk, rfl, HG, HF⟩ := hrel
   by_cases hlt : k < l.length
   ·obtain ⟨ad, hA, hb, hc0, hc1, hc2, hc3, hc4, hc5⟩ := Nd.elem (Sl.free H.out HG.out (Nat.le_refl _)) hlt
    subst hA
    generalize hn : l[k] = n at hc0 hc1 hc2 hc3 hc4 hc5
    have HN := Lib.hid hn
    clear hn
    go_wp2_with fail
    refine (c24 n _).mono ?_
    rintro e w1 ⟨rfl, hG1⟩
    have hG2 := grown_trans (grown_alloc (HG.out) (.cells #[.int .i64 n.kind, .int .i64 n.unit, .int .i64 n.depth, .string (str n.text), .bool n.before, .bool n.after] 45)) hG1
    have HG2 := Lib.hid hG2
    clear hG1 hG2
    cases t1 : decide (n.text.length ≤ 2147483647) with
    | true =>
     have h1 := of_decide_eq_true t1
     go_wp2_with fail
     go_roundw
     case rel =>
      refine ⟨k + 1, hlt, by go_num, HG2, fun i hi hik => ?_⟩
      rcases Nat.lt_succ_iff_lt_or_eq.1 hik with h | h
      ·exact HF.out i hi h
      ·subst h; rw [HN.out]; exact h1
     case measure => simp [intOf]; omega
    | false =>
     go_wp2_with fail
     go_ret
     exact ⟨false, rfl, HG2.out, fun h => by cases h⟩
   ·have hk' : k = l.length := by omega
    have HF2 : Hid (FitsL l) := ⟨hl, fun n hn => by
     obtain ⟨i, hi, rfl⟩ := List.getElem_of_mem hn
     exact HF.out i hi (by omega)⟩
    clear hk'
    go_wp2_with fail
    go_ret
    exact ⟨true, rfl, HG.out, fun _ => HF2.out⟩
 ·have hl' : 2147483647 < (l.length : Int) := by omega
  go_enter Tryz.func10, Tryz.ntmps10
  go_wp2_with fail
  go_ret
  exact ⟨false, rfl, grown_refl _ _, fun h => by cases h⟩
theorem info45 : ∃ i z, Tryz.prog.info? 45 = some i ∧ i.zero = some z ∧ i.size = 6 ∧ i.bytes = 48 ∧ z.cells.size = 6 := by
 have h : (Tryz.prog.info? 45).map (fun i => (i.zero.map (·.cells.size), i.size, i.bytes)) = some (some 6, 6, 48) := by kernel_rfl
 obtain ⟨i, hi, hh⟩ := Option.map_eq_some_iff.1 h
 simp only [Prod.mk.injEq] at hh
 obtain ⟨z, hz, hzs⟩ := Option.map_eq_some_iff.1 hh.1
 exact ⟨i, z, hi, hz, hh.2.1, hh.2.2, hzs⟩
theorem info50 : ∃ i z, Tryz.prog.info? 50 = some i ∧ i.zero = some z ∧ i.size = 6 ∧ i.bytes = 48 ∧ z.cells.size = 6 := by
 have h : (Tryz.prog.info? 50).map (fun i => (i.zero.map (·.cells.size), i.size, i.bytes)) = some (some 6, 6, 48) := by kernel_rfl
 obtain ⟨i, hi, hh⟩ := Option.map_eq_some_iff.1 h
 simp only [Prod.mk.injEq] at hh
 obtain ⟨z, hz, hzs⟩ := Option.map_eq_some_iff.1 hh.1
 exact ⟨i, z, hi, hz, hh.2.1, hh.2.2, hzs⟩
theorem new_blk' {w : World} {o : Obj} {b : Nat} (hb : b = w.heap.size) : (w.alloc o).heap[b]? = some o := by rw [hb]; exact new_blk w o
theorem nodesC_snoc {l : List Css.Node} {k : Nat} (hk : k < l.length) : nodesC (l.take (k + 1)) = nodesC (l.take k) ++ nodeCells l[k] := by
 unfold nodesC
 rw [List.take_succ_eq_append_getElem hk, List.flatMap_append, List.flatMap_cons, List.flatMap_nil, List.append_nil]
theorem nodeCells_one (n : Css.Node) : ∀ u ∈ nodeCells n, u.oneCell' = true := by
 intro u hu
 simp [nodeCells] at hu
 rcases hu with rfl | rfl | rfl | rfl | rfl | rfl <;> rfl
theorem grown_own {w w1 w2 : World} {v : Value} {base : Nat} (hg : w.grownBy w1 none) (h : w1.grownBy w2 v.ownBlock) (hb : ∀ g, v.ownBlock = some g → w.heap.size ≤ g) : w.grownBy w2 none :=
 ⟨h.os.trans hg.os, h.tape.trans hg.tape, h.output.trans hg.output, Nat.le_trans hg.size h.size, fun k hk _ => (h.block k (Nat.lt_of_lt_of_le hk hg.size) (fun e => by have := hb k e.symm; omega)).trans (hg.block k hk (by simp))⟩
theorem own_base {w : World} {base : Nat} {e : TypeId} {size : Nat} {v : Value} {n : Nat} {xs : List Value} (h : w.ownsRow base e size v n xs) : ∀ g, v.ownBlock = some g → base ≤ g := fun g hg => (h.lt g hg).1
theorem own_free {w w' : World} {base : Nat} {e : TypeId} {size : Nat} {v : Value} {n : Nat} {xs : List Value} (h : w.ownsRow base e size v n xs) (hg : w.grownBy w' none) : w'.ownsRow base e size v n xs :=
 h.kept hg (by cases hv : v.ownBlock <;> simp)
theorem own_slice' {w : World} {base size n : Nat} {e : TypeId} {v : Value} {xs : List Value} (h : w.ownsRow base e size v n xs) : ∃ A c, v = .slice A n c := by
 rcases h.2 with ⟨rfl, h0⟩ | ⟨g, cap, cur, rfl, _⟩
 ·exact ⟨none, 0, by rw [h0]⟩
 ·exact ⟨_, _, rfl⟩
set_option maxRecDepth 100000 in
set_option maxHeartbeats 1000000 in
theorem c16 {w : World} {A : Option Addr} {c : Nat} {l : List Css.Node} (h : Nd w w.heap.size A l) (hl : l.length ≤ 2147483647) :
  Calls Tryz.prog 16 #[.slice A l.length c] w fun e w' => ∃ A' c', e = .returned (.slice A' l.length c') ∧ w.grownBy w' none ∧ w'.ownsRow w.heap.size 50 6 (.slice A' l.length c') l.length (nodesC l) := by
 have H := Lib.hid h
 clear h
 obtain ⟨i0, z0, hi0, hz0, hz1, hz2, hz3⟩ := info50
 have HI := Lib.hid (And.intro hi0 (And.intro hz0 (And.intro hz1 (And.intro hz2 hz3))))
 clear hi0 hz0 hz1 hz2 hz3
 have hown0 := World.ownsRow_nil w w.heap.size 50 6
 go_enter Tryz.func16, Tryz.ntmps16
 go_wp2_with fail
 go_loopw [3, 8] (fun v3 v8 wr => ∃ (k : Nat) (v : Value), k ≤ l.length ∧ v3 = v ∧ v8 = .int .i64 k ∧ Hid (w.grownBy wr none) ∧ Hid (wr.ownsRow w.heap.size 50 6 v k (nodesC (l.take k)))) (fun _ v8 _ => l.length - (intOf v8).toNat)
 case atStart => exact ⟨0, _, by omega, rfl, rfl, Lib.hid (grown_refl _ _), Lib.hid hown0⟩
 case round =>
  clear hown0
  obtain ⟨k, v3, hk, e3, rfl, HG, HO⟩ := hrel
  replace e3 := e3.symm
  subst e3
  by_cases hlt : k < l.length
  ·obtain ⟨ad, hA, hb, hc0, hc1, hc2, hc3, hc4, hc5⟩ := Nd.elem (Sl.free H.out HG.out (Nat.le_refl _)) hlt
   subst hA
   have hsn := nodesC_snoc hlt
   generalize hn : l[k] = n at hc0 hc1 hc2 hc3 hc4 hc5 hsn
   have HN := Lib.hid hsn
   clear hn hsn
   have hsz := HG.out.size
   have HB : Hid (∀ o1 o2, w.grownBy ((wr.alloc o1).alloc o2) none ∧ ((wr.alloc o1).alloc o2).ownsRow w.heap.size 50 6 v3 k (nodesC (l.take k)) ∧ w.heap.size ≤ ((wr.alloc o1).alloc o2).heap.size) := Lib.hid fun o1 o2 =>
    ⟨grown_alloc (grown_alloc HG.out _) _, (HO.out.alloc _).alloc _, by simp; omega⟩
   have hbk : ∀ o, wr.heap.size + 1 = (wr.alloc o).heap.size := fun o => by simp
   have h63 : k + 1 ≤ maxLen := by unfold maxLen; omega
   have h47 : (k + 1) * 48 ≤ 140737488355328 := by omega
   have h06 : 0 < 6 := by omega
   go_wp2_with ((at_builtin; refine wpList_append_src rfl w.heap.size (.tmp 12) (.tmp 26) 31 31 50 i0 z0 6 48 rfl Tryz.underlying31 HI.out.1 HI.out.2.1 HI.out.2.2.1 HI.out.2.2.2.1 HI.out.2.2.2.2 h06 v3 k (nodesC (l.take k)) rfl _ 1 (nodeCells n) rfl (Src.block Tryz.underlying31 _ (nodeCells n) 50 (new_blk' (hbk _)) rfl (nodeCells_one n)) (HB.out _ _).2.1 (HB.out _ _).2.2 h63 h47 ?_; intro v1 w1 hown hgr hat; have HG2 := Lib.hid (grown_own (base := w.heap.size) (HB.out _ _).1 hgr (own_base HO.out)); have HO2 := Lib.hid hown; clear hown hgr hat))
   go_roundw
   case rel => exact ⟨k + 1, _, hlt, rfl, by go_num, HG2, by rw [HN.out]; exact HO2⟩
   case measure => simp [intOf]; omega
  ·have hk' : k = l.length := by omega
   have HO2 : Hid (wr.ownsRow w.heap.size 50 6 v3 l.length (nodesC l)) := by
    have := HO.out
    rw [hk', List.take_length] at this
    exact this
   obtain ⟨A', c', hv⟩ := own_slice' HO2.out
   subst hv
   clear hk'
   go_wp2_with fail
   go_ret
   exact ⟨A', c', rfl, HG.out, HO2.out⟩
set_option maxRecDepth 100000 in
set_option maxHeartbeats 1000000 in
theorem c27 {w : World} {A : Option Addr} {c : Nat} {l : List Css.Node} (h : Nd w w.heap.size A l) (hl : l.length ≤ 2147483647) :
  Calls Tryz.prog 27 #[.slice A l.length c] w fun e w' => ∃ A' c', e = .returned (.slice A' l.length c') ∧ w.grownBy w' none ∧ w'.ownsRow w.heap.size 45 6 (.slice A' l.length c') l.length (nodesC l) := by
 have H := Lib.hid h
 clear h
 obtain ⟨i0, z0, hi0, hz0, hz1, hz2, hz3⟩ := info45
 have HI := Lib.hid (And.intro hi0 (And.intro hz0 (And.intro hz1 (And.intro hz2 hz3))))
 clear hi0 hz0 hz1 hz2 hz3
 have hown0 := World.ownsRow_nil w w.heap.size 45 6
 go_enter Tryz.func27, Tryz.ntmps27
 go_wp2_with fail
 go_loopw [3, 8] (fun v3 v8 wr => ∃ (k : Nat) (v : Value), k ≤ l.length ∧ v3 = v ∧ v8 = .int .i64 k ∧ Hid (w.grownBy wr none) ∧ Hid (wr.ownsRow w.heap.size 45 6 v k (nodesC (l.take k)))) (fun _ v8 _ => l.length - (intOf v8).toNat)
 case atStart => exact ⟨0, _, by omega, rfl, rfl, Lib.hid (grown_refl _ _), Lib.hid hown0⟩
 case round =>
  clear hown0
  obtain ⟨k, v3, hk, e3, rfl, HG, HO⟩ := hrel
  replace e3 := e3.symm
  subst e3
  by_cases hlt : k < l.length
  ·obtain ⟨ad, hA, hb, hc0, hc1, hc2, hc3, hc4, hc5⟩ := Nd.elem (Sl.free H.out HG.out (Nat.le_refl _)) hlt
   subst hA
   have hsn := nodesC_snoc hlt
   generalize hn : l[k] = n at hc0 hc1 hc2 hc3 hc4 hc5 hsn
   have HN := Lib.hid hsn
   clear hn hsn
   have hsz := HG.out.size
   have HB : Hid (∀ o1 o2, w.grownBy ((wr.alloc o1).alloc o2) none ∧ ((wr.alloc o1).alloc o2).ownsRow w.heap.size 45 6 v3 k (nodesC (l.take k)) ∧ w.heap.size ≤ ((wr.alloc o1).alloc o2).heap.size) := Lib.hid fun o1 o2 =>
    ⟨grown_alloc (grown_alloc HG.out _) _, (HO.out.alloc _).alloc _, by simp; omega⟩
   have hbk : ∀ o, wr.heap.size + 1 = (wr.alloc o).heap.size := fun o => by simp
   have h63 : k + 1 ≤ maxLen := by unfold maxLen; omega
   have h47 : (k + 1) * 48 ≤ 140737488355328 := by omega
   have h06 : 0 < 6 := by omega
   go_wp2_with ((at_builtin; refine wpList_append_src rfl w.heap.size (.tmp 12) (.tmp 26) 22 22 45 i0 z0 6 48 rfl Tryz.underlying22 HI.out.1 HI.out.2.1 HI.out.2.2.1 HI.out.2.2.2.1 HI.out.2.2.2.2 h06 v3 k (nodesC (l.take k)) rfl _ 1 (nodeCells n) rfl (Src.block Tryz.underlying22 _ (nodeCells n) 45 (new_blk' (hbk _)) rfl (nodeCells_one n)) (HB.out _ _).2.1 (HB.out _ _).2.2 h63 h47 ?_; intro v1 w1 hown hgr hat; have HG2 := Lib.hid (grown_own (base := w.heap.size) (HB.out _ _).1 hgr (own_base HO.out)); have HO2 := Lib.hid hown; clear hown hgr hat))
   go_roundw
   case rel => exact ⟨k + 1, _, hlt, rfl, by go_num, HG2, by rw [HN.out]; exact HO2⟩
   case measure => simp [intOf]; omega
  ·have hk' : k = l.length := by omega
   have HO2 : Hid (wr.ownsRow w.heap.size 45 6 v3 l.length (nodesC l)) := by
    have := HO.out
    rw [hk', List.take_length] at this
    exact this
   obtain ⟨A', c', hv⟩ := own_slice' HO2.out
   subst hv
   clear hk'
   go_wp2_with fail
   go_ret
   exact ⟨A', c', rfl, HG.out, HO2.out⟩
end Go.Proofs.YtkfdcbdlcipmfaaGreatFmt
/- What the reference's small functions on items answer. No condition. -/
namespace Go.Proofs.YtkfdcbdlcipmfaaGreatFmt
open Go.RowKit
def itemCells (x : Css.Item) : List Value := [.int .i64 x.kind, .int .i64 x.unit, .string (str x.text), .int .i64 x.space]
def itemVal (x : Css.Item) : Value := .agg #[.int .i64 x.kind, .int .i64 x.unit, .string (str x.text), .int .i64 x.space]
set_option maxRecDepth 100000 in
set_option maxHeartbeats 400000 in
theorem c50 (k : Int) (w : World) : Calls Tryz.prog 50 #[.int .i64 k] w fun e w' => e = .returned (.int .i64 (Css.cls k)) ∧ w = w' := by
 go_enter Tryz.func50, Tryz.ntmps50
 go_wp2
 all_goals (go_ret; exact ⟨ret_int (by simp [Css.cls, *]), rfl⟩)
theorem sgn_none {k : Int} {t : List UInt8} (h : (Css.cls k == 0 && k != 36) = false) : Css.sgn k t = 0 := by simp [Css.sgn, h]
theorem sgn_long {k : Int} {t : List UInt8} (h : t.length ≠ 1) : Css.sgn k t = 0 := by
 unfold Css.sgn
 split
 ·split
  ·exact absurd rfl h
  ·rfl
 ·rfl
theorem sgn_one {k : Int} {t : List UInt8} (h : (Css.cls k == 0 && k != 36) = true) (h1 : t.length = 1) : Css.sgn k t = bt (str t) 0 := by
 match t, h1 with
 | [b], _ =>
  simp only [Css.sgn, h, if_true]
  rfl
theorem sgn_range (k : Int) (t : List UInt8) : 0 ≤ Css.sgn k t ∧ Css.sgn k t ≤ 255 := by
 unfold Css.sgn
 split
 ·split
  ·rename_i b; have := b.toNat_lt; omega
  ·omega
 ·omega
set_option maxRecDepth 100000 in
set_option maxHeartbeats 400000 in
theorem c51 (x : Css.Item) (w : World) : Calls Tryz.prog 51 #[itemVal x] w fun e w' => e = .returned (.int .u8 (Css.sgn x.kind x.text)) ∧ w.grownBy w' none := by
 obtain ⟨k, u, t, sp⟩ := x
 unfold itemVal
 simp only
 cases t1 : (Css.cls k == 0) with
 | false =>
  rw [sgn_none (by rw [t1]; rfl)]
  go_enter Tryz.func51, Tryz.ntmps51
  go_wp2_with fail
  refine (c50 _ _).mono ?_
  rintro e w' ⟨rfl, rfl⟩
  go_wp2_with fail
  go_ret
  exact ⟨rfl, grown_alloc (grown_refl _ _) _⟩
 | true =>
  cases t2 : (k != 36) with
  | false =>
   rw [sgn_none (by rw [t1, t2]; rfl)]
   go_enter Tryz.func51, Tryz.ntmps51
   go_wp2_with fail
   refine (c50 _ _).mono ?_
   rintro e w' ⟨rfl, rfl⟩
   go_wp2_with fail
   go_ret
   exact ⟨rfl, grown_alloc (grown_refl _ _) _⟩
  | true =>
   have hsz := str_size t
   by_cases hl : t.length = 1
   ·rw [sgn_one (by rw [t1, t2]; rfl) hl]
    have hl' : ((str t).size : Int) = 1 := by omega
    have hb := bt_at (str t) 0
    generalize bt (str t) 0 = b at hb ⊢
    have hlt : 0 < (str t).size := by omega
    have hl2 : (((str t).size : Int) == 1) = true := by simpa using hl'
    clear hl hl' hsz
    go_enter Tryz.func51, Tryz.ntmps51
    go_wp2_with fail
    refine (c50 _ _).mono ?_
    rintro e w' ⟨rfl, rfl⟩
    go_wp2_with fail
    go_ret
    exact ⟨rfl, grown_alloc (grown_refl _ _) _⟩
   ·rw [sgn_long hl]
    have hl2 : (((str t).size : Int) == 1) = false := by simp; omega
    clear hl hsz
    go_enter Tryz.func51, Tryz.ntmps51
    go_wp2_with fail
    refine (c50 _ _).mono ?_
    rintro e w' ⟨rfl, rfl⟩
    go_wp2_with fail
    go_ret
    exact ⟨rfl, grown_alloc (grown_refl _ _) _⟩
def itemOf (n : Css.Node) : Css.Item := ⟨n.kind, n.unit, n.text, 0⟩
set_option maxRecDepth 100000 in
set_option maxHeartbeats 400000 in
theorem c41 (n : Css.Node) (w : World) : Calls Tryz.prog 41 #[nodeVal n] w fun e w' => e = .returned (itemVal (itemOf n)) ∧ w.grownBy w' none := by
 unfold nodeVal
 go_enter Tryz.func41, Tryz.ntmps41
 go_wp2_with fail
 trace_state
 exact bodyPost_ret (v := itemVal (itemOf n)) (by simp [results, Tryz.results41, go_sem, itemVal, itemOf]) rfl ⟨rfl, grown_alloc (grown_alloc (grown_refl _ _) _) _⟩
end Go.Proofs.YtkfdcbdlcipmfaaGreatFmt
/- Trees of tokens as the printer has them in memory. -/
namespace Go.Proofs.YtkfdcbdlcipmfaaGreatFmt
open Go.RowKit
def SlP (w : World) (P : Nat → Prop) (size : Nat) (A : Option Addr) (n : Nat) (xs : List Value) : Prop :=
 xs.length = n * size ∧ (0 < n → ∃ ad, A = some ad ∧ P ad.block ∧ ∀ j u, xs[j]? = some u → w.cell? (ad.add j) = some u)
theorem SlP.keep {w w' : World} {P Q : Nat → Prop} {size n : Nat} {A : Option Addr} {xs : List Value} (h : SlP w P size A n xs) (hk : ∀ b, P b → Q b ∧ w'.heap[b]? = w.heap[b]?) : SlP w' Q size A n xs :=
 ⟨h.1, fun hn => by
  obtain ⟨ad, e, hb, hc⟩ := h.2 hn
  exact ⟨ad, e, (hk _ hb).1, fun j u hu => (World.cell?_of_block (by rw [block_of_add]; exact (hk _ hb).2)).trans (hc j u hu)⟩⟩
theorem SlP.of_own {w : World} {base size n c : Nat} {e : TypeId} {A : Option Addr} {xs : List Value} (h : w.ownsRow base e size (.slice A n c) n xs) : SlP w (fun b => base ≤ b ∧ b < w.heap.size ∧ (Value.slice A n c).ownBlock = some b) size A n xs := by
 refine ⟨h.1, fun hn => ?_⟩
 obtain ⟨g, cap, hv, _, hlt⟩ := h.form hn
 have hA : A = some ⟨g, 0, none⟩ := by injection hv
 subst hA
 exact ⟨_, rfl, ⟨(h.lt g rfl).1, hlt, rfl⟩, h.cells (g := g) rfl⟩
def tokWs (n : Css.Node) : Int := (if n.before then 1 else 0) + (if n.after then 2 else 0)
def tkC (p : Option Addr) (n : Css.Node) : List Value := [.pointer p, .string (str n.text), .int .i32 0, .int .u32 0, .int .u16 (n.unit % 65536), .int .u8 n.kind, .int .u8 (tokWs n)]
mutual
def TkT (w : World) (P : Nat → Prop) : Css.Tree → List Value → Prop
 | .mk n kids, c => ∃ p, c = tkC p n ∧ (match Css.opens n.kind with
   | none => p = none
   | some _ => ∃ b A k cs, p = some ⟨b, 0, none⟩ ∧ P b ∧ w.heap[b]? = some (.cells #[.slice A kids.length k] 66 (0, 0)) ∧ SlP w P 7 A kids.length cs.flatten ∧ TkF w P kids cs)
def TkF (w : World) (P : Nat → Prop) : List Css.Tree → List (List Value) → Prop
 | [], cs => cs = []
 | t :: ts, cs => ∃ c r, cs = c :: r ∧ TkT w P t c ∧ TkF w P ts r
end
mutual
theorem TkT.keep {w w' : World} {P Q : Nat → Prop} (hk : ∀ b, P b → Q b ∧ w'.heap[b]? = w.heap[b]?) : ∀ (t : Css.Tree) (c : List Value), TkT w P t c → TkT w' Q t c
 | .mk n kids, c, h => by
  obtain ⟨p, hc, hm⟩ := (show ∃ p, c = tkC p n ∧ (match Css.opens n.kind with
   | none => p = none
   | some _ => ∃ b A k cs, p = some ⟨b, 0, none⟩ ∧ P b ∧ w.heap[b]? = some (.cells #[.slice A kids.length k] 66 (0, 0)) ∧ SlP w P 7 A kids.length cs.flatten ∧ TkF w P kids cs) from h)
  refine (show ∃ p, c = tkC p n ∧ (match Css.opens n.kind with
   | none => p = none
   | some _ => ∃ b A k cs, p = some ⟨b, 0, none⟩ ∧ Q b ∧ w'.heap[b]? = some (.cells #[.slice A kids.length k] 66 (0, 0)) ∧ SlP w' Q 7 A kids.length cs.flatten ∧ TkF w' Q kids cs) from ⟨p, hc, ?_⟩)
  cases ho : Css.opens n.kind with
  | none => rw [ho] at hm; exact hm
  | some k =>
   rw [ho] at hm
   obtain ⟨b, A, k, cs, h1, h2, h3, h4, h5⟩ := hm
   exact ⟨b, A, k, cs, h1, (hk b h2).1, (hk b h2).2.trans h3, h4.keep hk, TkF.keep hk kids cs h5⟩
theorem TkF.keep {w w' : World} {P Q : Nat → Prop} (hk : ∀ b, P b → Q b ∧ w'.heap[b]? = w.heap[b]?) : ∀ (ts : List Css.Tree) (cs : List (List Value)), TkF w P ts cs → TkF w' Q ts cs
 | [], cs, h => h
 | t :: ts, cs, h => by
  obtain ⟨c, r, e, h1, h2⟩ := (show ∃ c r, cs = c :: r ∧ TkT w P t c ∧ TkF w P ts r from h)
  exact (show ∃ c r, cs = c :: r ∧ TkT w' Q t c ∧ TkF w' Q ts r from ⟨c, r, e, TkT.keep hk t c h1, TkF.keep hk ts r h2⟩)
end
theorem TkT.form {w : World} {P : Nat → Prop} {t : Css.Tree} {c : List Value} (h : TkT w P t c) : ∃ p, c = tkC p t.n := by
 cases t with
 | mk n kids => obtain ⟨p, hc, _⟩ := (show ∃ p, c = tkC p n ∧ _ from h); exact ⟨p, hc⟩
theorem TkF.snoc {w : World} {P : Nat → Prop} : ∀ {ts : List Css.Tree} {cs : List (List Value)} {t : Css.Tree} {c : List Value}, TkF w P ts cs → TkT w P t c → TkF w P (ts ++ [t]) (cs ++ [c])
 | [], cs, t, c, h, ht => by
  have h : cs = [] := h
  subst h
  exact (show ∃ c' r, [c] = c' :: r ∧ TkT w P t c' ∧ TkF w P [] r from ⟨c, [], rfl, ht, rfl⟩)
 | u :: ts, cs, t, c, h, ht => by
  obtain ⟨c0, r, e, h1, h2⟩ := (show ∃ c r, cs = c :: r ∧ TkT w P u c ∧ TkF w P ts r from h)
  subst e
  exact (show ∃ c' r', (c0 :: r) ++ [c] = c' :: r' ∧ TkT w P u c' ∧ TkF w P (ts ++ [t]) r' from ⟨c0, r ++ [c], rfl, h1, TkF.snoc h2 ht⟩)
theorem TkF.get {w : World} {P : Nat → Prop} : ∀ {ts : List Css.Tree} {cs : List (List Value)}, TkF w P ts cs → ∀ (k : Nat) (hk : k < ts.length), ∃ c, TkT w P ts[k] c ∧ ∀ j, j < 7 → cs.flatten[k * 7 + j]? = c[j]?
 | t :: ts, cs, h, k, hk => by
  obtain ⟨c, r, e, h1, h2⟩ := (show ∃ c r, cs = c :: r ∧ TkT w P t c ∧ TkF w P ts r from h)
  subst e
  obtain ⟨p, hp⟩ := h1.form
  have hl : c.length = 7 := by rw [hp]; rfl
  cases k with
  | zero =>
   refine ⟨c, h1, fun j hj => ?_⟩
   rw [List.flatten_cons, Nat.zero_mul, Nat.zero_add, List.getElem?_append_left (by omega)]
  | succ k =>
   obtain ⟨c', h3, h4⟩ := TkF.get h2 k (by simpa using hk)
   refine ⟨c', h3, fun j hj => ?_⟩
   rw [List.flatten_cons, List.getElem?_append_right (by rw [hl, Nat.succ_mul]; omega), hl, show (k + 1) * 7 + j - 7 = k * 7 + j from by rw [Nat.succ_mul]; omega]
   exact h4 j hj
theorem TkF.length {w : World} {P : Nat → Prop} : ∀ {ts : List Css.Tree} {cs : List (List Value)}, TkF w P ts cs → cs.flatten.length = ts.length * 7
 | [], cs, h => by
  have h : cs = [] := h
  subst h
  rfl
 | t :: ts, cs, h => by
  obtain ⟨c, r, e, h1, h2⟩ := (show ∃ c r, cs = c :: r ∧ TkT w P t c ∧ TkF w P ts r from h)
  subst e
  obtain ⟨p, hp⟩ := h1.form
  have hl : c.length = 7 := by rw [hp]; rfl
  rw [List.flatten_cons, List.length_append, h2.length, hl, List.length_cons, Nat.succ_mul]
  omega
def TkL (w : World) (P : Nat → Prop) (A : Option Addr) (ts : List Css.Tree) : Prop := ∃ cs, SlP w P 7 A ts.length cs.flatten ∧ TkF w P ts cs
theorem TkL.keep {w w' : World} {P Q : Nat → Prop} {A : Option Addr} {ts : List Css.Tree} (h : TkL w P A ts) (hk : ∀ b, P b → Q b ∧ w'.heap[b]? = w.heap[b]?) : TkL w' Q A ts := by
 obtain ⟨cs, h1, h2⟩ := h
 exact ⟨cs, h1.keep hk, TkF.keep hk ts cs h2⟩
theorem TkL.elem {w : World} {P : Nat → Prop} {A : Option Addr} {ts : List Css.Tree} (h : TkL w P A ts) {k : Nat} (hk : k < ts.length) :
  ∃ ad p, A = some ad ∧ P ad.block ∧ TkT w P ts[k] (tkC p ts[k].n) ∧ w.cell? (ad.add (k * 7)) = some (.pointer p) ∧ w.cell? ⟨(ad.add (k * 7)).block, (ad.add (k * 7)).off + 1, none⟩ = some (.string (str ts[k].n.text)) ∧
   w.cell? ⟨(ad.add (k * 7)).block, (ad.add (k * 7)).off + 2, none⟩ = some (.int .i32 0) ∧ w.cell? ⟨(ad.add (k * 7)).block, (ad.add (k * 7)).off + 3, none⟩ = some (.int .u32 0) ∧
   w.cell? ⟨(ad.add (k * 7)).block, (ad.add (k * 7)).off + 4, none⟩ = some (.int .u16 (ts[k].n.unit % 65536)) ∧ w.cell? ⟨(ad.add (k * 7)).block, (ad.add (k * 7)).off + 5, none⟩ = some (.int .u8 ts[k].n.kind) ∧
   w.cell? ⟨(ad.add (k * 7)).block, (ad.add (k * 7)).off + 6, none⟩ = some (.int .u8 (tokWs ts[k].n)) := by
 obtain ⟨cs, h1, h2⟩ := h
 obtain ⟨ad, e, hb, hc⟩ := h1.2 (by omega)
 obtain ⟨c, ht, hg⟩ := h2.get k hk
 obtain ⟨p, rfl⟩ := ht.form
 have hat : ∀ j u, j < 7 → (tkC p ts[k].n)[j]? = some u → w.cell? (ad.add (k * 7 + j)) = some u := fun j u hj hu => hc _ u (by rw [hg j hj, hu])
 have hj : ∀ j u, 0 < j → j < 7 → (tkC p ts[k].n)[j]? = some u → w.cell? ⟨(ad.add (k * 7)).block, (ad.add (k * 7)).off + j, none⟩ = some u := fun j u h0 h7 hu => by
  rw [← add_lit _ h0, add_of_add]
  exact hat j u h7 hu
 exact ⟨ad, p, e, hb, ht, hat 0 _ (by omega) rfl, hj 1 _ (by omega) (by omega) rfl, hj 2 _ (by omega) (by omega) rfl, hj 3 _ (by omega) (by omega) rfl, hj 4 _ (by omega) (by omega) rfl, hj 5 _ (by omega) (by omega) rfl, hj 6 _ (by omega) (by omega) rfl⟩
theorem TkT.kids {w : World} {P : Nat → Prop} {n : Css.Node} {kids : List Css.Tree} {p : Option Addr} {c : Int} (h : TkT w P (.mk n kids) (tkC p n)) (ho : Css.opens n.kind = some c) :
  ∃ b A k, p = some ⟨b, 0, none⟩ ∧ P b ∧ w.heap[b]? = some (.cells #[.slice A kids.length k] 66 (0, 0)) ∧ TkL w P A kids := by
 obtain ⟨p', hc, hm⟩ := (show ∃ p', tkC p n = tkC p' n ∧ (match Css.opens n.kind with
   | none => p' = none
   | some _ => ∃ b A k cs, p' = some ⟨b, 0, none⟩ ∧ P b ∧ w.heap[b]? = some (.cells #[.slice A kids.length k] 66 (0, 0)) ∧ SlP w P 7 A kids.length cs.flatten ∧ TkF w P kids cs) from h)
 have hp : p = p' := by simpa [tkC] using hc
 subst hp
 rw [ho] at hm
 obtain ⟨b, A, k, cs, h1, h2, h3, h4, h5⟩ := hm
 exact ⟨b, A, k, h1, h2, h3, cs, h4, h5⟩
theorem TkT.leaf {w : World} {P : Nat → Prop} {n : Css.Node} {kids : List Css.Tree} {p : Option Addr} (h : TkT w P (.mk n kids) (tkC p n)) (ho : Css.opens n.kind = none) : p = none := by
 obtain ⟨p', hc, hm⟩ := (show ∃ p', tkC p n = tkC p' n ∧ (match Css.opens n.kind with
   | none => p' = none
   | some _ => ∃ b A k cs, p' = some ⟨b, 0, none⟩ ∧ P b ∧ w.heap[b]? = some (.cells #[.slice A kids.length k] 66 (0, 0)) ∧ SlP w P 7 A kids.length cs.flatten ∧ TkF w P kids cs) from h)
 have hp : p = p' := by simpa [tkC] using hc
 subst hp
 rw [ho] at hm
 exact hm
end Go.Proofs.YtkfdcbdlcipmfaaGreatFmt
