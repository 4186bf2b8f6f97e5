/- What the reference's small functions on code points answer. No condition. -/
import Derived.Test.YtkfdcbdlcipmfaaGreatFmtProg
import Derived.WalkKit
import Derived.WalkLawsBesides
import Derived.WalkSpells
import Derived.BigQuiet
import Derived.Deep.QuietTactic
import Derived.Outline
import Derived.Test.YtkfdcbdlcipmfaaGreatFmtGA
import Derived.Laws.BitsLemmas
import Derived.Lib.Hide
set_option linter.unusedVariables false
set_option linter.unusedSimpArgs false
namespace Go.Proofs.YtkfdcbdlcipmfaaGreatFmt
open Go.RowKit
theorem ret_bool {a b : Bool} (h : a = b) : Ending.returned (.bool a) = .returned (.bool b) := by rw [h]
theorem ret_int {k : IntKind} {a b : Int} (h : a = b) : Ending.returned (.int k a) = .returned (.int k b) := by rw [h]
set_option maxRecDepth 100000 in
theorem c91 (c : Int) (w : World) : Calls Tryz.prog 91 #[.int .i64 c] w fun e w' => e = .returned (.bool (Css.isNewline c)) ∧ w = w' := by
 go_enter Tryz.func91, Tryz.ntmps91
 go_wp2
 all_goals (go_ret; exact ⟨ret_bool (by first | (simp [Css.isNewline, *]; done) | (rw [Bool.eq_iff_iff]; simp [Css.isNewline]; omega) | (rw [Bool.eq_iff_iff]; simp [Css.isNewline, *]; omega)), rfl⟩)
set_option maxRecDepth 100000 in
theorem c64 (c : Int) (w : World) : Calls Tryz.prog 64 #[.int .i64 c] w fun e w' => e = .returned (.bool (Css.isSpace c)) ∧ w = w' := by
 go_enter Tryz.func64, Tryz.ntmps64
 go_wp2_with (go_at_call 91; refine (c91 _ _).mono ?_; rintro e w' ⟨rfl, rfl⟩)
 all_goals (go_ret; exact ⟨ret_bool (by first | (simp [Css.isSpace, *]; done) | (rw [Bool.eq_iff_iff]; simp [Css.isSpace]; omega) | (rw [Bool.eq_iff_iff]; simp [Css.isSpace, *]; omega)), rfl⟩)
set_option maxRecDepth 100000 in
theorem c90 (c : Int) (w : World) : Calls Tryz.prog 90 #[.int .i64 c] w fun e w' => e = .returned (.bool (Css.isDigit c)) ∧ w = w' := by
 go_enter Tryz.func90, Tryz.ntmps90
 go_wp2
 all_goals (go_ret; exact ⟨ret_bool (by first | (simp [Css.isDigit, *]; done) | (rw [Bool.eq_iff_iff]; simp [Css.isDigit]; omega) | (rw [Bool.eq_iff_iff]; simp [Css.isDigit, *]; omega)), rfl⟩)
set_option maxRecDepth 100000 in
theorem c89 (c : Int) (w : World) : Calls Tryz.prog 89 #[.int .i64 c] w fun e w' => e = .returned (.bool (Css.starts c)) ∧ w = w' := by
 go_enter Tryz.func89, Tryz.ntmps89
 go_wp2
 all_goals (go_ret; exact ⟨ret_bool (by first | (simp [Css.starts, *]; done) | (rw [Bool.eq_iff_iff]; simp [Css.starts]; omega) | (rw [Bool.eq_iff_iff]; simp [Css.starts, *]; omega)), rfl⟩)
set_option maxRecDepth 100000 in
theorem c58 (c : Int) (w : World) : Calls Tryz.prog 58 #[.int .i64 c] w fun e w' => e = .returned (.bool (Css.continues c)) ∧ w = w' := by
 go_enter Tryz.func58, Tryz.ntmps58
 go_wp2_with (first | (go_at_call 89; refine (c89 _ _).mono ?_; rintro e w' ⟨rfl, rfl⟩) | (go_at_call 90; refine (c90 _ _).mono ?_; rintro e w' ⟨rfl, rfl⟩))
 all_goals (go_ret; exact ⟨ret_bool (by first | (simp [Css.continues, *]; done) | (rw [Bool.eq_iff_iff]; simp [Css.continues]; omega) | (rw [Bool.eq_iff_iff]; simp [Css.continues, *]; omega)), rfl⟩)
set_option maxRecDepth 100000 in
theorem c126 (c : Int) (w : World) : Calls Tryz.prog 126 #[.int .i64 c] w fun e w' => e = .returned (.bool (Css.unprintable c)) ∧ w = w' := by
 go_enter Tryz.func126, Tryz.ntmps126
 go_wp2
 all_goals (go_ret; exact ⟨ret_bool (by first | (simp [Css.unprintable, *]; done) | (rw [Bool.eq_iff_iff]; simp [Css.unprintable]; omega) | (rw [Bool.eq_iff_iff]; simp [Css.unprintable, *]; omega)), rfl⟩)
set_option maxRecDepth 100000 in
theorem c62 (a b : Int) (w : World) : Calls Tryz.prog 62 #[.int .i64 a, .int .i64 b] w fun e w' => e = .returned (.bool (Css.escapes a b)) ∧ w = w' := by
 go_enter Tryz.func62, Tryz.ntmps62
 go_wp2_with (go_at_call 91; refine (c91 _ _).mono ?_; rintro e w' ⟨rfl, rfl⟩)
 all_goals (go_ret; exact ⟨ret_bool (by first | (simp [Css.escapes, *]; done) | (rw [Bool.eq_iff_iff]; simp [Css.escapes]; omega) | (rw [Bool.eq_iff_iff]; simp [Css.escapes, *]; omega)), rfl⟩)
theorem hexv_d {c : Int} (h : Css.isDigit c = true) : 48 ≤ c ∧ c ≤ 57 ∧ Css.hexv c = c - 48 := by
 have h' := h
 simp only [Css.isDigit, Bool.and_eq_true, decide_eq_true_eq] at h'
 exact ⟨h'.1, h'.2, by simp [Css.hexv, h]⟩
theorem hexv_a {c : Int} (h1 : 97 ≤ c) (h2 : c ≤ 102) : Css.isDigit c = false ∧ Css.hexv c = c - 97 + 10 := by
 have hd : Css.isDigit c = false := by simp [Css.isDigit]; omega
 exact ⟨hd, by simp [Css.hexv, hd, h1, h2]⟩
theorem hexv_A {c : Int} (h1 : 65 ≤ c) (h2 : c ≤ 70) : Css.isDigit c = false ∧ Css.hexv c = c - 65 + 10 := by
 have hd : Css.isDigit c = false := by simp [Css.isDigit]; omega
 have h3 : ¬ (97 ≤ c) := by omega
 exact ⟨hd, by simp [Css.hexv, hd, h1, h2, h3]⟩
theorem hexv_n {c : Int} (hd : Css.isDigit c = false) (h1 : ¬ (97 ≤ c ∧ c ≤ 102)) (h2 : ¬ (65 ≤ c ∧ c ≤ 70)) : Css.hexv c = -1 := by
 simp [Css.hexv, hd, h1, h2]
set_option maxRecDepth 100000 in
theorem c92 (c : Int) (w : World) : Calls Tryz.prog 92 #[.int .i64 c] w fun e w' => e = .returned (.int .i64 (Css.hexv c)) ∧ w = w' := by
 cases hd : Css.isDigit c with
 | true =>
  obtain ⟨h1, h2, h3⟩ := hexv_d hd
  rw [h3]; clear h3
  go_enter Tryz.func92, Tryz.ntmps92
  go_wp2_with (go_at_call 90; refine (c90 _ _).mono ?_; rintro e w' ⟨rfl, rfl⟩)
  go_ret; exact ⟨rfl, rfl⟩
 | false =>
  by_cases h1 : 97 ≤ c ∧ c ≤ 102
  ·obtain ⟨h1, h2⟩ := h1
   rw [(hexv_a h1 h2).2]
   go_enter Tryz.func92, Tryz.ntmps92
   go_wp2_with (go_at_call 90; refine (c90 _ _).mono ?_; rintro e w' ⟨rfl, rfl⟩)
   go_ret; exact ⟨rfl, rfl⟩
  ·by_cases h2 : 65 ≤ c ∧ c ≤ 70
   ·obtain ⟨h3, h4⟩ := h2
    rw [(hexv_A h3 h4).2]
    have h5 : c < 97 := by omega
    clear h1
    go_enter Tryz.func92, Tryz.ntmps92
    go_wp2_with (go_at_call 90; refine (c90 _ _).mono ?_; rintro e w' ⟨rfl, rfl⟩)
    go_ret; exact ⟨rfl, rfl⟩
   ·rw [hexv_n hd h1 h2]
    go_enter Tryz.func92, Tryz.ntmps92
    go_wp2_with (go_at_call 90; refine (c90 _ _).mono ?_; rintro e w' ⟨rfl, rfl⟩)
    all_goals first | (exfalso; omega) | (go_ret; exact ⟨rfl, rfl⟩)
set_option maxRecDepth 100000 in
theorem c67 (a b c : Int) (w : World) : Calls Tryz.prog 67 #[.int .i64 a, .int .i64 b, .int .i64 c] w fun e w' => e = .returned (.bool (Css.identifies a b c)) ∧ w = w' := by
 by_cases h : a = 45
 ·subst h
  have he : Css.identifies 45 b c = (Css.starts b || b == 45 || Css.escapes b c) := by simp [Css.identifies]
  rw [he]; clear he
  go_enter Tryz.func67, Tryz.ntmps67
  go_wp2_with (first | (go_at_call 89; refine (c89 _ _).mono ?_; rintro e w' ⟨rfl, rfl⟩) | (go_at_call 62; refine (c62 _ _ _).mono ?_; rintro e w' ⟨rfl, rfl⟩))
  all_goals (go_ret; exact ⟨ret_bool (by simp [*]), rfl⟩)
 ·have he : Css.identifies a b c = (Css.starts a || Css.escapes a b) := by simp [Css.identifies, h]
  rw [he]; clear he
  have hb : (a == 45) = false := by simp [h]
  clear h
  go_enter Tryz.func67, Tryz.ntmps67
  go_wp2_with (first | (go_at_call 89; refine (c89 _ _).mono ?_; rintro e w' ⟨rfl, rfl⟩) | (go_at_call 62; refine (c62 _ _ _).mono ?_; rintro e w' ⟨rfl, rfl⟩))
  all_goals (go_ret; exact ⟨ret_bool (by simp [*]), rfl⟩)
set_option maxRecDepth 100000 in
theorem c68 (a b c : Int) (w : World) : Calls Tryz.prog 68 #[.int .i64 a, .int .i64 b, .int .i64 c] w fun e w' => e = .returned (.bool (Css.counts a b c)) ∧ w = w' := by
 by_cases h : a = 43
 ·subst h
  have he : Css.counts 43 b c = (Css.isDigit b || (b == 46 && Css.isDigit c)) := by simp [Css.counts]
  rw [he]; clear he
  go_enter Tryz.func68, Tryz.ntmps68
  go_wp2_with (first | (go_at_call 90; refine (c90 _ _).mono ?_; rintro e w' ⟨rfl, rfl⟩))
  all_goals (go_ret; exact ⟨ret_bool (by first | (simp [*]; done) | simp [*, show Css.isDigit 46 = false from rfl]), rfl⟩)
 ·have hb : (a == 43) = false := by simp [h]
  by_cases h2 : a = 45
  ·subst h2
   have he : Css.counts 45 b c = (Css.isDigit b || (b == 46 && Css.isDigit c)) := by simp [Css.counts]
   rw [he]; clear he
   go_enter Tryz.func68, Tryz.ntmps68
   go_wp2_with (first | (go_at_call 90; refine (c90 _ _).mono ?_; rintro e w' ⟨rfl, rfl⟩))
   all_goals (go_ret; exact ⟨ret_bool (by first | (simp [*]; done) | simp [*, show Css.isDigit 46 = false from rfl]), rfl⟩)
  ·have hb2 : (a == 45) = false := by simp [h2]
   have he : Css.counts a b c = (Css.isDigit a || (a == 46 && Css.isDigit b)) := by simp [Css.counts, h, h2]
   rw [he]; clear he h h2
   go_enter Tryz.func68, Tryz.ntmps68
   go_wp2_with (first | (go_at_call 90; refine (c90 _ _).mono ?_; rintro e w' ⟨rfl, rfl⟩))
   all_goals (go_ret; exact ⟨ret_bool (by first | (simp [*]; done) | simp [*, show Css.isDigit 46 = false from rfl]), rfl⟩)
end Go.Proofs.YtkfdcbdlcipmfaaGreatFmt
/- What the reference's runeAt answers: the code point at a place of a text, and how many bytes it has. The place lies in the text. -/
namespace Go.Proofs.YtkfdcbdlcipmfaaGreatFmt
open Go.RowKit
def bt (s : ByteArray) (i : Nat) : Int := if h : i < s.size then ((s[i]'h).toNat : Int) else 0
theorem bt_at (s : ByteArray) (i : Nat) : ∀ h : i < s.size, ((s[i]'h).toNat : Int) = bt s i := fun h => by simp [bt, h]
theorem bt_lo (s : ByteArray) (i : Nat) : 0 ≤ bt s i := by unfold bt; split <;> omega
theorem bt_hi (s : ByteArray) (i : Nat) : bt s i ≤ 255 := by
 unfold bt; split
 ·rename_i h; have := (s[i]'h).toNat_lt; omega
 ·omega
def sfx (s : ByteArray) (i : Nat) : List UInt8 := s.data.toList.drop i
theorem sfx_cons (s : ByteArray) (i : Nat) (h : i < s.size) : sfx s i = s[i] :: sfx s (i + 1) := by
 unfold sfx
 rw [List.drop_eq_getElem_cons (by simpa using h)]; rfl
theorem sfx_nil (s : ByteArray) (i : Nat) (h : s.size ≤ i) : sfx s i = [] := by
 unfold sfx
 exact List.drop_eq_nil_of_le (by simpa using h)
theorem bt_nat (s : ByteArray) (i : Nat) (h : i < s.size) : (s[i]'h).toNat = (bt s i).toNat := by
 have := bt_at s i h; omega
theorem wrapsI (n : Int) (h0 : 0 ≤ n) (h1 : n < 2 ^ 62) : IntKind.i64.wrap n = n := by rw [IntKind.wrap_i64]; omega
theorem i64_and31 {x : Int} (h0 : 0 ≤ x) (h1 : x ≤ 255) : bits .and .i64 x 31 = x % 32 := bits_mask .i64 62 (by decide) wrapsI 5 (by decide) x h0 (by omega)
theorem i64_and15 {x : Int} (h0 : 0 ≤ x) (h1 : x ≤ 255) : bits .and .i64 x 15 = x % 16 := bits_mask .i64 62 (by decide) wrapsI 4 (by decide) x h0 (by omega)
theorem i64_and7 {x : Int} (h0 : 0 ≤ x) (h1 : x ≤ 255) : bits .and .i64 x 7 = x % 8 := bits_mask .i64 62 (by decide) wrapsI 3 (by decide) x h0 (by omega)
theorem u8_and192 : ∀ x : Int, 0 ≤ x → x ≤ 255 → bits .and .u8 x 192 = x / 64 * 64 := by
 intro x h0 h1
 obtain ⟨n, rfl⟩ := Int.eq_ofNat_of_zero_le h0
 have hn : n < 256 := by omega
 have : ∀ m : Fin 256, bits .and .u8 ((m.val : Nat) : Int) 192 = ((m.val : Nat) : Int) / 64 * 64 := by decide +kernel
 exact this ⟨n, hn⟩
theorem i64_or6 {x y : Int} (h0 : 0 ≤ x) (h1 : x < 16777216) (h2 : 0 ≤ y) (h3 : y < 64) : bits .or .i64 (x * 64) y = x * 64 + y :=
 bits_join .i64 62 (by decide) wrapsI 6 (x * 64) y (by omega) (by omega) (by omega) (by omega) (by omega) (by omega)
theorem ext_step {n acc : Nat} {r : List UInt8} {b : UInt8} (h : b.toNat / 64 = 2) : Css.ext (n + 1) acc (b :: r) = Css.ext n (acc * 64 + b.toNat % 64) r := by
 simp [Css.ext, h]
theorem ext_stop {n acc : Nat} {r : List UInt8} {b : UInt8} (h : b.toNat / 64 ≠ 2) : Css.ext (n + 1) acc (b :: r) = none := by
 simp [Css.ext, h]
set_option maxRecDepth 100000 in
set_option maxHeartbeats 1000000 in
theorem c52_two (s : ByteArray) (k : Nat) (w : World) (hs : s.size ≤ 1152921504606846976) (hk : k < s.size) (hlo : 194 ≤ bt s k) (hhi : bt s k < 224) :
  Calls Tryz.prog 52 #[.string s, .int .i64 k] w fun e w' => e = .returned (.tuple #[.int .i64 (Css.finRune 2 128 (Css.ext 1 ((bt s k).toNat % 32) (sfx s (k + 1)))).1, .int .i64 ((Css.finRune 2 128 (Css.ext 1 ((bt s k).toNat % 32) (sfx s (k + 1)))).2 : Nat)]) ∧ w = w' := by
 have hb := bt_at s k
 have hb0 := bt_lo s k
 have hb1 := bt_hi s k
 have hand := i64_and31 hb0 hb1
 generalize bt s k = b at hb hb0 hb1 hlo hhi hand ⊢
 have hm : 0 ≤ b % 32 := by omega
 obtain ⟨a0, ha0⟩ : ∃ a0 : Nat, b % 32 = (a0 : Int) := ⟨(b % 32).toNat, by omega⟩
 have ha1 : b.toNat % 32 = a0 := by omega
 have ha2 : a0 < 64 := by omega
 rw [ha1]; clear ha1 hm
 rw [ha0] at hand; clear ha0
 generalize hE : Css.ext 1 a0 (sfx s (k + 1)) = E
 have HE := Lib.hid hE; clear hE
 have hzk : decide (s.size ≤ k) = false := by simp; omega
 have hb128 : decide (b < 128) = false := by simp; omega
 go_enter Tryz.func52, Tryz.ntmps52
 go_wp2
 clear hb hb0 hb1 hlo hhi hand
 go_loop [6, 9] (fun v6 v9 => ∃ i acc : Nat, v6 = .int .i64 acc ∧ v9 = .int .i64 i ∧ 1 ≤ i ∧ i ≤ 2 ∧ acc < 64 ^ i ∧ Hid (Css.ext (2 - i) acc (sfx s (k + i)) = E)) (fun _ v9 => 2 - (intOf v9).toNat)
 case atStart => exact ⟨1, a0, rfl, rfl, by omega, by omega, by simpa using ha2, HE⟩
 case round =>
  clear HE ha2
  obtain ⟨i, acc, rfl, rfl, hi1, hi2, hacc, HX⟩ := hrel
  have hp : 64 ^ i ≤ 16777216 := Nat.le_trans (Nat.pow_le_pow_right (by omega) (show i ≤ 4 by omega)) (by decide)
  have hacc4 : acc < 16777216 := by omega
  have HA := Lib.hid hacc; clear hacc hp
  by_cases hin : i < 2
  ·have hdi : decide (i < 2) = true := by simpa using hin
   by_cases hsz : k + i < s.size
   ·have hb := bt_at s (k + i)
    have hb0 := bt_lo s (k + i)
    have hb1 := bt_hi s (k + i)
    have hbn := Lib.hid (bt_nat s (k + i) hsz)
    have hcons := Lib.hid (sfx_cons s (k + i) hsz)
    generalize bt s (k + i) = c at hb hb0 hb1 hbn
    by_cases hc : c / 64 = 2
    ·have hand := u8_and192 c hb0 hb1
     rw [hc] at hand
     have h63 := u8_and63 c hb0 (show c < 256 by omega)
     have hor := i64_or6 (x := (acc : Int)) (y := c % 64) (by omega) (by omega) (by omega) (by omega)
     have hm0 : 0 ≤ c % 64 := by omega
     have hm1 : c % 64 ≤ 63 := by omega
     have HC := Lib.hid hc
     clear hc
     have hz : (k : Int) + i < s.size := by omega
     go_wp2
     go_round
     case rel =>
      refine ⟨i + 1, acc * 64 + (c % 64).toNat, by first | rfl | (congr 1; omega), by first | rfl | (congr 1; omega), by omega, by omega, ?_, ?_⟩
      ·have := HA.out; rw [Nat.pow_succ]; omega
      ·have h1 := HX.out
       rw [hcons.out, show 2 - i = (2 - (i + 1)) + 1 by omega, ext_step (by rw [hbn.out]; have := HC.out; omega)] at h1
       rw [← Nat.add_assoc, show (c % 64).toNat = (s[k + i]).toNat % 64 by rw [hbn.out]; omega]
       exact h1
     case measure => simp [intOf]; omega
    ·have hand := u8_and192 c hb0 hb1
     have hne : (c / 64 * 64 != 128) = true := by simp; omega
     have HC := Lib.hid hc
     clear hc
     have hz : (k : Int) + i < s.size := by omega
     go_wp2
     go_ret2
     have h1 := HX.out
     rw [hcons.out, show 2 - i = (2 - (i + 1)) + 1 by omega, ext_stop (by rw [hbn.out]; have := HC.out; omega)] at h1
     rw [← h1]
     exact ⟨rfl, rfl⟩
   ·have hz2 : (s.size : Int) ≤ k + i := by omega
    go_wp2
    go_ret2
    have h1 := HX.out
    rw [sfx_nil s (k + i) (by omega), show 2 - i = (2 - (i + 1)) + 1 by omega] at h1
    rw [← h1]
    exact ⟨rfl, rfl⟩
  ·obtain rfl : i = 2 := by omega
   have h1 := HX.out
   simp only [Nat.sub_self, Css.ext] at h1
   clear HX HA
   by_cases hok : Css.okRune 128 acc = true
   ·have hE := Lib.hid (show Css.finRune 2 128 E = ((acc : Int), 2) by rw [← h1]; simp [Css.finRune, hok])
    simp only [Css.okRune, Bool.and_eq_true, decide_eq_true_eq, Bool.not_eq_true', Bool.and_eq_false_iff, decide_eq_false_iff_not] at hok
    obtain ⟨⟨ho1, ho2⟩, ho3⟩ := hok
    clear h1
    by_cases h5 : 55296 ≤ acc
    ·have h6 : ¬ acc < 57344 := by omega
     clear ho3
     go_wp2
     all_goals first | (exfalso; omega) | (go_ret2; rw [hE.out]; exact ⟨rfl, rfl⟩)
    ·clear ho3
     go_wp2
     all_goals first | (exfalso; omega) | (go_ret2; rw [hE.out]; exact ⟨rfl, rfl⟩)
   ·have hE := Lib.hid (show Css.finRune 2 128 E = (-2, 1) by rw [← h1]; simp [Css.finRune, hok])
    simp only [Css.okRune, Bool.and_eq_true, decide_eq_true_eq, Bool.not_eq_true', Bool.and_eq_false_iff, decide_eq_false_iff_not] at hok
    clear h1
    by_cases h2 : acc < 128
    ·clear hok
     go_wp2
     all_goals first | (exfalso; omega) | (go_ret2; rw [hE.out]; exact ⟨rfl, rfl⟩)
    ·by_cases h3 : 1114111 < acc
     ·clear hok
      go_wp2
      all_goals first | (exfalso; omega) | (go_ret2; rw [hE.out]; exact ⟨rfl, rfl⟩)
     ·have h4 : 55296 ≤ acc := by omega
      have h5 : acc < 57344 := by omega
      clear hok
      go_wp2
      all_goals first | (exfalso; omega) | (go_ret2; rw [hE.out]; exact ⟨rfl, rfl⟩)
set_option maxRecDepth 100000 in
set_option maxHeartbeats 1000000 in
theorem c52_three (s : ByteArray) (k : Nat) (w : World) (hs : s.size ≤ 1152921504606846976) (hk : k < s.size) (hlo : 224 ≤ bt s k) (hhi : bt s k < 240) :
  Calls Tryz.prog 52 #[.string s, .int .i64 k] w fun e w' => e = .returned (.tuple #[.int .i64 (Css.finRune 3 2048 (Css.ext 2 ((bt s k).toNat % 16) (sfx s (k + 1)))).1, .int .i64 ((Css.finRune 3 2048 (Css.ext 2 ((bt s k).toNat % 16) (sfx s (k + 1)))).2 : Nat)]) ∧ w = w' := by
 have hb := bt_at s k
 have hb0 := bt_lo s k
 have hb1 := bt_hi s k
 have hand := i64_and15 hb0 hb1
 generalize bt s k = b at hb hb0 hb1 hlo hhi hand ⊢
 have hd0 : decide (194 ≤ b) = true := by simp; omega
 have hd1 : decide (b < 224) = false := by simp; omega
 have hm : 0 ≤ b % 16 := by omega
 obtain ⟨a0, ha0⟩ : ∃ a0 : Nat, b % 16 = (a0 : Int) := ⟨(b % 16).toNat, by omega⟩
 have ha1 : b.toNat % 16 = a0 := by omega
 have ha2 : a0 < 64 := by omega
 rw [ha1]; clear ha1 hm
 rw [ha0] at hand; clear ha0
 generalize hE : Css.ext 2 a0 (sfx s (k + 1)) = E
 have HE := Lib.hid hE; clear hE
 have hzk : decide (s.size ≤ k) = false := by simp; omega
 have hb128 : decide (b < 128) = false := by simp; omega
 go_enter Tryz.func52, Tryz.ntmps52
 go_wp2
 clear hb hb0 hb1 hlo hhi hand
 go_loop [6, 9] (fun v6 v9 => ∃ i acc : Nat, v6 = .int .i64 acc ∧ v9 = .int .i64 i ∧ 1 ≤ i ∧ i ≤ 3 ∧ acc < 64 ^ i ∧ Hid (Css.ext (3 - i) acc (sfx s (k + i)) = E)) (fun _ v9 => 3 - (intOf v9).toNat)
 case atStart => exact ⟨1, a0, rfl, rfl, by omega, by omega, by simpa using ha2, HE⟩
 case round =>
  clear HE ha2
  obtain ⟨i, acc, rfl, rfl, hi1, hi2, hacc, HX⟩ := hrel
  have hp : 64 ^ i ≤ 16777216 := Nat.le_trans (Nat.pow_le_pow_right (by omega) (show i ≤ 4 by omega)) (by decide)
  have hacc4 : acc < 16777216 := by omega
  have HA := Lib.hid hacc; clear hacc hp
  by_cases hin : i < 3
  ·have hdi : decide (i < 3) = true := by simpa using hin
   by_cases hsz : k + i < s.size
   ·have hb := bt_at s (k + i)
    have hb0 := bt_lo s (k + i)
    have hb1 := bt_hi s (k + i)
    have hbn := Lib.hid (bt_nat s (k + i) hsz)
    have hcons := Lib.hid (sfx_cons s (k + i) hsz)
    generalize bt s (k + i) = c at hb hb0 hb1 hbn
    by_cases hc : c / 64 = 2
    ·have hand := u8_and192 c hb0 hb1
     rw [hc] at hand
     have h63 := u8_and63 c hb0 (show c < 256 by omega)
     have hor := i64_or6 (x := (acc : Int)) (y := c % 64) (by omega) (by omega) (by omega) (by omega)
     have hm0 : 0 ≤ c % 64 := by omega
     have hm1 : c % 64 ≤ 63 := by omega
     have HC := Lib.hid hc
     clear hc
     have hz : (k : Int) + i < s.size := by omega
     go_wp2
     go_round
     case rel =>
      refine ⟨i + 1, acc * 64 + (c % 64).toNat, by first | rfl | (congr 1; omega), by first | rfl | (congr 1; omega), by omega, by omega, ?_, ?_⟩
      ·have := HA.out; rw [Nat.pow_succ]; omega
      ·have h1 := HX.out
       rw [hcons.out, show 3 - i = (3 - (i + 1)) + 1 by omega, ext_step (by rw [hbn.out]; have := HC.out; omega)] at h1
       rw [← Nat.add_assoc, show (c % 64).toNat = (s[k + i]).toNat % 64 by rw [hbn.out]; omega]
       exact h1
     case measure => simp [intOf]; omega
    ·have hand := u8_and192 c hb0 hb1
     have hne : (c / 64 * 64 != 128) = true := by simp; omega
     have HC := Lib.hid hc
     clear hc
     have hz : (k : Int) + i < s.size := by omega
     go_wp2
     go_ret2
     have h1 := HX.out
     rw [hcons.out, show 3 - i = (3 - (i + 1)) + 1 by omega, ext_stop (by rw [hbn.out]; have := HC.out; omega)] at h1
     rw [← h1]
     exact ⟨rfl, rfl⟩
   ·have hz2 : (s.size : Int) ≤ k + i := by omega
    go_wp2
    go_ret2
    have h1 := HX.out
    rw [sfx_nil s (k + i) (by omega), show 3 - i = (3 - (i + 1)) + 1 by omega] at h1
    rw [← h1]
    exact ⟨rfl, rfl⟩
  ·obtain rfl : i = 3 := by omega
   have h1 := HX.out
   simp only [Nat.sub_self, Css.ext] at h1
   clear HX HA
   by_cases hok : Css.okRune 2048 acc = true
   ·have hE := Lib.hid (show Css.finRune 3 2048 E = ((acc : Int), 3) by rw [← h1]; simp [Css.finRune, hok])
    simp only [Css.okRune, Bool.and_eq_true, decide_eq_true_eq, Bool.not_eq_true', Bool.and_eq_false_iff, decide_eq_false_iff_not] at hok
    obtain ⟨⟨ho1, ho2⟩, ho3⟩ := hok
    clear h1
    by_cases h5 : 55296 ≤ acc
    ·have h6 : ¬ acc < 57344 := by omega
     clear ho3
     go_wp2
     all_goals first | (exfalso; omega) | (go_ret2; rw [hE.out]; exact ⟨rfl, rfl⟩)
    ·clear ho3
     go_wp2
     all_goals first | (exfalso; omega) | (go_ret2; rw [hE.out]; exact ⟨rfl, rfl⟩)
   ·have hE := Lib.hid (show Css.finRune 3 2048 E = (-2, 1) by rw [← h1]; simp [Css.finRune, hok])
    simp only [Css.okRune, Bool.and_eq_true, decide_eq_true_eq, Bool.not_eq_true', Bool.and_eq_false_iff, decide_eq_false_iff_not] at hok
    clear h1
    by_cases h2 : acc < 2048
    ·clear hok
     go_wp2
     all_goals first | (exfalso; omega) | (go_ret2; rw [hE.out]; exact ⟨rfl, rfl⟩)
    ·by_cases h3 : 1114111 < acc
     ·clear hok
      go_wp2
      all_goals first | (exfalso; omega) | (go_ret2; rw [hE.out]; exact ⟨rfl, rfl⟩)
     ·have h4 : 55296 ≤ acc := by omega
      have h5 : acc < 57344 := by omega
      clear hok
      go_wp2
      all_goals first | (exfalso; omega) | (go_ret2; rw [hE.out]; exact ⟨rfl, rfl⟩)
set_option maxRecDepth 100000 in
set_option maxHeartbeats 1000000 in
theorem c52_four (s : ByteArray) (k : Nat) (w : World) (hs : s.size ≤ 1152921504606846976) (hk : k < s.size) (hlo : 240 ≤ bt s k) (hhi : bt s k < 245) :
  Calls Tryz.prog 52 #[.string s, .int .i64 k] w fun e w' => e = .returned (.tuple #[.int .i64 (Css.finRune 4 65536 (Css.ext 3 ((bt s k).toNat % 8) (sfx s (k + 1)))).1, .int .i64 ((Css.finRune 4 65536 (Css.ext 3 ((bt s k).toNat % 8) (sfx s (k + 1)))).2 : Nat)]) ∧ w = w' := by
 have hb := bt_at s k
 have hb0 := bt_lo s k
 have hb1 := bt_hi s k
 have hand := i64_and7 hb0 hb1
 generalize bt s k = b at hb hb0 hb1 hlo hhi hand ⊢
 have hd0 : decide (194 ≤ b) = true := by simp; omega
 have hd3 : decide (224 ≤ b) = true := by simp; omega
 have hd1 : decide (b < 224) = false := by simp; omega
 have hd2 : decide (b < 240) = false := by simp; omega
 have hm : 0 ≤ b % 8 := by omega
 obtain ⟨a0, ha0⟩ : ∃ a0 : Nat, b % 8 = (a0 : Int) := ⟨(b % 8).toNat, by omega⟩
 have ha1 : b.toNat % 8 = a0 := by omega
 have ha2 : a0 < 64 := by omega
 rw [ha1]; clear ha1 hm
 rw [ha0] at hand; clear ha0
 generalize hE : Css.ext 3 a0 (sfx s (k + 1)) = E
 have HE := Lib.hid hE; clear hE
 have hzk : decide (s.size ≤ k) = false := by simp; omega
 have hb128 : decide (b < 128) = false := by simp; omega
 go_enter Tryz.func52, Tryz.ntmps52
 go_wp2
 clear hb hb0 hb1 hlo hhi hand
 go_loop [6, 9] (fun v6 v9 => ∃ i acc : Nat, v6 = .int .i64 acc ∧ v9 = .int .i64 i ∧ 1 ≤ i ∧ i ≤ 4 ∧ acc < 64 ^ i ∧ Hid (Css.ext (4 - i) acc (sfx s (k + i)) = E)) (fun _ v9 => 4 - (intOf v9).toNat)
 case atStart => exact ⟨1, a0, rfl, rfl, by omega, by omega, by simpa using ha2, HE⟩
 case round =>
  clear HE ha2
  obtain ⟨i, acc, rfl, rfl, hi1, hi2, hacc, HX⟩ := hrel
  have hp : 64 ^ i ≤ 16777216 := Nat.le_trans (Nat.pow_le_pow_right (by omega) (show i ≤ 4 by omega)) (by decide)
  have hacc4 : acc < 16777216 := by omega
  have HA := Lib.hid hacc; clear hacc hp
  by_cases hin : i < 4
  ·have hdi : decide (i < 4) = true := by simpa using hin
   by_cases hsz : k + i < s.size
   ·have hb := bt_at s (k + i)
    have hb0 := bt_lo s (k + i)
    have hb1 := bt_hi s (k + i)
    have hbn := Lib.hid (bt_nat s (k + i) hsz)
    have hcons := Lib.hid (sfx_cons s (k + i) hsz)
    generalize bt s (k + i) = c at hb hb0 hb1 hbn
    by_cases hc : c / 64 = 2
    ·have hand := u8_and192 c hb0 hb1
     rw [hc] at hand
     have h63 := u8_and63 c hb0 (show c < 256 by omega)
     have hor := i64_or6 (x := (acc : Int)) (y := c % 64) (by omega) (by omega) (by omega) (by omega)
     have hm0 : 0 ≤ c % 64 := by omega
     have hm1 : c % 64 ≤ 63 := by omega
     have HC := Lib.hid hc
     clear hc
     have hz : (k : Int) + i < s.size := by omega
     go_wp2
     go_round
     case rel =>
      refine ⟨i + 1, acc * 64 + (c % 64).toNat, by first | rfl | (congr 1; omega), by first | rfl | (congr 1; omega), by omega, by omega, ?_, ?_⟩
      ·have := HA.out; rw [Nat.pow_succ]; omega
      ·have h1 := HX.out
       rw [hcons.out, show 4 - i = (4 - (i + 1)) + 1 by omega, ext_step (by rw [hbn.out]; have := HC.out; omega)] at h1
       rw [← Nat.add_assoc, show (c % 64).toNat = (s[k + i]).toNat % 64 by rw [hbn.out]; omega]
       exact h1
     case measure => simp [intOf]; omega
    ·have hand := u8_and192 c hb0 hb1
     have hne : (c / 64 * 64 != 128) = true := by simp; omega
     have HC := Lib.hid hc
     clear hc
     have hz : (k : Int) + i < s.size := by omega
     go_wp2
     go_ret2
     have h1 := HX.out
     rw [hcons.out, show 4 - i = (4 - (i + 1)) + 1 by omega, ext_stop (by rw [hbn.out]; have := HC.out; omega)] at h1
     rw [← h1]
     exact ⟨rfl, rfl⟩
   ·have hz2 : (s.size : Int) ≤ k + i := by omega
    go_wp2
    go_ret2
    have h1 := HX.out
    rw [sfx_nil s (k + i) (by omega), show 4 - i = (4 - (i + 1)) + 1 by omega] at h1
    rw [← h1]
    exact ⟨rfl, rfl⟩
  ·obtain rfl : i = 4 := by omega
   have h1 := HX.out
   simp only [Nat.sub_self, Css.ext] at h1
   clear HX HA
   by_cases hok : Css.okRune 65536 acc = true
   ·have hE := Lib.hid (show Css.finRune 4 65536 E = ((acc : Int), 4) by rw [← h1]; simp [Css.finRune, hok])
    simp only [Css.okRune, Bool.and_eq_true, decide_eq_true_eq, Bool.not_eq_true', Bool.and_eq_false_iff, decide_eq_false_iff_not] at hok
    obtain ⟨⟨ho1, ho2⟩, ho3⟩ := hok
    clear h1
    by_cases h5 : 55296 ≤ acc
    ·have h6 : ¬ acc < 57344 := by omega
     clear ho3
     go_wp2
     all_goals first | (exfalso; omega) | (go_ret2; rw [hE.out]; exact ⟨rfl, rfl⟩)
    ·clear ho3
     go_wp2
     all_goals first | (exfalso; omega) | (go_ret2; rw [hE.out]; exact ⟨rfl, rfl⟩)
   ·have hE := Lib.hid (show Css.finRune 4 65536 E = (-2, 1) by rw [← h1]; simp [Css.finRune, hok])
    simp only [Css.okRune, Bool.and_eq_true, decide_eq_true_eq, Bool.not_eq_true', Bool.and_eq_false_iff, decide_eq_false_iff_not] at hok
    clear h1
    by_cases h2 : acc < 65536
    ·clear hok
     go_wp2
     all_goals first | (exfalso; omega) | (go_ret2; rw [hE.out]; exact ⟨rfl, rfl⟩)
    ·by_cases h3 : 1114111 < acc
     ·clear hok
      go_wp2
      all_goals first | (exfalso; omega) | (go_ret2; rw [hE.out]; exact ⟨rfl, rfl⟩)
     ·have h4 : 55296 ≤ acc := by omega
      have h5 : acc < 57344 := by omega
      clear hok
      go_wp2
      all_goals first | (exfalso; omega) | (go_ret2; rw [hE.out]; exact ⟨rfl, rfl⟩)
set_option maxRecDepth 100000 in
theorem c52_end (s : ByteArray) (k : Nat) (w : World) (hs : s.size ≤ 1152921504606846976) (hk : s.size ≤ k) :
  Calls Tryz.prog 52 #[.string s, .int .i64 k] w fun e w' => e = .returned (.tuple #[.int .i64 (-1), .int .i64 0]) ∧ w = w' := by
 go_enter Tryz.func52, Tryz.ntmps52
 go_wp2
 go_ret2
 exact ⟨rfl, rfl⟩
set_option maxRecDepth 100000 in
theorem c52_one (s : ByteArray) (k : Nat) (w : World) (hs : s.size ≤ 1152921504606846976) (hk : k < s.size) (hhi : bt s k < 128) :
  Calls Tryz.prog 52 #[.string s, .int .i64 k] w fun e w' => e = .returned (.tuple #[.int .i64 (bt s k), .int .i64 1]) ∧ w = w' := by
 have hb := bt_at s k
 have hb0 := bt_lo s k
 generalize bt s k = b at hb hb0 hhi ⊢
 go_enter Tryz.func52, Tryz.ntmps52
 go_wp2
 go_ret2
 exact ⟨rfl, rfl⟩
set_option maxRecDepth 100000 in
theorem c52_bad (s : ByteArray) (k : Nat) (w : World) (hs : s.size ≤ 1152921504606846976) (hk : k < s.size) (hlo : 128 ≤ bt s k) (hh : bt s k < 194 ∨ 245 ≤ bt s k) :
  Calls Tryz.prog 52 #[.string s, .int .i64 k] w fun e w' => e = .returned (.tuple #[.int .i64 (-2), .int .i64 1]) ∧ w = w' := by
 have hb := bt_at s k
 have hb1 := bt_hi s k
 generalize bt s k = b at hb hb1 hlo hh ⊢
 rcases hh with hh | hh
 ·go_enter Tryz.func52, Tryz.ntmps52
  go_wp2
  go_ret2
  exact ⟨rfl, rfl⟩
 ·have hd0 : decide (b < 224) = false := by simp; omega
  have hd1 : decide (b < 240) = false := by simp; omega
  go_enter Tryz.func52, Tryz.ntmps52
  go_wp2
  go_ret2
  exact ⟨rfl, rfl⟩
theorem c52 (s : ByteArray) (k : Nat) (w : World) (hs : s.size ≤ 1152921504606846976) :
  Calls Tryz.prog 52 #[.string s, .int .i64 k] w fun e w' => e = .returned (.tuple #[.int .i64 (Css.rune (sfx s k)).1, .int .i64 ((Css.rune (sfx s k)).2 : Nat)]) ∧ w = w' := by
 by_cases hk : k < s.size
 ·have hn := bt_nat s k hk
  have h0 := bt_lo s k
  have h1 := bt_hi s k
  rw [sfx_cons s k hk]
  simp only [Css.rune, hn]
  by_cases a1 : bt s k < 128
  ·rw [if_pos (by omega)]
   simp only [Int.toNat_of_nonneg h0]
   exact c52_one s k w hs hk a1
  rw [if_neg (by omega)]
  by_cases a2 : 194 ≤ bt s k ∧ bt s k < 224
  ·rw [if_pos (by omega)]; exact c52_two s k w hs hk a2.1 a2.2
  rw [if_neg (by omega)]
  by_cases a3 : 224 ≤ bt s k ∧ bt s k < 240
  ·rw [if_pos (by omega)]; exact c52_three s k w hs hk a3.1 a3.2
  rw [if_neg (by omega)]
  by_cases a4 : 240 ≤ bt s k ∧ bt s k < 245
  ·rw [if_pos (by omega)]; exact c52_four s k w hs hk a4.1 a4.2
  rw [if_neg (by omega)]
  exact c52_bad s k w hs hk (by omega) (by omega)
 ·rw [sfx_nil s k (by omega)]
  exact c52_end s k w hs (by omega)
end Go.Proofs.YtkfdcbdlcipmfaaGreatFmt
