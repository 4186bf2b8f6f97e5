/- What the reference's encoded answers: the bytes of a code point. -/
import Derived.Test.YtkfdcbdlcipmfaaGreatFmtProg
import Derived.WalkKit
import Derived.WalkLawsBesides
import Derived.WalkSpells
import Derived.BigQuiet
import Derived.Deep.QuietTactic
import Derived.Outline
import Derived.Laws.BitsLemmas
import Derived.Lib.Hide
import Derived.OneCell
import Derived.Deep.Draws
import Derived.Deep.LoopGhost
import Derived.Laws.BytesArg
import Derived.Test.YtkfdcbdlcipmfaaGreatFmtGD
set_option linter.unusedVariables false
set_option linter.unusedSimpArgs false
namespace Go.Proofs.YtkfdcbdlcipmfaaGreatFmt
open Go.RowKit
theorem und117 : Tryz.prog.underlying 117 = some (.slice 5) := by kernel_rfl
theorem und5 : Tryz.prog.underlying 5 = some (.int .u8) := by kernel_rfl
theorem und9 : Tryz.prog.underlying 9 = some .string := by kernel_rfl
theorem i64_and63 {x : Int} (h0 : 0 ≤ x) (h1 : x < 2 ^ 62) : bits .and .i64 x 63 = x % 64 := bits_mask .i64 62 (by decide) wrapsI 6 (by decide) x h0 h1
theorem i64_orlow {a y : Int} (i : Nat) (ha : 0 ≤ a) (h1 : a < 256) (hm : a % (2 ^ i : Nat) = 0) (hi : i ≤ 6) (h2 : 0 ≤ y) (h3 : y < (2 ^ i : Nat)) : bits .or .i64 a y = a + y := by
 have : ((2 ^ i : Nat) : Int) ≤ 64 := by
  have := Nat.pow_le_pow_right (show 0 < 2 by omega) hi
  have h : (2 ^ i : Nat) ≤ 64 := by simpa using this
  exact_mod_cast h
 exact bits_join .i64 62 (by decide) wrapsI i a y ha (by exact_mod_cast hm) (by omega) h2 (by exact_mod_cast h3) (by omega)
theorem u8w {x : Int} (h0 : 0 ≤ x) (h1 : x < 256) : IntKind.u8.wrap x = x := by rw [IntKind.wrap_u8]; omega
theorem cells_conv (w : World) (xs : List Int) (t : TypeId) (dst : TypeId) (hd : Tryz.prog.underlying dst = some .string) (W : World) (g : Nat) (hb : W.heap[g]? = some (.cells (xs.map (Value.int .u8)).toArray t (0, 0))) :
  (convert 117 dst (.slice (some ⟨g, 0, none⟩) xs.length xs.length)).run Tryz.prog W = .ok (.string (strOfNums xs)) W :=
 run_convert_bytes_arg W 117 5 und117 und5 g 0 xs.length xs.length xs rfl (fun i hi => by
  have : (xs.map (Value.int .u8)).toArray[0 + i]? = some (.int .u8 (xs.getD i 0)) := by
   simp [hi]
  exact cell_blk hb this) dst hd
theorem new_blk (w : World) (o : Obj) : (w.alloc o).heap[w.heap.size]? = some o := by
 show (w.heap.push o)[w.heap.size]? = _
 simp
set_option maxRecDepth 100000 in
set_option maxHeartbeats 400000 in
theorem c60_one (c : Int) (w : World) (h0 : -2 ≤ c) (h1 : c < 128) : Calls Tryz.prog 60 #[.int .i64 c] w fun e w' => e = .returned (.string ⟨(Css.enc1 c).toArray⟩) ∧ w.grownBy w' none := by
 have hfin : Css.enc1 c = ([c % 256] : List Int).map fun n => UInt8.ofNat n.toNat := by
  unfold Css.enc1; rw [if_pos (by omega)]; simp [Css.byte]
 have HF := Lib.hid hfin
 clear hfin
 have hcv : (convert 117 9 (.slice (some ⟨w.heap.size, 0, none⟩) 1 1)).run Tryz.prog (w.alloc (.cells #[.int .u8 (c % 256)] 5)) = .ok (.string (strOfNums [c % 256])) (w.alloc (.cells #[.int .u8 (c % 256)] 5)) := cells_conv w [c % 256] 5 9 und9 (w.alloc (.cells #[.int .u8 (c % 256)] 5)) w.heap.size (new_blk _ _)
 have hu : IntKind.u8.wrap c = c % 256 := IntKind.wrap_u8 c
 go_enter Tryz.func60, Tryz.ntmps60
 go_wp2
 go_ret
 exact ⟨by rw [HF.out]; rfl, grown_alloc (grown_refl _ _) _⟩
set_option maxRecDepth 100000 in
set_option maxHeartbeats 400000 in
theorem c60_two (c : Int) (w : World) (h0 : 128 ≤ c) (h1 : c < 2048) : Calls Tryz.prog 60 #[.int .i64 c] w fun e w' => e = .returned (.string ⟨(Css.enc1 c).toArray⟩) ∧ w.grownBy w' none := by
 have hfin : Css.enc1 c = ([192 + c / 64, 128 + c % 64] : List Int).map fun n => UInt8.ofNat n.toNat := by
  unfold Css.enc1; rw [if_neg (by omega), if_pos (by omega)]; simp [Css.byte]; refine ⟨?_, ?_⟩ <;> (congr 1; omega)
 have HF := Lib.hid hfin
 clear hfin
 have hcv : (convert 117 9 (.slice (some ⟨w.heap.size, 0, none⟩) 2 2)).run Tryz.prog (w.alloc (.cells #[.int .u8 (192 + c / 64), .int .u8 (128 + c % 64)] 5)) = .ok (.string (strOfNums [192 + c / 64, 128 + c % 64])) (w.alloc (.cells #[.int .u8 (192 + c / 64), .int .u8 (128 + c % 64)] 5)) := cells_conv w [192 + c / 64, 128 + c % 64] 5 9 und9 (w.alloc (.cells #[.int .u8 (192 + c / 64), .int .u8 (128 + c % 64)] 5)) w.heap.size (new_blk _ _)
 have ha := i64_and63 (x := c) (by omega) (by omega)
 have ho1 := i64_orlow (a := 192) (y := c / 64) 6 (by omega) (by omega) (by decide) (by omega) (by omega) (by simp; omega)
 have ho2 := i64_orlow (a := 128) (y := c % 64) 6 (by omega) (by omega) (by decide) (by omega) (by omega) (by simp; omega)
 have hu1 := u8w (x := 192 + c / 64) (by omega) (by omega)
 have hu2 := u8w (x := 128 + c % 64) (by omega) (by omega)
 go_enter Tryz.func60, Tryz.ntmps60
 go_wp2
 go_ret
 exact ⟨by rw [HF.out]; rfl, grown_alloc (grown_refl _ _) _⟩
set_option maxRecDepth 100000 in
set_option maxHeartbeats 400000 in
theorem c60_three (c : Int) (w : World) (h0 : 2048 ≤ c) (h1 : c < 65536) : Calls Tryz.prog 60 #[.int .i64 c] w fun e w' => e = .returned (.string ⟨(Css.enc1 c).toArray⟩) ∧ w.grownBy w' none := by
 have hfin : Css.enc1 c = ([224 + c / 4096, 128 + c / 64 % 64, 128 + c % 64] : List Int).map fun n => UInt8.ofNat n.toNat := by
  unfold Css.enc1; rw [if_neg (by omega), if_neg (by omega), if_pos (by omega)]; simp [Css.byte]; refine ⟨?_, ?_, ?_⟩ <;> (congr 1; omega)
 have HF := Lib.hid hfin
 clear hfin
 have hcv : (convert 117 9 (.slice (some ⟨w.heap.size, 0, none⟩) 3 3)).run Tryz.prog (w.alloc (.cells #[.int .u8 (224 + c / 4096), .int .u8 (128 + c / 64 % 64), .int .u8 (128 + c % 64)] 5)) = .ok (.string (strOfNums [224 + c / 4096, 128 + c / 64 % 64, 128 + c % 64])) (w.alloc (.cells #[.int .u8 (224 + c / 4096), .int .u8 (128 + c / 64 % 64), .int .u8 (128 + c % 64)] 5)) := cells_conv w [224 + c / 4096, 128 + c / 64 % 64, 128 + c % 64] 5 9 und9 (w.alloc (.cells #[.int .u8 (224 + c / 4096), .int .u8 (128 + c / 64 % 64), .int .u8 (128 + c % 64)] 5)) w.heap.size (new_blk _ _)
 have ha := i64_and63 (x := c) (by omega) (by omega)
 have ha2 := i64_and63 (x := c / 64) (by omega) (by omega)
 have ho1 := i64_orlow (a := 224) (y := c / 4096) 5 (by omega) (by omega) (by decide) (by omega) (by omega) (by simp; omega)
 have ho2 := i64_orlow (a := 128) (y := c % 64) 6 (by omega) (by omega) (by decide) (by omega) (by omega) (by simp; omega)
 have ho3 := i64_orlow (a := 128) (y := c / 64 % 64) 6 (by omega) (by omega) (by decide) (by omega) (by omega) (by simp; omega)
 have hu1 := u8w (x := 224 + c / 4096) (by omega) (by omega)
 have hu2 := u8w (x := 128 + c % 64) (by omega) (by omega)
 have hu3 := u8w (x := 128 + c / 64 % 64) (by omega) (by omega)
 go_enter Tryz.func60, Tryz.ntmps60
 go_wp2
 go_ret
 exact ⟨by rw [HF.out]; rfl, grown_alloc (grown_refl _ _) _⟩
set_option maxRecDepth 100000 in
set_option maxHeartbeats 400000 in
theorem c60_four (c : Int) (w : World) (h0 : 65536 ≤ c) (h1 : c < 1114112) : Calls Tryz.prog 60 #[.int .i64 c] w fun e w' => e = .returned (.string ⟨(Css.enc1 c).toArray⟩) ∧ w.grownBy w' none := by
 have hfin : Css.enc1 c = ([240 + c / 262144, 128 + c / 4096 % 64, 128 + c / 64 % 64, 128 + c % 64] : List Int).map fun n => UInt8.ofNat n.toNat := by
  unfold Css.enc1; rw [if_neg (by omega), if_neg (by omega), if_neg (by omega)]; simp [Css.byte]; refine ⟨?_, ?_, ?_, ?_⟩ <;> (congr 1; omega)
 have HF := Lib.hid hfin
 clear hfin
 have hcv : (convert 117 9 (.slice (some ⟨w.heap.size, 0, none⟩) 4 4)).run Tryz.prog (w.alloc (.cells #[.int .u8 (240 + c / 262144), .int .u8 (128 + c / 4096 % 64), .int .u8 (128 + c / 64 % 64), .int .u8 (128 + c % 64)] 5)) = .ok (.string (strOfNums [240 + c / 262144, 128 + c / 4096 % 64, 128 + c / 64 % 64, 128 + c % 64])) (w.alloc (.cells #[.int .u8 (240 + c / 262144), .int .u8 (128 + c / 4096 % 64), .int .u8 (128 + c / 64 % 64), .int .u8 (128 + c % 64)] 5)) := cells_conv w [240 + c / 262144, 128 + c / 4096 % 64, 128 + c / 64 % 64, 128 + c % 64] 5 9 und9 (w.alloc (.cells #[.int .u8 (240 + c / 262144), .int .u8 (128 + c / 4096 % 64), .int .u8 (128 + c / 64 % 64), .int .u8 (128 + c % 64)] 5)) w.heap.size (new_blk _ _)
 have ha := i64_and63 (x := c) (by omega) (by omega)
 have ha2 := i64_and63 (x := c / 64) (by omega) (by omega)
 have ha3 := i64_and63 (x := c / 4096) (by omega) (by omega)
 have ho1 := i64_orlow (a := 240) (y := c / 262144) 4 (by omega) (by omega) (by decide) (by omega) (by omega) (by simp; omega)
 have ho2 := i64_orlow (a := 128) (y := c % 64) 6 (by omega) (by omega) (by decide) (by omega) (by omega) (by simp; omega)
 have ho3 := i64_orlow (a := 128) (y := c / 64 % 64) 6 (by omega) (by omega) (by decide) (by omega) (by omega) (by simp; omega)
 have ho4 := i64_orlow (a := 128) (y := c / 4096 % 64) 6 (by omega) (by omega) (by decide) (by omega) (by omega) (by simp; omega)
 have hu1 := u8w (x := 240 + c / 262144) (by omega) (by omega)
 have hu2 := u8w (x := 128 + c % 64) (by omega) (by omega)
 have hu3 := u8w (x := 128 + c / 64 % 64) (by omega) (by omega)
 have hu4 := u8w (x := 128 + c / 4096 % 64) (by omega) (by omega)
 go_enter Tryz.func60, Tryz.ntmps60
 go_wp2
 go_ret
 exact ⟨by rw [HF.out]; rfl, grown_alloc (grown_refl _ _) _⟩
theorem c60 (c : Int) (w : World) (h0 : -2 ≤ c) (h1 : c < 1114112) : Calls Tryz.prog 60 #[.int .i64 c] w fun e w' => e = .returned (.string ⟨(Css.enc1 c).toArray⟩) ∧ w.grownBy w' none := by
 by_cases a1 : c < 128
 ·exact c60_one c w h0 a1
 by_cases a2 : c < 2048
 ·exact c60_two c w (by omega) a2
 by_cases a3 : c < 65536
 ·exact c60_three c w (by omega) a3
 ·exact c60_four c w (by omega) h1
end Go.Proofs.YtkfdcbdlcipmfaaGreatFmt
/- The reference's lexer in memory: names. The text has at most 2^60 bytes. -/
namespace Go.Proofs.YtkfdcbdlcipmfaaGreatFmt
open Go.RowKit
def str (l : List UInt8) : ByteArray := ⟨l.toArray⟩
theorem str_append (a b : List UInt8) : str a ++ str b = str (a ++ b) := by
 apply ByteArray.ext
 show (ByteArray.append _ _).data = _
 simp [str, ByteArray.append]
theorem str_size (a : List UInt8) : (str a).size = a.length := by simp [str, ByteArray.size]
theorem enc1_le (c : Int) : (Css.enc1 c).length ≤ 4 := by
 rw [Css.enc1_length]; unfold Css.width; repeat' split
 all_goals omega
theorem length_wd (U : List Int) : U.length ≤ Css.wd U := by
 induction U with
 | nil => simp [Css.wd]
 | cons c U ih => have := Css.width_pos c; simp [Css.wd]; omega
theorem Lx.range {w : World} {g : Nat} {s : ByteArray} {U : List Int} {cv : Value} {op : Bool} (h : Lx w g s U cv op) (k : Nat) : -2 ≤ Css.pk k U ∧ Css.pk k U ≤ 1114111 := by
 by_cases hk : k < U.length
 ·have hm : Css.pk k U ∈ U := by unfold Css.pk; rw [List.getD_eq_getElem?_getD, List.getElem?_eq_getElem hk]; exact List.getElem_mem hk
  have hm2 : Css.pk k U ∈ Css.codes (sfx s (s.size - Css.wd U)) := by rw [h.left]; exact hm
  rcases Css.codes_mem hm2 with h | h | h
  ·omega
  ·omega
  ·exact ⟨by have := h.1; omega, h.2.1⟩
 ·have : Css.pk k U = -1 := by unfold Css.pk; rw [List.getD_eq_getElem?_getD, List.getElem?_eq_none (by omega)]; rfl
  omega
theorem Lx.len {w : World} {g : Nat} {s : ByteArray} {U : List Int} {cv : Value} {op : Bool} (h : Lx w g s U cv op) : U.length ≤ 1152921504606846976 := by
 have := length_wd U
 have := h.fits
 have := h.size
 omega
theorem hexRun_range (n : Nat) : ∀ (v : Int) (U : List Int), 0 ≤ v → 0 ≤ (Css.hexRun n v U).1 := by
 induction n with
 | zero => intro v U h; exact h
 | succ n ih =>
  intro v U h
  simp only [Css.hexRun]
  split
  ·exact ih _ _ (by omega)
  ·exact h
theorem fixv_range {v : Int} (h : 0 ≤ v) : -2 ≤ Css.fixv v ∧ Css.fixv v ≤ 1114111 := by
 unfold Css.fixv
 split
 ·omega
 ·rename_i h; simp at h; omega
theorem esc_range {U : List Int} (h1 : -2 ≤ Css.pk 0 U) (h2 : Css.pk 0 U ≤ 1114111) : -2 ≤ (Css.esc U).1 ∧ (Css.esc U).1 ≤ 1114111 := by
 have := fixv_range (hexRun_range 6 0 U (by omega))
 unfold Css.esc
 dsimp only
 repeat' split
 all_goals first | exact this | exact ⟨h1, h2⟩ | (constructor <;> simp)
theorem Kp.free {a b c : World} {g : Nat} (h : Kp a b g) (k : b.grownBy c none) : Kp a c g :=
 grown_trans h ⟨k.os, k.tape, k.output, k.size, fun i hi _ => k.block i hi (by simp)⟩
theorem Lx.free {w w' : World} {g : Nat} {s : ByteArray} {U : List Int} {cv : Value} {op : Bool} (h : Lx w g s U cv op) (k : w.grownBy w' none) : Lx w' g s U cv op :=
 h.grown (k.block g (lt_of_block h.blk) (by simp))
theorem name_c {U : List Int} (h : Css.continues (Css.pk 0 U) = true) : Css.name U = (Css.enc1 (Css.pk 0 U) ++ (Css.name U.tail).1, (Css.name U.tail).2) ∧ U.tail.length < U.length := by
 constructor
 ·rw [Css.name]; simp [h]
 ·have := Css.pk_lt (U := U) (k := 0) rfl (Css.continues_ne h); simp; omega
theorem name_e {U : List Int} (h1 : Css.continues (Css.pk 0 U) = false) (h : Css.escapes (Css.pk 0 U) (Css.pk 1 U) = true) :
  Css.name U = (Css.enc1 (Css.esc U.tail).1 ++ (Css.name (Css.esc U.tail).2.1).1, (Css.name (Css.esc U.tail).2.1).2.1, (Css.esc U.tail).2.2 || (Css.name (Css.esc U.tail).2.1).2.2) ∧ (Css.esc U.tail).2.1.length < U.length := by
 constructor
 ·rw [Css.name]; simp [h1, h]
 ·have := Css.pk_lt (U := U) (k := 0) rfl (Css.escapes_ne h)
  have := Css.esc_le U.tail
  simp at this; omega
theorem c60s (c : Int) (w : World) (h0 : -2 ≤ c) (h1 : c ≤ 1114111) : Calls Tryz.prog 60 #[.int .i64 c] w fun e w' => e = .returned (.string (str (Css.enc1 c))) ∧ w.grownBy w' none := c60 c w h0 (by omega)
set_option maxRecDepth 100000 in
set_option maxHeartbeats 1000000 in
theorem c47 {w : World} {g : Nat} {s : ByteArray} {U : List Int} {cv : Value} {op : Bool} (h : Lx w g s U cv op) :
  Calls Tryz.prog 47 #[.pointer (some ⟨g, 0, none⟩)] w fun e w' => e = .returned (.string (str (Css.name U).1)) ∧ Lx w' g s (Css.name U).2.1 cv (op || (Css.name U).2.2) ∧ Kp w w' g := by
 have HK := Lib.hid (Kp.refl w g)
 have hlen := h.len
 go_enter Tryz.func47, Tryz.ntmps47
 go_wp2
 go_loopg [3] U.length (fun k v3 wr => ∃ (V : List Int) (out : List UInt8) (op' : Bool), V.length ≤ k ∧ v3 = .string (str out) ∧ out.length + 4 * V.length ≤ 4 * U.length ∧ Lx wr g s V cv op' ∧ Hid (Kp w wr g) ∧
  Hid (out ++ (Css.name V).1 = (Css.name U).1 ∧ (Css.name V).2.1 = (Css.name U).2.1 ∧ (op' || (Css.name V).2.2) = (op || (Css.name U).2.2)))
 case atStart => exact ⟨U, [], op, Nat.le_refl _, rfl, by simp, h, HK, ⟨rfl, rfl, rfl⟩⟩
 case round =>
  clear h HK
  obtain ⟨V, out, op', hk, rfl, hout, h, HK, HN⟩ := hrel
  cases hc : Css.continues (Css.pk 0 V) with
  | true =>
   obtain ⟨e1, e2⟩ := name_c hc
   have HE := Lib.hid e1
   clear e1
   have hr := h.range 0
   have h4 := enc1_le (Css.pk 0 V)
   have hsz := str_size out
   have hsz2 := str_size (Css.enc1 (Css.pk 0 V))
   go_wp2_with fail
   refine (c59_0 h).mono ?_
   rintro e w' ⟨rfl, rfl⟩
   go_wp2_with fail
   refine (c58 _ _).mono ?_
   rintro e w' ⟨rfl, rfl⟩
   go_wp2_with fail
   refine (c61 h).mono ?_
   rintro e w1 ⟨rfl, hL1, hK1⟩
   go_wp2_with fail
   refine (c60s _ _ (by omega) (by omega)).mono ?_
   rintro e w2 ⟨rfl, hG2⟩
   go_wp2
   go_roundg V.tail.length
   case measure => omega
   case rel =>
    refine ⟨V.tail, out ++ Css.enc1 (Css.pk 0 V), op', Nat.le_refl _, by rw [str_append], by rw [List.length_append]; omega, hL1.free hG2, (HK.out.trans hK1).free hG2, ?_⟩
    have := HN.out
    rw [HE.out] at this
    exact ⟨by rw [← this.1, List.append_assoc], this.2⟩
  | false =>
   cases hx : Css.escapes (Css.pk 0 V) (Css.pk 1 V) with
   | true =>
    obtain ⟨e1, e2⟩ := name_e hc hx
    have HE := Lib.hid e1
    clear e1
    have hr := h.range 0
    go_wp2_with fail
    refine (c59_0 h).mono ?_
    rintro e w' ⟨rfl, rfl⟩
    go_wp2_with fail
    refine (c58 _ _).mono ?_
    rintro e w' ⟨rfl, rfl⟩
    go_wp2_with fail
    refine (c59_0 h).mono ?_
    rintro e w' ⟨rfl, rfl⟩
    go_wp2_with fail
    refine (c59_1 h).mono ?_
    rintro e w' ⟨rfl, rfl⟩
    go_wp2_with fail
    refine (c62 _ _ _).mono ?_
    rintro e w' ⟨rfl, rfl⟩
    go_wp2_with fail
    refine (c61 h).mono ?_
    rintro e w1 ⟨rfl, hL1, hK1⟩
    have hr1 := hL1.range 0
    have hr2 := esc_range hr1.1 hr1.2
    have h4 := enc1_le (Css.esc V.tail).1
    have hsz := str_size out
    have hsz2 := str_size (Css.enc1 (Css.esc V.tail).1)
    go_wp2_with fail
    refine (c63 hL1).mono ?_
    rintro e w2 ⟨rfl, hL2, hK2⟩
    go_wp2_with fail
    refine (c60s _ _ hr2.1 hr2.2).mono ?_
    rintro e w3 ⟨rfl, hG3⟩
    go_wp2
    go_roundg (Css.esc V.tail).2.1.length
    case measure => omega
    case rel =>
     refine ⟨(Css.esc V.tail).2.1, out ++ Css.enc1 (Css.esc V.tail).1, op' || (Css.esc V.tail).2.2, Nat.le_refl _, by rw [str_append], by rw [List.length_append]; omega, hL2.free hG3, ((HK.out.trans hK1).trans hK2).free hG3, ?_⟩
     have := HN.out
     rw [HE.out] at this
     exact ⟨by rw [← this.1, List.append_assoc], this.2.1, by rw [← this.2.2]; simp [Bool.or_assoc]⟩
   | false =>
    have HE := Lib.hid (Css.name_stop hc hx)
    go_wp2_with fail
    refine (c59_0 h).mono ?_
    rintro e w' ⟨rfl, rfl⟩
    go_wp2_with fail
    refine (c58 _ _).mono ?_
    rintro e w' ⟨rfl, rfl⟩
    go_wp2_with fail
    refine (c59_0 h).mono ?_
    rintro e w' ⟨rfl, rfl⟩
    go_wp2_with fail
    refine (c59_1 h).mono ?_
    rintro e w' ⟨rfl, rfl⟩
    go_wp2_with fail
    refine (c62 _ _ _).mono ?_
    rintro e w' ⟨rfl, rfl⟩
    go_wp2
    go_ret
    have := HN.out
    rw [HE.out] at this
    refine ⟨by rw [← this.1, List.append_nil]; rfl, ?_, HK.out⟩
    rw [← this.2.1, ← this.2.2]
    simpa using h
end Go.Proofs.YtkfdcbdlcipmfaaGreatFmt
