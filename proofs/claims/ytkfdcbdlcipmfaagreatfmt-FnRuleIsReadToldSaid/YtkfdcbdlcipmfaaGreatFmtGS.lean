/- How the model reads the code points of a text that is valid. -/
import Derived.Test.YtkfdcbdlcipmfaaGreatFmtProg
import Derived.WalkKit
import Derived.WalkLawsBesides
import Derived.WalkSpells
import Derived.BigQuiet
import Derived.Deep.QuietTactic
import Derived.Outline
import Derived.Laws.BitsLemmas
import Derived.Lib.Hide
import Derived.OneCell
import Derived.Deep.Draws
import Derived.Deep.LoopGhost
import Derived.Laws.BytesArg
import Derived.Laws.ResultCell
import Derived.Deep.DeepCutAuto
import Derived.Deep.CutBlock
import Derived.Deep.RegionLaw
import Derived.Maps.AppendAt
import Derived.Deep.AppendLies
import Derived.KernelRfl
import Derived.Laws.OwnMore
import Derived.Deep.RegionHeld3
import Derived.Lib.TrimUEq
import Derived.Deep.AppendSrc
import Derived.Maps.OwnOps
import Derived.Maps.Views
import Derived.Test.YtkfdcbdlcipmfaaGreatFmtGJ
import Derived.Laws.RangeAny
import Derived.Test.YtkfdcbdlcipmfaaGreatFmtGD
import Derived.Test.YtkfdcbdlcipmfaaGreatFmtGR
import Derived.Test.YtkfdcbdlcipmfaaGreatFmtGA
import Derived.Shelf.Spec.EncodeRune
set_option linter.unusedVariables false
set_option linter.unusedSimpArgs false
namespace Go.Proofs.YtkfdcbdlcipmfaaGreatFmt
open Go.RowKit
theorem decodeL_enc1 {c : Int} (h : Css.Valid c) (r : List UInt8) : Lib.decodeL (Css.enc1 c ++ r) = (c.toNat, Css.width c) := by
 obtain ⟨h0, h1, h2⟩ := h
 rw [Lib.decodeL_N]
 unfold Css.enc1 Css.width
 by_cases a1 : c < 128
 ·simp only [a1, if_true, List.cons_append, List.nil_append, List.getD_cons_zero]
  rw [Css.byte_toNat (by omega) (by omega), Lib.decodeN, if_pos (by omega)]
 by_cases a2 : c < 2048
 ·simp only [a1, a2, if_true, if_false, List.cons_append, List.nil_append, List.getD_cons_zero, List.getD_cons_succ, List.length_cons]
  rw [Css.byte_toNat (by omega) (by omega), Css.byte_toNat (by omega) (by omega), Lib.decodeN, if_neg (by omega), if_pos ⟨by omega, by omega, by omega⟩, if_pos (by omega)]
  congr 1
  omega
 by_cases a3 : c < 65536
 ·simp only [a1, a2, a3, if_true, if_false, List.cons_append, List.nil_append, List.getD_cons_zero, List.getD_cons_succ, List.length_cons]
  rw [Css.byte_toNat (by omega) (by omega), Css.byte_toNat (by omega) (by omega), Css.byte_toNat (by omega) (by omega), Lib.decodeN, if_neg (by omega), if_neg (by omega), if_pos ⟨by omega, ⟨by omega, by omega⟩, by omega, by omega⟩, if_pos (by omega)]
  congr 1
  omega
 ·simp only [a1, a2, a3, if_false, List.cons_append, List.nil_append, List.getD_cons_zero, List.getD_cons_succ, List.length_cons]
  rw [Css.byte_toNat (by omega) (by omega), Css.byte_toNat (by omega) (by omega), Css.byte_toNat (by omega) (by omega), Css.byte_toNat (by omega) (by omega), Lib.decodeN, if_neg (by omega), if_neg (by omega), if_neg (by omega), if_pos ⟨by omega, ⟨by omega, by omega⟩, ⟨by omega, by omega⟩, by omega, by omega⟩, if_pos (by omega)]
  congr 1
  omega
def At (s : ByteArray) (p : Nat) (V : List Int) : Prop := sfx s p = Css.enc V ∧ p + Css.wd V = s.size
theorem At.start {s : ByteArray} (h : ∀ c ∈ Css.codes s.data.toList, Css.Valid c) : At s 0 (Css.codes s.data.toList) :=
 ⟨by rw [Css.enc_codes h]; rfl, by rw [Css.codes_wd, bytes_len]; omega⟩
theorem At.step {s : ByteArray} {p : Nat} {c : Int} {V : List Int} (h : At s p (c :: V)) (hc : Css.Valid c) : p < s.size ∧ Utf8.decode s p = (c.toNat, Css.width c) ∧ At s (p + Css.width c) V := by
 obtain ⟨h1, h2⟩ := h
 have hw := Css.width_pos c
 simp only [Css.wd] at h2
 have he : Css.enc (c :: V) = Css.enc1 c ++ Css.enc V := by simp [Css.enc]
 refine ⟨by omega, ?_, ?_, by omega⟩
 ·rw [← Lib.decodeL_drop]
  have : s.data.toList.drop p = Css.enc1 c ++ Css.enc V := by rw [← he, ← h1]; rfl
  rw [this]
  exact decodeL_enc1 hc _
 ·rw [← sfx_drop, h1, he, ← Css.enc1_length c, List.drop_left]
theorem At.done {s : ByteArray} {p : Nat} (h : At s p []) : ¬ p < s.size := by
 have := h.2
 simp [Css.wd] at this
 omega
end Go.Proofs.YtkfdcbdlcipmfaaGreatFmt
/- The quotes of a string. The text has at most 2^40 bytes. -/
namespace Go.Proofs.YtkfdcbdlcipmfaaGreatFmt
open Go.RowKit
set_option maxRecDepth 100000 in
set_option maxHeartbeats 2000000 in
theorem c115 (c : Int) (hc : c ≠ 0) (w : World) : Calls Tryz.prog 115 #[.int .i32 c] w fun e w' => e = .returned (.bool (Css.continues c)) ∧ w = w' := by
 have H := Lib.hid fun W => c138 c hc W
 cases h1 : Css.starts c <;> by_cases h2 : 48 ≤ c <;> by_cases h3 : c ≤ 57 <;> cases h4 : (c == 45)
 all_goals first
 | (exfalso; simp only [beq_iff_eq] at h4; omega)
 | (exfalso; simp only [beq_iff_eq] at h4; subst h4; exact absurd h1 (by decide))
 | skip
 all_goals
  go_enter Tryz.func115, Tryz.ntmps115
  go_wp2_with fail
  refine (H.out _).mono ?_
  rintro e w' ⟨rfl, rfl⟩
  rw [h1]
  go_wp2_with fail
  all_goals
   go_ret
   exact ⟨ret_bool (by first | (simp [Css.continues, Css.isDigit, *]; done) | (rw [Bool.eq_iff_iff]; simp [Css.continues, Css.isDigit, *]; omega)), rfl⟩
theorem grown_iter (w : World) (s : ByteArray) (p : Nat) : w.grownBy (w.iter s p) none := grown_alloc (grown_refl w none) (.stringIter s p)
theorem decode_pos (s : ByteArray) (p : Nat) : 1 ≤ (Utf8.decode s p).2 := Lib.width_pos s p
set_option maxRecDepth 100000 in
set_option maxHeartbeats 4000000 in
theorem c104 (s : ByteArray) (hs : s.size ≤ 1099511627776) (w : World) : Calls Tryz.prog 104 #[.string s, .bool false] w fun e w' => ∃ q : Int, e = .returned (.int .u8 q) ∧ (q = 34 ∨ q = 39) ∧ w.grownBy w' none := by
 go_enter Tryz.func104, Tryz.ntmps104
 go_wp2
 go_loopw [5, 6, 7] (fun v5 v6 v7 w' => ∃ (p a b c : Nat), w' = w.iter s p ∧ v5 = .int .i64 a ∧ v6 = .int .i64 b ∧ v7 = .int .i64 c ∧ a ≤ 2 * p + 2 ∧ b ≤ 2 * p + 2 ∧ c ≤ 2 * p + 2 ∧ p ≤ s.size + 4) (fun _ _ _ w' => s.size - w'.iterPos w.heap.size)
 case atStart => exact ⟨0, 0, 2, 2, rfl, rfl, rfl, rfl, by omega, by omega, by omega, by omega⟩
 case round =>
  obtain ⟨p, a, b, c, rfl, rfl, rfl, rfl, ha, hb, hc, hp⟩ := hrel
  by_cases hlt : p < s.size
  ·have hnx : ∀ ty, (Instr.next (.pointer (some ⟨w.heap.size, 0, none⟩)) true ty).run Tryz.prog (w.iter s p) = _ := fun ty => run_next_any w s p ty hlt
   have hw := decode_pos s p
   have hw4 : (Utf8.decode s p).2 ≤ 4 := by
    unfold Utf8.decode
    dsimp only
    repeat' split
    all_goals simp
   generalize Utf8.decode s p = d at hnx hw hw4
   obtain ⟨d, m⟩ := d
   simp only at hnx hw hw4
   go_wp2
   all_goals
    go_roundw
    case rel => first
     | exact ⟨p + m, a, b, c, rfl, by go_num, by go_num, by go_num, by omega, by omega, by omega, by omega⟩
     | exact ⟨p + m, a + 1, b, c, rfl, by go_num, by go_num, by go_num, by omega, by omega, by omega, by omega⟩
     | exact ⟨p + m, a + 1, b + 1, c, rfl, by go_num, by go_num, by go_num, by omega, by omega, by omega, by omega⟩
     | exact ⟨p + m, a + 1, b, c + 1, rfl, by go_num, by go_num, by go_num, by omega, by omega, by omega, by omega⟩
     | exact ⟨p + m, a + 1, b + 1, c + 1, rfl, by go_num, by go_num, by go_num, by omega, by omega, by omega, by omega⟩
    case measure => simp; omega
  ·have hnx : ∀ ty, (Instr.next (.pointer (some ⟨w.heap.size, 0, none⟩)) true ty).run Tryz.prog (w.iter s p) = _ := fun ty => run_next_end w s p ty hlt
   have HG := Lib.hid (grown_iter w s p)
   go_wp2
   all_goals
    go_ret
    exact ⟨_, rfl, by simp, HG.out⟩
end Go.Proofs.YtkfdcbdlcipmfaaGreatFmt
/- How wide a code point is, and its bytes. -/
namespace Go.Proofs.YtkfdcbdlcipmfaaGreatFmt
open Go.RowKit
set_option maxRecDepth 100000 in
set_option maxHeartbeats 2000000 in
theorem c116 (c : Int) (hc : Css.Valid c) (w : World) : Calls Tryz.prog 116 #[.int .i32 c] w fun e w' => e = .returned (.int .i64 (Css.width c : Nat)) ∧ w = w' := by
 obtain ⟨h0, h1, h2⟩ := hc
 have h0' : ¬ c < 0 := by omega
 by_cases a1 : c ≤ 127
 ·have hw : Css.width c = 1 := by unfold Css.width; rw [if_pos (by omega)]
  rw [hw]
  go_enter Tryz.func116, Tryz.ntmps116
  go_wp2
  go_ret
  exact ⟨rfl, rfl⟩
 by_cases a2 : c ≤ 2047
 ·have hw : Css.width c = 2 := by unfold Css.width; rw [if_neg (by omega), if_pos (by omega)]
  rw [hw]
  go_enter Tryz.func116, Tryz.ntmps116
  go_wp2
  go_ret
  exact ⟨rfl, rfl⟩
 by_cases b : 55296 ≤ c
 ·have b2 : ¬ c ≤ 57343 := by omega
  by_cases a3 : c ≤ 65535
  ·have hw : Css.width c = 3 := by unfold Css.width; rw [if_neg (by omega), if_neg (by omega), if_pos (by omega)]
   rw [hw]
   go_enter Tryz.func116, Tryz.ntmps116
   go_wp2
   go_ret
   exact ⟨rfl, rfl⟩
  ·have hw : Css.width c = 4 := by unfold Css.width; rw [if_neg (by omega), if_neg (by omega), if_neg (by omega)]
   rw [hw]
   go_enter Tryz.func116, Tryz.ntmps116
   go_wp2
   go_ret
   exact ⟨rfl, rfl⟩
 ·have a3 : c ≤ 65535 := by omega
  have hw : Css.width c = 3 := by unfold Css.width; rw [if_neg (by omega), if_neg (by omega), if_pos (by omega)]
  rw [hw]
  go_enter Tryz.func116, Tryz.ntmps116
  go_wp2
  go_ret
  exact ⟨rfl, rfl⟩
end Go.Proofs.YtkfdcbdlcipmfaaGreatFmt
/- The bytes of a code point: the library's EncodeRune. -/
namespace Go.Proofs.YtkfdcbdlcipmfaaGreatFmt
open Go.RowKit
def ren30 : Go.Shelf.Ren := ⟨fun | 30 => 133 | 47 => 151 | n => n, fun | 30 => 117 | 27 => 102 | 25 => 167 | n => n, fun | n => n⟩
theorem lays30 : Go.Proofs.Lays7.n30 Tryz.prog ren30 := {
 mixed := by kernel_rfl
 f30 := Tryz.func133.trans (congrArg some (by kernel_rfl))
 f47 := Tryz.func151.trans (congrArg some (by kernel_rfl))
 t0 := Tryz.underlying0
 a0 := Tryz.isAgg0
 z0 := Tryz.sizeOf0
 v0 := Tryz.zeroValue0
 i0 := by kernel_rfl
 t3 := Tryz.underlying3
 a3 := Tryz.isAgg3
 z3 := Tryz.sizeOf3
 v3 := Tryz.zeroValue3
 i3 := by kernel_rfl
 t4 := Tryz.underlying4
 a4 := Tryz.isAgg4
 z4 := Tryz.sizeOf4
 v4 := Tryz.zeroValue4
 i4 := by kernel_rfl
 t5 := Tryz.underlying5
 a5 := Tryz.isAgg5
 z5 := Tryz.sizeOf5
 v5 := Tryz.zeroValue5
 i5 := by kernel_rfl
 t21 := Tryz.underlying21
 a21 := Tryz.isAgg21
 z21 := Tryz.sizeOf21
 v21 := Tryz.zeroValue21
 i21 := by kernel_rfl
 t25 := Tryz.underlying167
 a25 := Tryz.isAgg167
 z25 := Tryz.sizeOf167
 v25 := Tryz.zeroValue167
 i25 := by kernel_rfl
 t27 := Tryz.underlying102
 a27 := Tryz.isAgg102
 z27 := Tryz.sizeOf102
 v27 := Tryz.zeroValue102
 i27 := by kernel_rfl
 t30 := Tryz.underlying117
 a30 := Tryz.isAgg117
 z30 := Tryz.sizeOf117
 v30 := Tryz.zeroValue117
 i30 := by kernel_rfl }
theorem rune_cells {c : Int} (h : Css.Valid c) : Lib.runeCells c = bc (Css.enc1 c) := by
 obtain ⟨h0, h1, h2⟩ := h
 unfold Lib.runeCells Css.enc1 bc
 by_cases a1 : c < 128
 ·rw [Lib.encodeRuneZ_one (by omega) (by omega), if_pos a1]
  simp only [List.map_cons, List.map_nil]
  rw [Css.byte_toNat (by omega) (by omega)]
  congr 2
  omega
 by_cases a2 : c < 2048
 ·rw [Lib.encodeRuneZ_two (by omega) (by omega), if_neg a1, if_pos a2]
  simp only [List.map_cons, List.map_nil]
  rw [Css.byte_toNat (by omega) (by omega), Css.byte_toNat (by omega) (by omega)]
  rw [show ((192 + c / 64).toNat : Int) = 192 + c / 64 by omega, show ((128 + c % 64).toNat : Int) = 128 + c % 64 by omega]
 by_cases a3 : c < 65536
 ·rw [Lib.encodeRuneZ_three (by omega), if_neg a1, if_neg a2, if_pos a3]
  simp only [List.map_cons, List.map_nil]
  rw [Css.byte_toNat (by omega) (by omega), Css.byte_toNat (by omega) (by omega), Css.byte_toNat (by omega) (by omega)]
  rw [show ((224 + c / 4096).toNat : Int) = 224 + c / 4096 by omega, show ((128 + c / 64 % 64).toNat : Int) = 128 + c / 64 % 64 by omega, show ((128 + c % 64).toNat : Int) = 128 + c % 64 by omega]
 ·rw [Lib.encodeRuneZ_four (by omega) (by omega), if_neg a1, if_neg a2, if_neg a3]
  simp only [List.map_cons, List.map_nil]
  rw [Css.byte_toNat (by omega) (by omega), Css.byte_toNat (by omega) (by omega), Css.byte_toNat (by omega) (by omega), Css.byte_toNat (by omega) (by omega)]
  rw [show ((240 + c / 262144).toNat : Int) = 240 + c / 262144 by omega, show ((128 + c / 4096 % 64).toNat : Int) = 128 + c / 4096 % 64 by omega, show ((128 + c / 64 % 64).toNat : Int) = 128 + c / 64 % 64 by omega, show ((128 + c % 64).toNat : Int) = 128 + c % 64 by omega]
theorem c133 (c : Int) (hc : Css.Valid c) (w : World) (b : Nat) (cs : Array Value) (t : TypeId) (hb : w.heap[b]? = some (.cells cs t (0, 0))) (h4 : cs.size = 4) :
  Calls Tryz.prog 133 #[.slice (some ⟨b, 0, none⟩) 4 4, .int .i32 c] w fun e w' => e = .returned (.int .i64 (Css.width c : Nat)) ∧ w' = w.setCells b 0 (bc (Css.enc1 c)) := by
 have hl : (Lib.runeCells c).length = Css.width c := by rw [rune_cells hc, ← Css.enc1_length c]; simp [bc]
 have h := Any7.utf8_EncodeRune lays30 b 0 4 4 c (by have := hc.1; omega) (by have := hc.2.1; omega) w (Lib.runeCells_le c).2
  (fun j hj => by
   have := (Lib.runeCells_le c).2
   have hj4 : j < cs.size := by omega
   rw [Nat.zero_add, cell_blk hb (i := j) (Array.getElem?_eq_getElem hj4)]
   rfl)
  (fun j hj => by rw [Nat.zero_add]; exact free_blk hb j)
 rw [hl, rune_cells hc] at h
 exact h
end Go.Proofs.YtkfdcbdlcipmfaaGreatFmt
