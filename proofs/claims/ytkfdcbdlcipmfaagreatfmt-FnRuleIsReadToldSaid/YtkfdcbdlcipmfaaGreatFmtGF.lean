/- The reference's lexer in memory: signs. The text has at most 2^60 bytes. -/
import Derived.Test.YtkfdcbdlcipmfaaGreatFmtProg
import Derived.WalkKit
import Derived.WalkLawsBesides
import Derived.WalkSpells
import Derived.BigQuiet
import Derived.Deep.QuietTactic
import Derived.Outline
import Derived.Laws.BitsLemmas
import Derived.Lib.Hide
import Derived.OneCell
import Derived.Deep.Draws
import Derived.Deep.LoopGhost
import Derived.Laws.BytesArg
import Derived.Laws.ResultCell
import Derived.Test.YtkfdcbdlcipmfaaGreatFmtGE
set_option linter.unusedVariables false
set_option linter.unusedSimpArgs false
namespace Go.Proofs.YtkfdcbdlcipmfaaGreatFmt
open Go.RowKit
def tkCells (k a b u : Int) (id : Bool) (t : ByteArray) : Array Value := #[.int .i64 k, .int .i64 a, .int .i64 b, .int .i64 u, .bool id, .string t]
def tkVal (t : Css.Tk) : Value := .agg (tkCells t.kind 0 0 t.unit t.id (str t.text))
theorem Lx.allocd {w : World} {g : Nat} {s : ByteArray} {U : List Int} {cv : Value} {op : Bool} (h : Lx w g s U cv op) (o : Obj) : Lx (w.alloc o) g s U cv op :=
 h.free (grown_alloc (grown_refl _ _) o)
theorem Kp.allocd {w w' : World} {g : Nat} {o : Obj} (h : Kp (w.alloc o) w' g) : Kp w w' g := grown_trans (grown_alloc (grown_refl w (some g)) o) h
theorem Kp.newBlk {w w' : World} {g : Nat} {o : Obj} (h : Kp (w.alloc o) w' g) (hg : g < w.heap.size) : w'.heap[w.heap.size]? = some o :=
 (h.block w.heap.size (by simp) (by simp; omega)).trans (new_blk w _)
theorem six {w : World} {g : Nat} {v0 v1 v2 v3 v4 v5 : Value} {t : TypeId} (h : w.heap[g]? = some (.cells #[v0, v1, v2, v3, v4, v5] t (0, 0))) :
  w.cell? ⟨g, 0, none⟩ = some v0 ∧ w.cell? ⟨g, 1, none⟩ = some v1 ∧ w.cell? ⟨g, 2, none⟩ = some v2 ∧ w.cell? ⟨g, 3, none⟩ = some v3 ∧ w.cell? ⟨g, 4, none⟩ = some v4 ∧ w.cell? ⟨g, 5, none⟩ = some v5 ∧
  w.frozen? ⟨g, 0, none⟩ = false ∧ w.frozen? ⟨g, 1, none⟩ = false ∧ w.frozen? ⟨g, 2, none⟩ = false ∧ w.frozen? ⟨g, 3, none⟩ = false ∧ w.frozen? ⟨g, 4, none⟩ = false ∧ w.frozen? ⟨g, 5, none⟩ = false :=
 ⟨cell_blk h rfl, cell_blk h rfl, cell_blk h rfl, cell_blk h rfl, cell_blk h rfl, cell_blk h rfl, free_blk h 0, free_blk h 1, free_blk h 2, free_blk h 3, free_blk h 4, free_blk h 5⟩
theorem Lx.put {w : World} {g : Nat} {s : ByteArray} {U : List Int} {cv : Value} {op : Bool} (h : Lx w g s U cv op) {b : Nat} (hb : b ≠ g) (i : Nat) (v : Value) : Lx (w.setCell ⟨b, i, none⟩ v) g s U cv op :=
 h.grown (Below.heap_setCell _ _ _ _ (fun e => hb e.symm))
theorem Lx.six {w : World} {g : Nat} {s : ByteArray} {U : List Int} {cv : Value} {op : Bool} (h : Lx w g s U cv op) {b : Nat} (hb : b ≠ g) (v0 v1 v2 v3 v4 v5 : Value) :
  Lx ((((((w.setCell ⟨b, 0, none⟩ v0).setCell ⟨b, 1, none⟩ v1).setCell ⟨b, 2, none⟩ v2).setCell ⟨b, 3, none⟩ v3).setCell ⟨b, 4, none⟩ v4).setCell ⟨b, 5, none⟩ v5) g s U cv op :=
 (((((h.put hb 0 v0).put hb 1 v1).put hb 2 v2).put hb 3 v3).put hb 4 v4).put hb 5 v5
theorem Kp.put {w w' : World} {g : Nat} (h : Kp w w' g) {b : Nat} (hb : w.heap.size ≤ b) (i : Nat) (v : Value) : Kp w (w'.setCell ⟨b, i, none⟩ v) g :=
 ⟨h.os, h.tape, h.output, by simpa [World.setCell] using h.size, fun k hk hr => (Below.heap_setCell _ _ _ _ (by show k ≠ b; omega)).trans (h.block k hk hr)⟩
theorem Kp.six {w w' : World} {g : Nat} (h : Kp w w' g) {b : Nat} (hb : w.heap.size ≤ b) (v0 v1 v2 v3 v4 v5 : Value) :
  Kp w ((((((w'.setCell ⟨b, 0, none⟩ v0).setCell ⟨b, 1, none⟩ v1).setCell ⟨b, 2, none⟩ v2).setCell ⟨b, 3, none⟩ v3).setCell ⟨b, 4, none⟩ v4).setCell ⟨b, 5, none⟩ v5) g :=
 (((((h.put hb 0 v0).put hb 1 v1).put hb 2 v2).put hb 3 v3).put hb 4 v4).put hb 5 v5
set_option maxRecDepth 100000 in
set_option maxHeartbeats 400000 in
theorem c71_31 {w : World} {g : Nat} {s : ByteArray} {U : List Int} {cv : Value} {op : Bool} (h : Lx w g s U cv op)  (y : (Css.pk 0 U == 123) = true) :
  Calls Tryz.prog 71 #[.pointer (some ⟨g, 0, none⟩)] w fun e w' => e = .returned (tkVal ⟨31, 0, false, []⟩) ∧ Lx w' g s U.tail cv op ∧ Kp w w' g := by
 have hlt := lt_of_block h.blk
 go_enter Tryz.func71, Tryz.ntmps71
 go_wp2_with fail
 refine (c61 (h.allocd _)).mono ?_
 rintro e w1 ⟨rfl, hL1, hK1⟩
 have hrb := hK1.newBlk hlt
 obtain ⟨hc0, hc1, hc2, hc3, hc4, hc5, hf0, hf1, hf2, hf3, hf4, hf5⟩ := six hrb
 have HR := Lib.hid hrb
 clear hrb
 go_wp2
 exact bodyPost_ret (v := .agg (tkCells 31 0 0 0 false (str []))) (by simp [results, Tryz.results71, go_sem, tkCells, str, hc0, hc1, hc2, hc3, hc4, hc5]) rfl ⟨rfl, hL1.six (by omega) _ _ _ _ _ _, (Kp.allocd hK1).six (Nat.le_refl _) _ _ _ _ _ _⟩
set_option maxRecDepth 100000 in
set_option maxHeartbeats 400000 in
theorem c71_6 {w : World} {g : Nat} {s : ByteArray} {U : List Int} {cv : Value} {op : Bool} (h : Lx w g s U cv op) (n0 : (Css.pk 0 U == 123) = false) (y : (Css.pk 0 U == 125) = true) :
  Calls Tryz.prog 71 #[.pointer (some ⟨g, 0, none⟩)] w fun e w' => e = .returned (tkVal ⟨6, 0, false, []⟩) ∧ Lx w' g s U.tail cv op ∧ Kp w w' g := by
 have hlt := lt_of_block h.blk
 go_enter Tryz.func71, Tryz.ntmps71
 go_wp2_with fail
 refine (c61 (h.allocd _)).mono ?_
 rintro e w1 ⟨rfl, hL1, hK1⟩
 have hrb := hK1.newBlk hlt
 obtain ⟨hc0, hc1, hc2, hc3, hc4, hc5, hf0, hf1, hf2, hf3, hf4, hf5⟩ := six hrb
 have HR := Lib.hid hrb
 clear hrb
 go_wp2
 exact bodyPost_ret (v := .agg (tkCells 6 0 0 0 false (str []))) (by simp [results, Tryz.results71, go_sem, tkCells, str, hc0, hc1, hc2, hc3, hc4, hc5]) rfl ⟨rfl, hL1.six (by omega) _ _ _ _ _ _, (Kp.allocd hK1).six (Nat.le_refl _) _ _ _ _ _ _⟩
set_option maxRecDepth 100000 in
set_option maxHeartbeats 400000 in
theorem c71_32 {w : World} {g : Nat} {s : ByteArray} {U : List Int} {cv : Value} {op : Bool} (h : Lx w g s U cv op) (n0 : (Css.pk 0 U == 123) = false) (n1 : (Css.pk 0 U == 125) = false) (y : (Css.pk 0 U == 91) = true) :
  Calls Tryz.prog 71 #[.pointer (some ⟨g, 0, none⟩)] w fun e w' => e = .returned (tkVal ⟨32, 0, false, []⟩) ∧ Lx w' g s U.tail cv op ∧ Kp w w' g := by
 have hlt := lt_of_block h.blk
 go_enter Tryz.func71, Tryz.ntmps71
 go_wp2_with fail
 refine (c61 (h.allocd _)).mono ?_
 rintro e w1 ⟨rfl, hL1, hK1⟩
 have hrb := hK1.newBlk hlt
 obtain ⟨hc0, hc1, hc2, hc3, hc4, hc5, hf0, hf1, hf2, hf3, hf4, hf5⟩ := six hrb
 have HR := Lib.hid hrb
 clear hrb
 go_wp2
 exact bodyPost_ret (v := .agg (tkCells 32 0 0 0 false (str []))) (by simp [results, Tryz.results71, go_sem, tkCells, str, hc0, hc1, hc2, hc3, hc4, hc5]) rfl ⟨rfl, hL1.six (by omega) _ _ _ _ _ _, (Kp.allocd hK1).six (Nat.le_refl _) _ _ _ _ _ _⟩
set_option maxRecDepth 100000 in
set_option maxHeartbeats 400000 in
theorem c71_7 {w : World} {g : Nat} {s : ByteArray} {U : List Int} {cv : Value} {op : Bool} (h : Lx w g s U cv op) (n0 : (Css.pk 0 U == 123) = false) (n1 : (Css.pk 0 U == 125) = false) (n2 : (Css.pk 0 U == 91) = false) (y : (Css.pk 0 U == 93) = true) :
  Calls Tryz.prog 71 #[.pointer (some ⟨g, 0, none⟩)] w fun e w' => e = .returned (tkVal ⟨7, 0, false, []⟩) ∧ Lx w' g s U.tail cv op ∧ Kp w w' g := by
 have hlt := lt_of_block h.blk
 go_enter Tryz.func71, Tryz.ntmps71
 go_wp2_with fail
 refine (c61 (h.allocd _)).mono ?_
 rintro e w1 ⟨rfl, hL1, hK1⟩
 have hrb := hK1.newBlk hlt
 obtain ⟨hc0, hc1, hc2, hc3, hc4, hc5, hf0, hf1, hf2, hf3, hf4, hf5⟩ := six hrb
 have HR := Lib.hid hrb
 clear hrb
 go_wp2
 exact bodyPost_ret (v := .agg (tkCells 7 0 0 0 false (str []))) (by simp [results, Tryz.results71, go_sem, tkCells, str, hc0, hc1, hc2, hc3, hc4, hc5]) rfl ⟨rfl, hL1.six (by omega) _ _ _ _ _ _, (Kp.allocd hK1).six (Nat.le_refl _) _ _ _ _ _ _⟩
set_option maxRecDepth 100000 in
set_option maxHeartbeats 400000 in
theorem c71_33 {w : World} {g : Nat} {s : ByteArray} {U : List Int} {cv : Value} {op : Bool} (h : Lx w g s U cv op) (n0 : (Css.pk 0 U == 123) = false) (n1 : (Css.pk 0 U == 125) = false) (n2 : (Css.pk 0 U == 91) = false) (n3 : (Css.pk 0 U == 93) = false) (y : (Css.pk 0 U == 40) = true) :
  Calls Tryz.prog 71 #[.pointer (some ⟨g, 0, none⟩)] w fun e w' => e = .returned (tkVal ⟨33, 0, false, []⟩) ∧ Lx w' g s U.tail cv op ∧ Kp w w' g := by
 have hlt := lt_of_block h.blk
 go_enter Tryz.func71, Tryz.ntmps71
 go_wp2_with fail
 refine (c61 (h.allocd _)).mono ?_
 rintro e w1 ⟨rfl, hL1, hK1⟩
 have hrb := hK1.newBlk hlt
 obtain ⟨hc0, hc1, hc2, hc3, hc4, hc5, hf0, hf1, hf2, hf3, hf4, hf5⟩ := six hrb
 have HR := Lib.hid hrb
 clear hrb
 go_wp2
 exact bodyPost_ret (v := .agg (tkCells 33 0 0 0 false (str []))) (by simp [results, Tryz.results71, go_sem, tkCells, str, hc0, hc1, hc2, hc3, hc4, hc5]) rfl ⟨rfl, hL1.six (by omega) _ _ _ _ _ _, (Kp.allocd hK1).six (Nat.le_refl _) _ _ _ _ _ _⟩
set_option maxRecDepth 100000 in
set_option maxHeartbeats 400000 in
theorem c71_8 {w : World} {g : Nat} {s : ByteArray} {U : List Int} {cv : Value} {op : Bool} (h : Lx w g s U cv op) (n0 : (Css.pk 0 U == 123) = false) (n1 : (Css.pk 0 U == 125) = false) (n2 : (Css.pk 0 U == 91) = false) (n3 : (Css.pk 0 U == 93) = false) (n4 : (Css.pk 0 U == 40) = false) (y : (Css.pk 0 U == 41) = true) :
  Calls Tryz.prog 71 #[.pointer (some ⟨g, 0, none⟩)] w fun e w' => e = .returned (tkVal ⟨8, 0, false, []⟩) ∧ Lx w' g s U.tail cv op ∧ Kp w w' g := by
 have hlt := lt_of_block h.blk
 go_enter Tryz.func71, Tryz.ntmps71
 go_wp2_with fail
 refine (c61 (h.allocd _)).mono ?_
 rintro e w1 ⟨rfl, hL1, hK1⟩
 have hrb := hK1.newBlk hlt
 obtain ⟨hc0, hc1, hc2, hc3, hc4, hc5, hf0, hf1, hf2, hf3, hf4, hf5⟩ := six hrb
 have HR := Lib.hid hrb
 clear hrb
 go_wp2
 exact bodyPost_ret (v := .agg (tkCells 8 0 0 0 false (str []))) (by simp [results, Tryz.results71, go_sem, tkCells, str, hc0, hc1, hc2, hc3, hc4, hc5]) rfl ⟨rfl, hL1.six (by omega) _ _ _ _ _ _, (Kp.allocd hK1).six (Nat.le_refl _) _ _ _ _ _ _⟩
set_option maxRecDepth 100000 in
set_option maxHeartbeats 400000 in
theorem c71_9 {w : World} {g : Nat} {s : ByteArray} {U : List Int} {cv : Value} {op : Bool} (h : Lx w g s U cv op) (n0 : (Css.pk 0 U == 123) = false) (n1 : (Css.pk 0 U == 125) = false) (n2 : (Css.pk 0 U == 91) = false) (n3 : (Css.pk 0 U == 93) = false) (n4 : (Css.pk 0 U == 40) = false) (n5 : (Css.pk 0 U == 41) = false) (y : (Css.pk 0 U == 58) = true) :
  Calls Tryz.prog 71 #[.pointer (some ⟨g, 0, none⟩)] w fun e w' => e = .returned (tkVal ⟨9, 0, false, []⟩) ∧ Lx w' g s U.tail cv op ∧ Kp w w' g := by
 have hlt := lt_of_block h.blk
 go_enter Tryz.func71, Tryz.ntmps71
 go_wp2_with fail
 refine (c61 (h.allocd _)).mono ?_
 rintro e w1 ⟨rfl, hL1, hK1⟩
 have hrb := hK1.newBlk hlt
 obtain ⟨hc0, hc1, hc2, hc3, hc4, hc5, hf0, hf1, hf2, hf3, hf4, hf5⟩ := six hrb
 have HR := Lib.hid hrb
 clear hrb
 go_wp2
 exact bodyPost_ret (v := .agg (tkCells 9 0 0 0 false (str []))) (by simp [results, Tryz.results71, go_sem, tkCells, str, hc0, hc1, hc2, hc3, hc4, hc5]) rfl ⟨rfl, hL1.six (by omega) _ _ _ _ _ _, (Kp.allocd hK1).six (Nat.le_refl _) _ _ _ _ _ _⟩
set_option maxRecDepth 100000 in
set_option maxHeartbeats 400000 in
theorem c71_35 {w : World} {g : Nat} {s : ByteArray} {U : List Int} {cv : Value} {op : Bool} (h : Lx w g s U cv op) (n0 : (Css.pk 0 U == 123) = false) (n1 : (Css.pk 0 U == 125) = false) (n2 : (Css.pk 0 U == 91) = false) (n3 : (Css.pk 0 U == 93) = false) (n4 : (Css.pk 0 U == 40) = false) (n5 : (Css.pk 0 U == 41) = false) (n6 : (Css.pk 0 U == 58) = false) (y : (Css.pk 0 U == 59) = true) :
  Calls Tryz.prog 71 #[.pointer (some ⟨g, 0, none⟩)] w fun e w' => e = .returned (tkVal ⟨35, 0, false, []⟩) ∧ Lx w' g s U.tail cv op ∧ Kp w w' g := by
 have hlt := lt_of_block h.blk
 go_enter Tryz.func71, Tryz.ntmps71
 go_wp2_with fail
 refine (c61 (h.allocd _)).mono ?_
 rintro e w1 ⟨rfl, hL1, hK1⟩
 have hrb := hK1.newBlk hlt
 obtain ⟨hc0, hc1, hc2, hc3, hc4, hc5, hf0, hf1, hf2, hf3, hf4, hf5⟩ := six hrb
 have HR := Lib.hid hrb
 clear hrb
 go_wp2
 exact bodyPost_ret (v := .agg (tkCells 35 0 0 0 false (str []))) (by simp [results, Tryz.results71, go_sem, tkCells, str, hc0, hc1, hc2, hc3, hc4, hc5]) rfl ⟨rfl, hL1.six (by omega) _ _ _ _ _ _, (Kp.allocd hK1).six (Nat.le_refl _) _ _ _ _ _ _⟩
set_option maxRecDepth 100000 in
set_option maxHeartbeats 400000 in
theorem c71_10 {w : World} {g : Nat} {s : ByteArray} {U : List Int} {cv : Value} {op : Bool} (h : Lx w g s U cv op) (n0 : (Css.pk 0 U == 123) = false) (n1 : (Css.pk 0 U == 125) = false) (n2 : (Css.pk 0 U == 91) = false) (n3 : (Css.pk 0 U == 93) = false) (n4 : (Css.pk 0 U == 40) = false) (n5 : (Css.pk 0 U == 41) = false) (n6 : (Css.pk 0 U == 58) = false) (n7 : (Css.pk 0 U == 59) = false) (y : (Css.pk 0 U == 44) = true) :
  Calls Tryz.prog 71 #[.pointer (some ⟨g, 0, none⟩)] w fun e w' => e = .returned (tkVal ⟨10, 0, false, []⟩) ∧ Lx w' g s U.tail cv op ∧ Kp w w' g := by
 have hlt := lt_of_block h.blk
 go_enter Tryz.func71, Tryz.ntmps71
 go_wp2_with fail
 refine (c61 (h.allocd _)).mono ?_
 rintro e w1 ⟨rfl, hL1, hK1⟩
 have hrb := hK1.newBlk hlt
 obtain ⟨hc0, hc1, hc2, hc3, hc4, hc5, hf0, hf1, hf2, hf3, hf4, hf5⟩ := six hrb
 have HR := Lib.hid hrb
 clear hrb
 go_wp2
 exact bodyPost_ret (v := .agg (tkCells 10 0 0 0 false (str []))) (by simp [results, Tryz.results71, go_sem, tkCells, str, hc0, hc1, hc2, hc3, hc4, hc5]) rfl ⟨rfl, hL1.six (by omega) _ _ _ _ _ _, (Kp.allocd hK1).six (Nat.le_refl _) _ _ _ _ _ _⟩
set_option maxRecDepth 100000 in
set_option maxHeartbeats 400000 in
theorem c71_12 {w : World} {g : Nat} {s : ByteArray} {U : List Int} {cv : Value} {op : Bool} (h : Lx w g s U cv op) (n0 : (Css.pk 0 U == 123) = false) (n1 : (Css.pk 0 U == 125) = false) (n2 : (Css.pk 0 U == 91) = false) (n3 : (Css.pk 0 U == 93) = false) (n4 : (Css.pk 0 U == 40) = false) (n5 : (Css.pk 0 U == 41) = false) (n6 : (Css.pk 0 U == 58) = false) (n7 : (Css.pk 0 U == 59) = false) (n8 : (Css.pk 0 U == 44) = false) (y : (Css.pk 0 U == 38) = true) :
  Calls Tryz.prog 71 #[.pointer (some ⟨g, 0, none⟩)] w fun e w' => e = .returned (tkVal ⟨12, 0, false, []⟩) ∧ Lx w' g s U.tail cv op ∧ Kp w w' g := by
 have hlt := lt_of_block h.blk
 go_enter Tryz.func71, Tryz.ntmps71
 go_wp2_with fail
 refine (c61 (h.allocd _)).mono ?_
 rintro e w1 ⟨rfl, hL1, hK1⟩
 have hrb := hK1.newBlk hlt
 obtain ⟨hc0, hc1, hc2, hc3, hc4, hc5, hf0, hf1, hf2, hf3, hf4, hf5⟩ := six hrb
 have HR := Lib.hid hrb
 clear hrb
 go_wp2
 exact bodyPost_ret (v := .agg (tkCells 12 0 0 0 false (str []))) (by simp [results, Tryz.results71, go_sem, tkCells, str, hc0, hc1, hc2, hc3, hc4, hc5]) rfl ⟨rfl, hL1.six (by omega) _ _ _ _ _ _, (Kp.allocd hK1).six (Nat.le_refl _) _ _ _ _ _ _⟩
set_option maxRecDepth 100000 in
set_option maxHeartbeats 400000 in
theorem c71_13 {w : World} {g : Nat} {s : ByteArray} {U : List Int} {cv : Value} {op : Bool} (h : Lx w g s U cv op) (n0 : (Css.pk 0 U == 123) = false) (n1 : (Css.pk 0 U == 125) = false) (n2 : (Css.pk 0 U == 91) = false) (n3 : (Css.pk 0 U == 93) = false) (n4 : (Css.pk 0 U == 40) = false) (n5 : (Css.pk 0 U == 41) = false) (n6 : (Css.pk 0 U == 58) = false) (n7 : (Css.pk 0 U == 59) = false) (n8 : (Css.pk 0 U == 44) = false) (n9 : (Css.pk 0 U == 38) = false) (y : (Css.pk 0 U == 42) = true) :
  Calls Tryz.prog 71 #[.pointer (some ⟨g, 0, none⟩)] w fun e w' => e = .returned (tkVal ⟨13, 0, false, []⟩) ∧ Lx w' g s U.tail cv op ∧ Kp w w' g := by
 have hlt := lt_of_block h.blk
 go_enter Tryz.func71, Tryz.ntmps71
 go_wp2_with fail
 refine (c61 (h.allocd _)).mono ?_
 rintro e w1 ⟨rfl, hL1, hK1⟩
 have hrb := hK1.newBlk hlt
 obtain ⟨hc0, hc1, hc2, hc3, hc4, hc5, hf0, hf1, hf2, hf3, hf4, hf5⟩ := six hrb
 have HR := Lib.hid hrb
 clear hrb
 go_wp2
 exact bodyPost_ret (v := .agg (tkCells 13 0 0 0 false (str []))) (by simp [results, Tryz.results71, go_sem, tkCells, str, hc0, hc1, hc2, hc3, hc4, hc5]) rfl ⟨rfl, hL1.six (by omega) _ _ _ _ _ _, (Kp.allocd hK1).six (Nat.le_refl _) _ _ _ _ _ _⟩
set_option maxRecDepth 100000 in
set_option maxHeartbeats 400000 in
theorem c71_14 {w : World} {g : Nat} {s : ByteArray} {U : List Int} {cv : Value} {op : Bool} (h : Lx w g s U cv op) (n0 : (Css.pk 0 U == 123) = false) (n1 : (Css.pk 0 U == 125) = false) (n2 : (Css.pk 0 U == 91) = false) (n3 : (Css.pk 0 U == 93) = false) (n4 : (Css.pk 0 U == 40) = false) (n5 : (Css.pk 0 U == 41) = false) (n6 : (Css.pk 0 U == 58) = false) (n7 : (Css.pk 0 U == 59) = false) (n8 : (Css.pk 0 U == 44) = false) (n9 : (Css.pk 0 U == 38) = false) (n10 : (Css.pk 0 U == 42) = false) (y : (Css.pk 0 U == 124) = true) :
  Calls Tryz.prog 71 #[.pointer (some ⟨g, 0, none⟩)] w fun e w' => e = .returned (tkVal ⟨14, 0, false, []⟩) ∧ Lx w' g s U.tail cv op ∧ Kp w w' g := by
 have hlt := lt_of_block h.blk
 go_enter Tryz.func71, Tryz.ntmps71
 go_wp2_with fail
 refine (c61 (h.allocd _)).mono ?_
 rintro e w1 ⟨rfl, hL1, hK1⟩
 have hrb := hK1.newBlk hlt
 obtain ⟨hc0, hc1, hc2, hc3, hc4, hc5, hf0, hf1, hf2, hf3, hf4, hf5⟩ := six hrb
 have HR := Lib.hid hrb
 clear hrb
 go_wp2
 exact bodyPost_ret (v := .agg (tkCells 14 0 0 0 false (str []))) (by simp [results, Tryz.results71, go_sem, tkCells, str, hc0, hc1, hc2, hc3, hc4, hc5]) rfl ⟨rfl, hL1.six (by omega) _ _ _ _ _ _, (Kp.allocd hK1).six (Nat.le_refl _) _ _ _ _ _ _⟩
set_option maxRecDepth 100000 in
set_option maxHeartbeats 400000 in
theorem c71_15 {w : World} {g : Nat} {s : ByteArray} {U : List Int} {cv : Value} {op : Bool} (h : Lx w g s U cv op) (n0 : (Css.pk 0 U == 123) = false) (n1 : (Css.pk 0 U == 125) = false) (n2 : (Css.pk 0 U == 91) = false) (n3 : (Css.pk 0 U == 93) = false) (n4 : (Css.pk 0 U == 40) = false) (n5 : (Css.pk 0 U == 41) = false) (n6 : (Css.pk 0 U == 58) = false) (n7 : (Css.pk 0 U == 59) = false) (n8 : (Css.pk 0 U == 44) = false) (n9 : (Css.pk 0 U == 38) = false) (n10 : (Css.pk 0 U == 42) = false) (n11 : (Css.pk 0 U == 124) = false) (y : (Css.pk 0 U == 94) = true) :
  Calls Tryz.prog 71 #[.pointer (some ⟨g, 0, none⟩)] w fun e w' => e = .returned (tkVal ⟨15, 0, false, []⟩) ∧ Lx w' g s U.tail cv op ∧ Kp w w' g := by
 have hlt := lt_of_block h.blk
 go_enter Tryz.func71, Tryz.ntmps71
 go_wp2_with fail
 refine (c61 (h.allocd _)).mono ?_
 rintro e w1 ⟨rfl, hL1, hK1⟩
 have hrb := hK1.newBlk hlt
 obtain ⟨hc0, hc1, hc2, hc3, hc4, hc5, hf0, hf1, hf2, hf3, hf4, hf5⟩ := six hrb
 have HR := Lib.hid hrb
 clear hrb
 go_wp2
 exact bodyPost_ret (v := .agg (tkCells 15 0 0 0 false (str []))) (by simp [results, Tryz.results71, go_sem, tkCells, str, hc0, hc1, hc2, hc3, hc4, hc5]) rfl ⟨rfl, hL1.six (by omega) _ _ _ _ _ _, (Kp.allocd hK1).six (Nat.le_refl _) _ _ _ _ _ _⟩
set_option maxRecDepth 100000 in
set_option maxHeartbeats 400000 in
theorem c71_16 {w : World} {g : Nat} {s : ByteArray} {U : List Int} {cv : Value} {op : Bool} (h : Lx w g s U cv op) (n0 : (Css.pk 0 U == 123) = false) (n1 : (Css.pk 0 U == 125) = false) (n2 : (Css.pk 0 U == 91) = false) (n3 : (Css.pk 0 U == 93) = false) (n4 : (Css.pk 0 U == 40) = false) (n5 : (Css.pk 0 U == 41) = false) (n6 : (Css.pk 0 U == 58) = false) (n7 : (Css.pk 0 U == 59) = false) (n8 : (Css.pk 0 U == 44) = false) (n9 : (Css.pk 0 U == 38) = false) (n10 : (Css.pk 0 U == 42) = false) (n11 : (Css.pk 0 U == 124) = false) (n12 : (Css.pk 0 U == 94) = false) (y : (Css.pk 0 U == 36) = true) :
  Calls Tryz.prog 71 #[.pointer (some ⟨g, 0, none⟩)] w fun e w' => e = .returned (tkVal ⟨16, 0, false, []⟩) ∧ Lx w' g s U.tail cv op ∧ Kp w w' g := by
 have hlt := lt_of_block h.blk
 go_enter Tryz.func71, Tryz.ntmps71
 go_wp2_with fail
 refine (c61 (h.allocd _)).mono ?_
 rintro e w1 ⟨rfl, hL1, hK1⟩
 have hrb := hK1.newBlk hlt
 obtain ⟨hc0, hc1, hc2, hc3, hc4, hc5, hf0, hf1, hf2, hf3, hf4, hf5⟩ := six hrb
 have HR := Lib.hid hrb
 clear hrb
 go_wp2
 exact bodyPost_ret (v := .agg (tkCells 16 0 0 0 false (str []))) (by simp [results, Tryz.results71, go_sem, tkCells, str, hc0, hc1, hc2, hc3, hc4, hc5]) rfl ⟨rfl, hL1.six (by omega) _ _ _ _ _ _, (Kp.allocd hK1).six (Nat.le_refl _) _ _ _ _ _ _⟩
set_option maxRecDepth 100000 in
set_option maxHeartbeats 400000 in
theorem c71_17 {w : World} {g : Nat} {s : ByteArray} {U : List Int} {cv : Value} {op : Bool} (h : Lx w g s U cv op) (n0 : (Css.pk 0 U == 123) = false) (n1 : (Css.pk 0 U == 125) = false) (n2 : (Css.pk 0 U == 91) = false) (n3 : (Css.pk 0 U == 93) = false) (n4 : (Css.pk 0 U == 40) = false) (n5 : (Css.pk 0 U == 41) = false) (n6 : (Css.pk 0 U == 58) = false) (n7 : (Css.pk 0 U == 59) = false) (n8 : (Css.pk 0 U == 44) = false) (n9 : (Css.pk 0 U == 38) = false) (n10 : (Css.pk 0 U == 42) = false) (n11 : (Css.pk 0 U == 124) = false) (n12 : (Css.pk 0 U == 94) = false) (n13 : (Css.pk 0 U == 36) = false) (y : (Css.pk 0 U == 46) = true) :
  Calls Tryz.prog 71 #[.pointer (some ⟨g, 0, none⟩)] w fun e w' => e = .returned (tkVal ⟨17, 0, false, []⟩) ∧ Lx w' g s U.tail cv op ∧ Kp w w' g := by
 have hlt := lt_of_block h.blk
 go_enter Tryz.func71, Tryz.ntmps71
 go_wp2_with fail
 refine (c61 (h.allocd _)).mono ?_
 rintro e w1 ⟨rfl, hL1, hK1⟩
 have hrb := hK1.newBlk hlt
 obtain ⟨hc0, hc1, hc2, hc3, hc4, hc5, hf0, hf1, hf2, hf3, hf4, hf5⟩ := six hrb
 have HR := Lib.hid hrb
 clear hrb
 go_wp2
 exact bodyPost_ret (v := .agg (tkCells 17 0 0 0 false (str []))) (by simp [results, Tryz.results71, go_sem, tkCells, str, hc0, hc1, hc2, hc3, hc4, hc5]) rfl ⟨rfl, hL1.six (by omega) _ _ _ _ _ _, (Kp.allocd hK1).six (Nat.le_refl _) _ _ _ _ _ _⟩
set_option maxRecDepth 100000 in
set_option maxHeartbeats 400000 in
theorem c71_18 {w : World} {g : Nat} {s : ByteArray} {U : List Int} {cv : Value} {op : Bool} (h : Lx w g s U cv op) (n0 : (Css.pk 0 U == 123) = false) (n1 : (Css.pk 0 U == 125) = false) (n2 : (Css.pk 0 U == 91) = false) (n3 : (Css.pk 0 U == 93) = false) (n4 : (Css.pk 0 U == 40) = false) (n5 : (Css.pk 0 U == 41) = false) (n6 : (Css.pk 0 U == 58) = false) (n7 : (Css.pk 0 U == 59) = false) (n8 : (Css.pk 0 U == 44) = false) (n9 : (Css.pk 0 U == 38) = false) (n10 : (Css.pk 0 U == 42) = false) (n11 : (Css.pk 0 U == 124) = false) (n12 : (Css.pk 0 U == 94) = false) (n13 : (Css.pk 0 U == 36) = false) (n14 : (Css.pk 0 U == 46) = false) (y : (Css.pk 0 U == 61) = true) :
  Calls Tryz.prog 71 #[.pointer (some ⟨g, 0, none⟩)] w fun e w' => e = .returned (tkVal ⟨18, 0, false, []⟩) ∧ Lx w' g s U.tail cv op ∧ Kp w w' g := by
 have hlt := lt_of_block h.blk
 go_enter Tryz.func71, Tryz.ntmps71
 go_wp2_with fail
 refine (c61 (h.allocd _)).mono ?_
 rintro e w1 ⟨rfl, hL1, hK1⟩
 have hrb := hK1.newBlk hlt
 obtain ⟨hc0, hc1, hc2, hc3, hc4, hc5, hf0, hf1, hf2, hf3, hf4, hf5⟩ := six hrb
 have HR := Lib.hid hrb
 clear hrb
 go_wp2
 exact bodyPost_ret (v := .agg (tkCells 18 0 0 0 false (str []))) (by simp [results, Tryz.results71, go_sem, tkCells, str, hc0, hc1, hc2, hc3, hc4, hc5]) rfl ⟨rfl, hL1.six (by omega) _ _ _ _ _ _, (Kp.allocd hK1).six (Nat.le_refl _) _ _ _ _ _ _⟩
set_option maxRecDepth 100000 in
set_option maxHeartbeats 400000 in
theorem c71_19 {w : World} {g : Nat} {s : ByteArray} {U : List Int} {cv : Value} {op : Bool} (h : Lx w g s U cv op) (n0 : (Css.pk 0 U == 123) = false) (n1 : (Css.pk 0 U == 125) = false) (n2 : (Css.pk 0 U == 91) = false) (n3 : (Css.pk 0 U == 93) = false) (n4 : (Css.pk 0 U == 40) = false) (n5 : (Css.pk 0 U == 41) = false) (n6 : (Css.pk 0 U == 58) = false) (n7 : (Css.pk 0 U == 59) = false) (n8 : (Css.pk 0 U == 44) = false) (n9 : (Css.pk 0 U == 38) = false) (n10 : (Css.pk 0 U == 42) = false) (n11 : (Css.pk 0 U == 124) = false) (n12 : (Css.pk 0 U == 94) = false) (n13 : (Css.pk 0 U == 36) = false) (n14 : (Css.pk 0 U == 46) = false) (n15 : (Css.pk 0 U == 61) = false) (y : (Css.pk 0 U == 33) = true) :
  Calls Tryz.prog 71 #[.pointer (some ⟨g, 0, none⟩)] w fun e w' => e = .returned (tkVal ⟨19, 0, false, []⟩) ∧ Lx w' g s U.tail cv op ∧ Kp w w' g := by
 have hlt := lt_of_block h.blk
 go_enter Tryz.func71, Tryz.ntmps71
 go_wp2_with fail
 refine (c61 (h.allocd _)).mono ?_
 rintro e w1 ⟨rfl, hL1, hK1⟩
 have hrb := hK1.newBlk hlt
 obtain ⟨hc0, hc1, hc2, hc3, hc4, hc5, hf0, hf1, hf2, hf3, hf4, hf5⟩ := six hrb
 have HR := Lib.hid hrb
 clear hrb
 go_wp2
 exact bodyPost_ret (v := .agg (tkCells 19 0 0 0 false (str []))) (by simp [results, Tryz.results71, go_sem, tkCells, str, hc0, hc1, hc2, hc3, hc4, hc5]) rfl ⟨rfl, hL1.six (by omega) _ _ _ _ _ _, (Kp.allocd hK1).six (Nat.le_refl _) _ _ _ _ _ _⟩
set_option maxRecDepth 100000 in
set_option maxHeartbeats 400000 in
theorem c71_20 {w : World} {g : Nat} {s : ByteArray} {U : List Int} {cv : Value} {op : Bool} (h : Lx w g s U cv op) (n0 : (Css.pk 0 U == 123) = false) (n1 : (Css.pk 0 U == 125) = false) (n2 : (Css.pk 0 U == 91) = false) (n3 : (Css.pk 0 U == 93) = false) (n4 : (Css.pk 0 U == 40) = false) (n5 : (Css.pk 0 U == 41) = false) (n6 : (Css.pk 0 U == 58) = false) (n7 : (Css.pk 0 U == 59) = false) (n8 : (Css.pk 0 U == 44) = false) (n9 : (Css.pk 0 U == 38) = false) (n10 : (Css.pk 0 U == 42) = false) (n11 : (Css.pk 0 U == 124) = false) (n12 : (Css.pk 0 U == 94) = false) (n13 : (Css.pk 0 U == 36) = false) (n14 : (Css.pk 0 U == 46) = false) (n15 : (Css.pk 0 U == 61) = false) (n16 : (Css.pk 0 U == 33) = false) (y : (Css.pk 0 U == 62) = true) :
  Calls Tryz.prog 71 #[.pointer (some ⟨g, 0, none⟩)] w fun e w' => e = .returned (tkVal ⟨20, 0, false, []⟩) ∧ Lx w' g s U.tail cv op ∧ Kp w w' g := by
 have hlt := lt_of_block h.blk
 go_enter Tryz.func71, Tryz.ntmps71
 go_wp2_with fail
 refine (c61 (h.allocd _)).mono ?_
 rintro e w1 ⟨rfl, hL1, hK1⟩
 have hrb := hK1.newBlk hlt
 obtain ⟨hc0, hc1, hc2, hc3, hc4, hc5, hf0, hf1, hf2, hf3, hf4, hf5⟩ := six hrb
 have HR := Lib.hid hrb
 clear hrb
 go_wp2
 exact bodyPost_ret (v := .agg (tkCells 20 0 0 0 false (str []))) (by simp [results, Tryz.results71, go_sem, tkCells, str, hc0, hc1, hc2, hc3, hc4, hc5]) rfl ⟨rfl, hL1.six (by omega) _ _ _ _ _ _, (Kp.allocd hK1).six (Nat.le_refl _) _ _ _ _ _ _⟩
set_option maxRecDepth 100000 in
set_option maxHeartbeats 400000 in
theorem c71_21 {w : World} {g : Nat} {s : ByteArray} {U : List Int} {cv : Value} {op : Bool} (h : Lx w g s U cv op) (n0 : (Css.pk 0 U == 123) = false) (n1 : (Css.pk 0 U == 125) = false) (n2 : (Css.pk 0 U == 91) = false) (n3 : (Css.pk 0 U == 93) = false) (n4 : (Css.pk 0 U == 40) = false) (n5 : (Css.pk 0 U == 41) = false) (n6 : (Css.pk 0 U == 58) = false) (n7 : (Css.pk 0 U == 59) = false) (n8 : (Css.pk 0 U == 44) = false) (n9 : (Css.pk 0 U == 38) = false) (n10 : (Css.pk 0 U == 42) = false) (n11 : (Css.pk 0 U == 124) = false) (n12 : (Css.pk 0 U == 94) = false) (n13 : (Css.pk 0 U == 36) = false) (n14 : (Css.pk 0 U == 46) = false) (n15 : (Css.pk 0 U == 61) = false) (n16 : (Css.pk 0 U == 33) = false) (n17 : (Css.pk 0 U == 62) = false) (y : (Css.pk 0 U == 60) = true) :
  Calls Tryz.prog 71 #[.pointer (some ⟨g, 0, none⟩)] w fun e w' => e = .returned (tkVal ⟨21, 0, false, []⟩) ∧ Lx w' g s U.tail cv op ∧ Kp w w' g := by
 have hlt := lt_of_block h.blk
 go_enter Tryz.func71, Tryz.ntmps71
 go_wp2_with fail
 refine (c61 (h.allocd _)).mono ?_
 rintro e w1 ⟨rfl, hL1, hK1⟩
 have hrb := hK1.newBlk hlt
 obtain ⟨hc0, hc1, hc2, hc3, hc4, hc5, hf0, hf1, hf2, hf3, hf4, hf5⟩ := six hrb
 have HR := Lib.hid hrb
 clear hrb
 go_wp2
 exact bodyPost_ret (v := .agg (tkCells 21 0 0 0 false (str []))) (by simp [results, Tryz.results71, go_sem, tkCells, str, hc0, hc1, hc2, hc3, hc4, hc5]) rfl ⟨rfl, hL1.six (by omega) _ _ _ _ _ _, (Kp.allocd hK1).six (Nat.le_refl _) _ _ _ _ _ _⟩
set_option maxRecDepth 100000 in
set_option maxHeartbeats 400000 in
theorem c71_22 {w : World} {g : Nat} {s : ByteArray} {U : List Int} {cv : Value} {op : Bool} (h : Lx w g s U cv op) (n0 : (Css.pk 0 U == 123) = false) (n1 : (Css.pk 0 U == 125) = false) (n2 : (Css.pk 0 U == 91) = false) (n3 : (Css.pk 0 U == 93) = false) (n4 : (Css.pk 0 U == 40) = false) (n5 : (Css.pk 0 U == 41) = false) (n6 : (Css.pk 0 U == 58) = false) (n7 : (Css.pk 0 U == 59) = false) (n8 : (Css.pk 0 U == 44) = false) (n9 : (Css.pk 0 U == 38) = false) (n10 : (Css.pk 0 U == 42) = false) (n11 : (Css.pk 0 U == 124) = false) (n12 : (Css.pk 0 U == 94) = false) (n13 : (Css.pk 0 U == 36) = false) (n14 : (Css.pk 0 U == 46) = false) (n15 : (Css.pk 0 U == 61) = false) (n16 : (Css.pk 0 U == 33) = false) (n17 : (Css.pk 0 U == 62) = false) (n18 : (Css.pk 0 U == 60) = false) (y : (Css.pk 0 U == 45) = true) :
  Calls Tryz.prog 71 #[.pointer (some ⟨g, 0, none⟩)] w fun e w' => e = .returned (tkVal ⟨22, 0, false, []⟩) ∧ Lx w' g s U.tail cv op ∧ Kp w w' g := by
 have hlt := lt_of_block h.blk
 go_enter Tryz.func71, Tryz.ntmps71
 go_wp2_with fail
 refine (c61 (h.allocd _)).mono ?_
 rintro e w1 ⟨rfl, hL1, hK1⟩
 have hrb := hK1.newBlk hlt
 obtain ⟨hc0, hc1, hc2, hc3, hc4, hc5, hf0, hf1, hf2, hf3, hf4, hf5⟩ := six hrb
 have HR := Lib.hid hrb
 clear hrb
 go_wp2
 exact bodyPost_ret (v := .agg (tkCells 22 0 0 0 false (str []))) (by simp [results, Tryz.results71, go_sem, tkCells, str, hc0, hc1, hc2, hc3, hc4, hc5]) rfl ⟨rfl, hL1.six (by omega) _ _ _ _ _ _, (Kp.allocd hK1).six (Nat.le_refl _) _ _ _ _ _ _⟩
set_option maxRecDepth 100000 in
set_option maxHeartbeats 400000 in
theorem c71_23 {w : World} {g : Nat} {s : ByteArray} {U : List Int} {cv : Value} {op : Bool} (h : Lx w g s U cv op) (n0 : (Css.pk 0 U == 123) = false) (n1 : (Css.pk 0 U == 125) = false) (n2 : (Css.pk 0 U == 91) = false) (n3 : (Css.pk 0 U == 93) = false) (n4 : (Css.pk 0 U == 40) = false) (n5 : (Css.pk 0 U == 41) = false) (n6 : (Css.pk 0 U == 58) = false) (n7 : (Css.pk 0 U == 59) = false) (n8 : (Css.pk 0 U == 44) = false) (n9 : (Css.pk 0 U == 38) = false) (n10 : (Css.pk 0 U == 42) = false) (n11 : (Css.pk 0 U == 124) = false) (n12 : (Css.pk 0 U == 94) = false) (n13 : (Css.pk 0 U == 36) = false) (n14 : (Css.pk 0 U == 46) = false) (n15 : (Css.pk 0 U == 61) = false) (n16 : (Css.pk 0 U == 33) = false) (n17 : (Css.pk 0 U == 62) = false) (n18 : (Css.pk 0 U == 60) = false) (n19 : (Css.pk 0 U == 45) = false) (y : (Css.pk 0 U == 43) = true) :
  Calls Tryz.prog 71 #[.pointer (some ⟨g, 0, none⟩)] w fun e w' => e = .returned (tkVal ⟨23, 0, false, []⟩) ∧ Lx w' g s U.tail cv op ∧ Kp w w' g := by
 have hlt := lt_of_block h.blk
 go_enter Tryz.func71, Tryz.ntmps71
 go_wp2_with fail
 refine (c61 (h.allocd _)).mono ?_
 rintro e w1 ⟨rfl, hL1, hK1⟩
 have hrb := hK1.newBlk hlt
 obtain ⟨hc0, hc1, hc2, hc3, hc4, hc5, hf0, hf1, hf2, hf3, hf4, hf5⟩ := six hrb
 have HR := Lib.hid hrb
 clear hrb
 go_wp2
 exact bodyPost_ret (v := .agg (tkCells 23 0 0 0 false (str []))) (by simp [results, Tryz.results71, go_sem, tkCells, str, hc0, hc1, hc2, hc3, hc4, hc5]) rfl ⟨rfl, hL1.six (by omega) _ _ _ _ _ _, (Kp.allocd hK1).six (Nat.le_refl _) _ _ _ _ _ _⟩
set_option maxRecDepth 100000 in
set_option maxHeartbeats 400000 in
theorem c71_24 {w : World} {g : Nat} {s : ByteArray} {U : List Int} {cv : Value} {op : Bool} (h : Lx w g s U cv op) (n0 : (Css.pk 0 U == 123) = false) (n1 : (Css.pk 0 U == 125) = false) (n2 : (Css.pk 0 U == 91) = false) (n3 : (Css.pk 0 U == 93) = false) (n4 : (Css.pk 0 U == 40) = false) (n5 : (Css.pk 0 U == 41) = false) (n6 : (Css.pk 0 U == 58) = false) (n7 : (Css.pk 0 U == 59) = false) (n8 : (Css.pk 0 U == 44) = false) (n9 : (Css.pk 0 U == 38) = false) (n10 : (Css.pk 0 U == 42) = false) (n11 : (Css.pk 0 U == 124) = false) (n12 : (Css.pk 0 U == 94) = false) (n13 : (Css.pk 0 U == 36) = false) (n14 : (Css.pk 0 U == 46) = false) (n15 : (Css.pk 0 U == 61) = false) (n16 : (Css.pk 0 U == 33) = false) (n17 : (Css.pk 0 U == 62) = false) (n18 : (Css.pk 0 U == 60) = false) (n19 : (Css.pk 0 U == 45) = false) (n20 : (Css.pk 0 U == 43) = false) (y : (Css.pk 0 U == 47) = true) :
  Calls Tryz.prog 71 #[.pointer (some ⟨g, 0, none⟩)] w fun e w' => e = .returned (tkVal ⟨24, 0, false, []⟩) ∧ Lx w' g s U.tail cv op ∧ Kp w w' g := by
 have hlt := lt_of_block h.blk
 go_enter Tryz.func71, Tryz.ntmps71
 go_wp2_with fail
 refine (c61 (h.allocd _)).mono ?_
 rintro e w1 ⟨rfl, hL1, hK1⟩
 have hrb := hK1.newBlk hlt
 obtain ⟨hc0, hc1, hc2, hc3, hc4, hc5, hf0, hf1, hf2, hf3, hf4, hf5⟩ := six hrb
 have HR := Lib.hid hrb
 clear hrb
 go_wp2
 exact bodyPost_ret (v := .agg (tkCells 24 0 0 0 false (str []))) (by simp [results, Tryz.results71, go_sem, tkCells, str, hc0, hc1, hc2, hc3, hc4, hc5]) rfl ⟨rfl, hL1.six (by omega) _ _ _ _ _ _, (Kp.allocd hK1).six (Nat.le_refl _) _ _ _ _ _ _⟩
set_option maxRecDepth 100000 in
set_option maxHeartbeats 400000 in
theorem c71_25 {w : World} {g : Nat} {s : ByteArray} {U : List Int} {cv : Value} {op : Bool} (h : Lx w g s U cv op) (n0 : (Css.pk 0 U == 123) = false) (n1 : (Css.pk 0 U == 125) = false) (n2 : (Css.pk 0 U == 91) = false) (n3 : (Css.pk 0 U == 93) = false) (n4 : (Css.pk 0 U == 40) = false) (n5 : (Css.pk 0 U == 41) = false) (n6 : (Css.pk 0 U == 58) = false) (n7 : (Css.pk 0 U == 59) = false) (n8 : (Css.pk 0 U == 44) = false) (n9 : (Css.pk 0 U == 38) = false) (n10 : (Css.pk 0 U == 42) = false) (n11 : (Css.pk 0 U == 124) = false) (n12 : (Css.pk 0 U == 94) = false) (n13 : (Css.pk 0 U == 36) = false) (n14 : (Css.pk 0 U == 46) = false) (n15 : (Css.pk 0 U == 61) = false) (n16 : (Css.pk 0 U == 33) = false) (n17 : (Css.pk 0 U == 62) = false) (n18 : (Css.pk 0 U == 60) = false) (n19 : (Css.pk 0 U == 45) = false) (n20 : (Css.pk 0 U == 43) = false) (n21 : (Css.pk 0 U == 47) = false) (y : (Css.pk 0 U == 126) = true) :
  Calls Tryz.prog 71 #[.pointer (some ⟨g, 0, none⟩)] w fun e w' => e = .returned (tkVal ⟨25, 0, false, []⟩) ∧ Lx w' g s U.tail cv op ∧ Kp w w' g := by
 have hlt := lt_of_block h.blk
 go_enter Tryz.func71, Tryz.ntmps71
 go_wp2_with fail
 refine (c61 (h.allocd _)).mono ?_
 rintro e w1 ⟨rfl, hL1, hK1⟩
 have hrb := hK1.newBlk hlt
 obtain ⟨hc0, hc1, hc2, hc3, hc4, hc5, hf0, hf1, hf2, hf3, hf4, hf5⟩ := six hrb
 have HR := Lib.hid hrb
 clear hrb
 go_wp2
 exact bodyPost_ret (v := .agg (tkCells 25 0 0 0 false (str []))) (by simp [results, Tryz.results71, go_sem, tkCells, str, hc0, hc1, hc2, hc3, hc4, hc5]) rfl ⟨rfl, hL1.six (by omega) _ _ _ _ _ _, (Kp.allocd hK1).six (Nat.le_refl _) _ _ _ _ _ _⟩
set_option maxRecDepth 100000 in
set_option maxHeartbeats 400000 in
theorem c71_11 {w : World} {g : Nat} {s : ByteArray} {U : List Int} {cv : Value} {op : Bool} (h : Lx w g s U cv op) (n0 : (Css.pk 0 U == 123) = false) (n1 : (Css.pk 0 U == 125) = false) (n2 : (Css.pk 0 U == 91) = false) (n3 : (Css.pk 0 U == 93) = false) (n4 : (Css.pk 0 U == 40) = false) (n5 : (Css.pk 0 U == 41) = false) (n6 : (Css.pk 0 U == 58) = false) (n7 : (Css.pk 0 U == 59) = false) (n8 : (Css.pk 0 U == 44) = false) (n9 : (Css.pk 0 U == 38) = false) (n10 : (Css.pk 0 U == 42) = false) (n11 : (Css.pk 0 U == 124) = false) (n12 : (Css.pk 0 U == 94) = false) (n13 : (Css.pk 0 U == 36) = false) (n14 : (Css.pk 0 U == 46) = false) (n15 : (Css.pk 0 U == 61) = false) (n16 : (Css.pk 0 U == 33) = false) (n17 : (Css.pk 0 U == 62) = false) (n18 : (Css.pk 0 U == 60) = false) (n19 : (Css.pk 0 U == 45) = false) (n20 : (Css.pk 0 U == 43) = false) (n21 : (Css.pk 0 U == 47) = false) (n22 : (Css.pk 0 U == 126) = false) :
  Calls Tryz.prog 71 #[.pointer (some ⟨g, 0, none⟩)] w fun e w' => e = .returned (tkVal ⟨11, 0, false, []⟩) ∧ Lx w' g s U.tail cv op ∧ Kp w w' g := by
 have hlt := lt_of_block h.blk
 go_enter Tryz.func71, Tryz.ntmps71
 go_wp2_with fail
 refine (c61 (h.allocd _)).mono ?_
 rintro e w1 ⟨rfl, hL1, hK1⟩
 have hrb := hK1.newBlk hlt
 obtain ⟨hc0, hc1, hc2, hc3, hc4, hc5, hf0, hf1, hf2, hf3, hf4, hf5⟩ := six hrb
 have HR := Lib.hid hrb
 clear hrb
 go_wp2
 exact bodyPost_ret (v := .agg (tkCells 11 0 0 0 false (str []))) (by simp [results, Tryz.results71, go_sem, tkCells, str, hc0, hc1, hc2, hc3, hc4, hc5]) rfl ⟨rfl, hL1.six (by omega) _ _ _ _ _ _, (Kp.allocd hK1).six (Nat.le_refl _) _ _ _ _ _ _⟩
theorem c71 {w : World} {g : Nat} {s : ByteArray} {U : List Int} {cv : Value} {op : Bool} (h : Lx w g s U cv op) :
  Calls Tryz.prog 71 #[.pointer (some ⟨g, 0, none⟩)] w fun e w' => e = .returned (tkVal ⟨Css.signKind (Css.pk 0 U), 0, false, []⟩) ∧ Lx w' g s U.tail cv op ∧ Kp w w' g := by
 cases y0 : (Css.pk 0 U == 123) with
 | true =>
  have hk : Css.signKind (Css.pk 0 U) = 31 := by unfold Css.signKind;  rw [if_pos y0]
  rw [hk]; exact c71_31 h y0
 | false =>
 cases y1 : (Css.pk 0 U == 125) with
 | true =>
  have hk : Css.signKind (Css.pk 0 U) = 6 := by unfold Css.signKind; rw [if_neg (by simp [y0])]; rw [if_pos y1]
  rw [hk]; exact c71_6 h y0 y1
 | false =>
 cases y2 : (Css.pk 0 U == 91) with
 | true =>
  have hk : Css.signKind (Css.pk 0 U) = 32 := by unfold Css.signKind; rw [if_neg (by simp [y0])]; rw [if_neg (by simp [y1])]; rw [if_pos y2]
  rw [hk]; exact c71_32 h y0 y1 y2
 | false =>
 cases y3 : (Css.pk 0 U == 93) with
 | true =>
  have hk : Css.signKind (Css.pk 0 U) = 7 := by unfold Css.signKind; rw [if_neg (by simp [y0])]; rw [if_neg (by simp [y1])]; rw [if_neg (by simp [y2])]; rw [if_pos y3]
  rw [hk]; exact c71_7 h y0 y1 y2 y3
 | false =>
 cases y4 : (Css.pk 0 U == 40) with
 | true =>
  have hk : Css.signKind (Css.pk 0 U) = 33 := by unfold Css.signKind; rw [if_neg (by simp [y0])]; rw [if_neg (by simp [y1])]; rw [if_neg (by simp [y2])]; rw [if_neg (by simp [y3])]; rw [if_pos y4]
  rw [hk]; exact c71_33 h y0 y1 y2 y3 y4
 | false =>
 cases y5 : (Css.pk 0 U == 41) with
 | true =>
  have hk : Css.signKind (Css.pk 0 U) = 8 := by unfold Css.signKind; rw [if_neg (by simp [y0])]; rw [if_neg (by simp [y1])]; rw [if_neg (by simp [y2])]; rw [if_neg (by simp [y3])]; rw [if_neg (by simp [y4])]; rw [if_pos y5]
  rw [hk]; exact c71_8 h y0 y1 y2 y3 y4 y5
 | false =>
 cases y6 : (Css.pk 0 U == 58) with
 | true =>
  have hk : Css.signKind (Css.pk 0 U) = 9 := by unfold Css.signKind; rw [if_neg (by simp [y0])]; rw [if_neg (by simp [y1])]; rw [if_neg (by simp [y2])]; rw [if_neg (by simp [y3])]; rw [if_neg (by simp [y4])]; rw [if_neg (by simp [y5])]; rw [if_pos y6]
  rw [hk]; exact c71_9 h y0 y1 y2 y3 y4 y5 y6
 | false =>
 cases y7 : (Css.pk 0 U == 59) with
 | true =>
  have hk : Css.signKind (Css.pk 0 U) = 35 := by unfold Css.signKind; rw [if_neg (by simp [y0])]; rw [if_neg (by simp [y1])]; rw [if_neg (by simp [y2])]; rw [if_neg (by simp [y3])]; rw [if_neg (by simp [y4])]; rw [if_neg (by simp [y5])]; rw [if_neg (by simp [y6])]; rw [if_pos y7]
  rw [hk]; exact c71_35 h y0 y1 y2 y3 y4 y5 y6 y7
 | false =>
 cases y8 : (Css.pk 0 U == 44) with
 | true =>
  have hk : Css.signKind (Css.pk 0 U) = 10 := by unfold Css.signKind; rw [if_neg (by simp [y0])]; rw [if_neg (by simp [y1])]; rw [if_neg (by simp [y2])]; rw [if_neg (by simp [y3])]; rw [if_neg (by simp [y4])]; rw [if_neg (by simp [y5])]; rw [if_neg (by simp [y6])]; rw [if_neg (by simp [y7])]; rw [if_pos y8]
  rw [hk]; exact c71_10 h y0 y1 y2 y3 y4 y5 y6 y7 y8
 | false =>
 cases y9 : (Css.pk 0 U == 38) with
 | true =>
  have hk : Css.signKind (Css.pk 0 U) = 12 := by unfold Css.signKind; rw [if_neg (by simp [y0])]; rw [if_neg (by simp [y1])]; rw [if_neg (by simp [y2])]; rw [if_neg (by simp [y3])]; rw [if_neg (by simp [y4])]; rw [if_neg (by simp [y5])]; rw [if_neg (by simp [y6])]; rw [if_neg (by simp [y7])]; rw [if_neg (by simp [y8])]; rw [if_pos y9]
  rw [hk]; exact c71_12 h y0 y1 y2 y3 y4 y5 y6 y7 y8 y9
 | false =>
 cases y10 : (Css.pk 0 U == 42) with
 | true =>
  have hk : Css.signKind (Css.pk 0 U) = 13 := by unfold Css.signKind; rw [if_neg (by simp [y0])]; rw [if_neg (by simp [y1])]; rw [if_neg (by simp [y2])]; rw [if_neg (by simp [y3])]; rw [if_neg (by simp [y4])]; rw [if_neg (by simp [y5])]; rw [if_neg (by simp [y6])]; rw [if_neg (by simp [y7])]; rw [if_neg (by simp [y8])]; rw [if_neg (by simp [y9])]; rw [if_pos y10]
  rw [hk]; exact c71_13 h y0 y1 y2 y3 y4 y5 y6 y7 y8 y9 y10
 | false =>
 cases y11 : (Css.pk 0 U == 124) with
 | true =>
  have hk : Css.signKind (Css.pk 0 U) = 14 := by unfold Css.signKind; rw [if_neg (by simp [y0])]; rw [if_neg (by simp [y1])]; rw [if_neg (by simp [y2])]; rw [if_neg (by simp [y3])]; rw [if_neg (by simp [y4])]; rw [if_neg (by simp [y5])]; rw [if_neg (by simp [y6])]; rw [if_neg (by simp [y7])]; rw [if_neg (by simp [y8])]; rw [if_neg (by simp [y9])]; rw [if_neg (by simp [y10])]; rw [if_pos y11]
  rw [hk]; exact c71_14 h y0 y1 y2 y3 y4 y5 y6 y7 y8 y9 y10 y11
 | false =>
 cases y12 : (Css.pk 0 U == 94) with
 | true =>
  have hk : Css.signKind (Css.pk 0 U) = 15 := by unfold Css.signKind; rw [if_neg (by simp [y0])]; rw [if_neg (by simp [y1])]; rw [if_neg (by simp [y2])]; rw [if_neg (by simp [y3])]; rw [if_neg (by simp [y4])]; rw [if_neg (by simp [y5])]; rw [if_neg (by simp [y6])]; rw [if_neg (by simp [y7])]; rw [if_neg (by simp [y8])]; rw [if_neg (by simp [y9])]; rw [if_neg (by simp [y10])]; rw [if_neg (by simp [y11])]; rw [if_pos y12]
  rw [hk]; exact c71_15 h y0 y1 y2 y3 y4 y5 y6 y7 y8 y9 y10 y11 y12
 | false =>
 cases y13 : (Css.pk 0 U == 36) with
 | true =>
  have hk : Css.signKind (Css.pk 0 U) = 16 := by unfold Css.signKind; rw [if_neg (by simp [y0])]; rw [if_neg (by simp [y1])]; rw [if_neg (by simp [y2])]; rw [if_neg (by simp [y3])]; rw [if_neg (by simp [y4])]; rw [if_neg (by simp [y5])]; rw [if_neg (by simp [y6])]; rw [if_neg (by simp [y7])]; rw [if_neg (by simp [y8])]; rw [if_neg (by simp [y9])]; rw [if_neg (by simp [y10])]; rw [if_neg (by simp [y11])]; rw [if_neg (by simp [y12])]; rw [if_pos y13]
  rw [hk]; exact c71_16 h y0 y1 y2 y3 y4 y5 y6 y7 y8 y9 y10 y11 y12 y13
 | false =>
 cases y14 : (Css.pk 0 U == 46) with
 | true =>
  have hk : Css.signKind (Css.pk 0 U) = 17 := by unfold Css.signKind; rw [if_neg (by simp [y0])]; rw [if_neg (by simp [y1])]; rw [if_neg (by simp [y2])]; rw [if_neg (by simp [y3])]; rw [if_neg (by simp [y4])]; rw [if_neg (by simp [y5])]; rw [if_neg (by simp [y6])]; rw [if_neg (by simp [y7])]; rw [if_neg (by simp [y8])]; rw [if_neg (by simp [y9])]; rw [if_neg (by simp [y10])]; rw [if_neg (by simp [y11])]; rw [if_neg (by simp [y12])]; rw [if_neg (by simp [y13])]; rw [if_pos y14]
  rw [hk]; exact c71_17 h y0 y1 y2 y3 y4 y5 y6 y7 y8 y9 y10 y11 y12 y13 y14
 | false =>
 cases y15 : (Css.pk 0 U == 61) with
 | true =>
  have hk : Css.signKind (Css.pk 0 U) = 18 := by unfold Css.signKind; rw [if_neg (by simp [y0])]; rw [if_neg (by simp [y1])]; rw [if_neg (by simp [y2])]; rw [if_neg (by simp [y3])]; rw [if_neg (by simp [y4])]; rw [if_neg (by simp [y5])]; rw [if_neg (by simp [y6])]; rw [if_neg (by simp [y7])]; rw [if_neg (by simp [y8])]; rw [if_neg (by simp [y9])]; rw [if_neg (by simp [y10])]; rw [if_neg (by simp [y11])]; rw [if_neg (by simp [y12])]; rw [if_neg (by simp [y13])]; rw [if_neg (by simp [y14])]; rw [if_pos y15]
  rw [hk]; exact c71_18 h y0 y1 y2 y3 y4 y5 y6 y7 y8 y9 y10 y11 y12 y13 y14 y15
 | false =>
 cases y16 : (Css.pk 0 U == 33) with
 | true =>
  have hk : Css.signKind (Css.pk 0 U) = 19 := by unfold Css.signKind; rw [if_neg (by simp [y0])]; rw [if_neg (by simp [y1])]; rw [if_neg (by simp [y2])]; rw [if_neg (by simp [y3])]; rw [if_neg (by simp [y4])]; rw [if_neg (by simp [y5])]; rw [if_neg (by simp [y6])]; rw [if_neg (by simp [y7])]; rw [if_neg (by simp [y8])]; rw [if_neg (by simp [y9])]; rw [if_neg (by simp [y10])]; rw [if_neg (by simp [y11])]; rw [if_neg (by simp [y12])]; rw [if_neg (by simp [y13])]; rw [if_neg (by simp [y14])]; rw [if_neg (by simp [y15])]; rw [if_pos y16]
  rw [hk]; exact c71_19 h y0 y1 y2 y3 y4 y5 y6 y7 y8 y9 y10 y11 y12 y13 y14 y15 y16
 | false =>
 cases y17 : (Css.pk 0 U == 62) with
 | true =>
  have hk : Css.signKind (Css.pk 0 U) = 20 := by unfold Css.signKind; rw [if_neg (by simp [y0])]; rw [if_neg (by simp [y1])]; rw [if_neg (by simp [y2])]; rw [if_neg (by simp [y3])]; rw [if_neg (by simp [y4])]; rw [if_neg (by simp [y5])]; rw [if_neg (by simp [y6])]; rw [if_neg (by simp [y7])]; rw [if_neg (by simp [y8])]; rw [if_neg (by simp [y9])]; rw [if_neg (by simp [y10])]; rw [if_neg (by simp [y11])]; rw [if_neg (by simp [y12])]; rw [if_neg (by simp [y13])]; rw [if_neg (by simp [y14])]; rw [if_neg (by simp [y15])]; rw [if_neg (by simp [y16])]; rw [if_pos y17]
  rw [hk]; exact c71_20 h y0 y1 y2 y3 y4 y5 y6 y7 y8 y9 y10 y11 y12 y13 y14 y15 y16 y17
 | false =>
 cases y18 : (Css.pk 0 U == 60) with
 | true =>
  have hk : Css.signKind (Css.pk 0 U) = 21 := by unfold Css.signKind; rw [if_neg (by simp [y0])]; rw [if_neg (by simp [y1])]; rw [if_neg (by simp [y2])]; rw [if_neg (by simp [y3])]; rw [if_neg (by simp [y4])]; rw [if_neg (by simp [y5])]; rw [if_neg (by simp [y6])]; rw [if_neg (by simp [y7])]; rw [if_neg (by simp [y8])]; rw [if_neg (by simp [y9])]; rw [if_neg (by simp [y10])]; rw [if_neg (by simp [y11])]; rw [if_neg (by simp [y12])]; rw [if_neg (by simp [y13])]; rw [if_neg (by simp [y14])]; rw [if_neg (by simp [y15])]; rw [if_neg (by simp [y16])]; rw [if_neg (by simp [y17])]; rw [if_pos y18]
  rw [hk]; exact c71_21 h y0 y1 y2 y3 y4 y5 y6 y7 y8 y9 y10 y11 y12 y13 y14 y15 y16 y17 y18
 | false =>
 cases y19 : (Css.pk 0 U == 45) with
 | true =>
  have hk : Css.signKind (Css.pk 0 U) = 22 := by unfold Css.signKind; rw [if_neg (by simp [y0])]; rw [if_neg (by simp [y1])]; rw [if_neg (by simp [y2])]; rw [if_neg (by simp [y3])]; rw [if_neg (by simp [y4])]; rw [if_neg (by simp [y5])]; rw [if_neg (by simp [y6])]; rw [if_neg (by simp [y7])]; rw [if_neg (by simp [y8])]; rw [if_neg (by simp [y9])]; rw [if_neg (by simp [y10])]; rw [if_neg (by simp [y11])]; rw [if_neg (by simp [y12])]; rw [if_neg (by simp [y13])]; rw [if_neg (by simp [y14])]; rw [if_neg (by simp [y15])]; rw [if_neg (by simp [y16])]; rw [if_neg (by simp [y17])]; rw [if_neg (by simp [y18])]; rw [if_pos y19]
  rw [hk]; exact c71_22 h y0 y1 y2 y3 y4 y5 y6 y7 y8 y9 y10 y11 y12 y13 y14 y15 y16 y17 y18 y19
 | false =>
 cases y20 : (Css.pk 0 U == 43) with
 | true =>
  have hk : Css.signKind (Css.pk 0 U) = 23 := by unfold Css.signKind; rw [if_neg (by simp [y0])]; rw [if_neg (by simp [y1])]; rw [if_neg (by simp [y2])]; rw [if_neg (by simp [y3])]; rw [if_neg (by simp [y4])]; rw [if_neg (by simp [y5])]; rw [if_neg (by simp [y6])]; rw [if_neg (by simp [y7])]; rw [if_neg (by simp [y8])]; rw [if_neg (by simp [y9])]; rw [if_neg (by simp [y10])]; rw [if_neg (by simp [y11])]; rw [if_neg (by simp [y12])]; rw [if_neg (by simp [y13])]; rw [if_neg (by simp [y14])]; rw [if_neg (by simp [y15])]; rw [if_neg (by simp [y16])]; rw [if_neg (by simp [y17])]; rw [if_neg (by simp [y18])]; rw [if_neg (by simp [y19])]; rw [if_pos y20]
  rw [hk]; exact c71_23 h y0 y1 y2 y3 y4 y5 y6 y7 y8 y9 y10 y11 y12 y13 y14 y15 y16 y17 y18 y19 y20
 | false =>
 cases y21 : (Css.pk 0 U == 47) with
 | true =>
  have hk : Css.signKind (Css.pk 0 U) = 24 := by unfold Css.signKind; rw [if_neg (by simp [y0])]; rw [if_neg (by simp [y1])]; rw [if_neg (by simp [y2])]; rw [if_neg (by simp [y3])]; rw [if_neg (by simp [y4])]; rw [if_neg (by simp [y5])]; rw [if_neg (by simp [y6])]; rw [if_neg (by simp [y7])]; rw [if_neg (by simp [y8])]; rw [if_neg (by simp [y9])]; rw [if_neg (by simp [y10])]; rw [if_neg (by simp [y11])]; rw [if_neg (by simp [y12])]; rw [if_neg (by simp [y13])]; rw [if_neg (by simp [y14])]; rw [if_neg (by simp [y15])]; rw [if_neg (by simp [y16])]; rw [if_neg (by simp [y17])]; rw [if_neg (by simp [y18])]; rw [if_neg (by simp [y19])]; rw [if_neg (by simp [y20])]; rw [if_pos y21]
  rw [hk]; exact c71_24 h y0 y1 y2 y3 y4 y5 y6 y7 y8 y9 y10 y11 y12 y13 y14 y15 y16 y17 y18 y19 y20 y21
 | false =>
 cases y22 : (Css.pk 0 U == 126) with
 | true =>
  have hk : Css.signKind (Css.pk 0 U) = 25 := by unfold Css.signKind; rw [if_neg (by simp [y0])]; rw [if_neg (by simp [y1])]; rw [if_neg (by simp [y2])]; rw [if_neg (by simp [y3])]; rw [if_neg (by simp [y4])]; rw [if_neg (by simp [y5])]; rw [if_neg (by simp [y6])]; rw [if_neg (by simp [y7])]; rw [if_neg (by simp [y8])]; rw [if_neg (by simp [y9])]; rw [if_neg (by simp [y10])]; rw [if_neg (by simp [y11])]; rw [if_neg (by simp [y12])]; rw [if_neg (by simp [y13])]; rw [if_neg (by simp [y14])]; rw [if_neg (by simp [y15])]; rw [if_neg (by simp [y16])]; rw [if_neg (by simp [y17])]; rw [if_neg (by simp [y18])]; rw [if_neg (by simp [y19])]; rw [if_neg (by simp [y20])]; rw [if_neg (by simp [y21])]; rw [if_pos y22]
  rw [hk]; exact c71_25 h y0 y1 y2 y3 y4 y5 y6 y7 y8 y9 y10 y11 y12 y13 y14 y15 y16 y17 y18 y19 y20 y21 y22
 | false =>
 have hk : Css.signKind (Css.pk 0 U) = 11 := by unfold Css.signKind; rw [if_neg (by simp [y0])]; rw [if_neg (by simp [y1])]; rw [if_neg (by simp [y2])]; rw [if_neg (by simp [y3])]; rw [if_neg (by simp [y4])]; rw [if_neg (by simp [y5])]; rw [if_neg (by simp [y6])]; rw [if_neg (by simp [y7])]; rw [if_neg (by simp [y8])]; rw [if_neg (by simp [y9])]; rw [if_neg (by simp [y10])]; rw [if_neg (by simp [y11])]; rw [if_neg (by simp [y12])]; rw [if_neg (by simp [y13])]; rw [if_neg (by simp [y14])]; rw [if_neg (by simp [y15])]; rw [if_neg (by simp [y16])]; rw [if_neg (by simp [y17])]; rw [if_neg (by simp [y18])]; rw [if_neg (by simp [y19])]; rw [if_neg (by simp [y20])]; rw [if_neg (by simp [y21])]; rw [if_neg (by simp [y22])]
 rw [hk]; exact c71_11 h y0 y1 y2 y3 y4 y5 y6 y7 y8 y9 y10 y11 y12 y13 y14 y15 y16 y17 y18 y19 y20 y21 y22
end Go.Proofs.YtkfdcbdlcipmfaaGreatFmt
/- The reference's lexer in memory: texts in quotes. The text has at most 2^60 bytes. -/
namespace Go.Proofs.YtkfdcbdlcipmfaaGreatFmt
open Go.RowKit
theorem Kp.keep {w w' : World} {g b : Nat} {o : Obj} (h : Kp w w' g) (hb : w.heap[b]? = some o) (hn : b ≠ g) : w'.heap[b]? = some o :=
 (h.block b (lt_of_block hb) (by simpa using hn)).trans hb
theorem free_keep {w w' : World} {b : Nat} {o : Obj} (h : w.grownBy w' none) (hb : w.heap[b]? = some o) : w'.heap[b]? = some o :=
 (h.block b (lt_of_block hb) (by simp)).trans hb
def Slot (w : World) (b : Nat) : Prop := w.heap[b]? = some (.cells #[.int .i64 0, .int .i64 0, .int .i64 0, .int .i64 0, .bool false, .string { data := #[] }] 62 (0, 0))
section quoted
variable {q : Int} {out : List UInt8} {V : List Int}
theorem q_end (hq : q ≠ -1) (h : Css.pk 0 V = q) : Css.quoted q out V = (⟨36, 0, false, out⟩, V.tail, false) := by
 cases V with
 | nil => rw [Css.pk_nil] at h; exact absurd h.symm hq
 | cons c V => rw [Css.pk_cons_zero] at h; rw [Css.quoted.eq_def]; simp [h]
theorem q_nil : Css.quoted q out [] = (⟨36, 0, false, out⟩, [], true) := by rw [Css.quoted.eq_def]
theorem q_line (h1 : Css.pk 0 V ≠ q) (h : Css.isNewline (Css.pk 0 V) = true) : Css.quoted q out V = (⟨2, 0, false, []⟩, V, false) := by
 cases V with
 | nil => exact absurd h (by decide)
 | cons c V => rw [Css.pk_cons_zero] at h h1; rw [Css.quoted.eq_def]; simp [h, h1]
theorem q_back (h1 : Css.pk 0 V ≠ q) (h : Css.pk 0 V = 92) : Css.quoted q out V = (if Css.pk 1 V = -1 then Css.quoted q out V.tail else if Css.isNewline (Css.pk 1 V) then Css.quoted q out (Css.newline V.tail) else
  ((Css.quoted q (out ++ Css.enc1 (Css.esc V.tail).1) (Css.esc V.tail).2.1).1, (Css.quoted q (out ++ Css.enc1 (Css.esc V.tail).1) (Css.esc V.tail).2.1).2.1, (Css.esc V.tail).2.2 || (Css.quoted q (out ++ Css.enc1 (Css.esc V.tail).1) (Css.esc V.tail).2.1).2.2)) := by
 cases V with
 | nil => exact absurd h (by decide)
 | cons c V =>
  rw [Css.pk_cons_zero] at h h1
  subst h
  rw [Css.quoted.eq_def, Css.pk_cons_succ]
  have : Css.isNewline 92 = false := by decide
  simp [h1, this]
theorem q_else (h1 : Css.pk 0 V ≠ q) (h0 : Css.pk 0 V ≠ -1) (h : Css.pk 0 V ≠ 92) (hn : Css.isNewline (Css.pk 0 V) = false) : Css.quoted q out V = Css.quoted q (out ++ Css.enc1 (Css.pk 0 V)) V.tail := by
 cases V with
 | nil => exact absurd (Css.pk_nil 0) h0
 | cons c V => rw [Css.pk_cons_zero] at h h1 hn; rw [Css.quoted.eq_def]; simp [h, h1, hn, Css.pk_cons_zero]
end quoted
set_option maxRecDepth 100000 in
set_option maxHeartbeats 4000000 in
theorem c66 {w : World} {g : Nat} {s : ByteArray} {U : List Int} {cv : Value} {op : Bool} (h : Lx w g s U cv op) (hq : Css.pk 0 U = 34 ∨ Css.pk 0 U = 39) :
  Calls Tryz.prog 66 #[.pointer (some ⟨g, 0, none⟩)] w fun e w' => e = .returned (tkVal (Css.quoted (Css.pk 0 U) [] U.tail).1) ∧ Lx w' g s (Css.quoted (Css.pk 0 U) [] U.tail).2.1 cv (op || (Css.quoted (Css.pk 0 U) [] U.tail).2.2) ∧ Kp w w' g := by
 have hlt := lt_of_block h.blk
 have hlen := h.len
 generalize hR : Css.quoted (Css.pk 0 U) [] U.tail = R
 have HR0 := Lib.hid hR
 clear hR
 go_enter Tryz.func66, Tryz.ntmps66
 go_wp2_with fail
 refine (c61 (h.allocd _)).mono ?_
 rintro e w1 ⟨rfl, hL1, hK1⟩
 have HS : Slot w1 w.heap.size := hK1.newBlk hlt
 have HK := Lib.hid (Kp.allocd hK1)
 clear hK1 h
 have htl : U.tail.length ≤ U.length := by simp
 have hq1 : Css.pk 0 U ≠ -1 := by rcases hq with h | h <;> rw [h] <;> decide
 have hq92 : Css.pk 0 U ≠ 92 := by rcases hq with h | h <;> rw [h] <;> decide
 have hqn : Css.isNewline (Css.pk 0 U) = false := by rcases hq with h | h <;> rw [h] <;> decide
 clear hq
 generalize Css.pk 0 U = q at hq1 hq92 hqn HR0
 have HQ := Lib.hid (And.intro hq1 (And.intro hq92 hqn))
 clear hq1 hq92 hqn
 go_wp2_with fail
 go_loopg [4] U.tail.length (fun k v4 wr => ∃ (V : List Int) (out : List UInt8) (op' : Bool), V.length ≤ k ∧ v4 = .string (str out) ∧ out.length + 4 * V.length ≤ 4 * U.length ∧ Lx wr g s V cv op' ∧ Slot wr w.heap.size ∧ Hid (Kp w wr g) ∧
  Hid ((Css.quoted q out V).1 = R.1 ∧ (Css.quoted q out V).2.1 = R.2.1 ∧ (op' || (Css.quoted q out V).2.2) = (op || R.2.2)))
 case atStart => exact ⟨U.tail, [], op, Nat.le_refl _, rfl, by simp; omega, hL1, HS, HK, by rw [← HR0.out]; exact ⟨rfl, rfl, rfl⟩⟩
 case round =>
  clear hL1 HK HS htl HR0
  obtain ⟨V, out, op', hk, rfl, hout, h, HS, HK, HN⟩ := hrel
  have hrr := h.range 0
  obtain ⟨hc0, hc1, hc2, hc3, hc4, hc5, hf0, hf1, hf2, hf3, hf4, hf5⟩ := six HS
  have hne : w.heap.size ≠ g := by omega
  cases t1 : (Css.pk 0 V == q) with
  | true =>
   have HE := Lib.hid (q_end (out := out) HQ.out.1 (by simpa using t1))
   go_wp2_with fail
   refine (c59_0 h).mono ?_
   rintro e w' ⟨rfl, rfl⟩
   go_wp2_with fail
   refine (c61 h).mono ?_
   rintro e w2 ⟨rfl, hL2, hK2⟩
   obtain ⟨hd0, hd1, hd2, hd3, hd4, hd5, he0, he1, he2, he3, he4, he5⟩ := six (Kp.keep hK2 HS hne)
   go_wp2
   exact bodyPost_ret (v := .agg (tkCells 36 0 0 0 false (str out))) (by simp [results, Tryz.results66, go_sem, tkCells, str, *]) rfl ⟨by rw [← HN.out.1, HE.out]; rfl, by rw [← HN.out.2.1, ← HN.out.2.2, HE.out]; exact by simpa using hL2.six hne _ _ _ _ _ _, (HK.out.trans hK2).six (Nat.le_refl _) _ _ _ _ _ _⟩
  | false =>
   have t1n : Css.pk 0 V ≠ q := by simpa using t1
   have T1 := Lib.hid t1n
   clear t1n
   cases t2 : (Css.pk 0 V == -1) with
   | true =>
    obtain rfl := h.pk_nil (by simpa using t2)
    have HE := Lib.hid (q_nil (q := q) (out := out))
    have hg3 := free_blk h.blk 3
    have hgc := cell_blk h.blk (i := 3) (v := .bool op') rfl
    go_wp2_with fail
    refine (c59_0 h).mono ?_
    rintro e w' ⟨rfl, rfl⟩
    go_wp2
    exact bodyPost_ret (v := .agg (tkCells 36 0 0 0 false (str out))) (by simp [results, Tryz.results66, go_sem, tkCells, str, *]) rfl ⟨by rw [← HN.out.1, HE.out]; rfl, by rw [← HN.out.2.1, ← HN.out.2.2, HE.out]; exact by simpa using (h.opened).six hne _ _ _ _ _ _, (HK.out.trans (Kp.opened _ _ _ _)).six (Nat.le_refl _) _ _ _ _ _ _⟩
   | false =>
    cases t3 : Css.isNewline (Css.pk 0 V) with
    | true =>
     have HE := Lib.hid (q_line (out := out) T1.out t3)
     go_wp2_with fail
     refine (c59_0 h).mono ?_
     rintro e w' ⟨rfl, rfl⟩
     go_wp2_with fail
     refine (c91 _ _).mono ?_
     rintro e w' ⟨rfl, rfl⟩
     go_wp2
     exact bodyPost_ret (v := .agg (tkCells 2 0 0 0 false (str []))) (by simp [results, Tryz.results66, go_sem, tkCells, str, *]) rfl ⟨by rw [← HN.out.1, HE.out]; rfl, by rw [← HN.out.2.1, ← HN.out.2.2, HE.out]; exact by simpa using h.six hne _ _ _ _ _ _, HK.out.six (Nat.le_refl _) _ _ _ _ _ _⟩
    | false =>
     cases t4 : (Css.pk 0 V == 92) with
     | true =>
      have h92 : Css.pk 0 V = 92 := by simpa using t4
      have hlt2 : V.tail.length < V.length := by have := Css.pk_lt h92 (by decide); simp; omega
      have HB := Lib.hid (q_back (out := out) T1.out h92)
      have H92 := Lib.hid h92
      clear h92
      cases t5 : (Css.pk 1 V == -1) with
      | true =>
       have HE := Lib.hid (HB.out.trans (by rw [if_pos (by simpa using t5)]))
       go_wp2_with fail
       refine (c59_0 h).mono ?_
       rintro e w' ⟨rfl, rfl⟩
       go_wp2_with fail
       refine (c91 _ _).mono ?_
       rintro e w' ⟨rfl, rfl⟩
       go_wp2_with fail
       refine (c59_1 h).mono ?_
       rintro e w' ⟨rfl, rfl⟩
       go_wp2_with fail
       refine (c61 h).mono ?_
       rintro e w2 ⟨rfl, hL2, hK2⟩
       go_wp2
       go_roundg V.tail.length
       case measure => omega
       case rel =>
        refine ⟨V.tail, out, op', Nat.le_refl _, rfl, by omega, hL2, Kp.keep hK2 HS hne, HK.out.trans hK2, ?_⟩
        rw [← HE.out]; exact HN.out
      | false =>
       cases t6 : Css.isNewline (Css.pk 1 V) with
       | true =>
        have HE := Lib.hid (HB.out.trans (by rw [if_neg (by simpa using t5), if_pos t6]))
        have hnl := Css.newline_le V.tail
        go_wp2_with fail
        refine (c59_0 h).mono ?_
        rintro e w' ⟨rfl, rfl⟩
        go_wp2_with fail
        refine (c91 _ _).mono ?_
        rintro e w' ⟨rfl, rfl⟩
        go_wp2_with fail
        refine (c59_1 h).mono ?_
        rintro e w' ⟨rfl, rfl⟩
        go_wp2_with fail
        refine (c59_1 h).mono ?_
        rintro e w' ⟨rfl, rfl⟩
        go_wp2_with fail
        refine (c91 _ _).mono ?_
        rintro e w' ⟨rfl, rfl⟩
        go_wp2_with fail
        refine (c61 h).mono ?_
        rintro e w2 ⟨rfl, hL2, hK2⟩
        go_wp2_with fail
        refine (c93 hL2).mono ?_
        rintro e w3 ⟨rfl, hL3, hK3⟩
        go_wp2
        go_roundg (Css.newline V.tail).length
        case measure => omega
        case rel =>
         refine ⟨Css.newline V.tail, out, op', Nat.le_refl _, rfl, by omega, hL3, Kp.keep hK3 (Kp.keep hK2 HS hne) hne, (HK.out.trans hK2).trans hK3, ?_⟩
         rw [← HE.out]; exact HN.out
       | false =>
        have HE := Lib.hid (HB.out.trans (by rw [if_neg (by simpa using t5), if_neg (by simp [t6])]))
        have hel := Css.esc_le V.tail
        go_wp2_with fail
        refine (c59_0 h).mono ?_
        rintro e w' ⟨rfl, rfl⟩
        go_wp2_with fail
        refine (c91 _ _).mono ?_
        rintro e w' ⟨rfl, rfl⟩
        go_wp2_with fail
        refine (c59_1 h).mono ?_
        rintro e w' ⟨rfl, rfl⟩
        go_wp2_with fail
        refine (c59_1 h).mono ?_
        rintro e w' ⟨rfl, rfl⟩
        go_wp2_with fail
        refine (c91 _ _).mono ?_
        rintro e w' ⟨rfl, rfl⟩
        go_wp2_with fail
        refine (c61 h).mono ?_
        rintro e w2 ⟨rfl, hL2, hK2⟩
        have hr1 := hL2.range 0
        have hr2 := esc_range hr1.1 hr1.2
        have h4 := enc1_le (Css.esc V.tail).1
        have hsz := str_size out
        have hsz2 := str_size (Css.enc1 (Css.esc V.tail).1)
        go_wp2_with fail
        refine (c63 hL2).mono ?_
        rintro e w3 ⟨rfl, hL3, hK3⟩
        go_wp2_with fail
        refine (c60s _ _ hr2.1 hr2.2).mono ?_
        rintro e w4 ⟨rfl, hG4⟩
        go_wp2
        go_roundg (Css.esc V.tail).2.1.length
        case measure => omega
        case rel =>
         refine ⟨(Css.esc V.tail).2.1, out ++ Css.enc1 (Css.esc V.tail).1, op' || (Css.esc V.tail).2.2, Nat.le_refl _, by rw [str_append], by rw [List.length_append]; omega, hL3.free hG4, free_keep hG4 (Kp.keep hK3 (Kp.keep hK2 HS hne) hne), ((HK.out.trans hK2).trans hK3).free hG4, ?_⟩
         have := HN.out
         rw [HE.out] at this
         exact ⟨this.1, this.2.1, by rw [← this.2.2, Bool.or_assoc]⟩
     | false =>
      have t2n : Css.pk 0 V ≠ -1 := by simpa using t2
      have HE := Lib.hid (q_else (out := out) T1.out t2n (by simpa using t4) t3)
      have hlt2 : V.tail.length < V.length := by have := Css.pk_lt (U := V) (k := 0) rfl t2n; simp; omega
      clear t2n
      have h4 := enc1_le (Css.pk 0 V)
      have hsz := str_size out
      have hsz2 := str_size (Css.enc1 (Css.pk 0 V))
      go_wp2_with fail
      refine (c59_0 h).mono ?_
      rintro e w' ⟨rfl, rfl⟩
      go_wp2_with fail
      refine (c91 _ _).mono ?_
      rintro e w' ⟨rfl, rfl⟩
      go_wp2_with fail
      refine (c61 h).mono ?_
      rintro e w2 ⟨rfl, hL2, hK2⟩
      go_wp2_with fail
      refine (c60s _ _ hrr.1 hrr.2).mono ?_
      rintro e w4 ⟨rfl, hG4⟩
      go_wp2
      go_roundg V.tail.length
      case measure => omega
      case rel =>
       refine ⟨V.tail, out ++ Css.enc1 (Css.pk 0 V), op', Nat.le_refl _, by rw [str_append], by rw [List.length_append]; omega, hL2.free hG4, free_keep hG4 (Kp.keep hK2 HS hne), (HK.out.trans hK2).free hG4, ?_⟩
       have := HN.out
       rw [HE.out] at this
       exact this
end Go.Proofs.YtkfdcbdlcipmfaaGreatFmt
