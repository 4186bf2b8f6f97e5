/- What the reference answers of a node that can be printed. Its text has at most 2^31 - 1 bytes. -/
import Derived.Test.YtkfdcbdlcipmfaaGreatFmtProg
import Derived.WalkKit
import Derived.WalkLawsBesides
import Derived.WalkSpells
import Derived.BigQuiet
import Derived.Deep.QuietTactic
import Derived.Outline
import Derived.Laws.BitsLemmas
import Derived.Lib.Hide
import Derived.OneCell
import Derived.Deep.Draws
import Derived.Deep.LoopGhost
import Derived.Laws.BytesArg
import Derived.Laws.ResultCell
import Derived.Deep.DeepCutAuto
import Derived.Deep.CutBlock
import Derived.Deep.RegionLaw
import Derived.Maps.AppendAt
import Derived.Deep.AppendLies
import Derived.KernelRfl
import Derived.Laws.OwnMore
import Derived.Deep.AppendSrc
import Derived.Maps.OwnOps
import Derived.Test.YtkfdcbdlcipmfaaGreatFmtGL
import Derived.Test.YtkfdcbdlcipmfaaGreatFmtGA
set_option linter.unusedVariables false
set_option linter.unusedSimpArgs false
namespace Go.Proofs.YtkfdcbdlcipmfaaGreatFmt
open Go.RowKit
def NodeOk (n : Css.Node) (w : World) (e : Ending) (w' : World) : Prop := ∃ b, e = .returned (.bool b) ∧ w.grownBy w' none ∧ (b = true → Css.isNode n = true)
theorem NodeOk.mk' {n : Css.Node} {w w' : World} {b : Bool} (hg : w.grownBy w' none) (h : b = true → Css.isNode n = true) : NodeOk n w (.returned (.bool b)) w' := ⟨b, rfl, hg, h⟩
theorem NodeOk.no {n : Css.Node} {w w' : World} (hg : w.grownBy w' none) : NodeOk n w (.returned (.bool false)) w' := ⟨false, rfl, hg, fun h => by cases h⟩
theorem str_data (l : List UInt8) : (str l).data.toList = l := by simp [str]
theorem str_toList (l : List UInt8) : (str l).toList = l := by rw [ByteArray.toList_eq]; exact str_data l
set_option maxRecDepth 100000 in
set_option maxHeartbeats 1000000 in
theorem c37_name (n : Css.Node) (w : World) (hn : n.text.length ≤ 2147483647) (hk : n.kind = 29 ∨ n.kind = 28 ∨ n.kind = 1) : Calls Tryz.prog 37 #[nodeVal n] w (NodeOk n w) := by
 obtain ⟨k, u, d, t, b, a⟩ := n
 simp only at hn hk
 have hs := str_size t
 have hok : Css.isName t = true → Css.isNode ⟨k, u, d, t, b, a⟩ = true := by
  intro h
  rcases hk with rfl | rfl | rfl <;> simp [Css.isNode, h]
 have HOK := Lib.hid hok
 have H42 := fun W => c42 (str t) W (show (str t).size ≤ 2147483648 by omega)
 simp only [str_data] at H42
 have HG : Hid (∀ o, w.grownBy (w.alloc o) none) := Lib.hid fun o => grown_alloc (grown_refl _ _) o
 have H := Lib.hid H42
 clear hok H42
 unfold nodeVal
 rcases hk with rfl | rfl | rfl
 all_goals
  go_enter Tryz.func37, Tryz.ntmps37
  go_wp2_with fail
  refine (H.out _).mono ?_
  rintro e w' ⟨rfl, rfl⟩
  go_wp2_with fail
  go_ret
  exact NodeOk.mk' (HG.out _) HOK.out
set_option maxRecDepth 100000 in
set_option maxHeartbeats 1000000 in
theorem c37_fn (n : Css.Node) (w : World) (hn : n.text.length ≤ 2147483647) (hk : n.kind = 27) : Calls Tryz.prog 37 #[nodeVal n] w (NodeOk n w) := by
 obtain ⟨k, u, d, t, b, a⟩ := n
 simp only at hn hk
 subst hk
 have hs := str_size t
 have hok : Css.isName t = true → Css.isURL t = false → Css.isNode ⟨27, u, d, t, b, a⟩ = true := by
  intro h h2
  simp [Css.isNode, h, h2]
 have HOK := Lib.hid hok
 have H42 := fun W => c42 (str t) W (show (str t).size ≤ 2147483648 by omega)
 have H48 := c48 (str t)
 simp only [str_data] at H42 H48
 have HG : Hid (∀ o, w.grownBy (w.alloc o) none) := Lib.hid fun o => grown_alloc (grown_refl _ _) o
 have H := Lib.hid H42
 have H2 := Lib.hid H48
 clear hok H42 H48
 unfold nodeVal
 cases t1 : Css.isName t with
 | false =>
  go_enter Tryz.func37, Tryz.ntmps37
  go_wp2_with fail
  refine (H.out _).mono ?_
  rintro e w' ⟨rfl, rfl⟩
  rw [t1]
  go_wp2_with fail
  go_ret
  exact NodeOk.no (HG.out _)
 | true =>
  cases t2 : Css.isURL t with
  | true =>
   go_enter Tryz.func37, Tryz.ntmps37
   go_wp2_with fail
   refine (H.out _).mono ?_
   rintro e w' ⟨rfl, rfl⟩
   rw [t1]
   go_wp2_with fail
   refine (H2.out _).mono ?_
   rintro e w' ⟨rfl, rfl⟩
   rw [t2]
   go_wp2_with fail
   go_ret
   exact NodeOk.no (HG.out _)
  | false =>
   have HY := Lib.hid (HOK.out t1 t2)
   go_enter Tryz.func37, Tryz.ntmps37
   go_wp2_with fail
   refine (H.out _).mono ?_
   rintro e w' ⟨rfl, rfl⟩
   rw [t1]
   go_wp2_with fail
   refine (H2.out _).mono ?_
   rintro e w' ⟨rfl, rfl⟩
   rw [t2]
   go_wp2_with fail
   go_ret
   exact NodeOk.mk' (HG.out _) fun _ => HY.out
set_option maxRecDepth 100000 in
set_option maxHeartbeats 1000000 in
theorem c37_string (n : Css.Node) (w : World) (hn : n.text.length ≤ 2147483647) (hk : n.kind = 36) : Calls Tryz.prog 37 #[nodeVal n] w (NodeOk n w) := by
 obtain ⟨k, u, d, t, b, a⟩ := n
 simp only at hn hk
 subst hk
 have hs := str_size t
 have hok : Css.plainX t = true → Css.isNode ⟨36, u, d, t, b, a⟩ = true := by
  intro h
  simp [Css.isNode, h]
 have HOK := Lib.hid hok
 have hx := x_size (str t)
 have H43 := fun W => c43 ({ data := #[120] } ++ str t) W (by omega)
 simp only [x_append, str_data, plainX_cons] at H43
 have HG : Hid (∀ o, w.grownBy (w.alloc o) none) := Lib.hid fun o => grown_alloc (grown_refl _ _) o
 have H := Lib.hid H43
 clear hok H43 hx
 unfold nodeVal
 go_enter Tryz.func37, Tryz.ntmps37
 go_wp2_with fail
 refine (H.out _).mono ?_
 rintro e w' ⟨rfl, rfl⟩
 go_wp2_with fail
 go_ret
 exact NodeOk.mk' (HG.out _) HOK.out
set_option maxRecDepth 100000 in
set_option maxHeartbeats 1000000 in
theorem c37_number (n : Css.Node) (w : World) (hn : n.text.length ≤ 2147483647) (hk : n.kind = 30 ∨ n.kind = 34) : Calls Tryz.prog 37 #[nodeVal n] w (NodeOk n w) := by
 obtain ⟨k, u, d, t, b, a⟩ := n
 simp only at hn hk
 have hs := str_size t
 have hok : loneB (str t) k = true → Css.isNode ⟨k, u, d, t, b, a⟩ = true := by
  intro h
  unfold loneB at h
  rw [str_data] at h
  rcases hk with rfl | rfl <;> simp [Css.isNode, h]
 have HOK := Lib.hid hok
 have H49 := fun W => c49 (str t) k W (show (str t).size ≤ 2147483648 by omega)
 have HG : Hid (∀ o, w.grownBy (w.alloc o) none) := Lib.hid fun o => grown_alloc (grown_refl _ _) o
 have H := Lib.hid H49
 clear hok H49
 unfold nodeVal
 rcases hk with rfl | rfl
 all_goals
  go_enter Tryz.func37, Tryz.ntmps37
  go_wp2_with fail
  refine (H.out _).mono ?_
  rintro e w1 ⟨rfl, hG⟩
  go_wp2_with fail
  go_ret
  exact NodeOk.mk' (grown_trans (HG.out _) hG) HOK.out
set_option maxRecDepth 100000 in
set_option maxHeartbeats 4000000 in
theorem c37_sign (n : Css.Node) (w : World) (hn : n.text.length ≤ 2147483647) (hk : Css.isSign n.kind = true) : Calls Tryz.prog 37 #[nodeVal n] w (NodeOk n w) := by
 obtain ⟨k, u, d, t, b, a⟩ := n
 simp only at hn hk
 have hs := str_size t
 have hok : loneB (str t) k = true → (t == [92]) = false → Css.isNode ⟨k, u, d, t, b, a⟩ = true := by
  intro h h2
  unfold loneB at h
  rw [str_data] at h
  obtain ⟨c1, c2, c3, c4, c5, c6, c7, c8, c9, c10, c11⟩ := Css.isSign_cls hk
  have c12 : k ≠ 30 ∧ k ≠ 34 := by
   constructor <;> rintro rfl <;> exact absurd hk (by decide)
  unfold Css.isNode
  simp only [bne, h2, h, hk, c2, c3, c4, c5, c6, c7, c12.1, c12.2, beq_iff_eq, Bool.or_false, if_false, Bool.not_false, Bool.and_true, if_true, false_or, Bool.or_eq_true]
 have HOK := Lib.hid hok
 have H49 := fun W => c49 (str t) k W (show (str t).size ≤ 2147483648 by omega)
 have HG : Hid (∀ o, w.grownBy (w.alloc o) none) := Lib.hid fun o => grown_alloc (grown_refl _ _) o
 have H := Lib.hid H49
 have ht : (str t).toList = t := str_toList t
 have HT := Lib.hid ht
 clear hok H49 ht
 unfold nodeVal
 simp only [Css.isSign, List.contains_eq_mem, decide_eq_true_eq] at hk
 simp at hk
 have t1 : ((str t).toList == [92]) = true ∨ ((str t).toList == [92]) = false := by cases ((str t).toList == [92]) <;> simp
 rcases hk with rfl | rfl | rfl | rfl | rfl | rfl | rfl | rfl | rfl | rfl | rfl | rfl | rfl | rfl | rfl | rfl | rfl | rfl | rfl | rfl | rfl | rfl | rfl
 all_goals
  rcases t1 with t1 | t1
  ·go_enter Tryz.func37, Tryz.ntmps37
   go_wp2_with fail
   go_ret
   exact NodeOk.no (HG.out _)
  ·have HY := Lib.hid fun h => HOK.out h (by rw [← HT.out]; exact t1)
   go_enter Tryz.func37, Tryz.ntmps37
   go_wp2_with fail
   refine (H.out _).mono ?_
   rintro e w1 ⟨rfl, hG⟩
   go_wp2_with fail
   go_ret
   exact NodeOk.mk' (grown_trans (HG.out _) hG) HY.out
theorem str_take (t : List UInt8) (k : Nat) : (str t).extract 0 k = str (t.take k) := by
 apply ByteArray.ext
 apply Array.toList_inj.1
 simp [str]
theorem str_drop (t : List UInt8) (k : Nat) : (str t).extract k t.length = str (t.drop k) := by
 apply ByteArray.ext
 apply Array.toList_inj.1
 simp [str]
 exact List.take_of_length_le (by simp)
set_option maxRecDepth 400000 in
set_option maxHeartbeats 1000000 in
theorem c37_dim (n : Css.Node) (w : World) (hn : n.text.length ≤ 2147483647) (hk : n.kind = 26) : Calls Tryz.prog 37 #[nodeVal n] w (NodeOk n w) := by
 obtain ⟨k, u, d, t, b, a⟩ := n
 simp only at hn hk
 subst hk
 have hs := str_size t
 have HG : Hid (∀ o, w.grownBy (w.alloc o) none) := Lib.hid fun o => grown_alloc (grown_refl _ _) o
 unfold nodeVal
 by_cases h0 : 0 < u
 ·by_cases h1 : u < t.length
  ·by_cases h2 : u < 60000
   ·obtain ⟨m, rfl⟩ := Int.eq_ofNat_of_zero_le (Int.le_of_lt h0)
    have hok : Css.lone (t.take m) 30 = true → Css.isName (t.drop m) = true → Css.isNode ⟨26, m, d, t, b, a⟩ = true := by
     intro h3 h4
     simp [Css.isNode, h3, h4]
     omega
    have HOK := Lib.hid hok
    have H49 := fun W => c49 (str (t.take m)) 30 W (by rw [str_size]; simp; omega)
    have H42 := fun W => c42 (str (t.drop m)) W (by rw [str_size]; simp; omega)
    simp only [str_data] at H42
    have e1 : (str t).extract 0 m = str (t.take m) := str_take t m
    have e2 : (str t).extract m t.length = str (t.drop m) := str_drop t m
    have hl : loneB (str (t.take m)) 30 = Css.lone (t.take m) 30 := by unfold loneB; rw [str_data]
    rw [hl, ← e1] at H49
    have e2' : (str t).extract m (str t).size = str (t.drop m) := by rw [hs]; exact e2
    rw [← e2'] at H42
    have H := Lib.hid H49
    have H2 := Lib.hid H42
    clear hok H49 H42 e1 e2 e2' hl
    have h0' : (0 : Int) < m := by omega
    have h1' : (m : Int) < (str t).size := by omega
    have h1'' : m ≤ (str t).size := by omega
    cases t1 : Css.lone (t.take m) 30 with
    | false =>
     go_enter Tryz.func37, Tryz.ntmps37
     go_wp2_with fail
     refine (H.out _).mono ?_
     rintro e w1 ⟨rfl, hG⟩
     rw [t1]
     go_wp2_with fail
     go_ret
     exact NodeOk.no (grown_trans (HG.out _) hG)
    | true =>
     go_enter Tryz.func37, Tryz.ntmps37
     go_wp2_with fail
     refine (H.out _).mono ?_
     rintro e w1 ⟨rfl, hG⟩
     rw [t1]
     have hb : w1.heap[w.heap.size]? = some (.cells #[.int .i64 26, .int .i64 m, .int .i64 d, .string (str t), .bool b, .bool a] 50 (0, 0)) := free_keep hG (new_blk _ _)
     have hc1 := cell_blk hb (i := 1) rfl
     have hc3 := cell_blk hb (i := 3) rfl
     have HGG := Lib.hid (grown_trans (HG.out _) hG)
     clear hG hb
     go_wp2_with fail
     refine (H2.out _).mono ?_
     rintro e w' ⟨rfl, rfl⟩
     go_wp2_with fail
     go_ret
     exact NodeOk.mk' HGG.out fun h => HOK.out t1 h
   ·have h2' : 60000 ≤ u := by omega
    have h1' : u < (str t).size := by omega
    go_enter Tryz.func37, Tryz.ntmps37
    go_wp2_with fail
    go_ret
    exact NodeOk.no (HG.out _)
  ·have h1' : ((str t).size : Int) ≤ u := by omega
   clear h1
   go_enter Tryz.func37, Tryz.ntmps37
   go_wp2_with fail
   go_ret
   exact NodeOk.no (HG.out _)
 ·have h0' : u ≤ 0 := by omega
  clear h0
  go_enter Tryz.func37, Tryz.ntmps37
  go_wp2_with fail
  go_ret
  exact NodeOk.no (HG.out _)
set_option maxRecDepth 400000 in
set_option maxHeartbeats 1000000 in
theorem c37_other (n : Css.Node) (w : World) (h29 : (n.kind == 29) = false) (h28 : (n.kind == 28) = false) (h1 : (n.kind == 1) = false) (h27 : (n.kind == 27) = false) (h36 : (n.kind == 36) = false) (h30 : (n.kind == 30) = false) (h34 : (n.kind == 34) = false) (h26 : (n.kind == 26) = false) (h31 : (n.kind == 31) = false) (h32 : (n.kind == 32) = false) (h33 : (n.kind == 33) = false) (h9 : (n.kind == 9) = false) (h10 : (n.kind == 10) = false) (h35 : (n.kind == 35) = false) (h4 : (n.kind == 4) = false) (h5 : (n.kind == 5) = false) (h11 : (n.kind == 11) = false) (h12 : (n.kind == 12) = false) (h13 : (n.kind == 13) = false) (h14 : (n.kind == 14) = false) (h15 : (n.kind == 15) = false) (h16 : (n.kind == 16) = false) (h17 : (n.kind == 17) = false) (h18 : (n.kind == 18) = false) (h19 : (n.kind == 19) = false) (h20 : (n.kind == 20) = false) (h21 : (n.kind == 21) = false) (h22 : (n.kind == 22) = false) (h23 : (n.kind == 23) = false) (h24 : (n.kind == 24) = false) (h25 : (n.kind == 25) = false) : Calls Tryz.prog 37 #[nodeVal n] w (NodeOk n w) := by
 have HG : Hid (∀ o, w.grownBy (w.alloc o) none) := Lib.hid fun o => grown_alloc (grown_refl _ _) o
 unfold nodeVal
 go_enter Tryz.func37, Tryz.ntmps37
 go_wp2_with fail
 go_ret
 exact NodeOk.no (HG.out _)
theorem c37 (n : Css.Node) (w : World) (hn : n.text.length ≤ 2147483647) : Calls Tryz.prog 37 #[nodeVal n] w (NodeOk n w) := by
 by_cases h1 : n.kind = 29 ∨ n.kind = 28 ∨ n.kind = 1
 ·exact c37_name n w hn h1
 by_cases h2 : n.kind = 27
 ·exact c37_fn n w hn h2
 by_cases h3 : n.kind = 36
 ·exact c37_string n w hn h3
 by_cases h4 : n.kind = 30 ∨ n.kind = 34
 ·exact c37_number n w hn h4
 by_cases h5 : n.kind = 26
 ·exact c37_dim n w hn h5
 by_cases h6 : Css.isSign n.kind = true
 ·exact c37_sign n w hn h6
 have h6' : ∀ c ∈ [31, 32, 33, 9, 10, 35, 4, 5, 11, 12, 13, 14, 15, 16, 17, 18, 19, 20, 21, 22, 23, 24, 25], (n.kind == c) = false := by
  intro c hc
  rw [beq_eq_false_iff_ne]
  rintro e
  apply h6
  unfold Css.isSign
  rw [List.contains_iff_mem, e]
  exact hc
 exact c37_other n w (by simp; omega) (by simp; omega) (by simp; omega) (by simp; omega) (by simp; omega) (by simp; omega) (by simp; omega) (by simp; omega) (h6' 31 (by simp)) (h6' 32 (by simp)) (h6' 33 (by simp)) (h6' 9 (by simp)) (h6' 10 (by simp)) (h6' 35 (by simp)) (h6' 4 (by simp)) (h6' 5 (by simp)) (h6' 11 (by simp)) (h6' 12 (by simp)) (h6' 13 (by simp)) (h6' 14 (by simp)) (h6' 15 (by simp)) (h6' 16 (by simp)) (h6' 17 (by simp)) (h6' 18 (by simp)) (h6' 19 (by simp)) (h6' 20 (by simp)) (h6' 21 (by simp)) (h6' 22 (by simp)) (h6' 23 (by simp)) (h6' 24 (by simp)) (h6' 25 (by simp))
end Go.Proofs.YtkfdcbdlcipmfaaGreatFmt
/- What the reference's IsTree answers. At most 1000 nodes, each text of at most 2^31 - 1 bytes. -/
namespace Go.Proofs.YtkfdcbdlcipmfaaGreatFmt
open Go.RowKit
def TreeOk (l : List Css.Node) (w : World) (e : Ending) (w' : World) : Prop := ∃ b, e = .returned (.bool b) ∧ w.grownBy w' none ∧ (b = true → Css.chain 0 l = true)
theorem TreeOk.yes {l : List Css.Node} {w w' : World} (hg : w.grownBy w' none) (h : Css.chain 0 l = true) : TreeOk l w (.returned (.bool true)) w' := ⟨true, rfl, hg, fun _ => h⟩
theorem TreeOk.no {l : List Css.Node} {w w' : World} (hg : w.grownBy w' none) : TreeOk l w (.returned (.bool false)) w' := ⟨false, rfl, hg, fun h => by cases h⟩
theorem chain_go {l : List Css.Node} {k : Nat} {m : Int} (hk : k < l.length) (h1 : 0 ≤ (l[k]).depth) (h2 : (l[k]).depth ≤ m) (h3 : Css.isNode l[k] = true) :
  Css.chain m (l.drop k) = Css.chain (if (Css.opens (l[k]).kind).isSome then (l[k]).depth + 1 else (l[k]).depth) (l.drop (k + 1)) := by
 rw [List.drop_eq_getElem_cons hk]
 simp only [Css.chain, h1, h2, h3, decide_true, Bool.true_and]
def NdB (w : World) (b : Nat) (n : Css.Node) (t : TypeId) : Prop := w.heap[b]? = some (.cells #[.int .i64 n.kind, .int .i64 n.unit, .int .i64 n.depth, .string (str n.text), .bool n.before, .bool n.after] t (0, 0))
theorem NdB.cells {w : World} {b : Nat} {n : Css.Node} {t : TypeId} (h : NdB w b n t) : w.cell? ⟨b, 0, none⟩ = some (.int .i64 n.kind) ∧ w.cell? ⟨b, 1, none⟩ = some (.int .i64 n.unit) ∧ w.cell? ⟨b, 2, none⟩ = some (.int .i64 n.depth) ∧
  w.cell? ⟨b, 3, none⟩ = some (.string (str n.text)) ∧ w.cell? ⟨b, 4, none⟩ = some (.bool n.before) ∧ w.cell? ⟨b, 5, none⟩ = some (.bool n.after) :=
 ⟨cell_blk h rfl, cell_blk h rfl, cell_blk h rfl, cell_blk h rfl, cell_blk h rfl, cell_blk h rfl⟩
set_option maxRecDepth 100000 in
set_option maxHeartbeats 2000000 in
theorem c25 {w : World} {A : Option Addr} {c : Nat} {l : List Css.Node} (h : Nd w w.heap.size A l) (hl : l.length ≤ 1000) (ht : ∀ n ∈ l, n.text.length ≤ 2147483647) :
  Calls Tryz.prog 25 #[.slice A l.length c] w (TreeOk l w) := by
 have H := Lib.hid h
 have HT := Lib.hid ht
 clear h ht
 go_enter Tryz.func25, Tryz.ntmps25
 go_wp2_with fail
 go_loopg [3, 10] l.length (fun g v3 v10 wr => ∃ (k : Nat) (m : Int), k ≤ l.length ∧ g = l.length - k ∧ v3 = .int .i64 m ∧ v10 = .int .i64 k ∧ 0 ≤ m ∧ m ≤ k ∧ Hid (w.grownBy wr none) ∧ Hid (Css.chain 0 l = Css.chain m (l.drop k)))
 case atStart => exact ⟨0, 0, by omega, rfl, rfl, rfl, by omega, by omega, Lib.hid (grown_refl _ _), Lib.hid rfl⟩
 case round =>
  obtain ⟨k, m, hk, rfl, rfl, rfl, hm0, hm1, HG, HC⟩ := hrel
  by_cases hlt : k < l.length
  ·obtain ⟨ad, hA, hb, hc0, hc1, hc2, hc3, hc4, hc5⟩ := Nd.elem (Sl.free H.out HG.out (Nat.le_refl _)) hlt
   subst hA
   have hgo := chain_go (m := m) hlt
   have htx := HT.out l[k] (List.getElem_mem hlt)
   generalize hn : l[k] = n at hc0 hc1 hc2 hc3 hc4 hc5 hgo htx
   have HGO := Lib.hid hgo
   have H37 := Lib.hid fun W => c37 n W htx
   have hG1 : Hid (∀ o, w.grownBy (wr.alloc o) none) := Lib.hid fun o => grown_alloc HG.out o
   clear hn hgo
   by_cases hd0 : n.depth < 0
   ·go_wp2_with fail
    go_ret
    exact TreeOk.no (hG1.out _)
   ·have hd0' : 0 ≤ n.depth := by omega
    clear hd0
    by_cases hd1 : m < n.depth
    ·go_wp2_with fail
     go_ret
     exact TreeOk.no (hG1.out _)
    ·have hd1' : n.depth ≤ m := by omega
     clear hd1
     go_wp2_with fail
     have hc37 := H37.out
     unfold nodeVal at hc37
     refine (hc37 _).mono ?_
     clear hc37
     rintro e w1 ⟨b, rfl, hg, hb⟩
     have hbk : NdB w1 wr.heap.size n 50 := free_keep hg (new_blk _ _)
     obtain ⟨n0, n1, n2, n3, n4, n5⟩ := hbk.cells
     have HG2 := Lib.hid (grown_trans (hG1.out _) hg)
     clear hg hbk hc0 hc1 hc2 hc3 hc4 hc5
     cases b with
     | false =>
      go_wp2_with fail
      go_ret
      exact TreeOk.no HG2.out
     | true =>
      have HCH := Lib.hid (HC.out.trans (HGO.out hd0' hd1' (hb rfl)))
      clear hb
      go_wp2_with fail
      refine (c30 _ _).mono ?_
      rintro e w' ⟨rfl, rfl⟩
      cases ho : (Css.opens n.kind).isSome with
      | true =>
       have hsum : IntKind.i64.wrap (n.depth + 1) = n.depth + 1 := IntWalk.i64_in _ (by omega)
       rw [ho] at HCH
       go_wp2_with fail
       go_roundg (l.length - (k + 1))
       case measure => omega
       case rel => exact ⟨k + 1, n.depth + 1, hlt, rfl, rfl, by go_num, by omega, by omega, HG2, HCH⟩
      | false =>
       rw [ho] at HCH
       go_wp2_with fail
       go_roundg (l.length - (k + 1))
       case measure => omega
       case rel => exact ⟨k + 1, n.depth, hlt, rfl, rfl, by go_num, by omega, by omega, HG2, HCH⟩
  ·have hk' : k = l.length := by omega
   have HY : Hid (Css.chain 0 l = true) := by
    have := HC.out
    rw [hk', List.drop_length] at this
    exact this
   clear hk'
   go_wp2_with fail
   go_ret
   exact TreeOk.yes HG.out HY.out
end Go.Proofs.YtkfdcbdlcipmfaaGreatFmt
