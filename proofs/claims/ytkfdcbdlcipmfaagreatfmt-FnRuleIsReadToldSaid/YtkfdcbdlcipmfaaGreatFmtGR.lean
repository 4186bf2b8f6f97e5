/- Two texts that are read as the same items: the statements say so. The texts have at most 2^31 bytes. -/
import Derived.Test.YtkfdcbdlcipmfaaGreatFmtProg
import Derived.WalkKit
import Derived.WalkLawsBesides
import Derived.WalkSpells
import Derived.BigQuiet
import Derived.Deep.QuietTactic
import Derived.Outline
import Derived.Laws.BitsLemmas
import Derived.Lib.Hide
import Derived.OneCell
import Derived.Deep.Draws
import Derived.Deep.LoopGhost
import Derived.Laws.BytesArg
import Derived.Laws.ResultCell
import Derived.Deep.DeepCutAuto
import Derived.Deep.CutBlock
import Derived.Deep.RegionLaw
import Derived.Maps.AppendAt
import Derived.Deep.AppendLies
import Derived.KernelRfl
import Derived.Laws.OwnMore
import Derived.Deep.RegionHeld3
import Derived.Deep.AppendSrc
import Derived.Maps.OwnOps
import Derived.Maps.Views
import Derived.Test.YtkfdcbdlcipmfaaGreatFmtGQ
import Derived.Test.YtkfdcbdlcipmfaaGreatFmtGI
import Derived.Test.YtkfdcbdlcipmfaaGreatFmtGJ
import Derived.Test.YtkfdcbdlcipmfaaGreatFmtGC
set_option linter.unusedVariables false
set_option linter.unusedSimpArgs false
namespace Go.Proofs.YtkfdcbdlcipmfaaGreatFmt
open Go.RowKit
def Same (k : Int) (u : Nat) (S1 S2 : ByteArray) : Prop :=
 (k = 29 ∨ k = 27 ∨ k = 1 ∨ k = 28 ∨ k = 36) ∨
 (k = 26 ∧ ∃ Y1 Y2, S1 = str Y1 ∧ S2 = str Y2 ∧ Y1.length ≤ 2147483648 ∧ Y2.length ≤ 2147483648 ∧ u ≤ Y1.length ∧ u ≤ Y2.length ∧ Y1.take u = Y2.take u ∧ (Css.name (Css.codes (Y1.drop u))).1 = (Css.name (Css.codes (Y2.drop u))).1) ∨
 (¬ (k = 29 ∨ k = 27 ∨ k = 1 ∨ k = 28 ∨ k = 36) ∧ k ≠ 26 ∧ S1 = S2)
structure Twin (s1 s2 : ByteArray) (q1 q2 : Css.Tok × Bool) : Prop where
 kind : q1.1.tk.kind = q2.1.tk.kind
 unit : q1.1.tk.unit = q2.1.tk.unit
 text : q1.1.tk.text = q2.1.tk.text
 ord1 : s1.size - Css.wd q1.1.from' ≤ s1.size - Css.wd q1.1.upto
 ord2 : s2.size - Css.wd q2.1.from' ≤ s2.size - Css.wd q2.1.upto
 same : Same q1.1.tk.kind q1.1.tk.unit (s1.extract (s1.size - Css.wd q1.1.from') (s1.size - Css.wd q1.1.upto)) (s2.extract (s2.size - Css.wd q2.1.from') (s2.size - Css.wd q2.1.upto))
theorem isIt_facts {s : ByteArray} {q : Css.Tok × Bool} {x : Css.Item} (hp : Css.plain s.data.toList = true) (hF : q.1.from' <:+ Css.codes s.data.toList) (hq : Css.IsIt q x) :
  ∃ X, s.extract (s.size - Css.wd q.1.from') (s.size - Css.wd q.1.upto) = str (Css.enc X) ∧ s.size - Css.wd q.1.from' ≤ s.size - Css.wd q.1.upto ∧ (Css.enc X).length ≤ s.size ∧ Css.Matches q.1.tk X x ∧ Css.Facts q.1.from' (q.1.tk, q.1.upto, false) ∧ q.1.from' = X ++ q.1.upto ∧ (q.1.tk.kind = 26 → q.1.tk.unit ≤ (Css.enc X).length) := by
 obtain ⟨X, hX, hn, hm, _⟩ := hq
 obtain ⟨h1, h2, h3, h4⟩ := Css.tok_bytes hp hF hX
 rw [bytes_len] at h1 h3
 have hf := Css.next_facts q.1.from'
 rw [hn] at hf
 refine ⟨X, ?_, by omega, by rw [Css.enc_length]; omega, hm, hf, hX, fun h => by rw [Css.enc_length]; exact Css.unit_le hn hX h⟩
 have := str_sub h3
 rwa [show s.size - Css.wd q.1.from' + Css.wd X = s.size - Css.wd q.1.upto by omega] at this
theorem twin_of {s1 s2 : ByteArray} {q1 q2 : Css.Tok × Bool} {x : Css.Item} (hp1 : Css.plain s1.data.toList = true) (hp2 : Css.plain s2.data.toList = true) (hF1 : q1.1.from' <:+ Css.codes s1.data.toList) (hF2 : q2.1.from' <:+ Css.codes s2.data.toList)
  (h1 : Css.IsIt q1 x) (h2 : Css.IsIt q2 x) (hx : x.kind ≠ 37) (hs1 : s1.size ≤ 2147483648) (hs2 : s2.size ≤ 2147483648) : Twin s1 s2 q1 q2 := by
 obtain ⟨X1, e1, o1, l1, ⟨k1, m1⟩, f1, x1, u1⟩ := isIt_facts hp1 hF1 h1
 obtain ⟨X2, e2, o2, l2, ⟨k2, m2⟩, f2, x2, u2⟩ := isIt_facts hp2 hF2 h2
 have hk : q1.1.tk.kind = q2.1.tk.kind := k1.trans k2.symm
 have ht : q1.1.tk.text = q2.1.tk.text := by
  by_cases c : x.kind = 29 ∨ x.kind = 27 ∨ x.kind = 1 ∨ x.kind = 28 ∨ x.kind = 36
  ·rw [if_pos c] at m1 m2
   exact m1.trans m2.symm
  ·have t1 := f1.text (by simp only; omega) (by simp only; omega) (by simp only; omega) (by simp only; omega) (by simp only; omega) (by simp only; omega)
   have t2 := f2.text (by simp only; omega) (by simp only; omega) (by simp only; omega) (by simp only; omega) (by simp only; omega) (by simp only; omega)
   exact t1.trans t2.symm
 have hu : q1.1.tk.unit = q2.1.tk.unit := by
  by_cases c : x.kind = 26
  ·rw [if_neg (by omega), if_pos c] at m1 m2
   have := m1.1
   have := m2.1
   omega
  ·have t1 := f1.unit (by simp only; omega)
   have t2 := f2.unit (by simp only; omega)
   exact t1.trans t2.symm
 refine ⟨hk, hu, ht, o1, o2, ?_⟩
 rw [e1, e2]
 by_cases c : x.kind = 29 ∨ x.kind = 27 ∨ x.kind = 1 ∨ x.kind = 28 ∨ x.kind = 36
 ·exact .inl (by omega)
 rw [if_neg c] at m1 m2
 by_cases c2 : x.kind = 26
 ·rw [if_pos c2] at m1 m2
  refine .inr (.inl ⟨by omega, Css.enc X1, Css.enc X2, rfl, rfl, by omega, by omega, u1 (by omega), by rw [hu]; exact u2 (by omega), ?_, ?_⟩)
  ·rw [m1.2.1, hu, m2.2.1]
  ·rw [m1.2.2, hu, m2.2.2]
 rw [if_neg c2] at m1 m2
 refine .inr (.inr ⟨by omega, by omega, ?_⟩)
 by_cases c3 : x.kind = 8 ∨ x.kind = 7 ∨ x.kind = 6
 ·obtain ⟨a1, b1, g1⟩ := f1.close (by simp only; omega)
  obtain ⟨a2, b2, g2⟩ := f2.close (by simp only; omega)
  simp only at b1 b2 g1 g2
  have hc : a1 = a2 := by rcases c3 with c3 | c3 | c3 <;> omega
  have y1 : X1 = [a1] := List.append_cancel_right (x1.symm.trans b1 : X1 ++ q1.1.upto = [a1] ++ q1.1.upto)
  have y2 : X2 = [a2] := List.append_cancel_right (x2.symm.trans b2 : X2 ++ q2.1.upto = [a2] ++ q2.1.upto)
  rw [y1, y2, hc]
 ·rw [if_neg c3] at m1 m2
  rw [m1, m2]
def SameR (w : World) (s1 s2 : ByteArray) (b2 n g1 c1 g2 c2 : Nat) (R1 R2 : List (Css.Tok × Bool)) (wr : World) : Prop :=
 w.grownBy wr none ∧ wr.ownsRow w.heap.size 64 7 (.slice (some ⟨g1, 0, none⟩) n c1) n (R1.flatMap (readC s1)) ∧ wr.ownsRow b2 64 7 (.slice (some ⟨g2, 0, none⟩) n c2) n (R2.flatMap (readC s2))
theorem SameR.free {w : World} {s1 s2 : ByteArray} {b2 n g1 c1 g2 c2 : Nat} {R1 R2 : List (Css.Tok × Bool)} {wr w' : World} (h : SameR w s1 s2 b2 n g1 c1 g2 c2 R1 R2 wr) (hg : wr.grownBy w' none) : SameR w s1 s2 b2 n g1 c1 g2 c2 R1 R2 w' :=
 ⟨grown_trans h.1 hg, own_free h.2.1 hg, own_free h.2.2 hg⟩
def tokCells (k : Int) (a z u : Nat) (id : Bool) (t : List UInt8) : Obj := .cells #[.int .i64 k, .int .i64 (a : Int), .int .i64 (z : Int), .int .i64 (u : Int), .bool id, .string (str t)] 62 (0, 0)
def TwoP (wr : World) (k1 : Int) (a1 z1 u1 : Nat) (id1 : Bool) (a2 z2 : Nat) (id2 : Bool) (t1 : List UInt8) (v10 v11 : Value) (wc : World) : Prop :=
 ∃ p q, v10 = .pointer (some ⟨p, 0, none⟩) ∧ v11 = .pointer (some ⟨q, 0, none⟩) ∧ wc.heap[p]? = some (tokCells k1 a1 z1 u1 id1 t1) ∧ wc.heap[q]? = some (tokCells k1 a2 z2 u1 id2 t1) ∧ wr.grownBy wc none
set_option maxRecDepth 400000 in
set_option maxHeartbeats 4000000 in
theorem c20 (s1 s2 : ByteArray) (n : Nat) (hn : 0 < n) (w : World)
  (hs1 : s1.size ≤ 2147483648) (hp1 : Css.plain s1.data.toList = true) (ho1 : (Css.tokens (Css.codes s1.data.toList)).2.2 = false) (hc1 : (Css.tokens (Css.codes s1.data.toList)).2.1 = 0)
  (hs2 : s2.size ≤ 2147483648) (hp2 : Css.plain s2.data.toList = true) (ho2 : (Css.tokens (Css.codes s2.data.toList)).2.2 = false) (hc2 : (Css.tokens (Css.codes s2.data.toList)).2.1 = 0)
  (R1 R2 : List (Css.Tok × Bool)) (hR1 : Css.rds false (Css.tokens (Css.codes s1.data.toList)).1 = R1) (hR2 : Css.rds false (Css.tokens (Css.codes s2.data.toList)).1 = R2)
  (hl1 : R1.length = n) (hl2 : R2.length = n) (hT : ∀ k (h1 : k < R1.length) (h2 : k < R2.length), Twin s1 s2 R1[k] R2[k]) :
  Calls Tryz.prog 20 #[.string s1, .string s2] w (Yes w) := by
 have hmax : n ≤ 2147483648 := by
  have h1 := tokens_length (Css.codes s1.data.toList)
  have h2 := length_wd (Css.codes s1.data.toList)
  have h3 : Css.wd (Css.codes s1.data.toList) = s1.size := (Css.codes_wd _).trans (bytes_len s1)
  have h4 := rds_length (Css.tokens (Css.codes s1.data.toList)).1 false
  rw [hR1] at h4
  omega
 have H1 := Lib.hid (c31 s1 w hs1 hp1 ho1 hc1 R1 hR1)
 have H2 := Lib.hid (fun W => c31 s2 W hs2 hp2 ho2 hc2 R2 hR2)
 have HL := Lib.hid (And.intro hl1 hl2)
 have HT := Lib.hid hT
 have H35 : Hid (∀ s W, s.size ≤ 2147483648 → Calls Tryz.prog 35 #[.string s] W fun e w' => e = .returned (.string (str (Css.name (Css.codes s.data.toList)).1)) ∧ W.grownBy w' none) := Lib.hid fun s W h => c35 s W h
 clear hs1 hp1 ho1 hc1 hR1 hs2 hp2 ho2 hc2 hR2 hl1 hl2 hT
 go_enter Tryz.func20, Tryz.ntmps20
 go_wp2_with fail
 refine H1.out.mono ?_
 rintro e w1 ⟨A1, c1, rfl, hG1, hO1⟩
 rw [HL.out.1] at hO1 ⊢
 obtain ⟨g1, rfl, hcl⟩ := own_first hO1 hn (by omega)
 have HG1 := Lib.hid hG1
 have HO1 := Lib.hid hO1
 clear hcl hG1 hO1 H1
 go_wp2_with fail
 refine (H2.out _).mono ?_
 rintro e w2 ⟨A2, c2, rfl, hG2, hO2⟩
 rw [HL.out.2] at hO2 ⊢
 obtain ⟨g2, rfl, hcl⟩ := own_first hO2 hn (by omega)
 have HH : Hid (SameR w s1 s2 w1.heap.size n g1 c1 g2 c2 R1 R2 w2) := Lib.hid ⟨grown_trans HG1.out hG2, own_free HO1.out hG2, hO2⟩
 obtain ⟨b2, hb2⟩ : ∃ b, b = w1.heap.size := ⟨_, rfl⟩
 rw [← hb2] at HH
 clear hcl hG2 hO2 H2 HG1 HO1 hb2
 go_wp2_with fail
 go_loopg [39] n (fun gk s39 wr => ∃ (k : Nat), s39 = .int .i64 k ∧ k ≤ n ∧ gk = n - k ∧ Hid (SameR w s1 s2 b2 n g1 c1 g2 c2 R1 R2 wr))
 case atStart => exact ⟨0, rfl, by omega, rfl, HH⟩
 case round =>
  clear HH
  obtain ⟨k, rfl, hk, rfl, HH⟩ := hrel
  by_cases hlt : k < n
  ·have hlt1 : k < R1.length := by rw [HL.out.1]; exact hlt
   have hlt2 : k < R2.length := by rw [HL.out.2]; exact hlt
   have FACTS : Hid (∀ W, wr.grownBy W none → wr.grownBy W none ∧ SameR w s1 s2 b2 n g1 c1 g2 c2 R1 R2 W ∧ _ ∧ _) := Lib.hid fun W hg => by
    have hH := HH.out.free hg
    exact ⟨hg, hH, own_read hH.2.1 HL.out.1 hlt1, own_read hH.2.2 HL.out.2 hlt2⟩
   have HTk := HT.out k hlt1 hlt2
   generalize hx : R1[k] = q1 at FACTS HTk
   generalize hy : R2[k] = q2 at FACTS HTk
   obtain ⟨⟨⟨k1, u1, id1, t1⟩, F1, U1⟩, sp1⟩ := q1
   obtain ⟨⟨⟨k2, u2, id2, t2⟩, F2, U2⟩, sp2⟩ := q2
   obtain ⟨e1, e2, e3, o1, o2, hS⟩ := HTk
   simp only at FACTS e1 e2 e3 o1 o2 hS
   subst e1
   subst e2
   subst e3
   have hz1 : s1.size - Css.wd U1 ≤ s1.size := by omega
   have hz2 : s2.size - Css.wd U2 ≤ s2.size := by omega
   generalize s1.size - Css.wd F1 = a1 at FACTS o1 hS
   generalize s1.size - Css.wd U1 = z1 at FACTS o1 hS hz1
   generalize s2.size - Css.wd F2 = a2 at FACTS o2 hS
   generalize s2.size - Css.wd U2 = z2 at FACTS o2 hS hz2
   clear hx hy hlt1 hlt2
   have hi1 : (a1 : Int) ≤ z1 := by omega
   have hi2 : (a2 : Int) ≤ z2 := by omega
   have HS := Lib.hid hS
   clear hS
   obtain ⟨_, _, ⟨n0, n1, n2, n3, n4, n5, n6⟩, m0, m1, m2, m3, m4, m5, m6⟩ := FACTS.out wr (grown_refl wr none)
   go_wp2_with fail
   go_upto_region 9 with (fail)
   go_cut [10, 11] (fun v10 v11 wc => TwoP wr k1 a1 z1 u1 id1 a2 z2 id2 t1 v10 v11 wc)
   case first =>
    have hn1 := World.new_ne wr _ n0
    have hn2 := World.new_ne wr _ m0
    go_region_held3 (fun W => W.cell? ⟨g1, k * 7, none⟩ = some (.int .i64 k1) ∧ W.cell? ⟨g1, k * 7 + 1, none⟩ = some (.int .i64 (a1 : Int)) ∧ W.cell? ⟨g1, k * 7 + 2, none⟩ = some (.int .i64 (z1 : Int)) ∧ W.cell? ⟨g1, k * 7 + 3, none⟩ = some (.int .i64 (u1 : Int)) ∧ W.cell? ⟨g1, k * 7 + 4, none⟩ = some (.bool id1) ∧ W.cell? ⟨g1, k * 7 + 5, none⟩ = some (.string (str t1)) ∧ W.cell? ⟨g2, k * 7, none⟩ = some (.int .i64 k1) ∧ W.cell? ⟨g2, k * 7 + 1, none⟩ = some (.int .i64 (a2 : Int)) ∧ W.cell? ⟨g2, k * 7 + 2, none⟩ = some (.int .i64 (z2 : Int)) ∧ W.cell? ⟨g2, k * 7 + 3, none⟩ = some (.int .i64 (u1 : Int)) ∧ W.cell? ⟨g2, k * 7 + 4, none⟩ = some (.bool id2) ∧ W.cell? ⟨g2, k * 7 + 5, none⟩ = some (.string (str t1))) (go_keep) (fail)
    ·go_wp2_with fail
     go_meet
     exact ⟨_, _, rfl, rfl, two_blk _ _ _, new_blk' (by simp), grown_drew (grown_alloc (grown_alloc (grown_refl _ _) _) _)⟩
    ·go_wp2_with fail
     go_meet
     exact ⟨_, _, rfl, rfl, new_blk' (by simp), two_blk _ _ _, grown_drew (grown_alloc (grown_alloc (grown_refl _ _) _) _)⟩
   case rest =>
    clear n0 n1 n2 n3 n4 n5 n6 m0 m1 m2 m3 m4 m5 m6
    obtain ⟨p, q, rfl, rfl, hp, hq, hgc⟩ := hcut
    have HH2 : Hid (SameR w s1 s2 b2 n g1 c1 g2 c2 R1 R2 wc) := Lib.hid (HH.out.free hgc)
    have FC : Hid (∀ W, wc.grownBy W none → wc.grownBy W none ∧ W.cell? ⟨p, 0, none⟩ = some (.int .i64 k1) ∧ W.cell? ⟨p, 1, none⟩ = some (.int .i64 (a1 : Int)) ∧ W.cell? ⟨p, 2, none⟩ = some (.int .i64 (z1 : Int)) ∧ W.cell? ⟨p, 3, none⟩ = some (.int .i64 (u1 : Int)) ∧ W.cell? ⟨p, 4, none⟩ = some (.bool id1) ∧ W.cell? ⟨p, 5, none⟩ = some (.string (str t1)) ∧ W.cell? ⟨q, 0, none⟩ = some (.int .i64 k1) ∧ W.cell? ⟨q, 1, none⟩ = some (.int .i64 (a2 : Int)) ∧ W.cell? ⟨q, 2, none⟩ = some (.int .i64 (z2 : Int)) ∧ W.cell? ⟨q, 3, none⟩ = some (.int .i64 (u1 : Int)) ∧ W.cell? ⟨q, 4, none⟩ = some (.bool id2) ∧ W.cell? ⟨q, 5, none⟩ = some (.string (str t1))) := Lib.hid fun W hg =>
     ⟨hg, cell_blk (free_keep hg hp) (i := 0) rfl, cell_blk (free_keep hg hp) (i := 1) rfl, cell_blk (free_keep hg hp) (i := 2) rfl, cell_blk (free_keep hg hp) (i := 3) rfl, cell_blk (free_keep hg hp) (i := 4) rfl, cell_blk (free_keep hg hp) (i := 5) rfl, cell_blk (free_keep hg hq) (i := 0) rfl, cell_blk (free_keep hg hq) (i := 1) rfl, cell_blk (free_keep hg hq) (i := 2) rfl, cell_blk (free_keep hg hq) (i := 3) rfl, cell_blk (free_keep hg hq) (i := 4) rfl, cell_blk (free_keep hg hq) (i := 5) rfl⟩
    clear FACTS HH hp hq hgc
    have hgW := grown_refl wc none
    obtain ⟨_, p0, p1, p2, p3, p4, p5, q0, q1, q2, q3, q4, q5⟩ := FC.out wc hgW
    rcases HS.out with hk5 | ⟨rfl, Y1, Y2, e1, e2, l1, l2, v1, v2, ht, hd⟩ | ⟨hk5, hk26, e⟩
    ·clear HS FC
     rcases hk5 with rfl | rfl | rfl | rfl | rfl
     all_goals
      go_wp2_with fail
      go_quiet (fail)
      go_wp2_with fail
      go_roundg (n - (k + 1))
      case measure => omega
      case rel => exact ⟨k + 1, by go_num, hlt, rfl, Lib.hid (HH2.out.free (grown_drewN (grown_refl _ _) _))⟩
    ·clear HS
     have x1 : (str Y1).extract 0 u1 = str (Y1.take u1) := str_take Y1 u1
     have x2 : (str Y2).extract 0 u1 = str (Y1.take u1) := by rw [str_take, ht]
     have x3 : (str Y1).extract u1 (str Y1).size = str (Y1.drop u1) := by rw [str_size]; exact str_drop Y1 u1
     have x4 : (str Y2).extract u1 (str Y2).size = str (Y2.drop u1) := by rw [str_size]; exact str_drop Y2 u1
     have y1 : u1 ≤ (str Y1).size := by rw [str_size]; exact v1
     have y2 : u1 ≤ (str Y2).size := by rw [str_size]; exact v2
     have Ha := fun W => H35.out (str (Y1.drop u1)) W (by rw [str_size]; simp; omega)
     have Hb := fun W => H35.out (str (Y2.drop u1)) W (by rw [str_size]; simp; omega)
     rw [str_data] at Ha Hb
     rw [hd] at Ha
     have HA := Lib.hid Ha
     have HB := Lib.hid Hb
     clear Ha Hb l1 l2 v1 v2 ht hd H35
     go_wp2_with fail
     go_quiet (fail)
     go_wp2_with fail
     clear p0 p1 p2 p3 p4 p5 q0 q1 q2 q3 q4 q5 hgW
     have hgW := grown_drewN (grown_refl wc none) nq
     generalize wc.drewN nq = W at hgW ⊢
     obtain ⟨_, p0, p1, p2, p3, p4, p5, q0, q1, q2, q3, q4, q5⟩ := FC.out W hgW
     go_region_held3 (fun W => wc.grownBy W none ∧ W.cell? ⟨p, 0, none⟩ = some (.int .i64 26) ∧ W.cell? ⟨p, 1, none⟩ = some (.int .i64 (a1 : Int)) ∧ W.cell? ⟨p, 2, none⟩ = some (.int .i64 (z1 : Int)) ∧ W.cell? ⟨p, 3, none⟩ = some (.int .i64 (u1 : Int)) ∧ W.cell? ⟨p, 4, none⟩ = some (.bool id1) ∧ W.cell? ⟨p, 5, none⟩ = some (.string (str t1)) ∧ W.cell? ⟨q, 0, none⟩ = some (.int .i64 26) ∧ W.cell? ⟨q, 1, none⟩ = some (.int .i64 (a2 : Int)) ∧ W.cell? ⟨q, 2, none⟩ = some (.int .i64 (z2 : Int)) ∧ W.cell? ⟨q, 3, none⟩ = some (.int .i64 (u1 : Int)) ∧ W.cell? ⟨q, 4, none⟩ = some (.bool id2) ∧ W.cell? ⟨q, 5, none⟩ = some (.string (str t1))) (first | exact FC.out _ (grown_drew hgW) | exact FC.out _ hgx | go_keep)
      (first | (go_at_call 35; (with_reducible refine (HA.out _).mono ?_); rintro e w' ⟨rfl, hg⟩; have hgx := grown_trans (a := wc) (by first | assumption | exact grown_drew hgW) hg) | (go_at_call 35; (with_reducible refine (HB.out _).mono ?_); rintro e w' ⟨rfl, hg⟩; have hgx := grown_trans (a := wc) (by first | assumption | exact grown_drew hgW) hg))
     all_goals
      have HX := Lib.hid (HH2.out.free hgx)
      go_wp2_with fail
      go_roundg (n - (k + 1))
      case measure => omega
      case rel => exact ⟨k + 1, by go_num, hlt, rfl, HX⟩
    ·clear HS FC
     generalize e2 : s2.extract a2 z2 = S at e
     have t29 : (k1 == 29) = false := by simp; omega
     have t27 : (k1 == 27) = false := by simp; omega
     have t1' : (k1 == 1) = false := by simp; omega
     have t28 : (k1 == 28) = false := by simp; omega
     have t36 : (k1 == 36) = false := by simp; omega
     have t26 : (k1 == 26) = false := by simp; omega
     clear hk5 hk26
     go_wp2_with fail
     go_quiet (fail)
     go_wp2_with fail
     go_roundg (n - (k + 1))
     case measure => omega
     case rel => exact ⟨k + 1, by go_num, hlt, rfl, Lib.hid (HH2.out.free (grown_drewN (grown_refl _ _) _))⟩
  ·have hk' : k = n := by omega
   have HG := Lib.hid HH.out.1
   clear HH
   subst hk'
   go_wp2_with fail
   go_ret
   exact ⟨rfl, HG.out⟩
end Go.Proofs.YtkfdcbdlcipmfaaGreatFmt
/- The printer in memory; print. What is printed together has at most 2^45 bytes. -/
namespace Go.Proofs.YtkfdcbdlcipmfaaGreatFmt
open Go.RowKit
def bc (T : List UInt8) : List Value := T.map fun b => .int .u8 b.toNat
theorem bc_append (a b : List UInt8) : bc (a ++ b) = bc a ++ bc b := by simp [bc]
theorem bc_bytes (s : ByteArray) : byteCells s = bc s.data.toList := rfl
structure PxC (C : Array Value) (ws asc : Bool) (v : Value) : Prop where
 size : C.size = 43
 limit : C[3]? = some (.int .i64 0)
 min : C[6]? = some (.bool ws)
 asc : C[7]? = some (.bool asc)
 map : C[9]? = some (.bool false)
 css : C[15]? = some v
 feat : C[5]? = some (.int .u16 0)
 got : C[17]? = some (.slice none 0 0)
 more : C[18]? = some (.slice none 0 0)
structure Px (w : World) (base g : Nat) (ws asc : Bool) (v : Value) (T : List UInt8) : Prop where
 blk : ∃ C, w.heap[g]? = some (.cells C 160 (0, 0)) ∧ PxC C ws asc v
 own : w.ownsRow base 5 1 v T.length (bc T)
 lt : g < base
 base : base ≤ w.heap.size
section
variable {w w' : World} {base g : Nat} {ws asc : Bool} {v : Value} {T : List UInt8}
theorem Px.cells (h : Px w base g ws asc v T) : w.cell? ⟨g, 3, none⟩ = some (.int .i64 0) ∧ w.cell? ⟨g, 6, none⟩ = some (.bool ws) ∧ w.cell? ⟨g, 7, none⟩ = some (.bool asc) ∧ w.cell? ⟨g, 9, none⟩ = some (.bool false) ∧ w.cell? ⟨g, 15, none⟩ = some v := by
 obtain ⟨C, hb, hc⟩ := h.blk
 exact ⟨cell_blk hb hc.limit, cell_blk hb hc.min, cell_blk hb hc.asc, cell_blk hb hc.map, cell_blk hb hc.css⟩
theorem Px.feat (h : Px w base g ws asc v T) : w.cell? ⟨g, 5, none⟩ = some (.int .u16 0) := by
 obtain ⟨C, hb, hc⟩ := h.blk
 exact cell_blk hb hc.feat
theorem Px.got (h : Px w base g ws asc v T) : w.cell? ⟨g, 17, none⟩ = some (.slice none 0 0) ∧ w.cell? ⟨g, 18, none⟩ = some (.slice none 0 0) := by
 obtain ⟨C, hb, hc⟩ := h.blk
 exact ⟨cell_blk hb hc.got, cell_blk hb hc.more⟩
theorem Px.free (h : Px w base g ws asc v T) (hg : w.grownBy w' none) : Px w' base g ws asc v T := by
 obtain ⟨C, hb, hc⟩ := h.blk
 exact ⟨⟨C, free_keep hg hb, hc⟩, own_free h.own hg, h.lt, Nat.le_trans h.base hg.size⟩
theorem Px.alloc (h : Px w base g ws asc v T) (o : Obj) : Px (w.alloc o) base g ws asc v T := h.free (grown_alloc (grown_refl _ _) o)
theorem Px.keep {v' : Value} (h : Px w base g ws asc v T) (k : Kv w w' g v v') {b : Nat} {cs : Array Value} {t : TypeId} (hb : w.heap[b]? = some (.cells cs t (0, 0))) (hg : b ≠ g) (ht : t ≠ 5) : w'.heap[b]? = some (.cells cs t (0, 0)) := by
 refine (k.block b (lt_of_block hb) hg ?_).trans hb
 intro e
 rcases h.own.2 with ⟨rfl, _⟩ | ⟨g1, c1, cur1, rfl, _, hh1, _⟩
 ·simp [Value.ownBlock] at e
 ·have e : b = g1 := by simpa [Value.ownBlock] using e
  subst e
  rw [hh1] at hb
  simp only [Option.some.injEq, Obj.cells.injEq] at hb
  exact ht hb.2.1.symm
end
theorem info5 : ∃ i z, Tryz.prog.info? 5 = some i ∧ i.zero = some z ∧ i.size = 1 ∧ i.bytes = 1 ∧ z.cells.size = 1 := by
 have h : (Tryz.prog.info? 5).map (fun i => (i.zero.map (·.cells.size), i.size, i.bytes)) = some (some 1, 1, 1) := by kernel_rfl
 obtain ⟨i, hi, hh⟩ := Option.map_eq_some_iff.1 h
 simp only [Prod.mk.injEq] at hh
 obtain ⟨z, hz, hzs⟩ := Option.map_eq_some_iff.1 hh.1
 exact ⟨i, z, hi, hz, hh.2.1, hh.2.2, hzs⟩
theorem Px.grew {w w1 : World} {base g : Nat} {ws asc : Bool} {v v1 : Value} {T t : List UInt8} (h : Px w base g ws asc v T) (hown : w1.ownsRow base 5 1 v1 (T.length + t.length) (bc T ++ bc t)) (hgr : w.grownBy w1 v.ownBlock)
  (hat : v1.ownBlock = v.ownBlock ∨ ∃ b, v1.ownBlock = some b ∧ w.heap.size ≤ b) :
  w1.frozen? ⟨g, 15, none⟩ = false ∧ (∃ u, w1.cell? ⟨g, 15, none⟩ = some u) ∧ Px (w1.setCell ⟨g, 15, none⟩ v1) base g ws asc v1 (T ++ t) ∧ Kv w (w1.setCell ⟨g, 15, none⟩ v1) g v v1 := by
 obtain ⟨C, hb, hc⟩ := h.blk
 have hlt := lt_of_block hb
 have hne : some g ≠ v.ownBlock := fun e => by have := own_base h.own g e.symm; have := h.lt; omega
 have hb1 : w1.heap[g]? = some (.cells C 160 (0, 0)) := (hgr.block g hlt hne).trans hb
 have hs1 : (w1.setCell ⟨g, 15, none⟩ v1).heap.size = w1.heap.size := by unfold World.setCell; first | simp | (split <;> simp) | (split <;> first | rfl | simp)
 refine ⟨free_blk hb1 15, ⟨v, cell_blk hb1 hc.css⟩, ⟨⟨C.setIfInBounds 15 v1, set_blk hb1 15 v1, ?_⟩, ?_, h.lt, ?_⟩, ?_⟩
 ·have h43 := hc.size
  exact ⟨by simpa using hc.size, by simpa [Array.getElem?_setIfInBounds] using hc.limit, by simpa [Array.getElem?_setIfInBounds] using hc.min, by simpa [Array.getElem?_setIfInBounds] using hc.asc, by simpa [Array.getElem?_setIfInBounds] using hc.map, by simp [Array.getElem?_setIfInBounds, h43], by simpa [Array.getElem?_setIfInBounds] using hc.feat, by simpa [Array.getElem?_setIfInBounds] using hc.got, by simpa [Array.getElem?_setIfInBounds] using hc.more⟩
 ·rw [List.length_append, bc_append]
  exact ownsRow_setCell_below hown h.lt v1
 ·rw [hs1]; exact Nat.le_trans h.base hgr.size
 ·refine ⟨?_, ?_, ?_, ?_, ?_, hat⟩
  ·exact hgr.os
  ·exact hgr.tape
  ·exact hgr.output
  ·rw [hs1]; exact hgr.size
  ·intro k hk hkg hkv
   have : (w1.setCell ⟨g, 15, none⟩ v1).heap[k]? = w1.heap[k]? := Below.heap_setCell _ _ _ _ (fun e => hkg e)
   rw [this]
   exact hgr.block k hk hkv
set_option maxRecDepth 100000 in
set_option maxHeartbeats 1000000 in
theorem c75 {w : World} {base g : Nat} {ws asc : Bool} {v : Value} {T : List UInt8} (h : Px w base g ws asc v T) (s : ByteArray) (hs : T.length + s.size ≤ 35184372088832) :
  Calls Tryz.prog 75 #[.pointer (some ⟨g, 0, none⟩), .string s] w fun e w' => e = .returned (.tuple #[]) ∧ ∃ v', Px w' base g ws asc v' (T ++ s.data.toList) ∧ Kv w w' g v v' := by
 obtain ⟨c3, c6, c7, c9, c15⟩ := h.cells
 obtain ⟨i0, z0, hi0, hz0, hz1, hz2, hz3⟩ := info5
 have HI := Lib.hid (And.intro hi0 (And.intro hz0 (And.intro hz1 (And.intro hz2 hz3))))
 have HP := Lib.hid h
 have h63 : T.length + s.size ≤ maxLen := by unfold maxLen; omega
 have h47 : (T.length + s.size) * 1 ≤ 140737488355328 := by omega
 have h01 : 0 < 1 := by omega
 clear hi0 hz0 hz1 hz2 hz3 c3 c6 c7 c9 h
 go_enter Tryz.func75, Tryz.ntmps75
 go_wp2_with ((at_builtin; refine wpList_append_src rfl base (.tmp 8) (.tmp 9) 117 9 5 i0 z0 1 1 rfl Tryz.underlying117 HI.out.1 HI.out.2.1 HI.out.2.2.1 HI.out.2.2.2.1 HI.out.2.2.2.2 h01 v T.length (bc T) rfl _ s.size (byteCells s) rfl (Src.ofString _ Tryz.underlying9 s) HP.out.own HP.out.base h63 h47 ?_; intro v1 w1 hown hgr hat; rw [bc_bytes] at hown; have hl : s.size = s.data.toList.length := (bytes_len s).symm; rw [hl] at hown; obtain ⟨hfz, ⟨u, hcu⟩, hP, hK⟩ := HP.out.grew hown hgr hat; obtain ⟨A1, c1, hv1⟩ := own_slice' hown; subst hv1; have HR := Lib.hid (And.intro hP hK); clear hown hgr hat hP hK hl))
 go_end0
 exact ⟨rfl, _, HR.out.1, HR.out.2⟩
end Go.Proofs.YtkfdcbdlcipmfaaGreatFmt
/- printIndent. -/
namespace Go.Proofs.YtkfdcbdlcipmfaaGreatFmt
open Go.RowKit
def blanks : Nat → List UInt8
 | 0 => []
 | k + 1 => blanks k ++ [32, 32]
theorem blanks_length : ∀ k, (blanks k).length = 2 * k
 | 0 => rfl
 | k + 1 => by simp [blanks, blanks_length k]; omega
theorem own_any {w : World} {base size n : Nat} {e : TypeId} {v : Value} {xs : List Value} (h : w.ownsRow base e size v n xs) : ∃ A m c, v = .slice A m c := by
 obtain ⟨A, c, h⟩ := own_slice' h
 exact ⟨A, n, c, h⟩
set_option maxRecDepth 100000 in
set_option maxHeartbeats 1000000 in
theorem c74 {w : World} {base g : Nat} {ws asc : Bool} {v : Value} {T : List UInt8} (h : Px w base g ws asc v T) (n : Nat) (hn : n ≤ 1000000) (hs : T.length + 2 * n ≤ 35184372088832) :
  Calls Tryz.prog 74 #[.pointer (some ⟨g, 0, none⟩), .int .i32 n] w fun e w' => e = .returned (.tuple #[]) ∧ ∃ v', Px w' base g ws asc v' (T ++ blanks n) ∧ Kv w w' g v v' := by
 obtain ⟨c3, c6, c7, c9, c15⟩ := h.cells
 obtain ⟨i0, z0, hi0, hz0, hz1, hz2, hz3⟩ := info5
 have HI := Lib.hid (And.intro hi0 (And.intro hz0 (And.intro hz1 (And.intro hz2 hz3))))
 have h01 : 0 < 1 := by omega
 have hwr : IntKind.i64.wrap (n : Int) = n := IntWalk.i64_in _ (by omega)
 have HP := Lib.hid h
 have HK := Lib.hid (Kv.refl w g v)
 clear hi0 hz0 hz1 hz2 hz3 c6 c7 c9 c15 h
 go_enter Tryz.func74, Tryz.ntmps74
 go_wp2_with fail
 go_loopg [5] n (fun gk s5 wr => ∃ (k : Nat) (v1 : Value), s5 = .int .i64 k ∧ k ≤ n ∧ gk = n - k ∧ Hid (Px wr base g ws asc v1 (T ++ blanks k)) ∧ Hid (Kv w wr g v v1))
 case atStart => exact ⟨0, v, rfl, by omega, rfl, by simpa [blanks] using HP, HK⟩
 case round =>
  clear HP HK c3
  obtain ⟨k, v1, rfl, hk, rfl, HP, HK⟩ := hrel
  by_cases hlt : k < n
  ·obtain ⟨c3, c6, c7, c9, c15⟩ := HP.out.cells
   have hbl := blanks_length k
   have hb2 : ((⟨#[32, 32]⟩ : ByteArray)).size = 2 := rfl
   have h63 : (T ++ blanks k).length + 2 ≤ maxLen := by unfold maxLen; rw [List.length_append]; omega
   have h47 : ((T ++ blanks k).length + 2) * 1 ≤ 140737488355328 := by rw [List.length_append]; omega
   clear c3 c6 c7 c9 hbl
   go_wp2_with ((at_builtin; refine wpList_append_src rfl base (.tmp 39) (.const (.string ⟨#[32, 32]⟩)) 117 9 5 i0 z0 1 1 rfl Tryz.underlying117 HI.out.1 HI.out.2.1 HI.out.2.2.1 HI.out.2.2.2.1 HI.out.2.2.2.2 h01 v1 (T ++ blanks k).length (bc (T ++ blanks k)) rfl _ 2 (byteCells ⟨#[32, 32]⟩) rfl (Src.ofString _ Tryz.underlying9 ⟨#[32, 32]⟩) HP.out.own HP.out.base h63 h47 ?_; intro v2 w2 hown hgr hat; rw [bc_bytes] at hown; obtain ⟨hfz, ⟨u, hcu⟩, hP, hK⟩ := HP.out.grew (t := [32, 32]) hown hgr hat; obtain ⟨A1, m1, c1, hv1⟩ := own_any hown; subst hv1; have HR := Lib.hid (And.intro hP hK); clear hown hgr hat hP hK c15))
   go_roundg (n - (k + 1))
   case measure => omega
   case rel => exact ⟨k + 1, _, by go_num, hlt, rfl, Lib.hid (by rw [blanks, ← List.append_assoc]; exact HR.out.1), Lib.hid (HK.out.trans HR.out.2)⟩
  ·have hk' : k = n := by omega
   subst hk'
   go_wp2_with fail
   go_end0
   exact ⟨rfl, _, HP.out, HK.out⟩
end Go.Proofs.YtkfdcbdlcipmfaaGreatFmt
/- What a name starts with and goes on with, as the printer asks; the quotes of a string. -/
namespace Go.Proofs.YtkfdcbdlcipmfaaGreatFmt
open Go.RowKit
set_option maxRecDepth 100000 in
set_option maxHeartbeats 2000000 in
theorem c138 (c : Int) (hc : c ≠ 0) (w : World) : Calls Tryz.prog 138 #[.int .i32 c] w fun e w' => e = .returned (.bool (Css.starts c)) ∧ w = w' := by
 have h0 : (c == 0) = false := by simpa using hc
 by_cases h1 : 97 ≤ c <;> by_cases h2 : c ≤ 122 <;> by_cases h3 : 65 ≤ c <;> by_cases h4 : c ≤ 90 <;> by_cases h6 : 128 ≤ c
 all_goals first
  | omega
  | (cases h5 : (c == 95) <;> (
    go_enter Tryz.func138, Tryz.ntmps138
    go_wp2
    go_ret
    exact ⟨ret_bool (by first | (simp [Css.starts, *]; done) | (rw [Bool.eq_iff_iff]; simp [Css.starts]; omega) | (rw [Bool.eq_iff_iff]; simp [Css.starts, *]; omega)), rfl⟩))
end Go.Proofs.YtkfdcbdlcipmfaaGreatFmt
