/- A text that is read as items: the statements say so. The text has at most 2^31 bytes. -/
import Derived.Test.YtkfdcbdlcipmfaaGreatFmtProg
import Derived.WalkKit
import Derived.WalkLawsBesides
import Derived.WalkSpells
import Derived.BigQuiet
import Derived.Deep.QuietTactic
import Derived.Outline
import Derived.Laws.BitsLemmas
import Derived.Lib.Hide
import Derived.OneCell
import Derived.Deep.Draws
import Derived.Deep.LoopGhost
import Derived.Laws.BytesArg
import Derived.Laws.ResultCell
import Derived.Deep.DeepCutAuto
import Derived.Deep.CutBlock
import Derived.Deep.RegionLaw
import Derived.Maps.AppendAt
import Derived.Deep.AppendLies
import Derived.KernelRfl
import Derived.Laws.OwnMore
import Derived.Deep.RegionHeld3
import Derived.Deep.AppendSrc
import Derived.Maps.OwnOps
import Derived.Maps.Views
import Derived.Test.YtkfdcbdlcipmfaaGreatFmtGA
import Derived.Test.YtkfdcbdlcipmfaaGreatFmtGO
import Derived.Test.YtkfdcbdlcipmfaaGreatFmtGP
set_option linter.unusedVariables false
set_option linter.unusedSimpArgs false
namespace Go.Proofs.YtkfdcbdlcipmfaaGreatFmt
open Go.RowKit
theorem str_sub {s : ByteArray} {i n : Nat} {l : List UInt8} (h : (s.data.toList.drop i).take n = l) : s.extract i (i + n) = str l := by
 apply ByteArray.ext
 apply Array.toList_inj.1
 rw [← h]
 simp [str, List.take_drop]
theorem c32 (s : ByteArray) (q : Css.Tok × Bool) (x : Css.Item) (w : World) (hs : s.size ≤ 2147483648) (hp : Css.plain s.data.toList = true) (hF : q.1.from' <:+ Css.codes s.data.toList) (hq : Css.IsIt q x) :
  Calls Tryz.prog 32 #[.string s, readV q.1.tk.kind (s.size - Css.wd q.1.from') (s.size - Css.wd q.1.upto) q.1.tk.unit q.1.tk.id q.1.tk.text q.2, itemVal x] w (Yes w) := by
 obtain ⟨X, hX, hn, hm, _⟩ := hq
 obtain ⟨h1, h2, h3, h4⟩ := Css.tok_bytes hp hF hX
 rw [bytes_len] at h1 h3
 have hul := fun h => Css.unit_le hn hX h
 obtain ⟨⟨tk, F, U⟩, sp⟩ := q
 obtain ⟨k, xu, xt, xs⟩ := x
 simp only at h1 h2 h3 h4 hm hul hX ⊢
 have hS : s.extract (s.size - Css.wd F) (s.size - Css.wd U) = str (Css.enc X) := by
  have := str_sub h3
  rwa [show s.size - Css.wd F + Css.wd X = s.size - Css.wd U by omega] at this
 have hab : ((s.size - Css.wd F : Nat) : Int) ≤ ((s.size - Css.wd U : Nat) : Int) := by omega
 have hb : s.size - Css.wd U ≤ s.size := by omega
 obtain ⟨hk, hm⟩ := hm
 simp only at hk hm
 rw [hk] at hul ⊢
 by_cases c1 : k = 29 ∨ k = 27 ∨ k = 1 ∨ k = 28 ∨ k = 36
 ·rw [if_pos c1] at hm
  rw [hm]
  exact c32_text s k _ _ _ _ sp _ xu xs w hab hb c1
 rw [if_neg c1] at hm
 by_cases c2 : k = 26
 ·rw [if_pos c2] at hm
  subst c2
  obtain ⟨m1, m2, m3⟩ := hm
  have hu := hul rfl
  rw [← m1]
  have hl : (Css.enc X).length = Css.wd X := Css.enc_length X
  have hux : tk.unit ≤ xt.length := by
   have := congrArg List.length m2
   simp at this
   omega
  exact c32_dim s _ _ _ _ sp _ xt (Css.enc X) xs w hab hb hS (by omega) (by omega) hux m2 m3
 rw [if_neg c2] at hm
 by_cases c3 : k = 8 ∨ k = 7 ∨ k = 6
 ·exact c32_close s k _ _ _ _ sp _ xt xu xs w hab hb c3
 rw [if_neg c3] at hm
 rw [hm] at hS
 exact c32_other s k _ _ _ _ sp _ xt xu xs w hab hb hS (by simp; omega) (by simp; omega) (by simp; omega) (by simp; omega) (by simp; omega) (by simp; omega) (by simp; omega) (by simp; omega) (by simp; omega)
theorem own_item {w : World} {base g n cap : Nat} {l : List Css.Item} (h : w.ownsRow base 34 4 (.slice (some ⟨g, 0, none⟩) n cap) n (itemsC l)) (hl : l.length = n) {k : Nat} (hk : k < l.length) :
  w.cell? ⟨g, k * 4, none⟩ = some (.int .i64 (l[k]).kind) ∧ w.cell? ⟨g, k * 4 + 1, none⟩ = some (.int .i64 (l[k]).unit) ∧ w.cell? ⟨g, k * 4 + 2, none⟩ = some (.string (str (l[k]).text)) ∧ w.cell? ⟨g, k * 4 + 3, none⟩ = some (.int .i64 (l[k]).space) := by
 have hj : ∀ j, j < 4 → w.cell? ⟨g, k * 4 + j, none⟩ = (itemCells l[k])[j]? := fun j h6 => by
  rw [h.cellAt (k * 4 + j) (by omega)]
  exact flat_get itemCells 4 itemCells_length l k j hk h6
 exact ⟨hj 0 (by omega), hj 1 (by omega), hj 2 (by omega), hj 3 (by omega)⟩
theorem own_read {w : World} {base g n cap : Nat} {s : ByteArray} {l : List (Css.Tok × Bool)} (h : w.ownsRow base 64 7 (.slice (some ⟨g, 0, none⟩) n cap) n (l.flatMap (readC s))) (hl : l.length = n) {k : Nat} (hk : k < l.length) :
  w.cell? ⟨g, k * 7, none⟩ = some (.int .i64 (l[k]).1.tk.kind) ∧ w.cell? ⟨g, k * 7 + 1, none⟩ = some (.int .i64 ((s.size - Css.wd (l[k]).1.from' : Nat) : Int)) ∧ w.cell? ⟨g, k * 7 + 2, none⟩ = some (.int .i64 ((s.size - Css.wd (l[k]).1.upto : Nat) : Int)) ∧
   w.cell? ⟨g, k * 7 + 3, none⟩ = some (.int .i64 (l[k]).1.tk.unit) ∧ w.cell? ⟨g, k * 7 + 4, none⟩ = some (.bool (l[k]).1.tk.id) ∧ w.cell? ⟨g, k * 7 + 5, none⟩ = some (.string (str (l[k]).1.tk.text)) ∧ w.cell? ⟨g, k * 7 + 6, none⟩ = some (.bool (l[k]).2) := by
 have hj : ∀ j, j < 7 → w.cell? ⟨g, k * 7 + j, none⟩ = (readC s l[k])[j]? := fun j h6 => by
  rw [h.cellAt (k * 7 + j) (by omega)]
  exact flat_get (readC s) 7 (readC_length s) l k j hk h6
 exact ⟨hj 0 (by omega), hj 1 (by omega), hj 2 (by omega), hj 3 (by omega), hj 4 (by omega), hj 5 (by omega), hj 6 (by omega)⟩
theorem held_take {P : Program} {ops : Array Oper} {Q : Exit → Act → World → Prop} {md : Region.Mode} {S : World → Prop} {i d : Nat} {oi : Oper} {v : Value} {fuel : Nat} {listed : Array Bool} {a : Act} {w : World} (hi : ops[i]? = some oi) (hd : oi.dst = some d)
  (hs : Region.noSelect ops = true) (hf : Region.free md ops listed i = true) (hr : (Region.ready md ops listed).contains i = true)
  (hQ : ∀ c a w, Q (.panic c) (a.put (some d) v) w → Q (.panic c) a w) (hy : YieldsIf P ops S oi v a) (hS : S w)
  (h : wpAnyH P md ops Q S fuel (listed.setIfInBounds i true) (a.put (some d) v) w) : wpAnyH P md ops Q S (fuel + 1) listed a w := by
 rw [← hd] at hQ h
 exact wpAnyH_take hi hs hf hr hQ hy hS h
def HoldR (w : World) (s : ByteArray) (base g1 c1 g2 c2 : Nat) (R : List (Css.Tok × Bool)) (its : List Css.Item) (wr : World) : Prop :=
 w.grownBy wr none ∧ wr.ownsRow w.heap.size 64 7 (.slice (some ⟨g1, 0, none⟩) its.length c1) its.length (R.flatMap (readC s)) ∧ wr.ownsRow base 34 4 (.slice (some ⟨g2, 0, none⟩) its.length c2) its.length (itemsC its)
theorem HoldR.free {w : World} {s : ByteArray} {base g1 c1 g2 c2 : Nat} {R : List (Css.Tok × Bool)} {its : List Css.Item} {wr w' : World} (h : HoldR w s base g1 c1 g2 c2 R its wr) (hg : wr.grownBy w' none) : HoldR w s base g1 c1 g2 c2 R its w' :=
 ⟨grown_trans h.1 hg, own_free h.2.1 hg, own_free h.2.2 hg⟩
set_option maxRecDepth 400000 in
set_option maxHeartbeats 100000000 in
theorem c17 (s : ByteArray) (its : List Css.Item) (sp : Bool) (w : World) (base : Nat) (A : Option Addr) (c : Nat) (HI : w.ownsRow base 34 4 (.slice A its.length c) its.length (itemsC its)) (hne : 0 < its.length)
  (hs : s.size ≤ 2147483648) (hp : Css.plain s.data.toList = true) (ho : (Css.tokens (Css.codes s.data.toList)).2.2 = false) (hc : (Css.tokens (Css.codes s.data.toList)).2.1 = 0)
  (R : List (Css.Tok × Bool)) (hR : Css.rds false (Css.tokens (Css.codes s.data.toList)).1 = R) (hA : Css.AreIt R its) (hF : ∀ q ∈ R, q.1.from' <:+ Css.codes s.data.toList) :
  Calls Tryz.prog 17 #[.string s, .slice A its.length c, .bool sp] w (Yes w) := by
 have hlR : R.length = its.length := Css.areIt_length hA
 have hmax : its.length ≤ 2147483648 := by
  have h1 := tokens_length (Css.codes s.data.toList)
  have h2 := length_wd (Css.codes s.data.toList)
  have h3 : Css.wd (Css.codes s.data.toList) = s.size := (Css.codes_wd _).trans (bytes_len s)
  have h4 := rds_length (Css.tokens (Css.codes s.data.toList)).1 false
  rw [hR] at h4
  omega
 have H31 := Lib.hid (c31 s w hs hp ho hc R hR)
 have H32 : Hid (∀ (k : Nat) (h1 : k < R.length) (h2 : k < its.length) W, Calls Tryz.prog 32 #[.string s, readV R[k].1.tk.kind (s.size - Css.wd R[k].1.from') (s.size - Css.wd R[k].1.upto) R[k].1.tk.unit R[k].1.tk.id R[k].1.tk.text R[k].2, itemVal its[k]] W (Yes W)) :=
  Lib.hid fun k h1 h2 W => c32 s R[k] its[k] W hs hp (hF _ (List.getElem_mem _)) (Css.areIt_get hA k h1 h2)
 have HSP : Hid (∀ (k : Nat) (h1 : k < R.length) (h2 : k < its.length), its[k].space ≥ 0 → its[k].space = if R[k].2 then 1 else 0) := Lib.hid fun k h1 h2 => by
  obtain ⟨_, _, _, _, h⟩ := Css.areIt_get hA k h1 h2
  exact h
 obtain ⟨g2, rfl, hcl⟩ := own_first HI hne (by omega)
 clear hcl hR hA hF hp ho hc hs
 have HI0 := Lib.hid HI
 clear HI
 go_enter Tryz.func17, Tryz.ntmps17
 go_wp2_with fail
 refine H31.out.mono ?_
 rintro e w1 ⟨A1, c1, rfl, hG, hO⟩
 obtain ⟨g1, rfl, hcl⟩ := own_first hO (by omega) (by omega)
 rw [hlR] at hO ⊢
 have HH : Hid (HoldR w s base g1 c1 g2 c R its w1) := Lib.hid ⟨hG, hO, own_free HI0.out hG⟩
 have HLR := Lib.hid hlR
 clear hcl hG hO HI0 H31 hlR
 go_wp2_with fail
 go_loopg [27] its.length (fun gk s27 wr => ∃ (k : Nat), s27 = .int .i64 k ∧ k ≤ its.length ∧ gk = its.length - k ∧ Hid (HoldR w s base g1 c1 g2 c R its wr))
 case atStart => exact ⟨0, rfl, by omega, rfl, HH⟩
 case round =>
  clear HH
  obtain ⟨k, rfl, hk, rfl, HH⟩ := hrel
  by_cases hlt : k < its.length
  ·have hlt1 : k < R.length := by rw [HLR.out]; exact hlt
   obtain ⟨n0, n1, n2, n3, n4, n5, n6⟩ := own_read HH.out.2.1 HLR.out hlt1
   have H32k := Lib.hid (H32.out k hlt1 hlt)
   have HSPk := Lib.hid (HSP.out k hlt1 hlt)
   have FACTS : Hid (∀ o, ∀ W, (wr.alloc o).grownBy W none → (wr.alloc o).grownBy W none ∧ HoldR w s base g1 c1 g2 c R its W ∧ W.heap[wr.heap.size]? = some o ∧ W.cell? ⟨g2, k * 4, none⟩ = some (.int .i64 (its[k]).kind) ∧ W.cell? ⟨g2, k * 4 + 1, none⟩ = some (.int .i64 (its[k]).unit) ∧ W.cell? ⟨g2, k * 4 + 2, none⟩ = some (.string (str (its[k]).text)) ∧ W.cell? ⟨g2, k * 4 + 3, none⟩ = some (.int .i64 (its[k]).space)) := Lib.hid fun o W hg => by
    have hH := (HH.out.free (grown_alloc (grown_refl _ _) o)).free hg
    exact ⟨hg, hH, free_keep hg (new_blk _ _), own_item hH.2.2 rfl hlt⟩
   generalize hx : R[k] = q at n0 n1 n2 n3 n4 n5 n6 H32k HSPk
   generalize hy : its[k] = x at H32k HSPk FACTS
   obtain ⟨⟨tk, F, U⟩, tsp⟩ := q
   obtain ⟨xk, xu, xt, xs⟩ := x
   obtain ⟨tkind, tunit, tid, ttext⟩ := tk
   simp only at n0 n1 n2 n3 n4 n5 n6 H32k HSPk FACTS
   unfold readV itemVal at H32k
   generalize hf1 : s.size - Css.wd F = f1 at n1 H32k
   generalize hf2 : s.size - Css.wd U = f2 at n2 H32k
   clear hx hy hlt1 hf1 hf2
   have FACTS2 : Hid (∀ W, (wr.alloc (.cells #[.int .i64 tkind, .int .i64 (f1 : Int), .int .i64 (f2 : Int), .int .i64 (tunit : Int), .bool tid, .string (str ttext), .bool tsp] 64)).grownBy W none → (wr.alloc (.cells #[.int .i64 tkind, .int .i64 (f1 : Int), .int .i64 (f2 : Int), .int .i64 (tunit : Int), .bool tid, .string (str ttext), .bool tsp] 64)).grownBy W none ∧ HoldR w s base g1 c1 g2 c R its W ∧ W.cell? ⟨wr.heap.size, 0, none⟩ = some (.int .i64 tkind) ∧ W.cell? ⟨wr.heap.size, 1, none⟩ = some (.int .i64 (f1 : Int)) ∧ W.cell? ⟨wr.heap.size, 2, none⟩ = some (.int .i64 (f2 : Int)) ∧ W.cell? ⟨wr.heap.size, 3, none⟩ = some (.int .i64 (tunit : Int)) ∧ W.cell? ⟨wr.heap.size, 4, none⟩ = some (.bool tid) ∧ W.cell? ⟨wr.heap.size, 5, none⟩ = some (.string (str ttext)) ∧ W.cell? ⟨wr.heap.size, 6, none⟩ = some (.bool tsp) ∧ W.cell? ⟨g2, k * 4, none⟩ = some (.int .i64 xk) ∧ W.cell? ⟨g2, k * 4 + 1, none⟩ = some (.int .i64 xu) ∧ W.cell? ⟨g2, k * 4 + 2, none⟩ = some (.string (str xt)) ∧ W.cell? ⟨g2, k * 4 + 3, none⟩ = some (.int .i64 xs)) := Lib.hid fun W hg => by
    obtain ⟨a1, a2, a3, a4⟩ := FACTS.out _ W hg
    exact ⟨a1, a2, cell_blk a3 (i := 0) rfl, cell_blk a3 (i := 1) rfl, cell_blk a3 (i := 2) rfl, cell_blk a3 (i := 3) rfl, cell_blk a3 (i := 4) rfl, cell_blk a3 (i := 5) rfl, cell_blk a3 (i := 6) rfl, a4⟩
   clear FACTS H32 HSP
   cases sp with
   | false =>
    go_wp2_with fail
    generalize hwa : wr.alloc (.cells #[.int .i64 tkind, .int .i64 (f1 : Int), .int .i64 (f2 : Int), .int .i64 (tunit : Int), .bool tid, .string (str ttext), .bool tsp] 64) = wa at FACTS2 ⊢
    have hgW := grown_refl wa none
    clear hwa n0 n1 n2 n3 n4 n5 n6
    refine wp_region_held_drew (S := fun W => wa.grownBy W none ∧ HoldR w s base g1 c1 g2 c R its W ∧ W.cell? ⟨wr.heap.size, 0, none⟩ = some (.int .i64 tkind) ∧ W.cell? ⟨wr.heap.size, 1, none⟩ = some (.int .i64 (f1 : Int)) ∧ W.cell? ⟨wr.heap.size, 2, none⟩ = some (.int .i64 (f2 : Int)) ∧ W.cell? ⟨wr.heap.size, 3, none⟩ = some (.int .i64 (tunit : Int)) ∧ W.cell? ⟨wr.heap.size, 4, none⟩ = some (.bool tid) ∧ W.cell? ⟨wr.heap.size, 5, none⟩ = some (.string (str ttext)) ∧ W.cell? ⟨wr.heap.size, 6, none⟩ = some (.bool tsp) ∧ W.cell? ⟨g2, k * 4, none⟩ = some (.int .i64 xk) ∧ W.cell? ⟨g2, k * 4 + 1, none⟩ = some (.int .i64 xu) ∧ W.cell? ⟨g2, k * 4 + 2, none⟩ = some (.string (str xt)) ∧ W.cell? ⟨g2, k * 4 + 3, none⟩ = some (.int .i64 xs)) (by kernel_rfl) (by exact FACTS2.out _ (grown_drew hgW)) (fun hHeld => ?_)
    refine held_take (i := 0) (d := 32) (v := ?v1) rfl rfl (by kernel_rfl) (by kernel_rfl) (by kernel_rfl) (fun _ _ _ h => h) (Or.inl ⟨by kernel_rfl, ?hy1⟩) (by assumption) ?rest1
    case hy1 => (intro w hSw; (try dsimp only at hSw); go_simp; try with_reducible rfl)
    try simp only [Act.put, List.setIfInBounds_toArray, List.set_cons_zero, List.set_cons_succ]
    refine held_take (i := 1) (d := 33) (v := ?v2) rfl rfl (by kernel_rfl) (by kernel_rfl) (by kernel_rfl) (fun _ _ _ h => h) (Or.inl ⟨by kernel_rfl, ?hy2⟩) (by assumption) ?rest2
    case hy2 => (intro w hSw; (try dsimp only at hSw); go_simp; try with_reducible rfl)
    try simp only [Act.put, List.setIfInBounds_toArray, List.set_cons_zero, List.set_cons_succ]
    refine held_take (i := 2) (d := 34) (v := ?v3) rfl rfl (by kernel_rfl) (by kernel_rfl) (by kernel_rfl) (fun _ _ _ h => h) (Or.inl ⟨by kernel_rfl, ?hy3⟩) (by assumption) ?rest3
    case hy3 => (intro w hSw; (try dsimp only at hSw); go_simp; try with_reducible rfl)
    try simp only [Act.put, List.setIfInBounds_toArray, List.set_cons_zero, List.set_cons_succ]
    refine held_take (i := 3) (d := 35) (v := ?v4) rfl rfl (by kernel_rfl) (by kernel_rfl) (by kernel_rfl) (fun _ _ _ h => h) (Or.inl ⟨by kernel_rfl, ?hy4⟩) (by assumption) ?rest4
    case hy4 => (intro w hSw; (try dsimp only at hSw); go_simp; try with_reducible rfl)
    try simp only [Act.put, List.setIfInBounds_toArray, List.set_cons_zero, List.set_cons_succ]
    refine held_take (i := 4) (d := 36) (v := ?v5) rfl rfl (by kernel_rfl) (by kernel_rfl) (by kernel_rfl) (fun _ _ _ h => h) (Or.inl ⟨by kernel_rfl, ?hy5⟩) (by assumption) ?rest5
    case hy5 => (intro w hSw; (try dsimp only at hSw); go_simp; try with_reducible rfl)
    try simp only [Act.put, List.setIfInBounds_toArray, List.set_cons_zero, List.set_cons_succ]
    refine held_take (i := 5) (d := 37) (v := ?v6) rfl rfl (by kernel_rfl) (by kernel_rfl) (by kernel_rfl) (fun _ _ _ h => h) (Or.inl ⟨by kernel_rfl, ?hy6⟩) (by assumption) ?rest6
    case hy6 => (intro w hSw; (try dsimp only at hSw); go_simp; try with_reducible rfl)
    try simp only [Act.put, List.setIfInBounds_toArray, List.set_cons_zero, List.set_cons_succ]
    refine wpAnyH_ready (rs := [6]) (by kernel_rfl) (by simp) ?_
    refine AllReadyH.cons rfl (fun K hK => ?_) AllReadyH.nil
    go_simp
    refine (H32k.out _).mono ?_
    rintro e w' ⟨rfl, hg⟩
    have hgx := grown_trans (grown_drew hgW) hg
    go_wp2_with fail
    refine hK.out _ _ (by exact FACTS2.out _ hgx) (fun hHeld => ?_)
    clear hK K
    try simp only [Act.put, List.setIfInBounds_toArray, List.set_cons_zero, List.set_cons_succ]
    refine held_take (i := 7) (d := 39) (v := ?v7) rfl rfl (by kernel_rfl) (by kernel_rfl) (by kernel_rfl) (fun _ _ _ h => h) (Or.inl ⟨by kernel_rfl, ?hy7⟩) (by assumption) ?rest7
    case hy7 => (intro w hSw; (try dsimp only at hSw); go_simp; try with_reducible rfl)
    try simp only [Act.put, List.setIfInBounds_toArray, List.set_cons_zero, List.set_cons_succ]
    refine held_take (i := 8) (d := 40) (v := ?v8) rfl rfl (by kernel_rfl) (by kernel_rfl) (by kernel_rfl) (fun _ _ _ h => h) (Or.inl ⟨by kernel_rfl, ?hy8⟩) (by assumption) ?rest8
    case hy8 => (intro w hSw; (try dsimp only at hSw); go_simp; try with_reducible rfl)
    try simp only [Act.put, List.setIfInBounds_toArray, List.set_cons_zero, List.set_cons_succ]
    refine held_take (i := 9) (d := 41) (v := ?v9) rfl rfl (by kernel_rfl) (by kernel_rfl) (by kernel_rfl) (fun _ _ _ h => h) (Or.inl ⟨by kernel_rfl, ?hy9⟩) (by assumption) ?rest9
    case hy9 => (intro w hSw; (try dsimp only at hSw); go_simp; try with_reducible rfl)
    try simp only [Act.put, List.setIfInBounds_toArray, List.set_cons_zero, List.set_cons_succ]
    refine held_take (i := 10) (d := 42) (v := ?v10) rfl rfl (by kernel_rfl) (by kernel_rfl) (by kernel_rfl) (fun _ _ _ h => h) (Or.inl ⟨by kernel_rfl, ?hy10⟩) (by assumption) ?rest10
    case hy10 => (intro w hSw; (try dsimp only at hSw); go_simp; try with_reducible rfl)
    try simp only [Act.put, List.setIfInBounds_toArray, List.set_cons_zero, List.set_cons_succ]
    refine held_take (i := 11) (d := 43) (v := undef) rfl rfl (by kernel_rfl) (by kernel_rfl) (by kernel_rfl) (fun _ _ _ h => h) (Or.inr ⟨by kernel_rfl, rfl⟩) (by assumption) ?_
    try simp only [Act.put, List.setIfInBounds_toArray, List.set_cons_zero, List.set_cons_succ]
    refine held_take (i := 12) (d := 44) (v := undef) rfl rfl (by kernel_rfl) (by kernel_rfl) (by kernel_rfl) (fun _ _ _ h => h) (Or.inr ⟨by kernel_rfl, rfl⟩) (by assumption) ?_
    try simp only [Act.put, List.setIfInBounds_toArray, List.set_cons_zero, List.set_cons_succ]
    refine held_take (i := 13) (d := 45) (v := undef) rfl rfl (by kernel_rfl) (by kernel_rfl) (by kernel_rfl) (fun _ _ _ h => h) (Or.inr ⟨by kernel_rfl, rfl⟩) (by assumption) ?_
    try simp only [Act.put, List.setIfInBounds_toArray, List.set_cons_zero, List.set_cons_succ]
    refine held_take (i := 14) (d := 46) (v := undef) rfl rfl (by kernel_rfl) (by kernel_rfl) (by kernel_rfl) (fun _ _ _ h => h) (Or.inr ⟨by kernel_rfl, rfl⟩) (by assumption) ?_
    try simp only [Act.put, List.setIfInBounds_toArray, List.set_cons_zero, List.set_cons_succ]
    refine held_take (i := 15) (d := 47) (v := undef) rfl rfl (by kernel_rfl) (by kernel_rfl) (by kernel_rfl) (fun _ _ _ h => h) (Or.inr ⟨by kernel_rfl, rfl⟩) (by assumption) ?_
    try simp only [Act.put, List.setIfInBounds_toArray, List.set_cons_zero, List.set_cons_succ]
    refine held_take (i := 16) (d := 48) (v := undef) rfl rfl (by kernel_rfl) (by kernel_rfl) (by kernel_rfl) (fun _ _ _ h => h) (Or.inr ⟨by kernel_rfl, rfl⟩) (by assumption) ?_
    try simp only [Act.put, List.setIfInBounds_toArray, List.set_cons_zero, List.set_cons_succ]
    refine held_take (i := 17) (d := 49) (v := ?v11) rfl rfl (by kernel_rfl) (by kernel_rfl) (by kernel_rfl) (fun _ _ _ h => h) (Or.inl ⟨by kernel_rfl, ?hy11⟩) (by assumption) ?rest11
    case hy11 => (intro w hSw; (try dsimp only at hSw); go_simp; try with_reducible rfl)
    try simp only [Act.put, List.setIfInBounds_toArray, List.set_cons_zero, List.set_cons_succ]
    refine held_take (i := 18) (d := 50) (v := ?v12) rfl rfl (by kernel_rfl) (by kernel_rfl) (by kernel_rfl) (fun _ _ _ h => h) (Or.inl ⟨by kernel_rfl, ?hy12⟩) (by assumption) ?rest12
    case hy12 => (intro w hSw; (try dsimp only at hSw); go_simp; try with_reducible rfl)
    try simp only [Act.put, List.setIfInBounds_toArray, List.set_cons_zero, List.set_cons_succ]
    refine held_take (i := 19) (d := 51) (v := undef) rfl rfl (by kernel_rfl) (by kernel_rfl) (by kernel_rfl) (fun _ _ _ h => h) (Or.inr ⟨by kernel_rfl, rfl⟩) (by assumption) ?_
    try simp only [Act.put, List.setIfInBounds_toArray, List.set_cons_zero, List.set_cons_succ]
    refine held_take (i := 20) (d := 52) (v := undef) rfl rfl (by kernel_rfl) (by kernel_rfl) (by kernel_rfl) (fun _ _ _ h => h) (Or.inr ⟨by kernel_rfl, rfl⟩) (by assumption) ?_
    try simp only [Act.put, List.setIfInBounds_toArray, List.set_cons_zero, List.set_cons_succ]
    refine held_take (i := 21) (d := 53) (v := undef) rfl rfl (by kernel_rfl) (by kernel_rfl) (by kernel_rfl) (fun _ _ _ h => h) (Or.inr ⟨by kernel_rfl, rfl⟩) (by assumption) ?_
    try simp only [Act.put, List.setIfInBounds_toArray, List.set_cons_zero, List.set_cons_succ]
    refine held_take (i := 22) (d := 54) (v := undef) rfl rfl (by kernel_rfl) (by kernel_rfl) (by kernel_rfl) (fun _ _ _ h => h) (Or.inr ⟨by kernel_rfl, rfl⟩) (by assumption) ?_
    try simp only [Act.put, List.setIfInBounds_toArray, List.set_cons_zero, List.set_cons_succ]
    refine held_take (i := 23) (d := 55) (v := undef) rfl rfl (by kernel_rfl) (by kernel_rfl) (by kernel_rfl) (fun _ _ _ h => h) (Or.inr ⟨by kernel_rfl, rfl⟩) (by assumption) ?_
    try simp only [Act.put, List.setIfInBounds_toArray, List.set_cons_zero, List.set_cons_succ]
    refine held_take (i := 24) (d := 56) (v := undef) rfl rfl (by kernel_rfl) (by kernel_rfl) (by kernel_rfl) (fun _ _ _ h => h) (Or.inr ⟨by kernel_rfl, rfl⟩) (by assumption) ?_
    try simp only [Act.put, List.setIfInBounds_toArray, List.set_cons_zero, List.set_cons_succ]
    refine held_take (i := 25) (d := 57) (v := undef) rfl rfl (by kernel_rfl) (by kernel_rfl) (by kernel_rfl) (fun _ _ _ h => h) (Or.inr ⟨by kernel_rfl, rfl⟩) (by assumption) ?_
    try simp only [Act.put, List.setIfInBounds_toArray, List.set_cons_zero, List.set_cons_succ]
    refine held_take (i := 26) (d := 58) (v := undef) rfl rfl (by kernel_rfl) (by kernel_rfl) (by kernel_rfl) (fun _ _ _ h => h) (Or.inr ⟨by kernel_rfl, rfl⟩) (by assumption) ?_
    try simp only [Act.put, List.setIfInBounds_toArray, List.set_cons_zero, List.set_cons_succ]
    refine held_take (i := 27) (d := 59) (v := undef) rfl rfl (by kernel_rfl) (by kernel_rfl) (by kernel_rfl) (fun _ _ _ h => h) (Or.inr ⟨by kernel_rfl, rfl⟩) (by assumption) ?_
    try simp only [Act.put, List.setIfInBounds_toArray, List.set_cons_zero, List.set_cons_succ]
    refine held_take (i := 28) (d := 60) (v := ?v13) rfl rfl (by kernel_rfl) (by kernel_rfl) (by kernel_rfl) (fun _ _ _ h => h) (Or.inl ⟨by kernel_rfl, ?hy13⟩) (by assumption) ?rest13
    case hy13 => (intro w hSw; (try dsimp only at hSw); go_simp; try with_reducible rfl)
    try simp only [Act.put, List.setIfInBounds_toArray, List.set_cons_zero, List.set_cons_succ]
    refine held_take (i := 29) (d := 61) (v := ?v14) rfl rfl (by kernel_rfl) (by kernel_rfl) (by kernel_rfl) (fun _ _ _ h => h) (Or.inl ⟨by kernel_rfl, ?hy14⟩) (by assumption) ?rest14
    case hy14 => (intro w hSw; (try dsimp only at hSw); go_simp; try with_reducible rfl)
    try simp only [Act.put, List.setIfInBounds_toArray, List.set_cons_zero, List.set_cons_succ]
    refine wpAnyH_done (by kernel_rfl) ?_ _
    have HX := Lib.hid (FACTS2.out _ hgx).2.1
    clear hHeld
    go_wp2_with fail
    go_roundg (its.length - (k + 1))
    case measure => omega
    case rel => exact ⟨k + 1, by go_num, hlt, rfl, HX⟩
   | true =>
    by_cases hxs : xs < 0
    ·clear HSPk
     have hdx : decide (xs ≥ 0) = false := decide_eq_false (by omega)
     go_wp2_with fail
     generalize hwa : wr.alloc (.cells #[.int .i64 tkind, .int .i64 (f1 : Int), .int .i64 (f2 : Int), .int .i64 (tunit : Int), .bool tid, .string (str ttext), .bool tsp] 64) = wa at FACTS2 ⊢
     have hgW := grown_refl wa none
     clear hwa n0 n1 n2 n3 n4 n5 n6
     refine wp_region_held_drew (S := fun W => wa.grownBy W none ∧ HoldR w s base g1 c1 g2 c R its W ∧ W.cell? ⟨wr.heap.size, 0, none⟩ = some (.int .i64 tkind) ∧ W.cell? ⟨wr.heap.size, 1, none⟩ = some (.int .i64 (f1 : Int)) ∧ W.cell? ⟨wr.heap.size, 2, none⟩ = some (.int .i64 (f2 : Int)) ∧ W.cell? ⟨wr.heap.size, 3, none⟩ = some (.int .i64 (tunit : Int)) ∧ W.cell? ⟨wr.heap.size, 4, none⟩ = some (.bool tid) ∧ W.cell? ⟨wr.heap.size, 5, none⟩ = some (.string (str ttext)) ∧ W.cell? ⟨wr.heap.size, 6, none⟩ = some (.bool tsp) ∧ W.cell? ⟨g2, k * 4, none⟩ = some (.int .i64 xk) ∧ W.cell? ⟨g2, k * 4 + 1, none⟩ = some (.int .i64 xu) ∧ W.cell? ⟨g2, k * 4 + 2, none⟩ = some (.string (str xt)) ∧ W.cell? ⟨g2, k * 4 + 3, none⟩ = some (.int .i64 xs)) (by kernel_rfl) (by exact FACTS2.out _ (grown_drew hgW)) (fun hHeld => ?_)
     refine held_take (i := 0) (d := 32) (v := ?v15) rfl rfl (by kernel_rfl) (by kernel_rfl) (by kernel_rfl) (fun _ _ _ h => h) (Or.inl ⟨by kernel_rfl, ?hy15⟩) (by assumption) ?rest15
     case hy15 => (intro w hSw; (try dsimp only at hSw); go_simp; try with_reducible rfl)
     try simp only [Act.put, List.setIfInBounds_toArray, List.set_cons_zero, List.set_cons_succ]
     refine held_take (i := 1) (d := 33) (v := ?v16) rfl rfl (by kernel_rfl) (by kernel_rfl) (by kernel_rfl) (fun _ _ _ h => h) (Or.inl ⟨by kernel_rfl, ?hy16⟩) (by assumption) ?rest16
     case hy16 => (intro w hSw; (try dsimp only at hSw); go_simp; try with_reducible rfl)
     try simp only [Act.put, List.setIfInBounds_toArray, List.set_cons_zero, List.set_cons_succ]
     refine held_take (i := 2) (d := 34) (v := ?v17) rfl rfl (by kernel_rfl) (by kernel_rfl) (by kernel_rfl) (fun _ _ _ h => h) (Or.inl ⟨by kernel_rfl, ?hy17⟩) (by assumption) ?rest17
     case hy17 => (intro w hSw; (try dsimp only at hSw); go_simp; try with_reducible rfl)
     try simp only [Act.put, List.setIfInBounds_toArray, List.set_cons_zero, List.set_cons_succ]
     refine held_take (i := 3) (d := 35) (v := ?v18) rfl rfl (by kernel_rfl) (by kernel_rfl) (by kernel_rfl) (fun _ _ _ h => h) (Or.inl ⟨by kernel_rfl, ?hy18⟩) (by assumption) ?rest18
     case hy18 => (intro w hSw; (try dsimp only at hSw); go_simp; try with_reducible rfl)
     try simp only [Act.put, List.setIfInBounds_toArray, List.set_cons_zero, List.set_cons_succ]
     refine held_take (i := 4) (d := 36) (v := ?v19) rfl rfl (by kernel_rfl) (by kernel_rfl) (by kernel_rfl) (fun _ _ _ h => h) (Or.inl ⟨by kernel_rfl, ?hy19⟩) (by assumption) ?rest19
     case hy19 => (intro w hSw; (try dsimp only at hSw); go_simp; try with_reducible rfl)
     try simp only [Act.put, List.setIfInBounds_toArray, List.set_cons_zero, List.set_cons_succ]
     refine held_take (i := 5) (d := 37) (v := ?v20) rfl rfl (by kernel_rfl) (by kernel_rfl) (by kernel_rfl) (fun _ _ _ h => h) (Or.inl ⟨by kernel_rfl, ?hy20⟩) (by assumption) ?rest20
     case hy20 => (intro w hSw; (try dsimp only at hSw); go_simp; try with_reducible rfl)
     try simp only [Act.put, List.setIfInBounds_toArray, List.set_cons_zero, List.set_cons_succ]
     refine wpAnyH_ready (rs := [6]) (by kernel_rfl) (by simp) ?_
     refine AllReadyH.cons rfl (fun K hK => ?_) AllReadyH.nil
     go_simp
     refine (H32k.out _).mono ?_
     rintro e w' ⟨rfl, hg⟩
     have hgx := grown_trans (grown_drew hgW) hg
     go_wp2_with fail
     refine hK.out _ _ (by exact FACTS2.out _ hgx) (fun hHeld => ?_)
     clear hK K
     try simp only [Act.put, List.setIfInBounds_toArray, List.set_cons_zero, List.set_cons_succ]
     refine held_take (i := 7) (d := 39) (v := ?v21) rfl rfl (by kernel_rfl) (by kernel_rfl) (by kernel_rfl) (fun _ _ _ h => h) (Or.inl ⟨by kernel_rfl, ?hy21⟩) (by assumption) ?rest21
     case hy21 => (intro w hSw; (try dsimp only at hSw); go_simp; try with_reducible rfl)
     try simp only [Act.put, List.setIfInBounds_toArray, List.set_cons_zero, List.set_cons_succ]
     refine held_take (i := 8) (d := 40) (v := ?v22) rfl rfl (by kernel_rfl) (by kernel_rfl) (by kernel_rfl) (fun _ _ _ h => h) (Or.inl ⟨by kernel_rfl, ?hy22⟩) (by assumption) ?rest22
     case hy22 => (intro w hSw; (try dsimp only at hSw); go_simp; try with_reducible rfl)
     try simp only [Act.put, List.setIfInBounds_toArray, List.set_cons_zero, List.set_cons_succ]
     refine held_take (i := 9) (d := 41) (v := ?v23) rfl rfl (by kernel_rfl) (by kernel_rfl) (by kernel_rfl) (fun _ _ _ h => h) (Or.inl ⟨by kernel_rfl, ?hy23⟩) (by assumption) ?rest23
     case hy23 => (intro w hSw; (try dsimp only at hSw); go_simp; try with_reducible rfl)
     try simp only [Act.put, List.setIfInBounds_toArray, List.set_cons_zero, List.set_cons_succ]
     refine held_take (i := 10) (d := 42) (v := ?v24) rfl rfl (by kernel_rfl) (by kernel_rfl) (by kernel_rfl) (fun _ _ _ h => h) (Or.inl ⟨by kernel_rfl, ?hy24⟩) (by assumption) ?rest24
     case hy24 => (intro w hSw; (try dsimp only at hSw); go_simp; try with_reducible rfl)
     try simp only [Act.put, List.setIfInBounds_toArray, List.set_cons_zero, List.set_cons_succ]
     refine held_take (i := 11) (d := 43) (v := ?v25) rfl rfl (by kernel_rfl) (by kernel_rfl) (by kernel_rfl) (fun _ _ _ h => h) (Or.inl ⟨by kernel_rfl, ?hy25⟩) (by assumption) ?rest25
     case hy25 => (intro w hSw; (try dsimp only at hSw); go_simp; try with_reducible rfl)
     try simp only [Act.put, List.setIfInBounds_toArray, List.set_cons_zero, List.set_cons_succ]
     refine held_take (i := 12) (d := 44) (v := ?v26) rfl rfl (by kernel_rfl) (by kernel_rfl) (by kernel_rfl) (fun _ _ _ h => h) (Or.inl ⟨by kernel_rfl, ?hy26⟩) (by assumption) ?rest26
     case hy26 => (intro w hSw; (try dsimp only at hSw); go_simp; try with_reducible rfl)
     try simp only [Act.put, List.setIfInBounds_toArray, List.set_cons_zero, List.set_cons_succ]
     refine held_take (i := 13) (d := 45) (v := ?v27) rfl rfl (by kernel_rfl) (by kernel_rfl) (by kernel_rfl) (fun _ _ _ h => h) (Or.inl ⟨by kernel_rfl, ?hy27⟩) (by assumption) ?rest27
     case hy27 => (intro w hSw; (try dsimp only at hSw); go_simp; try with_reducible rfl)
     try simp only [Act.put, List.setIfInBounds_toArray, List.set_cons_zero, List.set_cons_succ]
     refine held_take (i := 14) (d := 46) (v := ?v28) rfl rfl (by kernel_rfl) (by kernel_rfl) (by kernel_rfl) (fun _ _ _ h => h) (Or.inl ⟨by kernel_rfl, ?hy28⟩) (by assumption) ?rest28
     case hy28 => (intro w hSw; (try dsimp only at hSw); go_simp; try with_reducible rfl)
     try simp only [Act.put, List.setIfInBounds_toArray, List.set_cons_zero, List.set_cons_succ]
     refine held_take (i := 15) (d := 47) (v := ?v29) rfl rfl (by kernel_rfl) (by kernel_rfl) (by kernel_rfl) (fun _ _ _ h => h) (Or.inl ⟨by kernel_rfl, ?hy29⟩) (by assumption) ?rest29
     case hy29 => (intro w hSw; (try dsimp only at hSw); go_simp; try with_reducible rfl)
     try simp only [Act.put, List.setIfInBounds_toArray, List.set_cons_zero, List.set_cons_succ]
     refine held_take (i := 16) (d := 48) (v := ?v30) rfl rfl (by kernel_rfl) (by kernel_rfl) (by kernel_rfl) (fun _ _ _ h => h) (Or.inl ⟨by kernel_rfl, ?hy30⟩) (by assumption) ?rest30
     case hy30 => (intro w hSw; (try dsimp only at hSw); go_simp; try with_reducible rfl)
     try simp only [Act.put, List.setIfInBounds_toArray, List.set_cons_zero, List.set_cons_succ]
     refine held_take (i := 17) (d := 49) (v := ?v31) rfl rfl (by kernel_rfl) (by kernel_rfl) (by kernel_rfl) (fun _ _ _ h => h) (Or.inl ⟨by kernel_rfl, ?hy31⟩) (by assumption) ?rest31
     case hy31 => (intro w hSw; (try dsimp only at hSw); go_simp; try with_reducible rfl)
     try simp only [Act.put, List.setIfInBounds_toArray, List.set_cons_zero, List.set_cons_succ]
     refine held_take (i := 18) (d := 50) (v := ?v32) rfl rfl (by kernel_rfl) (by kernel_rfl) (by kernel_rfl) (fun _ _ _ h => h) (Or.inl ⟨by kernel_rfl, ?hy32⟩) (by assumption) ?rest32
     case hy32 => (intro w hSw; (try dsimp only at hSw); go_simp; try with_reducible rfl)
     try simp only [Act.put, List.setIfInBounds_toArray, List.set_cons_zero, List.set_cons_succ]
     refine held_take (i := 19) (d := 51) (v := undef) rfl rfl (by kernel_rfl) (by kernel_rfl) (by kernel_rfl) (fun _ _ _ h => h) (Or.inr ⟨by kernel_rfl, rfl⟩) (by assumption) ?_
     try simp only [Act.put, List.setIfInBounds_toArray, List.set_cons_zero, List.set_cons_succ]
     refine held_take (i := 20) (d := 52) (v := undef) rfl rfl (by kernel_rfl) (by kernel_rfl) (by kernel_rfl) (fun _ _ _ h => h) (Or.inr ⟨by kernel_rfl, rfl⟩) (by assumption) ?_
     try simp only [Act.put, List.setIfInBounds_toArray, List.set_cons_zero, List.set_cons_succ]
     refine held_take (i := 21) (d := 53) (v := undef) rfl rfl (by kernel_rfl) (by kernel_rfl) (by kernel_rfl) (fun _ _ _ h => h) (Or.inr ⟨by kernel_rfl, rfl⟩) (by assumption) ?_
     try simp only [Act.put, List.setIfInBounds_toArray, List.set_cons_zero, List.set_cons_succ]
     refine held_take (i := 22) (d := 54) (v := undef) rfl rfl (by kernel_rfl) (by kernel_rfl) (by kernel_rfl) (fun _ _ _ h => h) (Or.inr ⟨by kernel_rfl, rfl⟩) (by assumption) ?_
     try simp only [Act.put, List.setIfInBounds_toArray, List.set_cons_zero, List.set_cons_succ]
     refine held_take (i := 23) (d := 55) (v := undef) rfl rfl (by kernel_rfl) (by kernel_rfl) (by kernel_rfl) (fun _ _ _ h => h) (Or.inr ⟨by kernel_rfl, rfl⟩) (by assumption) ?_
     try simp only [Act.put, List.setIfInBounds_toArray, List.set_cons_zero, List.set_cons_succ]
     refine held_take (i := 24) (d := 56) (v := undef) rfl rfl (by kernel_rfl) (by kernel_rfl) (by kernel_rfl) (fun _ _ _ h => h) (Or.inr ⟨by kernel_rfl, rfl⟩) (by assumption) ?_
     try simp only [Act.put, List.setIfInBounds_toArray, List.set_cons_zero, List.set_cons_succ]
     refine held_take (i := 25) (d := 57) (v := undef) rfl rfl (by kernel_rfl) (by kernel_rfl) (by kernel_rfl) (fun _ _ _ h => h) (Or.inr ⟨by kernel_rfl, rfl⟩) (by assumption) ?_
     try simp only [Act.put, List.setIfInBounds_toArray, List.set_cons_zero, List.set_cons_succ]
     refine held_take (i := 26) (d := 58) (v := undef) rfl rfl (by kernel_rfl) (by kernel_rfl) (by kernel_rfl) (fun _ _ _ h => h) (Or.inr ⟨by kernel_rfl, rfl⟩) (by assumption) ?_
     try simp only [Act.put, List.setIfInBounds_toArray, List.set_cons_zero, List.set_cons_succ]
     refine held_take (i := 27) (d := 59) (v := undef) rfl rfl (by kernel_rfl) (by kernel_rfl) (by kernel_rfl) (fun _ _ _ h => h) (Or.inr ⟨by kernel_rfl, rfl⟩) (by assumption) ?_
     try simp only [Act.put, List.setIfInBounds_toArray, List.set_cons_zero, List.set_cons_succ]
     refine held_take (i := 28) (d := 60) (v := ?v33) rfl rfl (by kernel_rfl) (by kernel_rfl) (by kernel_rfl) (fun _ _ _ h => h) (Or.inl ⟨by kernel_rfl, ?hy33⟩) (by assumption) ?rest33
     case hy33 => (intro w hSw; (try dsimp only at hSw); go_simp; try with_reducible rfl)
     try simp only [Act.put, List.setIfInBounds_toArray, List.set_cons_zero, List.set_cons_succ]
     refine held_take (i := 29) (d := 61) (v := ?v34) rfl rfl (by kernel_rfl) (by kernel_rfl) (by kernel_rfl) (fun _ _ _ h => h) (Or.inl ⟨by kernel_rfl, ?hy34⟩) (by assumption) ?rest34
     case hy34 => (intro w hSw; (try dsimp only at hSw); go_simp; try with_reducible rfl)
     try simp only [Act.put, List.setIfInBounds_toArray, List.set_cons_zero, List.set_cons_succ]
     refine wpAnyH_done (by kernel_rfl) ?_ _
     have HX := Lib.hid (FACTS2.out _ hgx).2.1
     clear hHeld
     go_wp2_with fail
     go_roundg (its.length - (k + 1))
     case measure => omega
     case rel => exact ⟨k + 1, by go_num, hlt, rfl, HX⟩
    ·have hsp := HSPk.out (by omega)
     clear HSPk hxs
     cases tsp with
     | true =>
      replace hsp : xs = 1 := by simpa using hsp
      subst hsp
      go_wp2_with fail
      generalize hwa : wr.alloc (.cells #[.int .i64 tkind, .int .i64 (f1 : Int), .int .i64 (f2 : Int), .int .i64 (tunit : Int), .bool tid, .string (str ttext), .bool true] 64) = wa at FACTS2 ⊢
      have hgW := grown_refl wa none
      clear hwa n0 n1 n2 n3 n4 n5 n6
      refine wp_region_held_drew (S := fun W => wa.grownBy W none ∧ HoldR w s base g1 c1 g2 c R its W ∧ W.cell? ⟨wr.heap.size, 0, none⟩ = some (.int .i64 tkind) ∧ W.cell? ⟨wr.heap.size, 1, none⟩ = some (.int .i64 (f1 : Int)) ∧ W.cell? ⟨wr.heap.size, 2, none⟩ = some (.int .i64 (f2 : Int)) ∧ W.cell? ⟨wr.heap.size, 3, none⟩ = some (.int .i64 (tunit : Int)) ∧ W.cell? ⟨wr.heap.size, 4, none⟩ = some (.bool tid) ∧ W.cell? ⟨wr.heap.size, 5, none⟩ = some (.string (str ttext)) ∧ W.cell? ⟨wr.heap.size, 6, none⟩ = some (.bool true) ∧ W.cell? ⟨g2, k * 4, none⟩ = some (.int .i64 xk) ∧ W.cell? ⟨g2, k * 4 + 1, none⟩ = some (.int .i64 xu) ∧ W.cell? ⟨g2, k * 4 + 2, none⟩ = some (.string (str xt)) ∧ W.cell? ⟨g2, k * 4 + 3, none⟩ = some (.int .i64 1)) (by kernel_rfl) (by exact FACTS2.out _ (grown_drew hgW)) (fun hHeld => ?_)
      refine held_take (i := 0) (d := 32) (v := ?v35) rfl rfl (by kernel_rfl) (by kernel_rfl) (by kernel_rfl) (fun _ _ _ h => h) (Or.inl ⟨by kernel_rfl, ?hy35⟩) (by assumption) ?rest35
      case hy35 => (intro w hSw; (try dsimp only at hSw); go_simp; try with_reducible rfl)
      try simp only [Act.put, List.setIfInBounds_toArray, List.set_cons_zero, List.set_cons_succ]
      refine held_take (i := 1) (d := 33) (v := ?v36) rfl rfl (by kernel_rfl) (by kernel_rfl) (by kernel_rfl) (fun _ _ _ h => h) (Or.inl ⟨by kernel_rfl, ?hy36⟩) (by assumption) ?rest36
      case hy36 => (intro w hSw; (try dsimp only at hSw); go_simp; try with_reducible rfl)
      try simp only [Act.put, List.setIfInBounds_toArray, List.set_cons_zero, List.set_cons_succ]
      refine held_take (i := 2) (d := 34) (v := ?v37) rfl rfl (by kernel_rfl) (by kernel_rfl) (by kernel_rfl) (fun _ _ _ h => h) (Or.inl ⟨by kernel_rfl, ?hy37⟩) (by assumption) ?rest37
      case hy37 => (intro w hSw; (try dsimp only at hSw); go_simp; try with_reducible rfl)
      try simp only [Act.put, List.setIfInBounds_toArray, List.set_cons_zero, List.set_cons_succ]
      refine held_take (i := 3) (d := 35) (v := ?v38) rfl rfl (by kernel_rfl) (by kernel_rfl) (by kernel_rfl) (fun _ _ _ h => h) (Or.inl ⟨by kernel_rfl, ?hy38⟩) (by assumption) ?rest38
      case hy38 => (intro w hSw; (try dsimp only at hSw); go_simp; try with_reducible rfl)
      try simp only [Act.put, List.setIfInBounds_toArray, List.set_cons_zero, List.set_cons_succ]
      refine held_take (i := 4) (d := 36) (v := ?v39) rfl rfl (by kernel_rfl) (by kernel_rfl) (by kernel_rfl) (fun _ _ _ h => h) (Or.inl ⟨by kernel_rfl, ?hy39⟩) (by assumption) ?rest39
      case hy39 => (intro w hSw; (try dsimp only at hSw); go_simp; try with_reducible rfl)
      try simp only [Act.put, List.setIfInBounds_toArray, List.set_cons_zero, List.set_cons_succ]
      refine held_take (i := 5) (d := 37) (v := ?v40) rfl rfl (by kernel_rfl) (by kernel_rfl) (by kernel_rfl) (fun _ _ _ h => h) (Or.inl ⟨by kernel_rfl, ?hy40⟩) (by assumption) ?rest40
      case hy40 => (intro w hSw; (try dsimp only at hSw); go_simp; try with_reducible rfl)
      try simp only [Act.put, List.setIfInBounds_toArray, List.set_cons_zero, List.set_cons_succ]
      refine wpAnyH_ready (rs := [6]) (by kernel_rfl) (by simp) ?_
      refine AllReadyH.cons rfl (fun K hK => ?_) AllReadyH.nil
      go_simp
      refine (H32k.out _).mono ?_
      rintro e w' ⟨rfl, hg⟩
      have hgx := grown_trans (grown_drew hgW) hg
      go_wp2_with fail
      refine hK.out _ _ (by exact FACTS2.out _ hgx) (fun hHeld => ?_)
      clear hK K
      try simp only [Act.put, List.setIfInBounds_toArray, List.set_cons_zero, List.set_cons_succ]
      refine held_take (i := 7) (d := 39) (v := ?v41) rfl rfl (by kernel_rfl) (by kernel_rfl) (by kernel_rfl) (fun _ _ _ h => h) (Or.inl ⟨by kernel_rfl, ?hy41⟩) (by assumption) ?rest41
      case hy41 => (intro w hSw; (try dsimp only at hSw); go_simp; try with_reducible rfl)
      try simp only [Act.put, List.setIfInBounds_toArray, List.set_cons_zero, List.set_cons_succ]
      refine held_take (i := 8) (d := 40) (v := ?v42) rfl rfl (by kernel_rfl) (by kernel_rfl) (by kernel_rfl) (fun _ _ _ h => h) (Or.inl ⟨by kernel_rfl, ?hy42⟩) (by assumption) ?rest42
      case hy42 => (intro w hSw; (try dsimp only at hSw); go_simp; try with_reducible rfl)
      try simp only [Act.put, List.setIfInBounds_toArray, List.set_cons_zero, List.set_cons_succ]
      refine held_take (i := 9) (d := 41) (v := ?v43) rfl rfl (by kernel_rfl) (by kernel_rfl) (by kernel_rfl) (fun _ _ _ h => h) (Or.inl ⟨by kernel_rfl, ?hy43⟩) (by assumption) ?rest43
      case hy43 => (intro w hSw; (try dsimp only at hSw); go_simp; try with_reducible rfl)
      try simp only [Act.put, List.setIfInBounds_toArray, List.set_cons_zero, List.set_cons_succ]
      refine held_take (i := 10) (d := 42) (v := ?v44) rfl rfl (by kernel_rfl) (by kernel_rfl) (by kernel_rfl) (fun _ _ _ h => h) (Or.inl ⟨by kernel_rfl, ?hy44⟩) (by assumption) ?rest44
      case hy44 => (intro w hSw; (try dsimp only at hSw); go_simp; try with_reducible rfl)
      try simp only [Act.put, List.setIfInBounds_toArray, List.set_cons_zero, List.set_cons_succ]
      refine held_take (i := 11) (d := 43) (v := ?v45) rfl rfl (by kernel_rfl) (by kernel_rfl) (by kernel_rfl) (fun _ _ _ h => h) (Or.inl ⟨by kernel_rfl, ?hy45⟩) (by assumption) ?rest45
      case hy45 => (intro w hSw; (try dsimp only at hSw); go_simp; try with_reducible rfl)
      try simp only [Act.put, List.setIfInBounds_toArray, List.set_cons_zero, List.set_cons_succ]
      refine held_take (i := 12) (d := 44) (v := ?v46) rfl rfl (by kernel_rfl) (by kernel_rfl) (by kernel_rfl) (fun _ _ _ h => h) (Or.inl ⟨by kernel_rfl, ?hy46⟩) (by assumption) ?rest46
      case hy46 => (intro w hSw; (try dsimp only at hSw); go_simp; try with_reducible rfl)
      try simp only [Act.put, List.setIfInBounds_toArray, List.set_cons_zero, List.set_cons_succ]
      refine held_take (i := 13) (d := 45) (v := ?v47) rfl rfl (by kernel_rfl) (by kernel_rfl) (by kernel_rfl) (fun _ _ _ h => h) (Or.inl ⟨by kernel_rfl, ?hy47⟩) (by assumption) ?rest47
      case hy47 => (intro w hSw; (try dsimp only at hSw); go_simp; try with_reducible rfl)
      try simp only [Act.put, List.setIfInBounds_toArray, List.set_cons_zero, List.set_cons_succ]
      refine held_take (i := 14) (d := 46) (v := ?v48) rfl rfl (by kernel_rfl) (by kernel_rfl) (by kernel_rfl) (fun _ _ _ h => h) (Or.inl ⟨by kernel_rfl, ?hy48⟩) (by assumption) ?rest48
      case hy48 => (intro w hSw; (try dsimp only at hSw); go_simp; try with_reducible rfl)
      try simp only [Act.put, List.setIfInBounds_toArray, List.set_cons_zero, List.set_cons_succ]
      refine held_take (i := 15) (d := 47) (v := ?v49) rfl rfl (by kernel_rfl) (by kernel_rfl) (by kernel_rfl) (fun _ _ _ h => h) (Or.inl ⟨by kernel_rfl, ?hy49⟩) (by assumption) ?rest49
      case hy49 => (intro w hSw; (try dsimp only at hSw); go_simp; try with_reducible rfl)
      try simp only [Act.put, List.setIfInBounds_toArray, List.set_cons_zero, List.set_cons_succ]
      refine held_take (i := 16) (d := 48) (v := ?v50) rfl rfl (by kernel_rfl) (by kernel_rfl) (by kernel_rfl) (fun _ _ _ h => h) (Or.inl ⟨by kernel_rfl, ?hy50⟩) (by assumption) ?rest50
      case hy50 => (intro w hSw; (try dsimp only at hSw); go_simp; try with_reducible rfl)
      try simp only [Act.put, List.setIfInBounds_toArray, List.set_cons_zero, List.set_cons_succ]
      refine held_take (i := 17) (d := 49) (v := ?v51) rfl rfl (by kernel_rfl) (by kernel_rfl) (by kernel_rfl) (fun _ _ _ h => h) (Or.inl ⟨by kernel_rfl, ?hy51⟩) (by assumption) ?rest51
      case hy51 => (intro w hSw; (try dsimp only at hSw); go_simp; try with_reducible rfl)
      try simp only [Act.put, List.setIfInBounds_toArray, List.set_cons_zero, List.set_cons_succ]
      refine held_take (i := 18) (d := 50) (v := ?v52) rfl rfl (by kernel_rfl) (by kernel_rfl) (by kernel_rfl) (fun _ _ _ h => h) (Or.inl ⟨by kernel_rfl, ?hy52⟩) (by assumption) ?rest52
      case hy52 => (intro w hSw; (try dsimp only at hSw); go_simp; try with_reducible rfl)
      try simp only [Act.put, List.setIfInBounds_toArray, List.set_cons_zero, List.set_cons_succ]
      refine held_take (i := 19) (d := 51) (v := ?v53) rfl rfl (by kernel_rfl) (by kernel_rfl) (by kernel_rfl) (fun _ _ _ h => h) (Or.inl ⟨by kernel_rfl, ?hy53⟩) (by assumption) ?rest53
      case hy53 => (intro w hSw; (try dsimp only at hSw); go_simp; try with_reducible rfl)
      try simp only [Act.put, List.setIfInBounds_toArray, List.set_cons_zero, List.set_cons_succ]
      refine held_take (i := 20) (d := 52) (v := ?v54) rfl rfl (by kernel_rfl) (by kernel_rfl) (by kernel_rfl) (fun _ _ _ h => h) (Or.inl ⟨by kernel_rfl, ?hy54⟩) (by assumption) ?rest54
      case hy54 => (intro w hSw; (try dsimp only at hSw); go_simp; try with_reducible rfl)
      try simp only [Act.put, List.setIfInBounds_toArray, List.set_cons_zero, List.set_cons_succ]
      refine held_take (i := 21) (d := 53) (v := ?v55) rfl rfl (by kernel_rfl) (by kernel_rfl) (by kernel_rfl) (fun _ _ _ h => h) (Or.inl ⟨by kernel_rfl, ?hy55⟩) (by assumption) ?rest55
      case hy55 => (intro w hSw; (try dsimp only at hSw); go_simp; try with_reducible rfl)
      try simp only [Act.put, List.setIfInBounds_toArray, List.set_cons_zero, List.set_cons_succ]
      refine held_take (i := 22) (d := 54) (v := ?v56) rfl rfl (by kernel_rfl) (by kernel_rfl) (by kernel_rfl) (fun _ _ _ h => h) (Or.inl ⟨by kernel_rfl, ?hy56⟩) (by assumption) ?rest56
      case hy56 => (intro w hSw; (try dsimp only at hSw); go_simp; try with_reducible rfl)
      try simp only [Act.put, List.setIfInBounds_toArray, List.set_cons_zero, List.set_cons_succ]
      refine held_take (i := 23) (d := 55) (v := ?v57) rfl rfl (by kernel_rfl) (by kernel_rfl) (by kernel_rfl) (fun _ _ _ h => h) (Or.inl ⟨by kernel_rfl, ?hy57⟩) (by assumption) ?rest57
      case hy57 => (intro w hSw; (try dsimp only at hSw); go_simp; try with_reducible rfl)
      try simp only [Act.put, List.setIfInBounds_toArray, List.set_cons_zero, List.set_cons_succ]
      refine held_take (i := 24) (d := 56) (v := ?v58) rfl rfl (by kernel_rfl) (by kernel_rfl) (by kernel_rfl) (fun _ _ _ h => h) (Or.inl ⟨by kernel_rfl, ?hy58⟩) (by assumption) ?rest58
      case hy58 => (intro w hSw; (try dsimp only at hSw); go_simp; try with_reducible rfl)
      try simp only [Act.put, List.setIfInBounds_toArray, List.set_cons_zero, List.set_cons_succ]
      refine held_take (i := 25) (d := 57) (v := ?v59) rfl rfl (by kernel_rfl) (by kernel_rfl) (by kernel_rfl) (fun _ _ _ h => h) (Or.inl ⟨by kernel_rfl, ?hy59⟩) (by assumption) ?rest59
      case hy59 => (intro w hSw; (try dsimp only at hSw); go_simp; try with_reducible rfl)
      try simp only [Act.put, List.setIfInBounds_toArray, List.set_cons_zero, List.set_cons_succ]
      refine held_take (i := 26) (d := 58) (v := ?v60) rfl rfl (by kernel_rfl) (by kernel_rfl) (by kernel_rfl) (fun _ _ _ h => h) (Or.inl ⟨by kernel_rfl, ?hy60⟩) (by assumption) ?rest60
      case hy60 => (intro w hSw; (try dsimp only at hSw); go_simp; try with_reducible rfl)
      try simp only [Act.put, List.setIfInBounds_toArray, List.set_cons_zero, List.set_cons_succ]
      refine held_take (i := 27) (d := 59) (v := ?v61) rfl rfl (by kernel_rfl) (by kernel_rfl) (by kernel_rfl) (fun _ _ _ h => h) (Or.inl ⟨by kernel_rfl, ?hy61⟩) (by assumption) ?rest61
      case hy61 => (intro w hSw; (try dsimp only at hSw); go_simp; try with_reducible rfl)
      try simp only [Act.put, List.setIfInBounds_toArray, List.set_cons_zero, List.set_cons_succ]
      refine held_take (i := 28) (d := 60) (v := ?v62) rfl rfl (by kernel_rfl) (by kernel_rfl) (by kernel_rfl) (fun _ _ _ h => h) (Or.inl ⟨by kernel_rfl, ?hy62⟩) (by assumption) ?rest62
      case hy62 => (intro w hSw; (try dsimp only at hSw); go_simp; try with_reducible rfl)
      try simp only [Act.put, List.setIfInBounds_toArray, List.set_cons_zero, List.set_cons_succ]
      refine held_take (i := 29) (d := 61) (v := ?v63) rfl rfl (by kernel_rfl) (by kernel_rfl) (by kernel_rfl) (fun _ _ _ h => h) (Or.inl ⟨by kernel_rfl, ?hy63⟩) (by assumption) ?rest63
      case hy63 => (intro w hSw; (try dsimp only at hSw); go_simp; try with_reducible rfl)
      try simp only [Act.put, List.setIfInBounds_toArray, List.set_cons_zero, List.set_cons_succ]
      refine wpAnyH_done (by kernel_rfl) ?_ _
      have HX := Lib.hid (FACTS2.out _ hgx).2.1
      clear hHeld
      go_wp2_with fail
      go_roundg (its.length - (k + 1))
      case measure => omega
      case rel => exact ⟨k + 1, by go_num, hlt, rfl, HX⟩
     | false =>
      replace hsp : xs = 0 := by simpa using hsp
      subst hsp
      go_wp2_with fail
      generalize hwa : wr.alloc (.cells #[.int .i64 tkind, .int .i64 (f1 : Int), .int .i64 (f2 : Int), .int .i64 (tunit : Int), .bool tid, .string (str ttext), .bool false] 64) = wa at FACTS2 ⊢
      have hgW := grown_refl wa none
      clear hwa n0 n1 n2 n3 n4 n5 n6
      refine wp_region_held_drew (S := fun W => wa.grownBy W none ∧ HoldR w s base g1 c1 g2 c R its W ∧ W.cell? ⟨wr.heap.size, 0, none⟩ = some (.int .i64 tkind) ∧ W.cell? ⟨wr.heap.size, 1, none⟩ = some (.int .i64 (f1 : Int)) ∧ W.cell? ⟨wr.heap.size, 2, none⟩ = some (.int .i64 (f2 : Int)) ∧ W.cell? ⟨wr.heap.size, 3, none⟩ = some (.int .i64 (tunit : Int)) ∧ W.cell? ⟨wr.heap.size, 4, none⟩ = some (.bool tid) ∧ W.cell? ⟨wr.heap.size, 5, none⟩ = some (.string (str ttext)) ∧ W.cell? ⟨wr.heap.size, 6, none⟩ = some (.bool false) ∧ W.cell? ⟨g2, k * 4, none⟩ = some (.int .i64 xk) ∧ W.cell? ⟨g2, k * 4 + 1, none⟩ = some (.int .i64 xu) ∧ W.cell? ⟨g2, k * 4 + 2, none⟩ = some (.string (str xt)) ∧ W.cell? ⟨g2, k * 4 + 3, none⟩ = some (.int .i64 0)) (by kernel_rfl) (by exact FACTS2.out _ (grown_drew hgW)) (fun hHeld => ?_)
      refine held_take (i := 0) (d := 32) (v := ?v64) rfl rfl (by kernel_rfl) (by kernel_rfl) (by kernel_rfl) (fun _ _ _ h => h) (Or.inl ⟨by kernel_rfl, ?hy64⟩) (by assumption) ?rest64
      case hy64 => (intro w hSw; (try dsimp only at hSw); go_simp; try with_reducible rfl)
      try simp only [Act.put, List.setIfInBounds_toArray, List.set_cons_zero, List.set_cons_succ]
      refine held_take (i := 1) (d := 33) (v := ?v65) rfl rfl (by kernel_rfl) (by kernel_rfl) (by kernel_rfl) (fun _ _ _ h => h) (Or.inl ⟨by kernel_rfl, ?hy65⟩) (by assumption) ?rest65
      case hy65 => (intro w hSw; (try dsimp only at hSw); go_simp; try with_reducible rfl)
      try simp only [Act.put, List.setIfInBounds_toArray, List.set_cons_zero, List.set_cons_succ]
      refine held_take (i := 2) (d := 34) (v := ?v66) rfl rfl (by kernel_rfl) (by kernel_rfl) (by kernel_rfl) (fun _ _ _ h => h) (Or.inl ⟨by kernel_rfl, ?hy66⟩) (by assumption) ?rest66
      case hy66 => (intro w hSw; (try dsimp only at hSw); go_simp; try with_reducible rfl)
      try simp only [Act.put, List.setIfInBounds_toArray, List.set_cons_zero, List.set_cons_succ]
      refine held_take (i := 3) (d := 35) (v := ?v67) rfl rfl (by kernel_rfl) (by kernel_rfl) (by kernel_rfl) (fun _ _ _ h => h) (Or.inl ⟨by kernel_rfl, ?hy67⟩) (by assumption) ?rest67
      case hy67 => (intro w hSw; (try dsimp only at hSw); go_simp; try with_reducible rfl)
      try simp only [Act.put, List.setIfInBounds_toArray, List.set_cons_zero, List.set_cons_succ]
      refine held_take (i := 4) (d := 36) (v := ?v68) rfl rfl (by kernel_rfl) (by kernel_rfl) (by kernel_rfl) (fun _ _ _ h => h) (Or.inl ⟨by kernel_rfl, ?hy68⟩) (by assumption) ?rest68
      case hy68 => (intro w hSw; (try dsimp only at hSw); go_simp; try with_reducible rfl)
      try simp only [Act.put, List.setIfInBounds_toArray, List.set_cons_zero, List.set_cons_succ]
      refine held_take (i := 5) (d := 37) (v := ?v69) rfl rfl (by kernel_rfl) (by kernel_rfl) (by kernel_rfl) (fun _ _ _ h => h) (Or.inl ⟨by kernel_rfl, ?hy69⟩) (by assumption) ?rest69
      case hy69 => (intro w hSw; (try dsimp only at hSw); go_simp; try with_reducible rfl)
      try simp only [Act.put, List.setIfInBounds_toArray, List.set_cons_zero, List.set_cons_succ]
      refine wpAnyH_ready (rs := [6]) (by kernel_rfl) (by simp) ?_
      refine AllReadyH.cons rfl (fun K hK => ?_) AllReadyH.nil
      go_simp
      refine (H32k.out _).mono ?_
      rintro e w' ⟨rfl, hg⟩
      have hgx := grown_trans (grown_drew hgW) hg
      go_wp2_with fail
      refine hK.out _ _ (by exact FACTS2.out _ hgx) (fun hHeld => ?_)
      clear hK K
      try simp only [Act.put, List.setIfInBounds_toArray, List.set_cons_zero, List.set_cons_succ]
      refine held_take (i := 7) (d := 39) (v := ?v70) rfl rfl (by kernel_rfl) (by kernel_rfl) (by kernel_rfl) (fun _ _ _ h => h) (Or.inl ⟨by kernel_rfl, ?hy70⟩) (by assumption) ?rest70
      case hy70 => (intro w hSw; (try dsimp only at hSw); go_simp; try with_reducible rfl)
      try simp only [Act.put, List.setIfInBounds_toArray, List.set_cons_zero, List.set_cons_succ]
      refine held_take (i := 8) (d := 40) (v := ?v71) rfl rfl (by kernel_rfl) (by kernel_rfl) (by kernel_rfl) (fun _ _ _ h => h) (Or.inl ⟨by kernel_rfl, ?hy71⟩) (by assumption) ?rest71
      case hy71 => (intro w hSw; (try dsimp only at hSw); go_simp; try with_reducible rfl)
      try simp only [Act.put, List.setIfInBounds_toArray, List.set_cons_zero, List.set_cons_succ]
      refine held_take (i := 9) (d := 41) (v := ?v72) rfl rfl (by kernel_rfl) (by kernel_rfl) (by kernel_rfl) (fun _ _ _ h => h) (Or.inl ⟨by kernel_rfl, ?hy72⟩) (by assumption) ?rest72
      case hy72 => (intro w hSw; (try dsimp only at hSw); go_simp; try with_reducible rfl)
      try simp only [Act.put, List.setIfInBounds_toArray, List.set_cons_zero, List.set_cons_succ]
      refine held_take (i := 10) (d := 42) (v := ?v73) rfl rfl (by kernel_rfl) (by kernel_rfl) (by kernel_rfl) (fun _ _ _ h => h) (Or.inl ⟨by kernel_rfl, ?hy73⟩) (by assumption) ?rest73
      case hy73 => (intro w hSw; (try dsimp only at hSw); go_simp; try with_reducible rfl)
      try simp only [Act.put, List.setIfInBounds_toArray, List.set_cons_zero, List.set_cons_succ]
      refine held_take (i := 11) (d := 43) (v := ?v74) rfl rfl (by kernel_rfl) (by kernel_rfl) (by kernel_rfl) (fun _ _ _ h => h) (Or.inl ⟨by kernel_rfl, ?hy74⟩) (by assumption) ?rest74
      case hy74 => (intro w hSw; (try dsimp only at hSw); go_simp; try with_reducible rfl)
      try simp only [Act.put, List.setIfInBounds_toArray, List.set_cons_zero, List.set_cons_succ]
      refine held_take (i := 12) (d := 44) (v := ?v75) rfl rfl (by kernel_rfl) (by kernel_rfl) (by kernel_rfl) (fun _ _ _ h => h) (Or.inl ⟨by kernel_rfl, ?hy75⟩) (by assumption) ?rest75
      case hy75 => (intro w hSw; (try dsimp only at hSw); go_simp; try with_reducible rfl)
      try simp only [Act.put, List.setIfInBounds_toArray, List.set_cons_zero, List.set_cons_succ]
      refine held_take (i := 13) (d := 45) (v := ?v76) rfl rfl (by kernel_rfl) (by kernel_rfl) (by kernel_rfl) (fun _ _ _ h => h) (Or.inl ⟨by kernel_rfl, ?hy76⟩) (by assumption) ?rest76
      case hy76 => (intro w hSw; (try dsimp only at hSw); go_simp; try with_reducible rfl)
      try simp only [Act.put, List.setIfInBounds_toArray, List.set_cons_zero, List.set_cons_succ]
      refine held_take (i := 14) (d := 46) (v := ?v77) rfl rfl (by kernel_rfl) (by kernel_rfl) (by kernel_rfl) (fun _ _ _ h => h) (Or.inl ⟨by kernel_rfl, ?hy77⟩) (by assumption) ?rest77
      case hy77 => (intro w hSw; (try dsimp only at hSw); go_simp; try with_reducible rfl)
      try simp only [Act.put, List.setIfInBounds_toArray, List.set_cons_zero, List.set_cons_succ]
      refine held_take (i := 15) (d := 47) (v := ?v78) rfl rfl (by kernel_rfl) (by kernel_rfl) (by kernel_rfl) (fun _ _ _ h => h) (Or.inl ⟨by kernel_rfl, ?hy78⟩) (by assumption) ?rest78
      case hy78 => (intro w hSw; (try dsimp only at hSw); go_simp; try with_reducible rfl)
      try simp only [Act.put, List.setIfInBounds_toArray, List.set_cons_zero, List.set_cons_succ]
      refine held_take (i := 16) (d := 48) (v := ?v79) rfl rfl (by kernel_rfl) (by kernel_rfl) (by kernel_rfl) (fun _ _ _ h => h) (Or.inl ⟨by kernel_rfl, ?hy79⟩) (by assumption) ?rest79
      case hy79 => (intro w hSw; (try dsimp only at hSw); go_simp; try with_reducible rfl)
      try simp only [Act.put, List.setIfInBounds_toArray, List.set_cons_zero, List.set_cons_succ]
      refine held_take (i := 17) (d := 49) (v := ?v80) rfl rfl (by kernel_rfl) (by kernel_rfl) (by kernel_rfl) (fun _ _ _ h => h) (Or.inl ⟨by kernel_rfl, ?hy80⟩) (by assumption) ?rest80
      case hy80 => (intro w hSw; (try dsimp only at hSw); go_simp; try with_reducible rfl)
      try simp only [Act.put, List.setIfInBounds_toArray, List.set_cons_zero, List.set_cons_succ]
      refine held_take (i := 18) (d := 50) (v := ?v81) rfl rfl (by kernel_rfl) (by kernel_rfl) (by kernel_rfl) (fun _ _ _ h => h) (Or.inl ⟨by kernel_rfl, ?hy81⟩) (by assumption) ?rest81
      case hy81 => (intro w hSw; (try dsimp only at hSw); go_simp; try with_reducible rfl)
      try simp only [Act.put, List.setIfInBounds_toArray, List.set_cons_zero, List.set_cons_succ]
      refine held_take (i := 19) (d := 51) (v := ?v82) rfl rfl (by kernel_rfl) (by kernel_rfl) (by kernel_rfl) (fun _ _ _ h => h) (Or.inl ⟨by kernel_rfl, ?hy82⟩) (by assumption) ?rest82
      case hy82 => (intro w hSw; (try dsimp only at hSw); go_simp; try with_reducible rfl)
      try simp only [Act.put, List.setIfInBounds_toArray, List.set_cons_zero, List.set_cons_succ]
      refine held_take (i := 20) (d := 52) (v := ?v83) rfl rfl (by kernel_rfl) (by kernel_rfl) (by kernel_rfl) (fun _ _ _ h => h) (Or.inl ⟨by kernel_rfl, ?hy83⟩) (by assumption) ?rest83
      case hy83 => (intro w hSw; (try dsimp only at hSw); go_simp; try with_reducible rfl)
      try simp only [Act.put, List.setIfInBounds_toArray, List.set_cons_zero, List.set_cons_succ]
      refine held_take (i := 21) (d := 53) (v := ?v84) rfl rfl (by kernel_rfl) (by kernel_rfl) (by kernel_rfl) (fun _ _ _ h => h) (Or.inl ⟨by kernel_rfl, ?hy84⟩) (by assumption) ?rest84
      case hy84 => (intro w hSw; (try dsimp only at hSw); go_simp; try with_reducible rfl)
      try simp only [Act.put, List.setIfInBounds_toArray, List.set_cons_zero, List.set_cons_succ]
      refine held_take (i := 22) (d := 54) (v := ?v85) rfl rfl (by kernel_rfl) (by kernel_rfl) (by kernel_rfl) (fun _ _ _ h => h) (Or.inl ⟨by kernel_rfl, ?hy85⟩) (by assumption) ?rest85
      case hy85 => (intro w hSw; (try dsimp only at hSw); go_simp; try with_reducible rfl)
      try simp only [Act.put, List.setIfInBounds_toArray, List.set_cons_zero, List.set_cons_succ]
      refine held_take (i := 23) (d := 55) (v := ?v86) rfl rfl (by kernel_rfl) (by kernel_rfl) (by kernel_rfl) (fun _ _ _ h => h) (Or.inl ⟨by kernel_rfl, ?hy86⟩) (by assumption) ?rest86
      case hy86 => (intro w hSw; (try dsimp only at hSw); go_simp; try with_reducible rfl)
      try simp only [Act.put, List.setIfInBounds_toArray, List.set_cons_zero, List.set_cons_succ]
      refine held_take (i := 24) (d := 56) (v := ?v87) rfl rfl (by kernel_rfl) (by kernel_rfl) (by kernel_rfl) (fun _ _ _ h => h) (Or.inl ⟨by kernel_rfl, ?hy87⟩) (by assumption) ?rest87
      case hy87 => (intro w hSw; (try dsimp only at hSw); go_simp; try with_reducible rfl)
      try simp only [Act.put, List.setIfInBounds_toArray, List.set_cons_zero, List.set_cons_succ]
      refine held_take (i := 25) (d := 57) (v := ?v88) rfl rfl (by kernel_rfl) (by kernel_rfl) (by kernel_rfl) (fun _ _ _ h => h) (Or.inl ⟨by kernel_rfl, ?hy88⟩) (by assumption) ?rest88
      case hy88 => (intro w hSw; (try dsimp only at hSw); go_simp; try with_reducible rfl)
      try simp only [Act.put, List.setIfInBounds_toArray, List.set_cons_zero, List.set_cons_succ]
      refine held_take (i := 26) (d := 58) (v := ?v89) rfl rfl (by kernel_rfl) (by kernel_rfl) (by kernel_rfl) (fun _ _ _ h => h) (Or.inl ⟨by kernel_rfl, ?hy89⟩) (by assumption) ?rest89
      case hy89 => (intro w hSw; (try dsimp only at hSw); go_simp; try with_reducible rfl)
      try simp only [Act.put, List.setIfInBounds_toArray, List.set_cons_zero, List.set_cons_succ]
      refine held_take (i := 27) (d := 59) (v := ?v90) rfl rfl (by kernel_rfl) (by kernel_rfl) (by kernel_rfl) (fun _ _ _ h => h) (Or.inl ⟨by kernel_rfl, ?hy90⟩) (by assumption) ?rest90
      case hy90 => (intro w hSw; (try dsimp only at hSw); go_simp; try with_reducible rfl)
      try simp only [Act.put, List.setIfInBounds_toArray, List.set_cons_zero, List.set_cons_succ]
      refine held_take (i := 28) (d := 60) (v := ?v91) rfl rfl (by kernel_rfl) (by kernel_rfl) (by kernel_rfl) (fun _ _ _ h => h) (Or.inl ⟨by kernel_rfl, ?hy91⟩) (by assumption) ?rest91
      case hy91 => (intro w hSw; (try dsimp only at hSw); go_simp; try with_reducible rfl)
      try simp only [Act.put, List.setIfInBounds_toArray, List.set_cons_zero, List.set_cons_succ]
      refine held_take (i := 29) (d := 61) (v := ?v92) rfl rfl (by kernel_rfl) (by kernel_rfl) (by kernel_rfl) (fun _ _ _ h => h) (Or.inl ⟨by kernel_rfl, ?hy92⟩) (by assumption) ?rest92
      case hy92 => (intro w hSw; (try dsimp only at hSw); go_simp; try with_reducible rfl)
      try simp only [Act.put, List.setIfInBounds_toArray, List.set_cons_zero, List.set_cons_succ]
      refine wpAnyH_done (by kernel_rfl) ?_ _
      have HX := Lib.hid (FACTS2.out _ hgx).2.1
      clear hHeld
      go_wp2_with fail
      go_roundg (its.length - (k + 1))
      case measure => omega
      case rel => exact ⟨k + 1, by go_num, hlt, rfl, HX⟩
  ·have hk' : k = its.length := by omega
   have HG := Lib.hid HH.out.1
   clear HH H32 HSP
   subst hk'
   go_wp2_with fail
   go_ret
   exact ⟨rfl, HG.out⟩
end Go.Proofs.YtkfdcbdlcipmfaaGreatFmt
