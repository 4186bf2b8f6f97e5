/- A map of the call's own from numbers to truths, as a function; a row of the call's own cut short. -/
import Derived.Test.YtkfdcbdlcipmfaaGreatFmtProg
import Derived.WalkKit
import Derived.WalkLawsBesides
import Derived.WalkSpells
import Derived.BigQuiet
import Derived.Deep.QuietTactic
import Derived.Outline
import Derived.Laws.BitsLemmas
import Derived.Lib.Hide
import Derived.OneCell
import Derived.Deep.Draws
import Derived.Deep.LoopGhost
import Derived.Laws.BytesArg
import Derived.Laws.ResultCell
import Derived.Deep.DeepCutAuto
import Derived.Deep.CutBlock
import Derived.Deep.RegionLaw
import Derived.Maps.AppendAt
import Derived.Deep.AppendLies
import Derived.KernelRfl
import Derived.Laws.OwnMore
import Derived.Deep.RegionHeld3
import Derived.Deep.AppendSrc
import Derived.Maps.OwnOps
import Derived.Maps.Views
import Derived.Test.YtkfdcbdlcipmfaaGreatFmtGA
import Derived.Test.YtkfdcbdlcipmfaaGreatFmtGJ
import Derived.Test.YtkfdcbdlcipmfaaGreatFmtGK
import Derived.Test.YtkfdcbdlcipmfaaGreatFmtGM
import Derived.Test.YtkfdcbdlcipmfaaGreatFmtGN
set_option linter.unusedVariables false
set_option linter.unusedSimpArgs false
namespace Go.Proofs.YtkfdcbdlcipmfaaGreatFmt
open Go.RowKit
theorem und3 : Tryz.prog.underlying 3 = some (.int .i64) := by kernel_rfl
theorem und4 : Tryz.prog.underlying 4 = some .bool := by kernel_rfl
theorem und55 : Tryz.prog.underlying 55 = some (.map 3 4) := by kernel_rfl
theorem zero4 (w : World) : (zeroValue 4).run Tryz.prog w = .ok (.bool false) w := by kernel_rfl
def OwnM (w : World) (b n : Nat) (f : Int → Bool) : Prop :=
 ∃ D : DataW Unit, Go.Maps.IsMap D ∧ (∀ x : Int, D.atKey (.int .i64 x) (.lit (.bool false)) = .lit (.bool (f x))) ∧ w.ownsMap Tryz.prog 3 (plainElem Tryz.prog 4) b n D
theorem OwnM.made (w : World) : OwnM (w.alloc (.map #[] 0)) w.heap.size 0 (fun _ => false) :=
 ⟨.map [], ⟨[], rfl⟩, fun _ => rfl, World.ownsMap_made w _ _ _⟩
theorem OwnM.kept {w w' : World} {b n : Nat} {f : Int → Bool} {row : Option Nat} (h : OwnM w b n f) (hg : w.grownBy w' row) (hne : some b ≠ row) : OwnM w' b n f := by
 obtain ⟨D, h1, h2, h3⟩ := h
 exact ⟨D, h1, h2, h3.kept hg hne⟩
theorem OwnM.free {w w' : World} {b n : Nat} {f : Int → Bool} (h : OwnM w b n f) (hg : w.grownBy w' none) : OwnM w' b n f := h.kept hg (by simp)
theorem OwnM.alloc {w : World} {b n : Nat} {f : Int → Bool} (h : OwnM w b n f) (o : Obj) : OwnM (w.alloc o) b n f := h.free (grown_alloc (grown_refl _ _) o)
theorem OwnM.lt {w : World} {b n : Nat} {f : Int → Bool} (h : OwnM w b n f) : b < w.heap.size := by
 obtain ⟨D, _, _, h3⟩ := h
 exact h3.lt
theorem OwnM.mono {w : World} {b n n' : Nat} {f : Int → Bool} (h : OwnM w b n f) (hn : n ≤ n') : OwnM w b n' f := by
 obtain ⟨D, h1, h2, h3⟩ := h
 exact ⟨D, h1, h2, h3.mono hn⟩
theorem key_wf {x : Int} (h0 : 0 ≤ x) (h1 : x ≤ 1000000) : keyOf Tryz.prog 3 (.int .i64 x) = some (.int .i64 x) :=
 Go.Maps.keyOf_int_mk und3 (by
  have e1 : IntKind.i64.min = -9223372036854775808 := by decide
  have e2 : IntKind.i64.max = 9223372036854775807 := by decide
  simp only [Lit.wf, e1, e2]
  simp
  omega)
theorem OwnM.ne_row {w : World} {b n : Nat} {f : Int → Bool} (h : OwnM w b n f) {base size m : Nat} {e : TypeId} {v : Value} {xs : List Value} (ho : w.ownsRow base e size v m xs) : some b ≠ v.ownBlock := by
 obtain ⟨D, _, _, es, clock, hb, _⟩ := h
 rcases ho.2 with ⟨rfl, _⟩ | ⟨g, cap, cur, rfl, _, hh, _⟩
 ·simp [Value.ownBlock]
 ·intro e
  have e : b = g := by simpa [Value.ownBlock] using e
  subst e
  rw [hb] at hh
  cases hh
theorem OwnM.look {w : World} {b n : Nat} {f : Int → Bool} (h : OwnM w b n f) {x : Int} (h0 : 0 ≤ x) (h1 : x ≤ 1000000) :
  (Instr.lookup 55 (.map (some b)) (.int .i64 x) false).run Tryz.prog w = .ok (.bool (f x)) w := by
 obtain ⟨D, _, h2, h3⟩ := h
 obtain ⟨v, ps, hrun, hv⟩ := h3.lookup (Go.Maps.int_keyed und3) und55 (zero4 w) (plainElem_bool und4 false) (key_wf h0 h1)
 obtain ⟨c, rfl, hc⟩ := plainElem_bool_inv und4 hv
 simp only [Prod.mk.injEq] at hc
 rw [h2 x] at hc
 have : f x = c := by simpa using hc.1
 rw [hrun, this]
theorem OwnM.put {w : World} {b n : Nat} {f : Int → Bool} (h : OwnM w b n f) {x : Int} (h0 : 0 ≤ x) (h1 : x ≤ 1000000) (hn : n < maxLen) (c : Bool) :
  ∃ w', (Instr.mapUpdate 55 (.map (some b)) (.int .i64 x) (.bool c)).run Tryz.prog w = .ok () w' ∧ OwnM w' b (n + 1) (Css.setF f x c) ∧ w.grownBy w' (some b) := by
 obtain ⟨D, hm, h2, h3⟩ := h
 obtain ⟨w', hrun, r1, r2⟩ := h3.update (Go.Maps.int_keyed und3) und55 hn (key_wf h0 h1) (plainElem_bool und4 c)
 refine ⟨w', hrun, ⟨_, hm.put _ _, fun y => ?_, r1⟩, r2⟩
 by_cases hy : y = x
 ·subst hy
  rw [Go.Maps.atKey_put_same (k := Lit.int .i64 y) hm (by trivial)]
  simp [Css.setF]
 ·rw [Go.Maps.atKey_put_other (by intro e; simp at e; exact hy e), h2 y]
  simp [Css.setF, hy]
theorem wp_mapSet {o : Oper} {a : Act} {W : World} {K : Act → World → Prop} {Q : Exit → Act → World → Prop} (m x v : Operand) (ho : o.op = Op.mapUpdate 55 m x v ∨ o.op = Op.insert 55 m x v)
  (b n : Nat) (f : Int → Bool) (h : OwnM W b n f) (hm : a.eval m = .map (some b)) (k : Int) (hx : a.eval x = .int .i64 k) (c : Bool) (hv : a.eval v = .bool c) (h0 : 0 ≤ k) (h1 : k ≤ 1000000) (hn : n < maxLen)
  (hK : ∀ w', OwnM w' b (n + 1) (Css.setF f k c) → W.grownBy w' (some b) → K (a.put o.dst undef) w') : o.wp Tryz.prog a W K Q := by
 obtain ⟨w', hrun, r1, r2⟩ := h.put h0 h1 hn c
 unfold Oper.wp
 rcases ho with ho | ho <;> simp [execOp, ho, hm, hx, hv, hrun, Result.andThen] <;> exact hK w' r1 r2
theorem wpList_mapSet {ops : Array Oper} {rest : List Oper} {o : Oper} {a : Act} {W : World} {Q : Exit → Act → World → Prop} (hg : o.guard = none) (m x v : Operand) (ho : o.op = Op.mapUpdate 55 m x v ∨ o.op = Op.insert 55 m x v)
  (b n : Nat) (f : Int → Bool) (h : OwnM W b n f) (hm : a.eval m = .map (some b)) (k : Int) (hx : a.eval x = .int .i64 k) (c : Bool) (hv : a.eval v = .bool c) (h0 : 0 ≤ k) (h1 : k ≤ 1000000) (hn : n < maxLen)
  (hK : ∀ w', OwnM w' b (n + 1) (Css.setF f k c) → W.grownBy w' (some b) → wpList Tryz.prog ops Q rest (a.put o.dst undef) w') : wpList Tryz.prog ops Q (o :: rest) a W :=
 wpList_plain hg fun _ hK' => wp_mapSet m x v ho b n f h hm k hx c hv h0 h1 hn fun w' r1 r2 => hK' _ _ (hK w' r1 r2)
theorem step_mapSet {ops : Array Oper} {o : Oper} {a : Act} {W : World} {K : Act → World → Prop} {Q : Exit → Act → World → Prop} {E : Prop} (hg : o.guard = none) (m x v : Operand) (ho : o.op = Op.mapUpdate 55 m x v ∨ o.op = Op.insert 55 m x v)
  (b n : Nat) (f : Int → Bool) (h : OwnM W b n f) (hm : a.eval m = .map (some b)) (k : Int) (hx : a.eval x = .int .i64 k) (c : Bool) (hv : a.eval v = .bool c) (h0 : 0 ≤ k) (h1 : k ≤ 1000000) (hn : n < maxLen)
  (hK : ∀ w', OwnM w' b (n + 1) (Css.setF f k c) → W.grownBy w' (some b) → K (a.put o.dst undef) w') : if Region.wanted o (yielded ops a.tmps) = true then Oper.wp Tryz.prog o a W K Q else E := by
 have hw : Region.wanted o (yielded ops a.tmps) = true := by simp [Region.wanted, hg]
 rw [if_pos hw]
 exact wp_mapSet m x v ho b n f h hm k hx c hv h0 h1 hn hK
theorem own_cut {w : World} {base n c m : Nat} {e : TypeId} {size : Nat} {A : Option Addr} {xs : List Value} (h : w.ownsRow base e size (.slice A n c) n xs) (hm : m ≤ n) : w.ownsRow base e size (.slice A m c) m (xs.take (m * size)) := by
 obtain ⟨h1, h2⟩ := h
 refine ⟨?_, ?_⟩
 ·rw [List.length_take, h1]
  have := Nat.mul_le_mul_right size hm
  omega
 ·rcases h2 with ⟨hv, hx⟩ | ⟨g, cap, cur, hv, hb, hh, hnc, hcm, hcs, ht⟩
  ·have hn : n = 0 := by simp at hv; exact hv.2.1
   have : m = 0 := by omega
   subst this
   subst hn
   exact .inl ⟨by simpa using hv, by simp [hx]⟩
  ·simp only [Value.slice.injEq] at hv
   obtain ⟨rfl, _, rfl⟩ := hv
   refine .inr ⟨g, c, cur, rfl, hb, hh, by omega, hcm, hcs, ?_⟩
   rw [← ht, List.take_take, Nat.min_eq_left (Nat.mul_le_mul_right size hm)]
end Go.Proofs.YtkfdcbdlcipmfaaGreatFmt
/- What the reference's Items answers. At most 1000 nodes, at most 64 deep. -/
namespace Go.Proofs.YtkfdcbdlcipmfaaGreatFmt
open Go.RowKit
theorem info34 : ∃ i z, Tryz.prog.info? 34 = some i ∧ i.zero = some z ∧ i.size = 4 ∧ i.bytes = 40 ∧ z.cells.size = 4 := by
 have h : (Tryz.prog.info? 34).map (fun i => (i.zero.map (·.cells.size), i.size, i.bytes)) = some (some 4, 4, 40) := by kernel_rfl
 obtain ⟨i, hi, hh⟩ := Option.map_eq_some_iff.1 h
 simp only [Prod.mk.injEq] at hh
 obtain ⟨z, hz, hzs⟩ := Option.map_eq_some_iff.1 hh.1
 exact ⟨i, z, hi, hz, hh.2.1, hh.2.2, hzs⟩
theorem info3 : ∃ i z, Tryz.prog.info? 3 = some i ∧ i.zero = some z ∧ i.size = 1 ∧ i.bytes = 8 ∧ z.cells.size = 1 := by
 have h : (Tryz.prog.info? 3).map (fun i => (i.zero.map (·.cells.size), i.size, i.bytes)) = some (some 1, 1, 8) := by kernel_rfl
 obtain ⟨i, hi, hh⟩ := Option.map_eq_some_iff.1 h
 simp only [Prod.mk.injEq] at hh
 obtain ⟨z, hz, hzs⟩ := Option.map_eq_some_iff.1 hh.1
 exact ⟨i, z, hi, hz, hh.2.1, hh.2.2, hzs⟩
def itemsC (l : List Css.Item) : List Value := l.flatMap itemCells
theorem itemCells_length (x : Css.Item) : (itemCells x).length = 4 := rfl
theorem itemCells_one (x : Css.Item) : ∀ u ∈ itemCells x, u.oneCell' = true := by
 intro u hu
 simp [itemCells] at hu
 rcases hu with rfl | rfl | rfl | rfl <;> rfl
theorem itemsC_snoc (l : List Css.Item) (x : Css.Item) : itemsC (l ++ [x]) = itemsC l ++ itemCells x := by simp [itemsC]
structure ItW (w wr : World) (v3 v4 : Value) (L : List Css.Item) (op : List Int) (n : Nat) (last fresh : Int → Bool) : Prop where
 grown : w.grownBy wr none
 out : wr.ownsRow w.heap.size 34 4 v3 L.length (itemsC L)
 stack : wr.ownsRow w.heap.size 3 1 v4 op.length (op.reverse.map (Value.int .i64))
 last : OwnM wr w.heap.size n last
 fresh : OwnM wr (w.heap.size + 1) n fresh
section
variable {w wr w' : World} {v3 v4 : Value} {L : List Css.Item} {op : List Int} {n : Nat} {last fresh : Int → Bool}
theorem ItW.free (h : ItW w wr v3 v4 L op n last fresh) (hg : wr.grownBy w' none) : ItW w w' v3 v4 L op n last fresh :=
 ⟨grown_trans h.grown hg, own_free h.out hg, own_free h.stack hg, h.last.free hg, h.fresh.free hg⟩
theorem ItW.alloc (h : ItW w wr v3 v4 L op n last fresh) (o : Obj) : ItW w (wr.alloc o) v3 v4 L op n last fresh := h.free (grown_alloc (grown_refl _ _) o)
theorem ItW.drew (h : ItW w wr v3 v4 L op n last fresh) : ItW w wr.drew v3 v4 L op n last fresh := h.free (grown_drew (grown_refl _ _))
theorem ItW.addOut (h : ItW w wr v3 v4 L op n last fresh) {v : Value} {x : Css.Item} (ho : w'.ownsRow w.heap.size 34 4 v (L.length + 1) (itemsC L ++ itemCells x)) (hg : wr.grownBy w' v3.ownBlock) : ItW w w' v v4 (L ++ [x]) op n last fresh :=
 ⟨grown_own (base := w.heap.size) h.grown hg (own_base h.out), by rw [List.length_append, itemsC_snoc]; exact ho, h.stack.kept hg (own_apart h.stack h.out (by decide)), h.last.kept hg (h.last.ne_row h.out), h.fresh.kept hg (h.fresh.ne_row h.out)⟩
theorem ItW.addStack (h : ItW w wr v3 v4 L op n last fresh) {v : Value} {c : Int} (ho : w'.ownsRow w.heap.size 3 1 v (op.length + 1) (op.reverse.map (Value.int .i64) ++ [.int .i64 c])) (hg : wr.grownBy w' v4.ownBlock) : ItW w w' v3 v L (c :: op) n last fresh :=
 ⟨grown_own (base := w.heap.size) h.grown hg (own_base h.stack), h.out.kept hg (own_apart h.out h.stack (by decide)), by simpa using ho, h.last.kept hg (h.last.ne_row h.stack), h.fresh.kept hg (h.fresh.ne_row h.stack)⟩
theorem own_map {w w' : World} {base size m : Nat} {e : TypeId} {v : Value} {xs : List Value} {b n : Nat} {f : Int → Bool} (h : w.ownsRow base e size v m xs) (hm : OwnM w b n f) (hg : w.grownBy w' (some b)) : w'.ownsRow base e size v m xs :=
 h.kept hg (by
  have := hm.ne_row h
  cases hv : v.ownBlock with
  | none => exact .inl rfl
  | some g => right; rw [hv] at this; exact fun e => this e.symm)
theorem ItW.putFresh (h : ItW w wr v3 v4 L op n last fresh) {f : Int → Bool} (hm : OwnM w' (w.heap.size + 1) (n + 1) f) (hg : wr.grownBy w' (some (w.heap.size + 1))) : ItW w w' v3 v4 L op (n + 1) last f :=
 ⟨map_free h.grown hg (by omega), own_map h.out h.fresh hg, own_map h.stack h.fresh hg, (h.last.kept hg (by simp)).mono (by omega), hm⟩
theorem ItW.putLast (h : ItW w wr v3 v4 L op n last fresh) {f : Int → Bool} (hm : OwnM w' w.heap.size (n + 1) f) (hg : wr.grownBy w' (some w.heap.size)) : ItW w w' v3 v4 L op (n + 1) f fresh :=
 ⟨map_free h.grown hg (by omega), own_map h.out h.last hg, own_map h.stack h.last hg, hm, (h.fresh.kept hg (by simp)).mono (by omega)⟩
theorem ItW.cut {A : Option Addr} {m c : Nat} {k : Int} (h : ItW w wr v3 (.slice A (m + 1) c) L (k :: op) n last fresh) (hm : op.length = m) : ItW w wr v3 (.slice A m c) L op n last fresh := by
 refine ⟨h.grown, h.out, ?_, h.last, h.fresh⟩
 have h1 := h.stack
 simp only [List.length_cons, hm] at h1
 have h2 := own_cut h1 (m := m) (by omega)
 rw [hm]
 simpa [hm] using h2
end
theorem chain_pos : ∀ {l : List Css.Node} {m : Int}, Css.chain m l = true → ∀ n ∈ l, 0 ≤ n.depth
 | [], _, _, n, hn => absurd hn (by simp)
 | u :: r, m, h, n, hn => by
  obtain ⟨h1, _, _, h4⟩ := Css.chain_cons h
  rcases List.mem_cons.1 hn with rfl | hn
  ·exact h1
  ·exact chain_pos h4 n hn
def spB (n : Css.Node) (last fresh : Int → Bool) : Int := if fresh n.depth then -1 else if n.before || last n.depth then 1 else 0
theorem items_pop {n : Css.Node} {r : List Css.Node} {c : Int} {op : List Int} {last fresh : Int → Bool} (h0 : 0 ≤ n.depth) (h : n.depth < op.length + 1) : Css.itemsGo (n :: r) (c :: op) last fresh = Css.closed c :: Css.itemsGo (n :: r) op last fresh :=
 Css.items_flush (.inr ⟨n, r, rfl, h0, by omega⟩)
theorem items_none {n : Css.Node} {r : List Css.Node} {op : List Int} {last fresh : Int → Bool} (h : (op.length : Int) ≤ n.depth) (ho : Css.opens n.kind = none) :
  Css.itemsGo (n :: r) op last fresh = ⟨n.kind, n.unit, n.text, spB n last fresh⟩ :: Css.itemsGo r op (Css.setF last n.depth n.after) (Css.setF fresh n.depth false) := by
 have e : op.length - n.depth.toNat = 0 := by omega
 simp only [Css.itemsGo, e, ho, List.take_zero, List.drop_zero, List.map_nil, List.nil_append, spB]
theorem items_some {n : Css.Node} {r : List Css.Node} {op : List Int} {last fresh : Int → Bool} {c : Int} (h : (op.length : Int) ≤ n.depth) (ho : Css.opens n.kind = some c) :
  Css.itemsGo (n :: r) op last fresh = ⟨n.kind, n.unit, n.text, spB n last fresh⟩ :: Css.itemsGo r (c :: op) (Css.setF last n.depth n.after) (Css.setF (Css.setF fresh n.depth false) (n.depth + 1) true) := by
 have e : op.length - n.depth.toNat = 0 := by omega
 simp only [Css.itemsGo, e, ho, List.take_zero, List.drop_zero, List.map_nil, List.nil_append, spB]
theorem nd_keep {wi W w1 : World} {b : Nat} {x : Css.Node} {t : TypeId} (h : NdB wi b x t) (hg : wi.grownBy W none) {v : Value} (hgr : W.grownBy w1 v.ownBlock) {base size n : Nat} {e : TypeId} {xs : List Value} (ho : wi.ownsRow base e size v n xs) (hne : e ≠ t := by decide) : NdB w1 b x t := by
 have hW : NdB W b x t := free_keep hg h
 refine (hgr.block b (lt_of_block hW) ?_).trans hW
 rcases ho.2 with ⟨rfl, _⟩ | ⟨g, cap, cur, rfl, _, hh, _⟩
 ·simp [Value.ownBlock]
 ·intro e
  have e : b = g := by simpa [Value.ownBlock] using e
  subst e
  rw [h] at hh
  simp only [Option.some.injEq, Obj.cells.injEq] at hh
  exact hne hh.2.1.symm
theorem own_cap {w : World} {base n m c : Nat} {e : TypeId} {size : Nat} {A : Option Addr} {xs : List Value} (h : w.ownsRow base e size (.slice A m c) n xs) : n ≤ c := by
 rcases h.2 with ⟨hv, hx⟩ | ⟨g, cap, cur, hv, _, _, hnc, _⟩
 ·simp only [Value.slice.injEq] at hv
  have := h.1
  rw [hx] at this
  omega
 ·simp only [Value.slice.injEq] at hv
  omega
def ItX (wi : World) (x : Css.Node) (last fresh : Int → Bool) (wc : World) : Prop := wc = wi.alloc (.cells #[.int .i64 x.kind, .int .i64 x.unit, .string (str x.text), .int .i64 (spB x last fresh)] 34)
theorem ItX.mk' {wi : World} {x : Css.Node} {last fresh : Int → Bool} {s : Int} (h : spB x last fresh = s) : ItX wi x last fresh (wi.alloc (.cells #[.int .i64 x.kind, .int .i64 x.unit, .string (str x.text), .int .i64 s] 34)) := by rw [← h]; rfl
theorem blk_map {w w' : World} {g b n : Nat} {f : Int → Bool} {cs : Array Value} {t : TypeId} (h : w.heap[g]? = some (.cells cs t (0, 0))) (hm : OwnM w b n f) (hg : w.grownBy w' (some b)) : w'.heap[g]? = some (.cells cs t (0, 0)) := by
 refine (hg.block g (lt_of_block h) ?_).trans h
 intro e
 have e : g = b := by simpa using e
 subst e
 obtain ⟨D, _, _, es, clock, hb, _⟩ := hm
 rw [hb] at h
 cases h
theorem ItW.top {w wr : World} {v3 : Value} {A : Option Addr} {m c : Nat} {k : Int} {L : List Css.Item} {op : List Int} {n : Nat} {last fresh : Int → Bool} (h : ItW w wr v3 (.slice A (m + 1) c) L (k :: op) n last fresh) (hm : op.length = m) :
  ∃ g, A = some ⟨g, 0, none⟩ ∧ wr.cell? ⟨g, m, none⟩ = some (.int .i64 k) := by
 have h1 := h.stack
 simp only [List.length_cons, hm] at h1
 obtain ⟨g, hA, hc⟩ := own_first h1 (by omega) (by omega)
 refine ⟨g, hA, ?_⟩
 rw [hc m (by omega), List.map_reverse]
 simp [hm]
set_option maxRecDepth 400000 in
set_option maxHeartbeats 4000000 in
theorem c15 {w : World} {A : Option Addr} {c : Nat} {l : List Css.Node} (h : Nd w w.heap.size A l) (hl : l.length ≤ 1000) (hch : Css.chain 0 l = true) (hdp : ∀ n ∈ l, n.depth ≤ 64) (T : List Css.Item) (hT : Css.itemsGo l [] (fun _ => false) (fun d => d == 0) = T) :
  Calls Tryz.prog 15 #[.slice A l.length c] w fun e w' => ∃ A' c', e = .returned (.slice A' T.length c') ∧ w.grownBy w' none ∧ w'.ownsRow w.heap.size 34 4 (.slice A' T.length c') T.length (itemsC T) := by
 have H := Lib.hid h
 have HD : Hid (∀ n ∈ l, 0 ≤ n.depth ∧ n.depth ≤ 64) := Lib.hid fun n hn => ⟨chain_pos hch n hn, hdp n hn⟩
 have HT : Hid (Css.itemsGo l [] (fun _ => false) (Css.setF (fun _ => false) 0 true) = T) := Lib.hid (by
  rw [← hT]
  have e : Css.setF (fun _ => false) 0 true = fun d => d == 0 := by
   funext x
   simp only [Css.setF]
   by_cases hx : x = 0 <;> simp [hx]
  rw [e])
 clear h hch hdp hT
 obtain ⟨i0, z0, hi0, hz0, hz1, hz2, hz3⟩ := info34
 have HI := Lib.hid (And.intro hi0 (And.intro hz0 (And.intro hz1 (And.intro hz2 hz3))))
 clear hi0 hz0 hz1 hz2 hz3
 obtain ⟨i1, z1, hi0, hz0, hz1, hz2, hz3⟩ := info3
 have HJ := Lib.hid (And.intro hi0 (And.intro hz0 (And.intro hz1 (And.intro hz2 hz3))))
 clear hi0 hz0 hz1 hz2 hz3
 have hmm := @run_makeMap Tryz.prog
 have hM1 := OwnM.made w
 have hM2 := OwnM.made (w.alloc (.map #[] 0))
 have e1 : (w.alloc (.map #[] 0)).heap.size = w.heap.size + 1 := by simp
 rw [e1] at hM2
 have HM := Lib.hid (And.intro hM1 hM2)
 have h0n : 0 < maxLen := by decide
 have hz0 : (0 : Int) ≤ 0 := by omega
 have hz1 : (0 : Int) ≤ 1000000 := by omega
 clear hM1 hM2 e1
 go_enter Tryz.func15, Tryz.ntmps15
 go_wp2_with ((refine wpList_mapSet rfl (.tmp 13) _ _ (.inr rfl) (w.heap.size + 1) 0 (fun _ => false) HM.out.2 rfl 0 rfl true rfl hz0 hz1 h0n ?_; intro w1 r1 r2; have HF1 := Lib.hid r1; have HG1 := Lib.hid r2; clear r1 r2))
 have HI0 : Hid (ItW w w1 (.slice none 0 0) (.slice none 0 0) [] [] 1 (fun _ => false) (Css.setF (fun _ => false) 0 true)) := Lib.hid
  ⟨map_free (grown_alloc (grown_alloc (grown_refl w none) _) _) HG1.out (by omega), World.ownsRow_nil _ _ _ _, World.ownsRow_nil _ _ _ _, ((HM.out.1.alloc _).kept HG1.out (by simp)).mono (by omega), HF1.out⟩
 clear HG1 HF1
 go_loopg [3, 4, 17] l.length (fun gk s3 s4 s17 wr => ∃ (k n : Nat) (v3 v4 : Value) (L : List Css.Item) (op : List Int) (last fresh : Int → Bool), s3 = v3 ∧ s4 = v4 ∧ k ≤ l.length ∧ gk = l.length - k ∧ s17 = .int .i64 k ∧ n ≤ 3 * k + 1 ∧ L.length + op.length ≤ 2 * k ∧
  Hid (ItW w wr v3 v4 L op n last fresh) ∧ Hid (L ++ Css.itemsGo (l.drop k) op last fresh = T))
 case atStart => exact ⟨0, 1, _, _, [], [], _, _, rfl, rfl, by omega, rfl, rfl, by omega, by simp, HI0, HT⟩
 case round =>
  clear HI0 HT HM
  obtain ⟨k, n, v3, v4, L, op, last, fresh, e3, e4, hk, rfl, rfl, hn, hL, HW, HE⟩ := hrel
  replace e3 := e3.symm
  replace e4 := e4.symm
  subst e3
  subst e4
  by_cases hlt : k < l.length
  ·obtain ⟨ad, hA, hb, hc0, hc1, hc2, hc3, hc4, hc5⟩ := Nd.elem (Sl.free H.out HW.out.grown (Nat.le_refl _)) hlt
   subst hA
   have hdd := HD.out l[k] (List.getElem_mem hlt)
   have hdr := List.drop_eq_getElem_cons hlt
   generalize hx : l[k] = x at hc0 hc1 hc2 hc3 hc4 hc5 hdd hdr
   have HX := Lib.hid hdr
   have HE2 : Hid (L ++ Css.itemsGo (x :: l.drop (k + 1)) op last fresh = T) := Lib.hid (by rw [← HX.out]; exact HE.out)
   clear hx hdr HE
   obtain ⟨hd0, hd1⟩ := hdd
   have hnb : NdB (wr.alloc (.cells #[.int .i64 x.kind, .int .i64 x.unit, .int .i64 x.depth, .string (str x.text), .bool x.before, .bool x.after] 50)) wr.heap.size x 50 := new_blk _ _
   have HW1 : Hid (ItW w (wr.alloc (.cells #[.int .i64 x.kind, .int .i64 x.unit, .int .i64 x.depth, .string (str x.text), .bool x.before, .bool x.after] 50)) v3 v4 L op n last fresh) := Lib.hid (HW.out.alloc _)
   have HNB := Lib.hid hnb
   obtain ⟨bx, hbx⟩ : ∃ b, b = wr.heap.size := ⟨_, rfl⟩
   rw [← hbx] at HNB
   have HBX := Lib.hid hbx
   obtain ⟨wo, hwo⟩ : ∃ y, y = wr := ⟨wr, rfl⟩
   subst hwo
   clear hnb HW hb
   go_wp2_with fail
   rw [← HBX.out]
   clear hbx
   go_loopg [3, 4] op.length (fun gi s3 s4 wi' => ∃ (v3 v4 : Value) (L' : List Css.Item) (op' : List Int), s3 = v3 ∧ s4 = v4 ∧ gi = op'.length ∧ L'.length + op'.length ≤ 2 * k ∧ NdB wi' bx x 50 ∧
    Hid (ItW w wi' v3 v4 L' op' n last fresh) ∧ Hid (L' ++ Css.itemsGo (x :: l.drop (k + 1)) op' last fresh = T))
   case atStart => exact ⟨_, _, L, op, rfl, rfl, rfl, hL, HNB.out, HW1, HE2⟩
   case round =>
    obtain ⟨wi, hwi⟩ : ∃ y, y = wr := ⟨wr, rfl⟩
    subst hwi
    clear HE2 HNB HW1 hL hc0 hc1 hc2 hc3 hc4 hc5
    obtain ⟨v3, v4, L', op', e3, e4, rfl, hL, hNB, HW, HE⟩ := hrel
    replace e3 := e3.symm
    replace e4 := e4.symm
    subst e3
    subst e4
    obtain ⟨p0, p1, p2, p3, p4, p5⟩ := hNB.cells
    obtain ⟨A4, c4, hv4⟩ := own_slice' HW.out.stack
    subst hv4
    by_cases hgt : x.depth < op'.length
    ·obtain ⟨t, op2, rfl⟩ : ∃ t op2, op' = t :: op2 := by
      cases op' with
      | nil => exact absurd hgt (by simp; omega)
      | cons t op2 => exact ⟨t, op2, rfl⟩
     simp only [List.length_cons] at hgt hL HW ⊢
     generalize hm : op2.length = m at hgt hL HW ⊢
     have hpop := items_pop (n := x) (r := l.drop (k + 1)) (c := t) (op := op2) (last := last) (fresh := fresh) hd0 (by omega)
     have HE2 : Hid (L' ++ [Css.closed t] ++ Css.itemsGo (x :: l.drop (k + 1)) op2 last fresh = T) := Lib.hid (by rw [List.append_assoc]; rw [← HE.out, hpop]; rfl)
     have HCUT := Lib.hid (HW.out.cut hm)
     obtain ⟨g4, hA4, hct⟩ := HW.out.top hm
     subst hA4
     have HMM := Lib.hid hm
     clear hpop HE hm
     have hgt' : x.depth < ((m + 1 : Nat) : Int) := hgt
     have hsub : IntKind.i64.wrap (((m + 1 : Nat) : Int) - 1) = (m : Int) := by rw [IntWalk.i64_in _ (by omega)]; omega
     have h63 : L'.length + 1 ≤ maxLen := by unfold maxLen; omega
     have h47 : (L'.length + 1) * 40 ≤ 140737488355328 := by omega
     have h04 : 0 < 4 := by omega
     have HB : Hid (∀ o, ItW w (wi.alloc o) v3 (.slice (some ⟨g4, 0, none⟩) m c4) L' op2 n last fresh ∧ (wi.alloc o).heap[wi.heap.size]? = some o ∧ w.heap.size ≤ (wi.alloc o).heap.size) := Lib.hid fun o => ⟨HCUT.out.alloc o, new_blk _ _, by have := HCUT.out.grown.size; simp; omega⟩
     have hgt2 : x.depth < (m : Int) + 1 := by omega
     have hcap : m ≤ c4 := by have := own_cap HCUT.out.stack; rw [HMM.out] at this; exact this
     go_wp2_with ((at_builtin; refine wpList_append_src rfl w.heap.size (.tmp 26) (.tmp 34) 28 28 34 i0 z0 4 40 rfl Tryz.underlying28 HI.out.1 HI.out.2.1 HI.out.2.2.1 HI.out.2.2.2.1 HI.out.2.2.2.2 h04 v3 L'.length (itemsC L') rfl _ 1 (itemCells (Css.closed t)) rfl (Src.block Tryz.underlying28 _ (itemCells (Css.closed t)) 34 (HB.out _).2.1 rfl (itemCells_one _)) (HB.out _).1.out (HB.out _).2.2 h63 h47 ?_; intro v1 w1 hown hgr hat; have HI5 := Lib.hid ((HB.out _).1.addOut hown hgr); have HNB5 : NdB w1 bx x 50 := nd_keep hNB (grown_alloc (grown_refl wi none) _) hgr HCUT.out.out; clear hown hgr hat))
     go_roundg m
     case measure => have := HMM.out; simp only [List.length_cons]; omega
     case rel => have hm2 := HMM.out; exact ⟨v1, _, L' ++ [Css.closed t], op2, rfl, rfl, HMM.out.symm, by simp; omega, HNB5, HI5, HE2⟩
    ·have hle : (op'.length : Int) ≤ x.depth := by omega
     clear hgt
     have HLO := Lib.hid (And.intro (HW.out.last.alloc (.cells #[.int .i64 x.kind, .int .i64 x.unit, .string (str x.text), .int .i64 0] 34)) (HW.out.fresh.alloc (.cells #[.int .i64 x.kind, .int .i64 x.unit, .string (str x.text), .int .i64 0] 34)))
     have hl1 := HLO.out.1.look (x := x.depth) hd0 (by omega)
     have hl2 := HLO.out.2.look (x := x.depth) hd0 (by omega)
     have HNA : Hid (∀ o, NdB (wi.alloc o) bx x 50) := Lib.hid fun o => free_keep (grown_alloc (grown_refl _ _) o) hNB
     go_upto_block 4 with (fail)
     obtain ⟨q0, q1, q2, q3, q4, q5⟩ := (HNA.out (.cells #[.int .i64 x.kind, .int .i64 x.unit, .string (str x.text), .int .i64 0] 34)).cells
     clear p0 p1 p2 p3 p4 p5 q0 q1 q3 q5
     go_cut [] (fun wc => ItX wi x last fresh wc)
     case first =>
      cases f1 : fresh x.depth with
      | true =>
       rw [f1] at hl2
       go_wp2_with fail
       go_meet
       exact ItX.mk' (by unfold spB; rw [f1]; rfl)
      | false =>
       rw [f1] at hl2
       cases f2 : x.before with
       | true =>
        rw [f2] at q4
        go_wp2_with fail
        go_meet
        exact ItX.mk' (by unfold spB; rw [f1, f2]; rfl)
       | false =>
        rw [f2] at q4
        cases f3 : last x.depth with
        | true =>
         rw [f3] at hl1
         go_wp2_with fail
         go_meet
         exact ItX.mk' (by unfold spB; rw [f1, f2, f3]; rfl)
        | false =>
         rw [f3] at hl1
         go_wp2_with fail
         go_meet
         exact ItX.mk' (by unfold spB; rw [f1, f2, f3]; rfl)
     case rest =>
      clear q2 q4 hl1 hl2
      obtain rfl : wc = _ := hcut
      have hIX := HW.out.alloc (.cells #[.int .i64 x.kind, .int .i64 x.unit, .string (str x.text), .int .i64 (spB x last fresh)] 34)
      have hNX := HNA.out (.cells #[.int .i64 x.kind, .int .i64 x.unit, .string (str x.text), .int .i64 (spB x last fresh)] 34)
      have hXB : ItB (wi.alloc (.cells #[.int .i64 x.kind, .int .i64 x.unit, .string (str x.text), .int .i64 (spB x last fresh)] 34)) wi.heap.size ⟨x.kind, x.unit, x.text, spB x last fresh⟩ := new_blk _ _
      obtain ⟨xb, hxb⟩ : ∃ b, b = wi.heap.size := ⟨_, rfl⟩
      rw [← hxb] at hXB
      have HXB := Lib.hid hxb
      generalize wi.alloc (.cells #[.int .i64 x.kind, .int .i64 x.unit, .string (str x.text), .int .i64 (spB x last fresh)] 34) = W at hIX hNX hXB ⊢
      have HIX := Lib.hid hIX.drew
      have HNX := Lib.hid hNX
      have HXX := Lib.hid hXB
      obtain ⟨r0, r1, r2, r3, r4, r5⟩ := hNX.cells
      have hkd : x.depth ≤ 1000000 := by omega
      have hn1 : n < maxLen := by unfold maxLen; omega
      have hn2 : n + 1 < maxLen := by unfold maxLen; omega
      clear hIX hNX hXB HLO HNA HW r0 r1 r3 r4
      go_wp2_with fail
      rw [← HXB.out]
      clear hxb
      obtain ⟨w1, hrun1, s1, s2⟩ := HIX.out.fresh.put hd0 hkd hn1 false
      have HIa := Lib.hid (HIX.out.putFresh s1 s2)
      have hNa : NdB w1 bx x 50 := blk_map (w := W.drew) HNX.out HIX.out.fresh s2
      have hXa : ItB w1 xb ⟨x.kind, x.unit, x.text, spB x last fresh⟩ := blk_map (w := W.drew) HXX.out HIX.out.fresh s2
      clear s1 s2
      obtain ⟨w2, hrun2, s1, s2⟩ := HIa.out.last.put hd0 hkd hn2 x.after
      have HIb := Lib.hid (HIa.out.putLast s1 s2)
      have hNb : NdB w2 bx x 50 := blk_map hNa HIa.out.last s2
      have hXb : ItB w2 xb ⟨x.kind, x.unit, x.text, spB x last fresh⟩ := blk_map hXa HIa.out.last s2
      clear s1 s2
      obtain ⟨_, _, b2, _, _, b5⟩ := hNa.cells
      go_region
      clear hrun1 hrun2 b2 b5 r2 r5 HIX HNX HXX HIa hNa hXa
      obtain ⟨x0, x1, x2, x3⟩ := hXb.cells
      have HB : Hid (∀ o, ItW w (w2.alloc o) v3 (.slice A4 op'.length c4) L' op' (n + 1 + 1) (Css.setF last x.depth x.after) (Css.setF fresh x.depth false) ∧ (w2.alloc o).heap[w2.heap.size]? = some o ∧ w.heap.size ≤ (w2.alloc o).heap.size) := Lib.hid fun o => ⟨HIb.out.alloc o, new_blk _ _, by have := HIb.out.grown.size; simp; omega⟩
      have h63 : L'.length + 1 ≤ maxLen := by unfold maxLen; omega
      have h47 : (L'.length + 1) * 40 ≤ 140737488355328 := by omega
      have h04 : 0 < 4 := by omega
      go_wp2_with ((at_builtin; refine wpList_append_src rfl w.heap.size (.tmp 72) (.tmp 74) 28 28 34 i0 z0 4 40 rfl Tryz.underlying28 HI.out.1 HI.out.2.1 HI.out.2.2.1 HI.out.2.2.2.1 HI.out.2.2.2.2 h04 v3 L'.length (itemsC L') rfl _ 1 (itemCells ⟨x.kind, x.unit, x.text, spB x last fresh⟩) rfl (Src.block Tryz.underlying28 _ (itemCells ⟨x.kind, x.unit, x.text, spB x last fresh⟩) 34 (HB.out _).2.1 rfl (itemCells_one _)) (HB.out _).1.out (HB.out _).2.2 h63 h47 ?_; intro v1 w3 hown hgr hat; have HI5 := Lib.hid ((HB.out _).1.addOut hown hgr); have hNB5 : NdB w3 bx x 50 := nd_keep hNb (grown_alloc (grown_refl w2 none) _) hgr HIb.out.out; have HNB5 := Lib.hid hNB5; obtain ⟨p0, p1, p2, p3, p4, p5⟩ := hNB5.cells; clear hown hgr hat hNB5))
      clear HB x0 x1 x2 x3 hXb hNb HIb
      refine (c30 _ _).mono ?_
      rintro e w' ⟨rfl, rfl⟩
      cases ho : Css.opens x.kind with
      | none =>
       have hit := items_none (r := l.drop (k + 1)) (last := last) (fresh := fresh) hle ho
       have HE5 : Hid (L' ++ [⟨x.kind, x.unit, x.text, spB x last fresh⟩] ++ Css.itemsGo (l.drop (k + 1)) op' (Css.setF last x.depth x.after) (Css.setF fresh x.depth false) = T) := Lib.hid (by rw [List.append_assoc, ← HE.out, hit]; rfl)
       simp only [Option.isSome_none]
       clear hit ho
       go_wp2_with fail
       go_roundg (l.length - (k + 1))
       case measure => omega
       case rel => exact ⟨k + 1, n + 1 + 1, v1, _, _, op', _, _, rfl, rfl, hlt, rfl, by go_num, by omega, by simp; omega, HI5, HE5⟩
      | some t =>
       have hit := items_some (r := l.drop (k + 1)) (last := last) (fresh := fresh) hle ho
       have HE5 : Hid (L' ++ [⟨x.kind, x.unit, x.text, spB x last fresh⟩] ++ Css.itemsGo (l.drop (k + 1)) (t :: op') (Css.setF last x.depth x.after) (Css.setF (Css.setF fresh x.depth false) (x.depth + 1) true) = T) := Lib.hid (by rw [List.append_assoc, ← HE.out, hit]; rfl)
       simp only [Option.isSome_some, Option.getD_some]
       clear hit ho
       have HB : Hid (∀ o, ItW w (w3.alloc o) v1 (.slice A4 op'.length c4) (L' ++ [⟨x.kind, x.unit, x.text, spB x last fresh⟩]) op' (n + 1 + 1) (Css.setF last x.depth x.after) (Css.setF fresh x.depth false) ∧ (w3.alloc o).heap[w3.heap.size]? = some o ∧ w.heap.size ≤ (w3.alloc o).heap.size) := Lib.hid fun o => ⟨HI5.out.alloc o, new_blk _ _, by have := HI5.out.grown.size; simp; omega⟩
       have h63' : op'.length + 1 ≤ maxLen := by unfold maxLen; omega
       have h47' : (op'.length + 1) * 8 ≤ 140737488355328 := by omega
       have h01 : 0 < 1 := by omega
       have hn3 : n + 1 + 1 < maxLen := by unfold maxLen; omega
       have hd2 : (0 : Int) ≤ x.depth + 1 := by omega
       have hkd2 : x.depth + 1 ≤ 1000000 := by omega
       have hsum : IntKind.i64.wrap (x.depth + 1) = x.depth + 1 := IntWalk.i64_in _ (by omega)
       have hone : ∀ u ∈ [Value.int .i64 t], u.oneCell' = true := by intro u hu; simp at hu; subst hu; rfl
       go_wp2_with (first
        | (at_builtin; refine wpList_append_src rfl w.heap.size (.tmp 83) (.tmp 85) 54 54 3 i1 z1 1 8 rfl Tryz.underlying54 HJ.out.1 HJ.out.2.1 HJ.out.2.2.1 HJ.out.2.2.2.1 HJ.out.2.2.2.2 h01 (.slice A4 op'.length c4) op'.length (op'.reverse.map (Value.int .i64)) rfl _ 1 [.int .i64 t] rfl (Src.block Tryz.underlying54 _ [.int .i64 t] 3 (HB.out _).2.1 rfl hone) (HB.out _).1.stack (HB.out _).2.2 h63' h47' ?_; intro v2 w4 hown hgr hat; have HI6 := Lib.hid ((HB.out _).1.addStack hown hgr); have hNB6 : NdB w4 bx x 50 := nd_keep HNB5.out (grown_alloc (grown_refl w3 none) _) hgr HI5.out.stack; obtain ⟨y0, y1, y2, y3, y4, y5⟩ := hNB6.cells; clear hown hgr hat hNB6)
        | (refine wpList_mapSet rfl (.tmp 87) (.tmp 90) (.const (.bool true)) (.inl rfl) (w.heap.size + 1) (n + 1 + 1) (Css.setF fresh x.depth false) HI6.out.fresh rfl (x.depth + 1) rfl true rfl hd2 hkd2 hn3 ?_; intro w5 s1 s2; have HI7 := Lib.hid (HI6.out.putFresh s1 s2); clear s1 s2))
       go_roundg (l.length - (k + 1))
       case measure => omega
       case rel => exact ⟨k + 1, n + 1 + 1 + 1, v1, v2, _, t :: op', _, _, rfl, rfl, hlt, rfl, by go_num, by omega, by simp; omega, HI7, HE5⟩
  ·have hk' : k = l.length := by omega
   have HE2 : Hid (L ++ op.map Css.closed = T) := Lib.hid (by
    have := HE.out
    rw [hk', List.drop_length] at this
    exact this)
   clear HE hk'
   obtain ⟨wo, hwo⟩ : ∃ y, y = wr := ⟨wr, rfl⟩
   subst hwo
   go_wp2_with fail
   go_loopg [3, 4] op.length (fun gi s3 s4 wi' => ∃ (v3 v4 : Value) (L' : List Css.Item) (op' : List Int), s3 = v3 ∧ s4 = v4 ∧ gi = op'.length ∧ L'.length + op'.length ≤ 2 * l.length ∧
    Hid (ItW w wi' v3 v4 L' op' n last fresh) ∧ Hid (L' ++ op'.map Css.closed = T))
   case atStart => exact ⟨_, _, L, op, rfl, rfl, rfl, by omega, HW, HE2⟩
   case round =>
    obtain ⟨wi, hwi⟩ : ∃ y, y = wr := ⟨wr, rfl⟩
    subst hwi
    clear HE2 HW hL
    obtain ⟨v3, v4, L', op', e3, e4, rfl, hL, HW, HE⟩ := hrel
    replace e3 := e3.symm
    replace e4 := e4.symm
    subst e3
    subst e4
    obtain ⟨A4, c4, hv4⟩ := own_slice' HW.out.stack
    subst hv4
    cases op' with
    | nil =>
     have HT : Hid (L' = T) := Lib.hid (by have := HE.out; simpa using this)
     obtain ⟨A3, c3, hv3⟩ := own_slice' HW.out.out
     subst hv3
     have HR : Hid (w.grownBy wi none ∧ wi.ownsRow w.heap.size 34 4 (.slice A3 L'.length c3) L'.length (itemsC L')) := Lib.hid ⟨HW.out.grown, HW.out.out⟩
     clear HW HE
     simp only [List.length_nil]
     go_wp2_with fail
     go_ret
     rw [HT.out] at HR
     exact ⟨A3, c3, by rw [HT.out]; rfl, HR.out.1, HR.out.2⟩
    | cons t op2 =>
     simp only [List.length_cons] at hL HW ⊢
     generalize hm : op2.length = m at hL HW ⊢
     have HE2 : Hid (L' ++ [Css.closed t] ++ op2.map Css.closed = T) := Lib.hid (by rw [List.append_assoc]; rw [← HE.out]; rfl)
     have HCUT := Lib.hid (HW.out.cut hm)
     obtain ⟨g4, hA4, hct⟩ := HW.out.top hm
     subst hA4
     have HMM := Lib.hid hm
     clear HE hm
     have hgt' : (0 : Int) < ((m + 1 : Nat) : Int) := by omega
     have hgt2 : (0 : Int) < (m : Int) + 1 := by omega
     have hsub : IntKind.i64.wrap (((m + 1 : Nat) : Int) - 1) = (m : Int) := by rw [IntWalk.i64_in _ (by omega)]; omega
     have h63 : L'.length + 1 ≤ maxLen := by unfold maxLen; omega
     have h47 : (L'.length + 1) * 40 ≤ 140737488355328 := by omega
     have h04 : 0 < 4 := by omega
     have HB : Hid (∀ o, ItW w (wi.alloc o) v3 (.slice (some ⟨g4, 0, none⟩) m c4) L' op2 n last fresh ∧ (wi.alloc o).heap[wi.heap.size]? = some o ∧ w.heap.size ≤ (wi.alloc o).heap.size) := Lib.hid fun o => ⟨HCUT.out.alloc o, new_blk _ _, by have := HCUT.out.grown.size; simp; omega⟩
     have hcap : m ≤ c4 := by have := own_cap HCUT.out.stack; rw [HMM.out] at this; exact this
     go_wp2_with ((at_builtin; refine wpList_append_src rfl w.heap.size (.tmp 95) (.tmp 103) 28 28 34 i0 z0 4 40 rfl Tryz.underlying28 HI.out.1 HI.out.2.1 HI.out.2.2.1 HI.out.2.2.2.1 HI.out.2.2.2.2 h04 v3 L'.length (itemsC L') rfl _ 1 (itemCells (Css.closed t)) rfl (Src.block Tryz.underlying28 _ (itemCells (Css.closed t)) 34 (HB.out _).2.1 rfl (itemCells_one _)) (HB.out _).1.out (HB.out _).2.2 h63 h47 ?_; intro v1 w1 hown hgr hat; have HI5 := Lib.hid ((HB.out _).1.addOut hown hgr); clear hown hgr hat))
     go_roundg m
     case measure => have := HMM.out; simp only [List.length_cons]; omega
     case rel => have hm2 := HMM.out; exact ⟨v1, _, L' ++ [Css.closed t], op2, rfl, rfl, HMM.out.symm, by simp; omega, HI5, HE2⟩
end Go.Proofs.YtkfdcbdlcipmfaaGreatFmt
/- The items that the statements expect of an at-rule and of a declaration. At most 1000 nodes, at most 64 deep. -/
namespace Go.Proofs.YtkfdcbdlcipmfaaGreatFmt
open Go.RowKit
theorem itemsGo_length : ∀ (l : List Css.Node) (op : List Int) (last fresh : Int → Bool), (Css.itemsGo l op last fresh).length ≤ 2 * l.length + op.length
 | [], op, last, fresh => by simp [Css.itemsGo]
 | n :: r, op, last, fresh => by
  simp only [Css.itemsGo, List.length_append, List.length_map, List.length_cons]
  have ht : (op.take (op.length - n.depth.toNat)).length + (op.drop (op.length - n.depth.toNat)).length = op.length := by
   rw [List.length_take, List.length_drop]; omega
  cases ho : Css.opens n.kind with
  | none =>
   have := itemsGo_length r (op.drop (op.length - n.depth.toNat)) (Css.setF last n.depth n.after) (Css.setF fresh n.depth false)
   simp only
   omega
  | some c =>
   have := itemsGo_length r (c :: op.drop (op.length - n.depth.toNat)) (Css.setF last n.depth n.after) (Css.setF (Css.setF fresh n.depth false) (n.depth + 1) true)
   simp only [List.length_cons] at this ⊢
   omega
def itemsN (l : List Css.Node) : List Css.Item := Css.itemsGo l [] (fun _ => false) (fun d => d == 0)
theorem itemsN_length (l : List Css.Node) : (itemsN l).length ≤ 2 * l.length := by
 have := itemsGo_length l [] (fun _ => false) (fun d => d == 0)
 simpa [itemsN] using this
structure Deep (l : List Css.Node) : Prop where
 chain : Css.chain 0 l = true
 len : l.length ≤ 1000
 deep : ∀ n ∈ l, n.depth ≤ 64
theorem Good.set {l : List Css.Node} {ascii : Bool} (h : Good l ascii) (all : Bool) : Deep (Css.setL all l) :=
 ⟨by rw [Css.set_chain]; exact h.chain, by rw [setL_length]; exact h.len, fun n hn => by
  obtain ⟨m, hm, e⟩ := Css.set_mem hn
  rw [e]; exact h.deep m hm⟩
def It (w w' : World) (A : Option Addr) (c : Nat) (L : List Css.Item) : Prop := w'.ownsRow w.heap.size 34 4 (.slice A L.length c) L.length (itemsC L)
theorem itemsC_append (a b : List Css.Item) : itemsC (a ++ b) = itemsC a ++ itemsC b := by simp [itemsC]
theorem itemsC_one (l : List Css.Item) : ∀ u ∈ itemsC l, u.oneCell' = true := fun u hu => by
 obtain ⟨x, _, hu⟩ := List.mem_flatMap.1 hu
 exact itemCells_one x u hu
def atI (name : List UInt8) (l : List Css.Node) : List Css.Item := [⟨1, 0, name, -1⟩] ++ itemsN l ++ [Css.semi]
set_option maxRecDepth 100000 in
set_option maxHeartbeats 1000000 in
theorem c21 {w : World} {A : Option Addr} {c : Nat} {l : List Css.Node} (name : List UInt8) (h : Nd w w.heap.size A l) (hd : Deep l) :
  Calls Tryz.prog 21 #[.string (str name), .slice A l.length c] w fun e w' => ∃ A' c', e = .returned (.slice A' (atI name l).length c') ∧ w.grownBy w' none ∧ It w w' A' c' (atI name l) := by
 have hlen := hd.len
 have hT := itemsN_length l
 obtain ⟨i0, z0, hi0, hz0, hz1, hz2, hz3⟩ := info34
 have HI := Lib.hid (And.intro hi0 (And.intro hz0 (And.intro hz1 (And.intro hz2 hz3))))
 clear hi0 hz0 hz1 hz2 hz3
 have HD := Lib.hid hd
 have hml : (atI name l).length = 1 + (itemsN l).length + 1 := by simp [atI]; omega
 have hmi : itemsC (atI name l) = itemsC [⟨1, 0, name, -1⟩] ++ itemsC (itemsN l) ++ itemCells Css.semi := by rw [atI, itemsC_append, itemsC_append]; simp [itemsC]
 generalize atI name l = R at hml hmi ⊢
 have HR := Lib.hid (And.intro hml hmi)
 clear hml hmi hd
 generalize hTT : itemsN l = T at hT HR
 have HTT := Lib.hid hTT
 clear hTT
 have HB0 : Hid (∀ o, w.grownBy (w.alloc o) none ∧ Nd (w.alloc o) (w.alloc o).heap.size A l) := Lib.hid fun o => ⟨grown_alloc (grown_refl _ _) o, (Sl.alloc h (Nat.le_refl _) o).more (by simp)⟩
 have HO0 : Hid ((w.alloc (.cells (itemsC [⟨1, 0, name, -1⟩]).toArray 34)).ownsRow w.heap.size 34 4 (.slice (some ⟨w.heap.size, 0, none⟩) 1 1) 1 (itemsC [⟨1, 0, name, -1⟩])) := Lib.hid
  (World.ownsRow_lit w (itemsC [⟨1, 0, name, -1⟩]).toArray 1 (Nat.le_refl _) (by unfold maxLen; omega) rfl)
 clear h
 have h04 : 0 < 4 := by omega
 have h63 : 1 + T.length ≤ maxLen := by unfold maxLen; omega
 have h47 : (1 + T.length) * 40 ≤ 140737488355328 := by omega
 have h63b : 1 + T.length + 1 ≤ maxLen := by unfold maxLen; omega
 have h47b : (1 + T.length + 1) * 40 ≤ 140737488355328 := by omega
 go_enter Tryz.func21, Tryz.ntmps21
 go_wp2_with fail
 refine (c16 (HB0.out _).2 (by omega)).mono ?_
 rintro e w1 ⟨A1, c1, rfl, hG1, hO1⟩
 have HG1 := Lib.hid (grown_trans (HB0.out _).1 hG1)
 have hN1 : Nd w1 w1.heap.size A1 l := Sl.of_own hO1
 have HO1 := Lib.hid (own_free HO0.out hG1)
 have H15 := Lib.hid (c15 (c := c1) hN1 hlen HD.out.chain HD.out.deep T HTT.out)
 clear hG1 hO1 hN1
 go_wp2_with fail
 refine H15.out.mono ?_
 rintro e w2 ⟨A2, c2, rfl, hG2, hO2⟩
 have HG2 := Lib.hid (grown_trans HG1.out hG2)
 have HO2 := Lib.hid (own_free HO1.out hG2)
 have HS2 := Lib.hid (Sl.of_own hO2)
 have hone := itemsC_one T
 have HN := Lib.hid hone
 clear hG2 hO2 hone
 go_wp2_with (first
  | (at_builtin; refine wpList_append_src rfl w.heap.size (.tmp 9) (.tmp 12) 28 28 34 i0 z0 4 40 rfl Tryz.underlying28 HI.out.1 HI.out.2.1 HI.out.2.2.1 HI.out.2.2.2.1 HI.out.2.2.2.2 h04 (.slice (some ⟨w.heap.size, 0, none⟩) 1 1) 1 (itemsC [⟨1, 0, name, -1⟩]) rfl _ T.length (itemsC T) rfl (Src.slice Tryz.underlying28 HS2.out HN.out) HO2.out HG2.out.size h63 h47 ?_; intro v3 w3 hown hgr hat; have HG3 := Lib.hid (grown_own (base := w.heap.size) HG2.out hgr (own_base HO2.out)); have HO3 := Lib.hid hown; have HB3 : Hid (∀ o, w.grownBy (w3.alloc o) none ∧ (w3.alloc o).ownsRow w.heap.size 34 4 v3 (1 + T.length) (itemsC [⟨1, 0, name, -1⟩] ++ itemsC T) ∧ (w3.alloc o).heap[w3.heap.size]? = some o) := Lib.hid fun o => ⟨grown_alloc HG3.out o, HO3.out.alloc o, new_blk _ _⟩; clear hown hgr hat)
  | (at_builtin; refine wpList_append_src rfl w.heap.size (.tmp 13) (.tmp 15) 28 28 34 i0 z0 4 40 rfl Tryz.underlying28 HI.out.1 HI.out.2.1 HI.out.2.2.1 HI.out.2.2.2.1 HI.out.2.2.2.2 h04 v3 (1 + T.length) (itemsC [⟨1, 0, name, -1⟩] ++ itemsC T) rfl _ 1 (itemCells Css.semi) rfl (Src.block Tryz.underlying28 _ (itemCells Css.semi) 34 (HB3.out _).2.2 rfl (itemCells_one _)) (HB3.out _).2.1 (HB3.out _).1.size h63b h47b ?_; intro v4 w4 hown hgr hat; have HG4 := Lib.hid (grown_own (base := w.heap.size) (HB3.out _).1 hgr (own_base HO3.out)); obtain ⟨A4, c4, hv4⟩ := own_slice' hown; subst hv4; have HO4 := Lib.hid hown; clear hown hgr hat))
 go_ret
 exact ⟨A4, c4, by rw [HR.out.1]; rfl, HG4.out, by show World.ownsRow _ _ _ _ _ _ _; rw [HR.out.1, HR.out.2]; exact HO4.out⟩
def declI (name : List UInt8) (l : List Css.Node) : List Css.Item := [⟨29, 0, name, -1⟩, Css.colon] ++ itemsN l ++ [Css.semi]
set_option maxRecDepth 100000 in
set_option maxHeartbeats 1000000 in
theorem c14 {w : World} {A : Option Addr} {c : Nat} {l : List Css.Node} (name : List UInt8) (h : Nd w w.heap.size A l) (hd : Deep l) :
  Calls Tryz.prog 14 #[.string (str name), .slice A l.length c] w fun e w' => ∃ A' c', e = .returned (.slice A' (declI name l).length c') ∧ w.grownBy w' none ∧ It w w' A' c' (declI name l) := by
 have hlen := hd.len
 have hT := itemsN_length l
 obtain ⟨i0, z0, hi0, hz0, hz1, hz2, hz3⟩ := info34
 have HI := Lib.hid (And.intro hi0 (And.intro hz0 (And.intro hz1 (And.intro hz2 hz3))))
 clear hi0 hz0 hz1 hz2 hz3
 have HD := Lib.hid hd
 have hml : (declI name l).length = 2 + (itemsN l).length + 1 := by simp [declI]; omega
 have hmi : itemsC (declI name l) = itemsC [⟨29, 0, name, -1⟩, Css.colon] ++ itemsC (itemsN l) ++ itemCells Css.semi := by rw [declI, itemsC_append, itemsC_append]; simp [itemsC]
 generalize declI name l = R at hml hmi ⊢
 have HR := Lib.hid (And.intro hml hmi)
 clear hml hmi hd
 generalize hTT : itemsN l = T at hT HR
 have HTT := Lib.hid hTT
 clear hTT
 have HB0 : Hid (∀ o, w.grownBy (w.alloc o) none ∧ Nd (w.alloc o) (w.alloc o).heap.size A l) := Lib.hid fun o => ⟨grown_alloc (grown_refl _ _) o, (Sl.alloc h (Nat.le_refl _) o).more (by simp)⟩
 have HO0 : Hid ((w.alloc (.cells (itemsC [⟨29, 0, name, -1⟩, Css.colon]).toArray 34)).ownsRow w.heap.size 34 4 (.slice (some ⟨w.heap.size, 0, none⟩) 2 2) 2 (itemsC [⟨29, 0, name, -1⟩, Css.colon])) := Lib.hid
  (World.ownsRow_lit w (itemsC [⟨29, 0, name, -1⟩, Css.colon]).toArray 2 (Nat.le_refl _) (by unfold maxLen; omega) rfl)
 clear h
 have h04 : 0 < 4 := by omega
 have h63 : 2 + T.length ≤ maxLen := by unfold maxLen; omega
 have h47 : (2 + T.length) * 40 ≤ 140737488355328 := by omega
 have h63b : 2 + T.length + 1 ≤ maxLen := by unfold maxLen; omega
 have h47b : (2 + T.length + 1) * 40 ≤ 140737488355328 := by omega
 go_enter Tryz.func14, Tryz.ntmps14
 go_wp2_with fail
 refine (c16 (HB0.out _).2 (by omega)).mono ?_
 rintro e w1 ⟨A1, c1, rfl, hG1, hO1⟩
 have HG1 := Lib.hid (grown_trans (HB0.out _).1 hG1)
 have hN1 : Nd w1 w1.heap.size A1 l := Sl.of_own hO1
 have HO1 := Lib.hid (own_free HO0.out hG1)
 have H15 := Lib.hid (c15 (c := c1) hN1 hlen HD.out.chain HD.out.deep T HTT.out)
 clear hG1 hO1 hN1
 go_wp2_with fail
 refine H15.out.mono ?_
 rintro e w2 ⟨A2, c2, rfl, hG2, hO2⟩
 have HG2 := Lib.hid (grown_trans HG1.out hG2)
 have HO2 := Lib.hid (own_free HO1.out hG2)
 have HS2 := Lib.hid (Sl.of_own hO2)
 have hone := itemsC_one T
 have HN := Lib.hid hone
 clear hG2 hO2 hone
 go_wp2_with (first
  | (at_builtin; refine wpList_append_src rfl w.heap.size (.tmp 10) (.tmp 13) 28 28 34 i0 z0 4 40 rfl Tryz.underlying28 HI.out.1 HI.out.2.1 HI.out.2.2.1 HI.out.2.2.2.1 HI.out.2.2.2.2 h04 (.slice (some ⟨w.heap.size, 0, none⟩) 2 2) 2 (itemsC [⟨29, 0, name, -1⟩, Css.colon]) rfl _ T.length (itemsC T) rfl (Src.slice Tryz.underlying28 HS2.out HN.out) HO2.out HG2.out.size h63 h47 ?_; intro v3 w3 hown hgr hat; have HG3 := Lib.hid (grown_own (base := w.heap.size) HG2.out hgr (own_base HO2.out)); have HO3 := Lib.hid hown; have HB3 : Hid (∀ o, w.grownBy (w3.alloc o) none ∧ (w3.alloc o).ownsRow w.heap.size 34 4 v3 (2 + T.length) (itemsC [⟨29, 0, name, -1⟩, Css.colon] ++ itemsC T) ∧ (w3.alloc o).heap[w3.heap.size]? = some o) := Lib.hid fun o => ⟨grown_alloc HG3.out o, HO3.out.alloc o, new_blk _ _⟩; clear hown hgr hat)
  | (at_builtin; refine wpList_append_src rfl w.heap.size (.tmp 14) (.tmp 16) 28 28 34 i0 z0 4 40 rfl Tryz.underlying28 HI.out.1 HI.out.2.1 HI.out.2.2.1 HI.out.2.2.2.1 HI.out.2.2.2.2 h04 v3 (2 + T.length) (itemsC [⟨29, 0, name, -1⟩, Css.colon] ++ itemsC T) rfl _ 1 (itemCells Css.semi) rfl (Src.block Tryz.underlying28 _ (itemCells Css.semi) 34 (HB3.out _).2.2 rfl (itemCells_one _)) (HB3.out _).2.1 (HB3.out _).1.size h63b h47b ?_; intro v4 w4 hown hgr hat; have HG4 := Lib.hid (grown_own (base := w.heap.size) (HB3.out _).1 hgr (own_base HO3.out)); obtain ⟨A4, c4, hv4⟩ := own_slice' hown; subst hv4; have HO4 := Lib.hid hown; clear hown hgr hat))
 go_ret
 exact ⟨A4, c4, by rw [HR.out.1]; rfl, HG4.out, by show World.ownsRow _ _ _ _ _ _ _; rw [HR.out.1, HR.out.2]; exact HO4.out⟩
end Go.Proofs.YtkfdcbdlcipmfaaGreatFmt
