/- append to a row of the call's own, as one step of a region that draws its order. -/
import Derived.Test.YtkfdcbdlcipmfaaGreatFmtProg
import Derived.WalkKit
import Derived.WalkLawsBesides
import Derived.WalkSpells
import Derived.BigQuiet
import Derived.Deep.QuietTactic
import Derived.Outline
import Derived.Laws.BitsLemmas
import Derived.Lib.Hide
import Derived.OneCell
import Derived.Deep.Draws
import Derived.Deep.LoopGhost
import Derived.Laws.BytesArg
import Derived.Laws.ResultCell
import Derived.Deep.DeepCutAuto
import Derived.Deep.CutBlock
import Derived.Deep.RegionLaw
import Derived.Maps.AppendAt
import Derived.Deep.AppendLies
import Derived.KernelRfl
import Derived.Test.YtkfdcbdlcipmfaaGreatFmtGF
import Derived.Test.YtkfdcbdlcipmfaaGreatFmtGH
set_option linter.unusedVariables false
set_option linter.unusedSimpArgs false
namespace Go.Proofs.YtkfdcbdlcipmfaaGreatFmt
open Go.RowKit
theorem app_step {P : Program} {ops : Array Oper} {o : Oper} {a : Act} {W : World} {K : Act → World → Prop} {Q : Exit → Act → World → Prop} {E : Prop}
  (hg : o.guard = none) (base : Nat) (s x : Operand) (t e : TypeId) (i : TypeInfo) (z : Value) (size bytes : Nat)
  (ho : o.op = .call { callee := .builtin .append, args := #[s, x], argTypes := #[t, t] })
  (ht : P.underlying t = some (.slice e)) (hi : P.info? e = some i) (hz : i.zero = some z) (hz1 : i.size = size) (hz2 : i.bytes = bytes) (hzs : z.cells.size = size) (hs0 : 0 < size) (hb0 : 0 < bytes)
  (v : Value) (n : Nat) (xs ys : List Value) (hs : a.eval s = v) (B : Nat) (hx : a.eval x = .slice (some ⟨B, 0, none⟩) 1 1) (hnew : W.heap[B]? = some (.cells ys.toArray e (0, 0))) (hys : ys.length = size) (h1 : ∀ u ∈ ys, u.oneCell' = true)
  (HO : W.ownsRow base e size v n xs) (hbase : base ≤ W.heap.size) (hl : (n + 1) * bytes ≤ 140737488355328)
  (h : ∀ v1 w1, w1.ownsRow base e size v1 (n + 1) (xs ++ ys) → W.grownBy w1 v.ownBlock → (v1.ownBlock = v.ownBlock ∨ ∃ b, v1.ownBlock = some b ∧ W.heap.size ≤ b) → K (a.put o.dst v1) w1) :
  if Region.wanted o (yielded ops a.tmps) = true then Oper.wp P o a W K Q else E := by
 have hw : Region.wanted o (yielded ops a.tmps) = true := by simp [Region.wanted, hg]
 have hlen : n + 1 ≤ 140737488355328 := Nat.le_trans (Nat.le_mul_of_pos_right _ hb0) hl
 rw [if_pos hw]
 obtain ⟨v1, w1, hr, hown, hgr, _, hat⟩ := run_append_own_at (P := P) W base t o.type e i z size bytes ht hi hz hz1 hz2 hzs hs0 v n xs HO ⟨B, 0, none⟩ 1 1 ys (by rw [hys]; simp)
  (by simpa using World.news_of_block (cs := ys.toArray) (t := e) (fr := (0, 0)) hnew) h1 (by simp only [maxLen]; omega) hl hbase
 unfold Oper.wp execOp
 simp only [ho, resolve, invoke, builtin, Sem.run_bind, Sem.run_pure, Result.andThen_ok, List.map_toArray, List.map_cons, List.map_nil, hs, hx, hr]
 refine h v1 w1 hown hgr ?_
 rcases hat with hat | hat
 ·exact .inl hat
 ·exact .inr ⟨_, hat, Nat.le_refl _⟩
end Go.Proofs.YtkfdcbdlcipmfaaGreatFmt
/- The reference's lexer in memory: comments. What a walk leaves that writes the lexer and its row of comments. -/
namespace Go.Proofs.YtkfdcbdlcipmfaaGreatFmt
open Go.RowKit
structure Kv (w w' : World) (g : Nat) (v v' : Value) : Prop where
 os : w'.os = w.os
 tape : w'.tape = w.tape
 output : w'.output = w.output
 size : w.heap.size ≤ w'.heap.size
 block : ∀ k, k < w.heap.size → k ≠ g → some k ≠ v.ownBlock → w'.heap[k]? = w.heap[k]?
 own : v'.ownBlock = v.ownBlock ∨ ∃ b, v'.ownBlock = some b ∧ w.heap.size ≤ b
theorem Kv.refl (w : World) (g : Nat) (v : Value) : Kv w w g v v := ⟨rfl, rfl, rfl, Nat.le_refl _, fun _ _ _ _ => rfl, .inl rfl⟩
theorem Kv.trans {a b c : World} {g : Nat} {u v x : Value} (h : Kv a b g u v) (k : Kv b c g v x) : Kv a c g u x := by
 refine ⟨k.os.trans h.os, k.tape.trans h.tape, k.output.trans h.output, Nat.le_trans h.size k.size, ?_, ?_⟩
 ·intro j hj hg hu
  refine (k.block j (Nat.lt_of_lt_of_le hj h.size) hg ?_).trans (h.block j hj hg hu)
  rcases h.own with e | ⟨b, e, hb⟩
  ·rw [e]; exact hu
  ·rw [e]; intro e2; simp only [Option.some.injEq] at e2; omega
 ·rcases k.own with e | ⟨b, e, hb⟩
  ·rcases h.own with f | ⟨d, f, hd⟩
   ·exact .inl (e.trans f)
   ·exact .inr ⟨d, e.trans f, hd⟩
  ·exact .inr ⟨b, e, Nat.le_trans h.size hb⟩
theorem Kv.kp {w w' : World} {g : Nat} (h : Kp w w' g) (v : Value) : Kv w w' g v v :=
 ⟨h.os, h.tape, h.output, h.size, fun k hk hg _ => h.block k hk (by simpa using hg), .inl rfl⟩
theorem own_kp {w w' : World} {g base size n : Nat} {e : TypeId} {v : Value} {xs : List Value} (HO : w.ownsRow base e size v n xs) (h : Kp w w' g) (hg : some g ≠ v.ownBlock) : w'.ownsRow base e size v n xs := by
 obtain ⟨h1, h2⟩ := HO
 refine ⟨h1, ?_⟩
 rcases h2 with h2 | ⟨b, cap, cur, rfl, hb, hh, r⟩
 ·exact .inl h2
 ·exact .inr ⟨b, cap, cur, rfl, hb, h.keep hh (by rintro rfl; exact hg rfl), r⟩
theorem info169 : ∃ i z, Tryz.prog.info? 169 = some i ∧ i.zero = some z ∧ i.size = 2 ∧ i.bytes = 16 ∧ z.cells.size = 2 := by
 have h : (Tryz.prog.info? 169).map (fun i => (i.zero.map (·.cells.size), i.size, i.bytes)) = some (some 2, 2, 16) := by kernel_rfl
 obtain ⟨i, hi, hh⟩ := Option.map_eq_some_iff.1 h
 simp only [Prod.mk.injEq] at hh
 obtain ⟨z, hz, hzs⟩ := Option.map_eq_some_iff.1 hh.1
 exact ⟨i, z, hi, hz, hh.2.1, hh.2.2, hzs⟩
theorem info62 : ∃ i z, Tryz.prog.info? 62 = some i ∧ i.zero = some z ∧ i.size = 6 ∧ i.bytes = 56 ∧ z.cells.size = 6 := by
 have h : (Tryz.prog.info? 62).map (fun i => (i.zero.map (·.cells.size), i.size, i.bytes)) = some (some 6, 6, 56) := by kernel_rfl
 obtain ⟨i, hi, hh⟩ := Option.map_eq_some_iff.1 h
 simp only [Prod.mk.injEq] at hh
 obtain ⟨z, hz, hzs⟩ := Option.map_eq_some_iff.1 hh.1
 exact ⟨i, z, hi, hz, hh.2.1, hh.2.2, hzs⟩
end Go.Proofs.YtkfdcbdlcipmfaaGreatFmt
/- The reference's lexer in memory: comments. -/
namespace Go.Proofs.YtkfdcbdlcipmfaaGreatFmt
open Go.RowKit
theorem own_slice {w : World} {base size n : Nat} {e : TypeId} {v : Value} {xs : List Value} (h : w.ownsRow base e size v n xs) : ∃ A c, v = .slice A n c := by
 rcases h.2 with ⟨rfl, rfl⟩ | ⟨g, cap, cur, rfl, _⟩
 ·exact ⟨_, _, rfl⟩
 ·exact ⟨_, _, rfl⟩
theorem grown_drew' {w w' : World} {row : Option Nat} (h : w.grownBy w' row) : w.grownBy w'.drew row := ⟨h.os, h.tape, h.output, h.size, h.block⟩
theorem com_app {wo w3 W w4 : World} {g base n : Nat} {s : ByteArray} {X : List Int} {cv1 v1 : Value} {o : Bool} {ys : List Value} (HK3 : Kp wo w3 g) (hgc : some g ≠ cv1.ownBlock) (HL : Lx w3 g s X cv1 o) (hW : w3.grownBy W none) (hgr : W.grownBy w4 cv1.ownBlock)
  (hown : w4.ownsRow base 169 2 v1 n ys) (hat : v1.ownBlock = cv1.ownBlock ∨ ∃ b, v1.ownBlock = some b ∧ W.heap.size ≤ b) :
  ∃ xs', Lx (w4.setCell ⟨g, 2, none⟩ v1) g s X v1 o ∧ (w4.setCell ⟨g, 2, none⟩ v1).ownsRow base 169 2 v1 n xs' ∧ some g ≠ v1.ownBlock ∧ Kv wo (w4.setCell ⟨g, 2, none⟩ v1) g cv1 v1 := by
 have hlg := lt_of_block HL.blk
 have hne : some g ≠ v1.ownBlock := by
  rcases hat with e | ⟨b, e, hb⟩
  ·rw [e]; exact hgc
  ·rw [e]; intro h; simp only [Option.some.injEq] at h; have := hW.size; omega
 have hb4 : w4.heap[g]? = w3.heap[g]? := (hgr.block g (Nat.lt_of_lt_of_le hlg hW.size) hgc).trans (hW.block g hlg (by simp))
 have hL4 := HL.grown hb4
 refine ⟨ys, ⟨by simpa using set_blk hL4.blk 2 v1, hL4.left, hL4.fits, hL4.size⟩, own_kp hown (Kp.opened _ _ _ _) hne, hne, ?_⟩
 have hset : Kp w4 (w4.setCell ⟨g, 2, none⟩ v1) g := Kp.opened _ _ _ _
 refine ⟨hset.os.trans (hgr.os.trans (hW.os.trans HK3.os)), hset.tape.trans (hgr.tape.trans (hW.tape.trans HK3.tape)), hset.output.trans (hgr.output.trans (hW.output.trans HK3.output)), Nat.le_trans HK3.size (Nat.le_trans hW.size (Nat.le_trans hgr.size hset.size)), ?_, ?_⟩
 ·intro k hk hkg hkv
  have h1 := Nat.lt_of_lt_of_le hk HK3.size
  have h2 := Nat.lt_of_lt_of_le h1 hW.size
  exact (hset.block k (Nat.lt_of_lt_of_le h2 hgr.size) (by simpa using hkg)).trans ((hgr.block k h2 hkv).trans ((hW.block k h1 (by simp)).trans (HK3.block k hk (by simpa using hkg))))
 ·rcases hat with e | ⟨b, e, hb⟩
  ·exact .inl e
  ·exact .inr ⟨b, e, Nat.le_trans HK3.size (Nat.le_trans hW.size hb)⟩
def ComR (wo : World) (g base n : Nat) (s : ByteArray) (X : List Int) (cv1 : Value) (op : Bool) (wc : World) : Prop :=
 ∃ v xs', Lx wc g s X v op ∧ Hid (wc.ownsRow base 169 2 v n xs' ∧ some g ≠ v.ownBlock ∧ Kv wo wc g cv1 v)
theorem in_nil : Css.inComment [] = ([], true) := rfl
theorem in_end {V : List Int} (h : (Css.pk 0 V == 42 && Css.pk 1 V == 47) = true) : Css.inComment V = (V.drop 2, false) := by
 cases V with
 | nil => exact absurd h (by simp [Css.pk_nil])
 | cons c V =>
  rw [Css.pk_cons_zero, Css.pk_cons_succ] at h
  simp only [Css.inComment, h, if_true]
  simp
theorem in_go {V : List Int} (h0 : Css.pk 0 V ≠ -1) (h : (Css.pk 0 V == 42 && Css.pk 1 V == 47) = false) : Css.inComment V = Css.inComment V.tail ∧ V.tail.length < V.length := by
 cases V with
 | nil => exact absurd (Css.pk_nil 0) h0
 | cons c V =>
  rw [Css.pk_cons_zero, Css.pk_cons_succ] at h
  simp [Css.inComment, h]
theorem com_no {U : List Int} (h : (Css.pk 0 U == 47 && Css.pk 1 U == 42) = false) : Css.comment U = (U, 0, false) := by
 rw [Css.comment.eq_def, dif_neg (by rw [h]; simp)]
theorem com_open {U V : List Int} (h : (Css.pk 0 U == 47 && Css.pk 1 U == 42) = true) (e : Css.inComment (U.drop 2) = (V, true)) : Css.comment U = (V, 1, true) := by
 rw [Css.comment.eq_def, dif_pos h]
 simp [e]
theorem com_go {U V : List Int} (h : (Css.pk 0 U == 47 && Css.pk 1 U == 42) = true) (e : Css.inComment (U.drop 2) = (V, false)) : Css.comment U = ((Css.comment V).1, 1 + (Css.comment V).2.1, (Css.comment V).2.2) := by
 rw [Css.comment.eq_def, dif_pos h]
 simp [e]
theorem leap2 {U : List Int} {a b : Int} (h0 : Css.pk 0 U = a) (h1 : Css.pk 1 U = b) (ha : a ≠ -1 ∧ a < 128) (hb : b ≠ -1 ∧ b < 128) : Css.wd U = Css.wd (U.drop 2) + 2 := by
 have e0 := wd_ascii h0 ha.1 ha.2
 have e1 := wd_ascii ((pk_tail 0 U).trans h1) hb.1 hb.2
 rw [tail_tail] at e1
 omega
theorem wd_tail (U : List Int) : Css.wd U.tail ≤ Css.wd U := by
 cases U with
 | nil => exact Nat.le_refl _
 | cons c V => simp [Css.wd]
set_option maxRecDepth 100000 in
set_option maxHeartbeats 4000000 in
theorem c53 {w : World} {g base n : Nat} {s : ByteArray} {U : List Int} {cv : Value} {op : Bool} {xs : List Value} (h : Lx w g s U cv op) (hsmall : s.size ≤ 1099511627776)
  (HO : w.ownsRow base 169 2 cv n xs) (hbase : base ≤ w.heap.size) (hgc : some g ≠ cv.ownBlock) (hn : n + U.length ≤ s.size) :
  Calls Tryz.prog 53 #[.pointer (some ⟨g, 0, none⟩)] w fun e w' => e = .returned (.tuple #[]) ∧ ∃ cv' xs', Lx w' g s (Css.comment U).1 cv' (op || (Css.comment U).2.2) ∧ w'.ownsRow base 169 2 cv' (n + (Css.comment U).2.1) xs' ∧ some g ≠ cv'.ownBlock ∧ Kv w w' g cv cv' := by
 have HK := Lib.hid (Kv.refl w g cv)
 generalize hR : Css.comment U = R
 have HR := Lib.hid hR
 clear hR
 obtain ⟨i0, z0, hi0, hz0, hz1, hz2, hz3⟩ := info169
 have HI := Lib.hid (And.intro hi0 (And.intro hz0 (And.intro hz1 (And.intro hz2 hz3))))
 clear hi0 hz0 hz1 hz2 hz3
 have HO' := Lib.hid HO
 clear HO
 go_enter Tryz.func53, Tryz.ntmps53
 go_wp2_with fail
 go_loopg [] U.length (fun k wr => ∃ (V : List Int) (cv1 : Value) (op1 : Bool) (n1 : Nat) (xs1 : List Value), V.length ≤ k ∧ n1 + V.length ≤ s.size ∧ base ≤ wr.heap.size ∧ Lx wr g s V cv1 op1 ∧ Hid (wr.ownsRow base 169 2 cv1 n1 xs1) ∧ Hid (some g ≠ cv1.ownBlock) ∧ Hid (Kv w wr g cv cv1) ∧
  Hid ((Css.comment V).1 = R.1 ∧ n1 + (Css.comment V).2.1 = n + R.2.1 ∧ (op1 || (Css.comment V).2.2) = (op || R.2.2)))
 case atStart => exact ⟨U, cv, op, n, xs, Nat.le_refl _, hn, hbase, h, HO', hgc, HK, by rw [← HR.out]; exact ⟨rfl, rfl, rfl⟩⟩
 case round =>
  clear h HO' HK hbase hn hgc HR
  obtain ⟨V, cv1, op1, n1, xs1, hk, hn, hbase, h, HO, hgc, HK, HN⟩ := hrel
  go_upto_region 0 with (fail)
  go_cut [10] (fun v wc => v = .bool (Css.pk 0 V == 47 && Css.pk 1 V == 42) ∧ wr = wc)
  case first =>
   cases t1 : (Css.pk 0 V == 47) with
   | false =>
    go_wp2_with fail
    refine (c59_0 h).mono ?_
    rintro e w' ⟨rfl, rfl⟩
    go_wp2_with fail
    go_meet
    exact ⟨by first | rfl | simp [t1], rfl⟩
   | true =>
    go_wp2_with fail
    refine (c59_0 h).mono ?_
    rintro e w' ⟨rfl, rfl⟩
    go_wp2_with fail
    refine (c59_1 h).mono ?_
    rintro e w' ⟨rfl, rfl⟩
    go_wp2_with fail
    go_meet
    exact ⟨by first | rfl | simp [t1], rfl⟩
  case rest =>
   obtain ⟨rfl, rfl⟩ := hcut
   cases y : (Css.pk 0 V == 47 && Css.pk 1 V == 42) with
   | false =>
    have HE := Lib.hid (com_no y)
    go_wp2_with fail
    go_end0
    have hq := HN.out
    rw [HE.out] at hq
    refine ⟨rfl, cv1, xs1, ?_, ?_, hgc.out, HK.out⟩
    ·rw [← hq.1, ← hq.2.2, Bool.or_false]; exact h
    ·rw [← hq.2.1]; exact HO.out
   | true =>
    have hy : Css.pk 0 V = 47 ∧ Css.pk 1 V = 42 := by simpa using y
    have hw := leap2 hy.1 hy.2 (by decide) (by decide)
    have hfit := h.fits
    have hsz := h.size
    have hsum : ((s.size - Css.wd V : Nat) : Int) + 2 = ((s.size - Css.wd (V.drop 2) : Nat) : Int) := by omega
    have hpos := h.pos
    have hg1 := free_blk h.blk 1
    have HW := Lib.hid (h.moved 2)
    have HV := Lib.hid hw
    have HY := Lib.hid y
    clear hw hy hfit y h
    obtain ⟨wo, hwo⟩ : ∃ x, x = wr := ⟨wr, rfl⟩
    subst hwo
    go_wp2_with fail
    have HKW : Hid (Kp wo _ g) := Lib.hid (Kp.opened wo g (.int .i64 ((s.size - Css.wd (V.drop 2) : Nat) : Int)) 1)
    go_loopg [] (V.drop 2).length (fun k wi => ∃ (X : List Int), X.length ≤ k ∧ Css.wd X ≤ Css.wd (V.drop 2) ∧ X.length ≤ (V.drop 2).length ∧ Lx wi g s X cv1 op1 ∧ Hid (Kp wo wi g) ∧ Hid (Css.inComment (V.drop 2) = Css.inComment X))
    case atStart => exact ⟨V.drop 2, Nat.le_refl _, Nat.le_refl _, Nat.le_refl _, HW.out, HKW, Lib.hid rfl⟩
    case round =>
     clear HW HKW hpos hg1 hsum
     obtain ⟨X, hkx, hwx, hlx, h, HKX, HX⟩ := hrel
     go_upto_region 3 with (fail)
     go_cut [30] (fun v wc => v = .bool (!(Css.pk 0 X == 42 && Css.pk 1 X == 47)) ∧ wr = wc)
     case first =>
      cases t1 : (Css.pk 0 X == 42) with
      | false =>
       go_wp2_with fail
       refine (c59_0 h).mono ?_
       rintro e w' ⟨rfl, rfl⟩
       go_wp2_with fail
       go_meet
       exact ⟨by first | rfl | simp [t1], rfl⟩
      | true =>
       go_wp2_with fail
       refine (c59_0 h).mono ?_
       rintro e w' ⟨rfl, rfl⟩
       go_wp2_with fail
       refine (c59_1 h).mono ?_
       rintro e w' ⟨rfl, rfl⟩
       go_wp2_with fail
       go_meet
       exact ⟨by first | rfl | simp [t1], rfl⟩
     case rest =>
      obtain ⟨rfl, rfl⟩ := hcut
      cases yx : (Css.pk 0 X == 42 && Css.pk 1 X == 47) with
      | false =>
       have HYX := Lib.hid yx
       clear yx
       go_wp2_with fail
       refine (c61 h).mono ?_
       rintro e w2 ⟨rfl, h2, hK2⟩
       cases t3 : (Css.pk 0 X == -1) with
       | true =>
        have HX0 := Lib.hid (h.pk_nil (by simpa using t3))
        have hg3 := free_blk h2.blk 3
        have hc3 := cell_blk h2.blk (i := 3) (v := .bool op1) rfl
        go_upto_region 6 with (fail)
        have HL := h2.setOpen true
        have HK3 : Kp wo _ g := (HKX.out.trans hK2).trans (Kp.opened w2 g (.bool true) 3)
        generalize w2.setCell ⟨g, 3, none⟩ (.bool true) = w3 at HL HK3 ⊢
        clear h2 hK2 hg3 hc3 h
        have HO3 := Lib.hid (own_kp HO.out HK3 hgc.out)
        have hb3 : base ≤ w3.heap.size := Nat.le_trans hbase HK3.size
        have ha1 := HL.pos
        have ha2 := cell_blk HL.blk (i := 2) (v := cv1) rfl
        have hf2 := free_blk HL.blk 2
        have hlg := lt_of_block HL.blk
        have hAL : ∀ o, w3.grownBy (w3.alloc o).drew none := fun o => grown_drew' (grown_alloc (grown_refl w3 none) o)
        have HAL := Lib.hid hAL
        have HKK := Lib.hid HK3
        clear hAL HK3
        go_cut [] (fun wc => ComR wo g base (n1 + 1) s X.tail cv1 true wc)
        case first =>
         go_region_law (refine app_step rfl base (.tmp 41) (.tmp 48) 97 169 i0 z0 2 16 rfl Tryz.underlying97 HI.out.1 HI.out.2.1 HI.out.2.2.1 HI.out.2.2.2.1 HI.out.2.2.2.2 (by omega) (by omega) cv1 n1 xs1 [.int .i64 ((s.size - Css.wd V : Nat) : Int), .int .i64 ((s.size - Css.wd X.tail : Nat) : Int)] (by simp [Act.eval, Act.put]) w3.heap.size (by simp [Act.eval, Act.put]) (new_blk w3 _) rfl (by simp [Value.oneCell']) (HO3.out.alloc _) (Nat.le_trans hb3 (by simp [World.drew])) (by omega) ?_; intro v1 w4 hown hgr hat; obtain ⟨A, cc, rfl⟩ := own_slice hown; have hL4 := (HL.allocd (.cells #[.int .i64 ((s.size - Css.wd V : Nat) : Int), .int .i64 ((s.size - Css.wd X.tail : Nat) : Int)] 169)).grown (hgr.block g (Nat.lt_of_lt_of_le hlg (by simp [World.drew])) hgc.out); have hf4 := free_blk hL4.blk 2; have hc4 := cell_blk hL4.blk (i := 2) (v := cv1) rfl; have HZ := Lib.hid (com_app HKK.out hgc.out HL (HAL.out _) hgr hown hat))
         all_goals (go_wp2_with fail; go_meet; obtain ⟨xs', q1, q2, q3, q4⟩ := HZ.out; exact ⟨_, xs', q1, Lib.hid ⟨q2, q3, q4⟩⟩)
        case rest =>
         obtain ⟨v2, xs2, hL2, HH⟩ := hcut
         have HE := Lib.hid (com_open HY.out (HX.out.trans (by rw [HX0.out]; exact in_nil)))
         have hxt : X.tail = [] := by rw [HX0.out]; rfl
         rw [hxt] at hL2
         have hq := HN.out
         rw [HE.out] at hq
         have HQ := Lib.hid hq
         clear hq hxt
         have HKV := Lib.hid (HK.out.trans HH.out.2.2)
         go_wp2_with fail
         refine bodyPost_ret (v := .tuple #[]) (by simp [results, Tryz.results53, go_sem]) rfl ⟨rfl, v2, ?_, ⟨xs2, ?_⟩, HH.out.2.1, HKV.out⟩
         ·rw [← HQ.out.1, ← HQ.out.2.2, Bool.or_true]; exact hL2
         ·rw [← HQ.out.2.1]; exact HH.out.1
       | false =>
        have HG := Lib.hid (in_go (by simpa using t3) HYX.out)
        have hl2 := HG.out.2
        have hw2 := wd_tail X
        go_wp2_with fail
        go_roundg X.tail.length
        case measure => omega
        case rel => exact ⟨X.tail, Nat.le_refl _, by omega, by omega, h2, HKX.out.trans hK2, HX.out.trans HG.out.1⟩
      | true =>
       have HE := Lib.hid (com_go HY.out (HX.out.trans (in_end yx)))
       have hy : Css.pk 0 X = 42 ∧ Css.pk 1 X = 47 := by simpa using yx
       have hw := leap2 hy.1 hy.2 (by decide) (by decide)
       have hfit := h.fits
       have hsz := h.size
       have hsum : ((s.size - Css.wd X : Nat) : Int) + 2 = ((s.size - Css.wd (X.drop 2) : Nat) : Int) := by omega
       have hpos := h.pos
       have hg1 := free_blk h.blk 1
       have hxl : (X.drop 2).length ≤ X.length := by simp
       have hVl : 2 ≤ V.length := by
        have := Css.pk_lt (U := V) (k := 1) (show Css.pk 1 V = 42 from by have := HY.out; simp at this; exact this.2) (by decide)
        omega
       have hdl : (V.drop 2).length = V.length - 2 := by simp
       have hvw := HV.out
       have hlen : (X.drop 2).length < V.length := by omega
       have hwd : n1 + 1 + (X.drop 2).length ≤ s.size := by omega
       have HW := Lib.hid (h.moved 2)
       clear hw hy hfit yx hxl hVl hdl hvw hwx hlx
       go_upto_region 8 with (fail)
       have HKW2 : Kp wo _ g := HKX.out.trans (Kp.opened wr g (.int .i64 ((s.size - Css.wd (X.drop 2) : Nat) : Int)) 1)
       have HL := HW.out
       generalize wr.setCell ⟨g, 1, none⟩ (.int .i64 ((s.size - Css.wd (X.drop 2) : Nat) : Int)) = w3 at HL HKW2 ⊢
       clear hpos hg1 h
       have HO3 := Lib.hid (own_kp HO.out HKW2 hgc.out)
       have hb3 : base ≤ w3.heap.size := Nat.le_trans hbase HKW2.size
       have ha1 := HL.pos
       have ha2 := cell_blk HL.blk (i := 2) (v := cv1) rfl
       have hf2 := free_blk HL.blk 2
       have hlg := lt_of_block HL.blk
       have hAL : ∀ o, w3.grownBy (w3.alloc o).drew none := fun o => grown_drew' (grown_alloc (grown_refl w3 none) o)
       have HAL := Lib.hid hAL
       have HKK := Lib.hid HKW2
       clear hAL HKW2
       have hq := HN.out
       rw [HE.out] at hq
       have HQ : Hid ((Css.comment (X.drop 2)).1 = R.1 ∧ n1 + 1 + (Css.comment (X.drop 2)).2.1 = n + R.2.1 ∧ (op1 || (Css.comment (X.drop 2)).2.2) = (op || R.2.2)) := ⟨hq.1, by have := hq.2.1; simp only at this; omega, hq.2.2⟩
       clear hq
       go_region_law (refine app_step rfl base (.tmp 63) (.tmp 70) 97 169 i0 z0 2 16 rfl Tryz.underlying97 HI.out.1 HI.out.2.1 HI.out.2.2.1 HI.out.2.2.2.1 HI.out.2.2.2.2 (by omega) (by omega) cv1 n1 xs1 [.int .i64 ((s.size - Css.wd V : Nat) : Int), .int .i64 ((s.size - Css.wd (X.drop 2) : Nat) : Int)] (by simp [Act.eval, Act.put]) w3.heap.size (by simp [Act.eval, Act.put]) (new_blk w3 _) rfl (by simp [Value.oneCell']) (HO3.out.alloc _) (Nat.le_trans hb3 (by simp [World.drew])) (by omega) ?_; intro v1 w4 hown hgr hat; obtain ⟨A, cc, rfl⟩ := own_slice hown; have hL4 := (HL.allocd (.cells #[.int .i64 ((s.size - Css.wd V : Nat) : Int), .int .i64 ((s.size - Css.wd (X.drop 2) : Nat) : Int)] 169)).grown (hgr.block g (Nat.lt_of_lt_of_le hlg (by simp [World.drew])) hgc.out); have hf4 := free_blk hL4.blk 2; have hc4 := cell_blk hL4.blk (i := 2) (v := cv1) rfl; have HZ := Lib.hid (com_app HKK.out hgc.out HL (HAL.out _) hgr hown hat))
       all_goals
        obtain ⟨xs', q1, q2, q3, q4⟩ := HZ.out
        have HKV := Lib.hid (HK.out.trans q4)
        have hb4 := Nat.le_trans hbase q4.size
        have HO4 := Lib.hid q2
        have HG4 := Lib.hid q3
        clear q2 q3 q4
        go_wp2_with fail
        go_roundg (X.drop 2).length
        case measure => exact Nat.lt_of_lt_of_le hlen hk
        case rel => exact ⟨X.drop 2, _, op1, n1 + 1, xs', Nat.le_refl _, hwd, hb4, q1, HO4, HG4, HKV, HQ⟩
end Go.Proofs.YtkfdcbdlcipmfaaGreatFmt
