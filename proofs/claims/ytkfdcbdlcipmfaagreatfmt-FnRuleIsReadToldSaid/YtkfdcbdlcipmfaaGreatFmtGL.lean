/- The reference's tokens of a text, in memory. The text has at most 2^31 bytes. -/
import Derived.Test.YtkfdcbdlcipmfaaGreatFmtProg
import Derived.WalkKit
import Derived.WalkLawsBesides
import Derived.WalkSpells
import Derived.BigQuiet
import Derived.Deep.QuietTactic
import Derived.Outline
import Derived.Laws.BitsLemmas
import Derived.Lib.Hide
import Derived.OneCell
import Derived.Deep.Draws
import Derived.Deep.LoopGhost
import Derived.Laws.BytesArg
import Derived.Laws.ResultCell
import Derived.Deep.DeepCutAuto
import Derived.Deep.CutBlock
import Derived.Deep.RegionLaw
import Derived.Maps.AppendAt
import Derived.Deep.AppendLies
import Derived.KernelRfl
import Derived.Deep.AppendSrc
import Derived.Maps.OwnOps
import Derived.Test.YtkfdcbdlcipmfaaGreatFmtGI
import Derived.Test.YtkfdcbdlcipmfaaGreatFmtGJ
import Derived.Laws.OwnMore
set_option linter.unusedVariables false
set_option linter.unusedSimpArgs false
namespace Go.Proofs.YtkfdcbdlcipmfaaGreatFmt
open Go.RowKit
theorem next_kind {U : List Int} (h : Css.pk 0 U ≠ -1) : (Css.next U).1.kind ≠ 0 := by
 unfold Css.next
 dsimp only
 rw [if_neg (by simpa using h)]
 split
 ·simp
 ·split
  ·rcases Css.quoted_kind (Css.pk 0 U) U.tail [] with h | h <;> rw [h] <;> decide
  ·split
   ·simp
   ·split
    ·rcases Css.numeric_kind U with h | ⟨h, _⟩ | h <;> rw [h] <;> simp
    ·split
     ·simp
     ·split
      ·rcases Css.named_kind U with h | h | h | h <;> rw [h] <;> decide
      ·split
       ·simp
       ·split
        ·simp
        ·intro h0
         have := Css.signKind_sign (Css.pk 0 U)
         rw [show Css.signKind (Css.pk 0 U) = 0 from h0] at this
         exact absurd this (by decide)
theorem next_lt' (U : List Int) : (Css.next U).2.1.length ≤ U.length := by
 by_cases h : Css.pk 0 U = -1
 ·rw [next_0 (by simpa using h)]; exact Nat.le_refl _
 ·exact Nat.le_of_lt (Css.next_lt h)
theorem tok_end {V : List Int} (h : Css.pk 0 (Css.comment V).1 = -1) : Css.tokens V = ([], (Css.comment V).2.1, (Css.comment V).2.2) := by
 rw [Css.tokens, dif_pos h]
theorem tok_go {V : List Int} (h : Css.pk 0 (Css.comment V).1 ≠ -1) : Css.tokens V = (⟨(Css.next (Css.comment V).1).1, (Css.comment V).1, (Css.next (Css.comment V).1).2.1⟩ :: (Css.tokens (Css.next (Css.comment V).1).2.1).1,
  (Css.comment V).2.1 + (Css.tokens (Css.next (Css.comment V).1).2.1).2.1, (Css.comment V).2.2 || (Css.next (Css.comment V).1).2.2 || (Css.tokens (Css.next (Css.comment V).1).2.1).2.2) := by
 rw [Css.tokens, dif_neg h]
theorem com_count (U : List Int) : (Css.comment U).2.1 + (Css.comment U).1.length ≤ U.length := by
 induction hn : U.length using Nat.strongRecOn generalizing U with
 | _ n ih =>
  subst hn
  rw [Css.comment.eq_def]
  split
  ·rename_i h
   have h1 : Css.pk 0 U = 47 := by simp at h; exact h.1
   have h2 := Css.pk_lt h1 (by decide)
   have h3 := Css.inComment_le (U.drop 2)
   simp at h3
   dsimp only
   split
   ·simp
    have h4 : Css.pk 1 U = 42 := by simp at h; exact h.2
    have h5 := Css.pk_lt h4 (by decide)
    omega
   ·have := ih (Css.inComment (U.drop 2)).1.length (by omega) _ rfl
    simp; omega
  ·simp
def tokC (s : ByteArray) (t : Css.Tok) : List Value := [.int .i64 t.tk.kind, .int .i64 ((s.size - Css.wd t.from' : Nat) : Int), .int .i64 ((s.size - Css.wd t.upto : Nat) : Int), .int .i64 t.tk.unit, .bool t.tk.id, .string (str t.tk.text)]
theorem tokC_length (s : ByteArray) (t : Css.Tok) : (tokC s t).length = 6 := rfl
theorem tokC_one (s : ByteArray) (t : Css.Tok) : ∀ u ∈ tokC s t, u.oneCell' = true := by
 intro u hu
 simp [tokC] at hu
 rcases hu with rfl | rfl | rfl | rfl | rfl | rfl <;> rfl
theorem own_apart {w : World} {b1 b2 : Nat} {e1 e2 : TypeId} {s1 s2 n1 n2 : Nat} {v1 v2 : Value} {x1 x2 : List Value} (h1 : w.ownsRow b1 e1 s1 v1 n1 x1) (h2 : w.ownsRow b2 e2 s2 v2 n2 x2) (hne : e1 ≠ e2) :
  v1.ownBlock = none ∨ v1.ownBlock ≠ v2.ownBlock := by
 rcases h1.2 with ⟨rfl, _⟩ | ⟨g1, c1, cur1, rfl, _, hh1, _⟩
 ·exact .inl rfl
 ·right
  rcases h2.2 with ⟨rfl, _⟩ | ⟨g2, c2, cur2, rfl, _, hh2, _⟩
  ·simp [Value.ownBlock]
  ·intro e
   have e : g1 = g2 := by simpa [Value.ownBlock] using e
   subst e
   rw [hh1] at hh2
   simp only [Option.some.injEq, Obj.cells.injEq] at hh2
   exact hne hh2.2.1
theorem own_kv {w w' : World} {g base size n : Nat} {e : TypeId} {v cv cv' : Value} {xs : List Value} (HO : w.ownsRow base e size v n xs) (h : Kv w w' g cv cv') (hg : some g ≠ v.ownBlock) (ha : v.ownBlock = none ∨ v.ownBlock ≠ cv.ownBlock) : w'.ownsRow base e size v n xs := by
 obtain ⟨h1, h2⟩ := HO
 refine ⟨h1, ?_⟩
 rcases h2 with h2 | ⟨b, cap, cur, rfl, hb, hh, r⟩
 ·exact .inl h2
 ·refine .inr ⟨b, cap, cur, rfl, hb, ?_, r⟩
  rw [h.block b (lt_of_block hh) (by rintro rfl; exact hg rfl) (by
   rcases ha with h | h
   ·simp [Value.ownBlock] at h
   ·simpa [Value.ownBlock] using h)]
  exact hh
theorem kv_free {w0 w w' : World} {g : Nat} {v v' : Value} (hg : w0.grownBy w none) (h : Kv w w' g v v') (h0 : w0.heap.size ≤ g) (hv : ∀ b, v.ownBlock = some b → w0.heap.size ≤ b) : w0.grownBy w' none :=
 ⟨h.os.trans hg.os, h.tape.trans hg.tape, h.output.trans hg.output, Nat.le_trans hg.size h.size, fun k hk _ => (h.block k (Nat.lt_of_lt_of_le hk hg.size) (by omega) (fun e => by have := hv k e.symm; omega)).trans (hg.block k hk (by simp))⟩
theorem own_ne {w W : World} {v v1 : Value} (h : some w.heap.size ≠ v.ownBlock) (hat : v1.ownBlock = v.ownBlock ∨ ∃ b, v1.ownBlock = some b ∧ W.heap.size ≤ b) (hW : w.heap.size < W.heap.size) : some w.heap.size ≠ v1.ownBlock := by
 rcases hat with e | ⟨b, e, hb⟩
 ·rw [e]; exact h
 ·rw [e]; intro h; simp only [Option.some.injEq] at h; omega
theorem kp_free {w0 w w' : World} {g : Nat} (hg : w0.grownBy w none) (h : Kp w w' g) (h0 : w0.heap.size ≤ g) : w0.grownBy w' none :=
 ⟨h.os.trans hg.os, h.tape.trans hg.tape, h.output.trans hg.output, Nat.le_trans hg.size h.size, fun k hk _ => (h.block k (Nat.lt_of_lt_of_le hk hg.size) (by simp; omega)).trans (hg.block k hk (by simp))⟩
theorem Lx.start (w : World) {s : ByteArray} {U : List Int} (hU : Css.codes s.data.toList = U) (hs : s.size ≤ 1152921504606846976) :
  Lx (w.alloc (.cells #[.string s, .int .i64 0, .slice none 0 0, .bool false] 146)) w.heap.size s U (.slice none 0 0) false := by
 have hwd : Css.wd U = s.size := by rw [← hU]; exact (Css.codes_wd _).trans (bytes_len s)
 have h0 : s.size - Css.wd U = 0 := by omega
 refine ⟨?_, ?_, by omega, hs⟩
 ·rw [h0]; exact new_blk w _
 ·rw [h0]; simpa [sfx] using hU
theorem tokC_val (t : Css.Tk) : tkVal t = .agg #[.int .i64 t.kind, .int .i64 0, .int .i64 0, .int .i64 t.unit, .bool t.id, .string (str t.text)] := rfl
set_option maxRecDepth 100000 in
set_option maxHeartbeats 2000000 in
theorem c44 (s : ByteArray) (w : World) (hs : s.size ≤ 2147483648) :
  Calls Tryz.prog 44 #[.string s] w fun e w' => ∃ A c A2 c2, e = .returned (.tuple #[.slice A (Css.tokens (Css.codes s.data.toList)).1.length c, .slice A2 (Css.tokens (Css.codes s.data.toList)).2.1 c2, .bool (Css.tokens (Css.codes s.data.toList)).2.2]) ∧ w.grownBy w' none ∧
   w'.ownsRow w.heap.size 62 6 (.slice A (Css.tokens (Css.codes s.data.toList)).1.length c) (Css.tokens (Css.codes s.data.toList)).1.length ((Css.tokens (Css.codes s.data.toList)).1.flatMap (tokC s)) := by
 have hwd : Css.wd (Css.codes s.data.toList) = s.size := (Css.codes_wd _).trans (bytes_len s)
 have hlen := length_wd (Css.codes s.data.toList)
 generalize hU : Css.codes s.data.toList = U at hwd hlen ⊢
 have HU := Lib.hid hU
 clear hU
 generalize hT : Css.tokens U = T
 have HT := Lib.hid hT
 clear hT
 obtain ⟨i0, z0, hi0, hz0, hz1, hz2, hz3⟩ := info62
 have HI := Lib.hid (And.intro hi0 (And.intro hz0 (And.intro hz1 (And.intro hz2 hz3))))
 clear hi0 hz0 hz1 hz2 hz3
 have HW := Lib.hid hwd
 clear hwd
 go_enter Tryz.func44, Tryz.ntmps44
 have hL0 := Lx.start w HU.out (by omega)
 have hO0 := World.ownsRow_nil (w.alloc (.cells #[.string s, .int .i64 0, .slice none 0 0, .bool false] 146)) w.heap.size 62 6
 have hO1 := World.ownsRow_nil (w.alloc (.cells #[.string s, .int .i64 0, .slice none 0 0, .bool false] 146)) w.heap.size 169 2
 have hG0 := grown_alloc (grown_refl w none) (.cells #[.string s, .int .i64 0, .slice none 0 0, .bool false] 146)
 have H0 := Lib.hid (And.intro hL0 (And.intro hO0 (And.intro hO1 hG0)))
 clear hL0 hO0 hO1 hG0
 go_wp2_with fail
 go_loopg [6] U.length (fun k v6 wr => ∃ (V : List Int) (out : List Css.Tok) (v cv : Value) (op : Bool) (m : Nat) (xs : List Value), v6 = v ∧ V.length ≤ k ∧ out.length + V.length ≤ s.size ∧ m + V.length ≤ s.size ∧ Lx wr w.heap.size s V cv op ∧
   Hid (wr.ownsRow w.heap.size 62 6 v out.length (out.flatMap (tokC s))) ∧ Hid (wr.ownsRow w.heap.size 169 2 cv m xs) ∧ Hid (some w.heap.size ≠ cv.ownBlock) ∧ Hid (some w.heap.size ≠ v.ownBlock) ∧ Hid (w.grownBy wr none) ∧
   Hid (out ++ (Css.tokens V).1 = T.1 ∧ m + (Css.tokens V).2.1 = T.2.1 ∧ (op || (Css.tokens V).2.2) = T.2.2))
 case atStart =>
  have hw := HW.out
  exact ⟨U, [], _, _, false, 0, [], rfl, Nat.le_refl _, by simp; omega, by omega, H0.out.1, Lib.hid H0.out.2.1, Lib.hid H0.out.2.2.1, Lib.hid (by simp [Value.ownBlock]), Lib.hid (by simp [Value.ownBlock]), Lib.hid H0.out.2.2.2, by rw [HT.out]; exact ⟨rfl, Nat.zero_add _, Bool.false_or _⟩⟩
 case round =>
  clear H0 HT
  obtain ⟨V, out, v, cv, op, m, xs, e6, hk, hn, hm, h, HO, HC, Hgc, Hgv, HG, HN⟩ := hrel
  replace e6 := e6.symm
  subst e6
  have hbase := HG.out.size
  have hcc := com_count V
  go_wp2_with fail
  refine (c53 h (by omega) HC.out hbase Hgc.out hm).mono ?_
  rintro e w1 ⟨rfl, cv1, xs1, h1, hC1, hgc1, hK1⟩
  have HO1 := Lib.hid (own_kv HO.out hK1 Hgv.out (own_apart HO.out HC.out (by decide)))
  have HG1 := Lib.hid (kv_free HG.out hK1 (Nat.le_refl _) (own_base HC.out))
  have HC1 := Lib.hid hC1
  have Hgc1 := Lib.hid hgc1
  clear hK1 hC1 hgc1 HO HG HC Hgc h
  generalize hC : Css.comment V = C at h1 HC1 hcc
  have HCV := Lib.hid hC
  clear hC
  have hpos := h1.pos
  have hlast := next_lt' C.1
  go_wp2_with fail
  refine (c54 h1).mono ?_
  rintro e w2 ⟨rfl, h2, hK2⟩
  rw [tokC_val]
  generalize hNX : Css.next C.1 = NX at h2 hlast
  have HNX := Lib.hid hNX
  clear hNX
  cases y : (Css.pk 0 C.1 == -1) with
  | true =>
   obtain rfl : NX = (⟨0, 0, false, []⟩, C.1, false) := HNX.out.symm.trans (next_0 y)
   have ht := tok_end (V := V) (by rw [HCV.out]; simpa using y)
   have hq := HN.out
   rw [ht, HCV.out] at hq
   simp only [List.append_nil] at hq
   obtain ⟨A, c, hv⟩ := own_slice' HO1.out
   obtain ⟨A2, c2, hv2⟩ := own_slice' HC1.out
   subst hv
   subst hv2
   have HQ := Lib.hid hq
   have hL3 := h2.allocd (.cells #[.int .i64 0, .int .i64 0, .int .i64 0, .int .i64 0, .bool false, .string (str [])] 62)
   have hc2 := cell_blk hL3.blk (i := 2) rfl
   have hc3 := cell_blk hL3.blk (i := 3) rfl
   have HO3 := Lib.hid ((own_kp HO1.out hK2 Hgv.out).alloc (.cells #[.int .i64 0, .int .i64 0, .int .i64 0, .int .i64 0, .bool false, .string (str [])] 62))
   have HG3 := Lib.hid (grown_alloc (kp_free HG1.out hK2 (Nat.le_refl _)) (.cells #[.int .i64 0, .int .i64 0, .int .i64 0, .int .i64 0, .bool false, .string (str [])] 62))
   clear hL3 hK2 h2 h1 ht hq y
   go_wp2_with fail
   go_quiet (fail)
   go_wp2_with fail
   go_ret3
   exact ⟨A, c, A2, c2, by rw [← HQ.out.1, ← HQ.out.2.1, ← HQ.out.2.2]; rfl, grown_drewN HG3.out _, by rw [← HQ.out.1]; exact HO3.out⟩
  | false =>
   have hne : Css.pk 0 C.1 ≠ -1 := by simpa using y
   have ht := tok_go (V := V) (by rw [HCV.out]; exact hne)
   rw [HCV.out, HNX.out] at ht
   have hk0 := next_kind hne
   rw [HNX.out] at hk0
   have hk1 : (NX.1.kind == 0) = false := by simpa using hk0
   have hlt := Css.next_lt hne
   rw [HNX.out] at hlt
   have hq := HN.out
   rw [ht] at hq
   have HQ := Lib.hid hq
   have hL3 := h2.allocd (.cells #[.int .i64 NX.1.kind, .int .i64 0, .int .i64 0, .int .i64 NX.1.unit, .bool NX.1.id, .string (str NX.1.text)] 62)
   have hp3 := hL3.pos
   have hp4 := (h2.allocd (.cells #[.int .i64 NX.1.kind, .int .i64 ((s.size - Css.wd C.1 : Nat) : Int), .int .i64 0, .int .i64 NX.1.unit, .bool NX.1.id, .string (str NX.1.text)] 62)).pos
   have HO2 := Lib.hid (own_kp HO1.out hK2 Hgv.out)
   have HC2 := Lib.hid (own_kp HC1.out hK2 Hgc1.out)
   have HG2 := Lib.hid (kp_free HG1.out hK2 (Nat.le_refl _))
   have H2 := Lib.hid h2
   clear hL3 hK2 h2 h1 HO1 HC1 HG1 hq ht hk0 hne y
   go_wp2_with fail
   have HB : Hid (∀ o1 o2, w.grownBy ((w2.alloc o1).alloc o2).drew none ∧ ((w2.alloc o1).alloc o2).drew.ownsRow w.heap.size 62 6 v out.length (out.flatMap (tokC s)) ∧ w.heap.size < ((w2.alloc o1).alloc o2).drew.heap.size ∧ ((w2.alloc o1).alloc o2).drew.ownsRow w.heap.size 169 2 cv1 (m + C.2.1) xs1 ∧
     Lx ((w2.alloc o1).alloc o2).drew w.heap.size s NX.2.1 cv1 (op || C.2.2 || NX.2.2) ∧ ((w2.alloc o1).alloc o2).drew.heap[w2.heap.size + 1]? = some o2) := Lib.hid fun o1 o2 =>
    ⟨grown_drew (grown_alloc (grown_alloc HG2.out _) _), (HO2.out.alloc _).alloc _, by have := lt_of_block H2.out.blk; simp [World.drew]; omega, (HC2.out.alloc _).alloc _, ((H2.out.allocd _).allocd _).grown rfl, new_blk' (by simp)⟩
   have hmt := HQ.out
   have h63 : out.length + 1 ≤ maxLen := by unfold maxLen; omega
   have h47 : (out.length + 1) * 56 ≤ 140737488355328 := by omega
   have h06 : 0 < 6 := by omega
   clear hmt
   go_region
   all_goals
    go_wp2_with ((at_builtin; refine wpList_append_src rfl w.heap.size (.tmp 39) (.tmp 41) 96 96 62 i0 z0 6 56 rfl Tryz.underlying96 HI.out.1 HI.out.2.1 HI.out.2.2.1 HI.out.2.2.2.1 HI.out.2.2.2.2 h06 v out.length (out.flatMap (tokC s)) rfl _ 1 (tokC s ⟨NX.1, C.1, NX.2.1⟩) rfl (Src.block Tryz.underlying96 _ (tokC s ⟨NX.1, C.1, NX.2.1⟩) 62 (HB.out _ _).2.2.2.2.2 rfl (tokC_one _ _)) (HB.out _ _).2.1 (Nat.le_of_lt (HB.out _ _).2.2.1) h63 h47 ?_; intro v1 w3 hown hgr hat; have HG4 := Lib.hid (grown_own (base := w.heap.size) (HB.out _ _).1 hgr (own_base HO2.out)); have HO4 := Lib.hid hown; have HC4 := Lib.hid ((HB.out _ _).2.2.2.1.kept hgr (own_apart HC2.out HO2.out (by decide))); have HL4 := Lib.hid ((HB.out _ _).2.2.2.2.1.grown (hgr.block w.heap.size (lt_of_block (HB.out _ _).2.2.2.2.1.blk) Hgv.out)); have Hgv4 := Lib.hid (own_ne Hgv.out hat (HB.out _ _).2.2.1); clear hown hgr hat))
    go_roundg NX.2.1.length
    case measure => omega
    case rel =>
     refine ⟨NX.2.1, out ++ [⟨NX.1, C.1, NX.2.1⟩], _, cv1, _, m + C.2.1, xs1, rfl, Nat.le_refl _, by simp; omega, by omega, HL4.out, ?_, HC4, Hgc1, Hgv4, HG4, ?_⟩
     ·have := HO4.out
      rw [List.length_append, List.flatMap_append, List.flatMap_cons, List.flatMap_nil, List.append_nil]
      exact this
     ·have hq := HQ.out
      refine ⟨?_, ?_, ?_⟩
      ·rw [← hq.1, List.append_assoc]; rfl
      ·rw [← hq.2.1, Nat.add_assoc]
      ·rw [← hq.2.2]; simp [Bool.or_assoc]
end Go.Proofs.YtkfdcbdlcipmfaaGreatFmt
/- What the reference answers of a text that is one token; what a name means. The text has at most 2^31 bytes. -/
namespace Go.Proofs.YtkfdcbdlcipmfaaGreatFmt
open Go.RowKit
set_option maxRecDepth 100000 in
set_option maxHeartbeats 400000 in
theorem c35 (s : ByteArray) (w : World) (hs : s.size ≤ 2147483648) :
  Calls Tryz.prog 35 #[.string s] w fun e w' => e = .returned (.string (str (Css.name (Css.codes s.data.toList)).1)) ∧ w.grownBy w' none := by
 have h := Lx.start w (s := s) rfl (by omega)
 have hG0 := grown_alloc (grown_refl w none) (.cells #[.string s, .int .i64 0, .slice none 0 0, .bool false] 146)
 generalize hU : Css.codes s.data.toList = U at h ⊢
 have HU := Lib.hid hU
 clear hU
 go_enter Tryz.func35, Tryz.ntmps35
 go_wp2_with fail
 refine (c47 h).mono ?_
 rintro e w1 ⟨rfl, h1, hK1⟩
 have HG := Lib.hid (kp_free hG0 hK1 (Nat.le_refl _))
 clear h h1 hK1 hG0
 go_wp2_with fail
 go_ret
 exact ⟨rfl, HG.out⟩
theorem own_first {w : World} {base n c : Nat} {e : TypeId} {size : Nat} {A : Option Addr} {xs : List Value} (h : w.ownsRow base e size (.slice A n c) n xs) (hn : 0 < n) (hs : 0 < size) :
  ∃ g, A = some ⟨g, 0, none⟩ ∧ ∀ j, j < n * size → w.cell? ⟨g, j, none⟩ = xs[j]? := by
 obtain ⟨g, cap, hv, _, _⟩ := h.form hn
 have hA : A = some ⟨g, 0, none⟩ := by injection hv
 subst hA
 exact ⟨g, rfl, fun j hj => h.cellAt j hj⟩
def loneB (s : ByteArray) (k : Int) : Bool := Css.lone s.data.toList k
theorem lone_no {s : ByteArray} {k : Int} (h : Css.plain s.data.toList = false ∨ (Css.tokens (Css.codes s.data.toList)).2.2 = true ∨ (Css.tokens (Css.codes s.data.toList)).2.1 ≠ 0 ∨ (Css.tokens (Css.codes s.data.toList)).1.length ≠ 1) : loneB s k = false := by
 unfold loneB Css.lone
 dsimp only
 rcases h with h | h | h | h
 ·rw [h]; rfl
 ·rw [h]; simp
 ·have : ((Css.tokens (Css.codes s.data.toList)).2.1 == 0) = false := by simpa using h
  rw [this]; simp
 ·split
  ·rename_i t e; rw [e] at h; exact absurd rfl h
  ·simp
theorem lone_yes {s : ByteArray} {k : Int} {t : Css.Tok} (h1 : Css.plain s.data.toList = true) (h2 : (Css.tokens (Css.codes s.data.toList)).2.2 = false) (h3 : (Css.tokens (Css.codes s.data.toList)).2.1 = 0) (h4 : (Css.tokens (Css.codes s.data.toList)).1 = [t]) : loneB s k = (t.tk.kind == k) := by
 unfold loneB Css.lone
 dsimp only
 rw [h1, h2, h3, h4]
 simp
set_option maxRecDepth 100000 in
set_option maxHeartbeats 1000000 in
theorem c49 (s : ByteArray) (k : Int) (w : World) (hs : s.size ≤ 2147483648) :
  Calls Tryz.prog 49 #[.string s, .int .i64 k] w fun e w' => e = .returned (.bool (loneB s k)) ∧ w.grownBy w' none := by
 have hno := lone_no (s := s) (k := k)
 have hyes := fun t => lone_yes (s := s) (k := k) (t := t)
 have H44 := Lib.hid (c44 s w hs)
 generalize hR : loneB s k = R at hno hyes
 clear hR
 generalize hT : Css.tokens (Css.codes s.data.toList) = T at hno hyes H44
 obtain ⟨l, nc, op⟩ := T
 clear hT
 have HN := Lib.hid hno
 have HY := Lib.hid hyes
 clear hno hyes
 have hc43 := fun w => c43 s w (by omega)
 have H43 := Lib.hid hc43
 clear hc43
 cases hp : Css.plain s.data.toList with
 | false =>
  have HE := Lib.hid (HN.out (.inl hp))
  go_enter Tryz.func49, Tryz.ntmps49
  go_wp2_with fail
  refine H44.out.mono ?_
  rintro e w1 ⟨A, c, A2, c2, rfl, hG, hO⟩
  go_wp2_with fail
  refine (H43.out _).mono ?_
  rintro e w' ⟨rfl, rfl⟩
  rw [hp]
  go_wp2_with fail
  go_ret
  exact ⟨by rw [HE.out]; rfl, hG⟩
 | true =>
  cases op with
  | true =>
   have HE := Lib.hid (HN.out (.inr (.inl rfl)))
   go_enter Tryz.func49, Tryz.ntmps49
   go_wp2_with fail
   refine H44.out.mono ?_
   rintro e w1 ⟨A, c, A2, c2, rfl, hG, hO⟩
   go_wp2_with fail
   refine (H43.out _).mono ?_
   rintro e w' ⟨rfl, rfl⟩
   rw [hp]
   go_wp2_with fail
   go_ret
   exact ⟨by rw [HE.out]; rfl, hG⟩
  | false =>
   by_cases h0 : nc = 0
   ·subst h0
    by_cases h1 : l.length = 1
    ·match l, h1 with
     | [t], _ =>
      have HE := Lib.hid (HY.out t hp rfl rfl rfl)
      cases hk : (t.tk.kind == k) with
      | true =>
       go_enter Tryz.func49, Tryz.ntmps49
       go_wp2_with fail
       refine H44.out.mono ?_
       rintro e w1 ⟨A, c, A2, c2, rfl, hG, hO⟩
       obtain ⟨g, rfl, hcell⟩ := own_first hO (by simp) (by omega)
       have hc0 : w1.cell? ⟨g, 0, none⟩ = some (.int .i64 t.tk.kind) := hcell 0 (by simp)
       clear hcell
       go_wp2_with fail
       refine (H43.out _).mono ?_
       rintro e w' ⟨rfl, rfl⟩
       rw [hp]
       go_wp2_with fail
       go_ret
       exact ⟨by rw [HE.out, hk]; rfl, hG⟩
      | false =>
       go_enter Tryz.func49, Tryz.ntmps49
       go_wp2_with fail
       refine H44.out.mono ?_
       rintro e w1 ⟨A, c, A2, c2, rfl, hG, hO⟩
       obtain ⟨g, rfl, hcell⟩ := own_first hO (by simp) (by omega)
       have hc0 : w1.cell? ⟨g, 0, none⟩ = some (.int .i64 t.tk.kind) := hcell 0 (by simp)
       clear hcell
       go_wp2_with fail
       refine (H43.out _).mono ?_
       rintro e w' ⟨rfl, rfl⟩
       rw [hp]
       go_wp2_with fail
       go_ret
       exact ⟨by rw [HE.out, hk]; rfl, hG⟩
    ·have HE := Lib.hid (HN.out (.inr (.inr (.inr h1))))
     have h1' : ((l.length : Int) == 1) = false := by simp; omega
     clear h1
     go_enter Tryz.func49, Tryz.ntmps49
     go_wp2_with fail
     refine H44.out.mono ?_
     rintro e w1 ⟨A, c, A2, c2, rfl, hG, hO⟩
     go_wp2_with fail
     refine (H43.out _).mono ?_
     rintro e w' ⟨rfl, rfl⟩
     rw [hp]
     go_wp2_with fail
     go_ret
     exact ⟨by rw [HE.out]; rfl, hG⟩
   ·have HE := Lib.hid (HN.out (.inr (.inr (.inl h0))))
    have h0' : ((nc : Int) == 0) = false := by simp; omega
    clear h0
    go_enter Tryz.func49, Tryz.ntmps49
    go_wp2_with fail
    refine H44.out.mono ?_
    rintro e w1 ⟨A, c, A2, c2, rfl, hG, hO⟩
    go_wp2_with fail
    refine (H43.out _).mono ?_
    rintro e w' ⟨rfl, rfl⟩
    rw [hp]
    go_wp2_with fail
    go_ret
    exact ⟨by rw [HE.out]; rfl, hG⟩
end Go.Proofs.YtkfdcbdlcipmfaaGreatFmt
