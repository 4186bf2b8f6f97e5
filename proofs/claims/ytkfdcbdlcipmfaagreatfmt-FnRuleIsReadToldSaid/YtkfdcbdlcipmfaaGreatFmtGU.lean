/- printWithEscape. -/
import Derived.Test.YtkfdcbdlcipmfaaGreatFmtProg
import Derived.WalkKit
import Derived.WalkLawsBesides
import Derived.WalkSpells
import Derived.BigQuiet
import Derived.Deep.QuietTactic
import Derived.Outline
import Derived.Laws.BitsLemmas
import Derived.Lib.Hide
import Derived.OneCell
import Derived.Deep.Draws
import Derived.Deep.LoopGhost
import Derived.Laws.BytesArg
import Derived.Laws.ResultCell
import Derived.Deep.DeepCutAuto
import Derived.Deep.CutBlock
import Derived.Deep.RegionLaw
import Derived.Maps.AppendAt
import Derived.Deep.AppendLies
import Derived.KernelRfl
import Derived.Laws.OwnMore
import Derived.Deep.RegionHeld3
import Derived.Lib.TrimUEq
import Derived.Laws.RangeAny
import Derived.Shelf.Spec.EncodeRune
import Derived.Stop.CallBack
import Derived.Stop.IfaceNil
import Derived.Stop.FmtTextLaws
import GoSem.ClaimData
import Derived.Stop.FmtTextWidths
import Derived.Stop.FmtTextBases
import Derived.Stop.Told
import Derived.Laws.IdiomCopy
import Derived.Stop.Texts
import Derived.StillTailTactics
import Derived.Deep.AppendSrc
import Derived.Maps.OwnOps
import Derived.Maps.Views
import Derived.Test.YtkfdcbdlcipmfaaGreatFmtGR
import Derived.Test.YtkfdcbdlcipmfaaGreatFmtGS
import Derived.Test.YtkfdcbdlcipmfaaGreatFmtGT
import Derived.Test.YtkfdcbdlcipmfaaGreatFmtGA
set_option linter.unusedVariables false
set_option linter.unusedSimpArgs false
namespace Go.Proofs.YtkfdcbdlcipmfaaGreatFmt
open Go.RowKit Go.Extern.Stop Go.Stop Go.Extern
theorem Kv.after {a b c : World} {g : Nat} {v v' : Value} (h : a.grownBy b none) (k : Kv b c g v v') : Kv a c g v v' := by
 refine ⟨k.os.trans h.os, k.tape.trans h.tape, k.output.trans h.output, Nat.le_trans h.size k.size, fun j hj hg hv => (k.block j (Nat.lt_of_lt_of_le hj h.size) hg hv).trans (h.block j hj (by simp)), ?_⟩
 rcases k.own with e | ⟨x, e, hx⟩
 ·exact .inl e
 ·exact .inr ⟨x, e, Nat.le_trans h.size hx⟩
set_option maxRecDepth 100000 in
set_option maxHeartbeats 2000000 in
theorem c103_none {w : World} {base g : Nat} {ws asc : Bool} {v : Value} {T : List UInt8} (h : Px w base g ws asc v T) (c : Int) (hc : Css.Valid c) (rest : ByteArray) (need : Bool) (hs : T.length + 4 ≤ 35184372088832) :
  Calls Tryz.prog 103 #[.pointer (some ⟨g, 0, none⟩), .int .i32 c, .int .u8 0, .string rest, .bool need] w fun e w' => e = .returned (.tuple #[]) ∧ ∃ v', Px w' base g ws asc v' (T ++ Css.enc1 c) ∧ Kv w w' g v v' := by
 have H133 := Lib.hid fun W b cs t hb h4 => c133 c hc W b cs t hb h4
 obtain ⟨i0, z0, hi0, hz0, hz1, hz2, hz3⟩ := info5
 have HI := Lib.hid (And.intro hi0 (And.intro hz0 (And.intro hz1 (And.intro hz2 hz3))))
 have hel := Css.enc1_length c
 have hw1 := Css.width_pos c
 have hw4 := enc1_le c
 have hg := grown_setCells (Nat.le_refl w.heap.size) (bc (Css.enc1 c)) 0 (w.alloc (.cells #[.int .u8 0, .int .u8 0, .int .u8 0, .int .u8 0] 340 (0, 0))) (grown_alloc (grown_refl w none) _)
 have hby := laid_bytes w c hw4 #[.int .u8 0, .int .u8 0, .int .u8 0, .int .u8 0] 340 rfl
 have hP := h.free hg
 have HW : Hid (∀ w1, w1 = (w.alloc (.cells #[.int .u8 0, .int .u8 0, .int .u8 0, .int .u8 0] 340 (0, 0))).setCells w.heap.size 0 (bc (Css.enc1 c)) → w.grownBy w1 none ∧ Px w1.drew base g ws asc v T ∧ Px w1 base g ws asc v T ∧ ∀ j u, (bc (Css.enc1 c))[j]? = some u → w1.drew.cell? ((⟨w.heap.size, 0, none⟩ : Addr).add j) = some u) := Lib.hid fun w1 e => by
  subst e
  exact ⟨hg, hP.free (grown_drew (grown_refl _ none)), hP, fun j u hj => hby j u hj⟩
 have h63 : T.length + Css.width c ≤ maxLen := by unfold maxLen; omega
 have h47 : (T.length + Css.width c) * 1 ≤ 140737488355328 := by omega
 have h01 : 0 < 1 := by omega
 have hwi : (Css.width c : Int) ≤ 4 := by omega
 have hb0 := new_blk w (.cells #[.int .u8 0, .int .u8 0, .int .u8 0, .int .u8 0] 340 (0, 0))
 have HB0 := Lib.hid hb0
 clear hi0 hz0 hz1 hz2 hz3 hg hby hP hb0 h
 go_enter Tryz.func103, Tryz.ntmps103
 go_wp2_with fail
 refine (H133.out _ _ _ _ HB0.out rfl).mono ?_
 rintro e w1 ⟨rfl, hw1e⟩
 obtain ⟨hgr1, hP1, hP0, hby⟩ := HW.out w1 hw1e
 obtain ⟨_, _, _, _, c15⟩ := hP0.cells
 have HG1 := Lib.hid (And.intro hgr1 (And.intro hP1 hby))
 clear HW hw1e HB0 hgr1 hP1 hP0 hby
 go_wp2_with fail
 have hcl : (bc (Css.enc1 c)).length = Css.width c * 1 := by rw [bc_length, hel, Nat.mul_one]
 have HS := Lib.hid (Src.ofSlice (P := Tryz.prog) w1.drew Tryz.underlying117 ⟨w.heap.size, 0, none⟩ (Css.width c) 4 (bc (Css.enc1 c)) hcl HG1.out.2.2 (bc_one _))
 go_region_law (refine step_append_src rfl base (.tmp 51) (.tmp 53) 117 117 5 i0 z0 1 1 rfl Tryz.underlying117 HI.out.1 HI.out.2.1 HI.out.2.2.1 HI.out.2.2.2.1 HI.out.2.2.2.2 h01 v T.length (bc T) (by simp [Act.eval, Act.put]) _ (Css.width c) (bc (Css.enc1 c)) (by simp [Act.eval, Act.put]) HS.out HG1.out.2.1.own HG1.out.2.1.base h63 h47 ?_; intro v1 w4 hown hgr hat; rw [← hel] at hown; obtain ⟨hfz, ⟨u, hcu⟩, hPx, hKv⟩ := HG1.out.2.1.grew hown hgr hat; obtain ⟨A1, m1, k1, hv1⟩ := own_any hown; subst hv1; have HR := Lib.hid (And.intro hPx hKv); clear hown hgr hat hPx hKv)
 go_wp2_with fail
 go_end0
 exact ⟨rfl, _, HR.out.1, Kv.after (grown_drew HG1.out.1) HR.out.2⟩
end Go.Proofs.YtkfdcbdlcipmfaaGreatFmt
/- printWithEscape, with a reverse slash. -/
namespace Go.Proofs.YtkfdcbdlcipmfaaGreatFmt
open Go.RowKit Go.Extern.Stop Go.Stop Go.Extern
theorem laid_bytes' {W : World} {b : Nat} {cs : Array Value} {t : TypeId} (hb : W.heap[b]? = some (.cells cs t (0, 0))) (h4 : cs.size = 4) (c : Int) (hl : (Css.enc1 c).length ≤ 4) :
  ∀ j u, (bc (Css.enc1 c))[j]? = some u → (W.setCells b 0 (bc (Css.enc1 c))).cell? ((⟨b, 0, none⟩ : Addr).add j) = some u := by
 intro j u hj
 have hlt : j < (bc (Css.enc1 c)).length := by
  by_cases h : j < (bc (Css.enc1 c)).length
  ·exact h
  ·rw [List.getElem?_eq_none (by omega)] at hj; cases hj
 have hin := World.cell?_setCells_in b (bc (Css.enc1 c)) 0 W (fun k hk => by
  rw [bc_length] at hk
  rw [Nat.zero_add, cell_blk hb (i := k) (Array.getElem?_eq_getElem (by omega))]
  rfl) j hlt
 rw [List.getElem?_eq_getElem hlt] at hj
 rw [← hj]
 rcases Nat.eq_zero_or_pos j with h0 | h0
 ·subst h0; simpa [Addr.add] using hin
 ·simpa [Addr.add, Nat.ne_of_gt h0] using hin
theorem row_setCells {b : Nat} : ∀ (vs : List Value) (o : Nat) (w0 w : World), w0.grownBy w (some b) → w0.grownBy (w.setCells b o vs) (some b)
 | [], _, _, _, h => h
 | v :: r, o, w0, w, h => row_setCells r (o + 1) w0 (w.setCell ⟨b, o, none⟩ v) (grown_setCell h o v)
theorem Kv.row {a b c : World} {g k : Nat} {v v' : Value} (h : Kv a b g v v') (hr : b.grownBy c (some k)) (hk : a.heap.size ≤ k) : Kv a c g v v' :=
 ⟨hr.os.trans h.os, hr.tape.trans h.tape, hr.output.trans h.output, Nat.le_trans h.size hr.size, fun j hj hg hv => (hr.block j (Nat.lt_of_lt_of_le hj h.size) (by simp; omega)).trans (h.block j hj hg hv), by
  rcases h.own with e | ⟨x, e, hx⟩
  ·exact .inl e
  ·exact .inr ⟨x, e, hx⟩⟩
theorem Kv.free {a b c : World} {g : Nat} {v v' : Value} (h : Kv a b g v v') (hr : b.grownBy c none) : Kv a c g v v' :=
 ⟨hr.os.trans h.os, hr.tape.trans h.tape, hr.output.trans h.output, Nat.le_trans h.size hr.size, fun j hj hg hv => (hr.block j (Nat.lt_of_lt_of_le hj h.size) (by simp)).trans (h.block j hj hg hv), h.own⟩
section
variable {w w' : World} {base g : Nat} {ws asc : Bool} {v : Value} {T : List UInt8}
theorem Px.ne (h : Px w base g ws asc v T) {b : Nat} {cs : Array Value} {t : TypeId} (hb : w.heap[b]? = some (.cells cs t (0, 0))) (ht : t ≠ 5) : v.ownBlock = none ∨ v.ownBlock ≠ some b := by
 rcases h.own.2 with ⟨rfl, _⟩ | ⟨g1, c1, cur1, rfl, _, hh1, _⟩
 ·left; simp [Value.ownBlock]
 ·right
  intro e
  have e : g1 = b := by simpa [Value.ownBlock] using e
  subst e
  rw [hh1] at hb
  simp only [Option.some.injEq, Obj.cells.injEq] at hb
  exact ht hb.2.1.symm
theorem Px.row (h : Px w base g ws asc v T) {b : Nat} {cs : Array Value} {t : TypeId} (hb : w.heap[b]? = some (.cells cs t (0, 0))) (hbg : b ≠ g) (ht : t ≠ 5) (hr : w.grownBy w' (some b)) : Px w' base g ws asc v T := by
 obtain ⟨C, hc, hp⟩ := h.blk
 exact ⟨⟨C, (hr.block g (lt_of_block hc) (by simp; omega)).trans hc, hp⟩, h.own.kept hr (h.ne hb ht), h.lt, Nat.le_trans h.base hr.size⟩
end
set_option maxRecDepth 100000 in
set_option maxHeartbeats 2000000 in
theorem c103_back {w : World} {base g : Nat} {ws asc : Bool} {v : Value} {T : List UInt8} (h : Px w base g ws asc v T) (c : Int) (hc : Css.Valid c) (hx : Css.isHexC c = false) (rest : ByteArray) (need : Bool) (hs : T.length + 5 ≤ 35184372088832) :
  Calls Tryz.prog 103 #[.pointer (some ⟨g, 0, none⟩), .int .i32 c, .int .u8 1, .string rest, .bool need] w fun e w' => e = .returned (.tuple #[]) ∧ ∃ v', Px w' base g ws asc v' (T ++ 92 :: Css.enc1 c) ∧ Kv w w' g v v' := by
 have H133 := Lib.hid fun W b cs t hb h4 => c133 c hc W b cs t hb h4
 obtain ⟨i0, z0, hi0, hz0, hz1, hz2, hz3⟩ := info5
 have HI := Lib.hid (And.intro hi0 (And.intro hz0 (And.intro hz1 (And.intro hz2 hz3))))
 have hel := Css.enc1_length c
 have hw1 := Css.width_pos c
 have hw4 := enc1_le c
 have h63 : T.length + 1 ≤ maxLen := by unfold maxLen; omega
 have h47 : (T.length + 1) * 1 ≤ 140737488355328 := by omega
 have h63' : (T ++ [92]).length + Css.width c ≤ maxLen := by unfold maxLen; rw [List.length_append]; simp; omega
 have h47' : ((T ++ [92]).length + Css.width c) * 1 ≤ 140737488355328 := by rw [List.length_append]; simp; omega
 have h01 : 0 < 1 := by omega
 have hwi : (Css.width c : Int) ≤ 4 := by omega
 have HA : Hid (∀ wa, wa = w.alloc (.cells #[.int .u8 0, .int .u8 0, .int .u8 0, .int .u8 0] 340 (0, 0)) → Px wa base g ws asc v T ∧ w.grownBy wa none ∧ wa.heap[w.heap.size]? = some (.cells #[.int .u8 0, .int .u8 0, .int .u8 0, .int .u8 0] 340 (0, 0))) := Lib.hid fun wa e => by subst e; exact ⟨h.alloc _, grown_alloc (grown_refl w none) _, new_blk w _⟩
 have hgb : w.heap.size ≠ g := by have := h.lt; have := h.base; omega
 have HX := Lib.hid hx
 have HE := Lib.hid hel
 clear hi0 hz0 hz1 hz2 hz3 h hx hw4 hw1 hel hs
 go_enter Tryz.func103, Tryz.ntmps103
 go_upto_region 1 with (fail)
 generalize hwa : w.alloc (.cells #[.int .u8 0, .int .u8 0, .int .u8 0, .int .u8 0] 340 (0, 0)) = wa
 obtain ⟨hPa, hGa, hBa⟩ := HA.out wa hwa.symm
 have HQ := Lib.hid (And.intro hPa (And.intro hGa hBa))
 clear HA hwa hPa hGa hBa
 go_cut [40] (fun v40 wc => v40 = .bool false ∧ wa = wc)
 case first =>
  have hx := HX.out
  simp only [Css.isHexC, Bool.or_eq_false_iff, Bool.and_eq_false_iff, decide_eq_false_iff_not] at hx
  by_cases a1 : 48 ≤ c <;> by_cases a2 : c ≤ 57 <;> by_cases a3 : 97 ≤ c <;> by_cases a4 : c ≤ 102 <;> by_cases a5 : 65 ≤ c <;> by_cases a6 : c ≤ 70
  all_goals first
   | (exfalso; omega)
   | skip
  all_goals
   clear hx
   go_wp2_with fail
   go_meet
   exact ⟨rfl, rfl⟩
 case rest =>
  obtain ⟨rfl, rfl⟩ := hcut
  obtain ⟨_, _, _, _, c15⟩ := HQ.out.1.cells
  go_wp2_with ((at_builtin; refine wpList_append_src rfl base (.tmp 63) (.tmp 64) 117 117 5 i0 z0 1 1 rfl Tryz.underlying117 HI.out.1 HI.out.2.1 HI.out.2.2.1 HI.out.2.2.2.1 HI.out.2.2.2.2 h01 v T.length (bc T) rfl _ 1 (bc [92]) rfl (Src.block Tryz.underlying117 _ (bc [92]) 5 (new_blk' rfl) rfl (bc_one _)) (HQ.out.1.alloc _).own (HQ.out.1.alloc _).base h63 h47 ?_; intro v1 w4 hown hgr hat; obtain ⟨hfz, ⟨u, hcu⟩, hPx, hKv⟩ := (HQ.out.1.alloc _).grew (t := [92]) hown hgr hat; obtain ⟨A1, m1, k1, hv1⟩ := own_any hown; subst hv1; have HR := Lib.hid (And.intro hPx (And.intro (Kv.after (grown_alloc (grown_refl wa none) _) hKv) ((HQ.out.1.alloc _).keep hKv (free_keep (grown_alloc (grown_refl wa none) _) HQ.out.2.2) hgb (by decide)))); clear hown hgr hat hPx hKv))
  clear hfz hcu c15
  generalize w4.setCell ⟨g, 15, none⟩ (Value.slice A1 m1 k1) = W at HR ⊢
  refine (H133.out _ _ _ _ HR.out.2.2 rfl).mono ?_
  rintro e w5 ⟨rfl, hw5⟩
  have hr5 : W.grownBy w5 (some w.heap.size) := by rw [hw5]; exact row_setCells _ _ _ _ (grown_refl _ _)
  have hP5 := HR.out.1.row HR.out.2.2 hgb (by decide) hr5
  have HG := Lib.hid (And.intro hP5 (And.intro (hP5.free (grown_drew (grown_refl w5 none))) (And.intro ((Kv.row (Kv.after HQ.out.2.1 HR.out.2.1) hr5 (Nat.le_refl _)).free (grown_drew (grown_refl w5 none))) (fun j u hj => by
   have := laid_bytes' HR.out.2.2 rfl c (enc1_le c) j u hj
   rw [← hw5] at this
   exact this : ∀ j u, (bc (Css.enc1 c))[j]? = some u → w5.drew.cell? ((⟨w.heap.size, 0, none⟩ : Addr).add j) = some u))))
  obtain ⟨_, _, _, _, c15⟩ := hP5.cells
  clear HR HQ hw5 hr5 hP5
  go_wp2_with fail
  have hcl : (bc (Css.enc1 c)).length = Css.width c * 1 := by rw [bc_length, HE.out, Nat.mul_one]
  have HS := Lib.hid (Src.ofSlice (P := Tryz.prog) w5.drew Tryz.underlying117 ⟨w.heap.size, 0, none⟩ (Css.width c) 4 (bc (Css.enc1 c)) hcl HG.out.2.2.2 (bc_one _))
  clear hcl
  go_region_law (refine step_append_src rfl base (.tmp 75) (.tmp 77) 117 117 5 i0 z0 1 1 rfl Tryz.underlying117 HI.out.1 HI.out.2.1 HI.out.2.2.1 HI.out.2.2.2.1 HI.out.2.2.2.2 h01 (.slice A1 m1 k1) (T ++ [92]).length (bc (T ++ [92])) (by simp [Act.eval, Act.put]) _ (Css.width c) (bc (Css.enc1 c)) (by simp [Act.eval, Act.put]) HS.out HG.out.2.1.own HG.out.2.1.base h63' h47' ?_; intro v2 w6 hown hgr hat; rw [← HE.out] at hown; obtain ⟨hfz, ⟨u, hcu⟩, hPx, hKv⟩ := HG.out.2.1.grew hown hgr hat; obtain ⟨A2, m2, k2, hv2⟩ := own_any hown; subst hv2; have HR := Lib.hid (And.intro hPx hKv); clear hown hgr hat hPx hKv)
  go_wp2_with fail
  go_end0
  exact ⟨rfl, _, by have := HR.out.1; rwa [List.append_assoc, List.singleton_append] at this, HG.out.2.2.1.trans HR.out.2⟩
end Go.Proofs.YtkfdcbdlcipmfaaGreatFmt
/- printWithEscape, in hexadecimal. -/
namespace Go.Proofs.YtkfdcbdlcipmfaaGreatFmt
open Go.RowKit Go.Extern.Stop Go.Stop Go.Extern
theorem hexStr_six : ∀ (k n : Nat), n < 16 ^ (k + 1) → (Css.hexStr n).length ≤ k + 1
 | 0, n, h => by
  rw [Css.hexStr, dif_pos (by simpa using h)]
  simp
 | k + 1, n, h => by
  rw [Css.hexStr]
  split
  ·simp
  ·have := hexStr_six k (n / 16) (by rw [Nat.pow_succ] at h; omega)
   simp
   omega
theorem hexWays (b : Int) : (¬ 48 ≤ b ∧ b ≤ 57 ∧ ¬ 97 ≤ b ∧ b ≤ 102 ∧ ¬ 65 ≤ b ∧ b ≤ 70) ∨ (48 ≤ b ∧ b ≤ 57 ∧ ¬ 97 ≤ b ∧ b ≤ 102 ∧ ¬ 65 ≤ b ∧ b ≤ 70) ∨ (48 ≤ b ∧ ¬ b ≤ 57 ∧ ¬ 97 ≤ b ∧ b ≤ 102 ∧ ¬ 65 ≤ b ∧ b ≤ 70) ∨
  (48 ≤ b ∧ ¬ b ≤ 57 ∧ ¬ 97 ≤ b ∧ b ≤ 102 ∧ 65 ≤ b ∧ b ≤ 70) ∨ (48 ≤ b ∧ ¬ b ≤ 57 ∧ ¬ 97 ≤ b ∧ b ≤ 102 ∧ 65 ≤ b ∧ ¬ b ≤ 70) ∨ (48 ≤ b ∧ ¬ b ≤ 57 ∧ 97 ≤ b ∧ b ≤ 102 ∧ 65 ≤ b ∧ ¬ b ≤ 70) ∨ (48 ≤ b ∧ ¬ b ≤ 57 ∧ 97 ≤ b ∧ ¬ b ≤ 102 ∧ 65 ≤ b ∧ ¬ b ≤ 70) := by omega
theorem bt_of {s : ByteArray} {k : Nat} {b : UInt8} {r : List UInt8} (h : s.data.toList.drop k = b :: r) : k < s.size ∧ bt s k = b.toNat := by
 have hl : k < s.size := by
  rcases Nat.lt_or_ge k s.size with h' | h'
  ·exact h'
  ·rw [List.drop_eq_nil_of_le (by rw [bytes_len]; exact h')] at h; cases h
 refine ⟨hl, ?_⟩
 have e := sfx_cons s k hl
 rw [show sfx s k = b :: r from h] at e
 simp only [List.cons.injEq] at e
 unfold bt
 rw [dif_pos hl, e.1]
theorem enc1_first {d : Int} (h : Css.Valid d) : ∃ b r, Css.enc1 d = b :: r ∧ ((d < 128 ∧ (b.toNat : Int) = d) ∨ (128 ≤ d ∧ 192 ≤ b.toNat)) := by
 obtain ⟨h0, h1, h2⟩ := h
 unfold Css.enc1
 by_cases a1 : d < 128
 ·rw [if_pos a1]
  exact ⟨_, _, rfl, .inl ⟨a1, by rw [Css.byte_toNat (by omega) (by omega)]; omega⟩⟩
 by_cases a2 : d < 2048
 ·rw [if_neg a1, if_pos a2]
  exact ⟨_, _, rfl, .inr ⟨by omega, by rw [Css.byte_toNat (by omega) (by omega)]; omega⟩⟩
 by_cases a3 : d < 65536
 ·rw [if_neg a1, if_neg a2, if_pos a3]
  exact ⟨_, _, rfl, .inr ⟨by omega, by rw [Css.byte_toNat (by omega) (by omega)]; omega⟩⟩
 ·rw [if_neg a1, if_neg a2, if_neg a3]
  exact ⟨_, _, rfl, .inr ⟨by omega, by rw [Css.byte_toNat (by omega) (by omega)]; omega⟩⟩
def gapC (d : Int) : Bool := d == 32 || d == 9 || Css.isHexC d
theorem gapC_big {d : Int} (h : 128 ≤ d) : gapC d = false := by
 simp only [gapC, Css.isHexC, Bool.or_eq_false_iff, beq_eq_false_iff_ne, Bool.and_eq_false_iff, decide_eq_false_iff_not]
 omega
theorem next_byte {s : ByteArray} {c d : Int} {V : List Int} (hr : s.data.toList = Css.enc1 c ++ Css.enc (d :: V)) (hd : Css.Valid d) : Css.width c < s.size ∧ gapC (bt s (Css.width c)) = gapC d := by
 obtain ⟨b, r, he, hb⟩ := enc1_first hd
 have hdrop : s.data.toList.drop (Css.width c) = b :: (r ++ Css.enc V) := by
  rw [hr, ← Css.enc1_length c, List.drop_left]
  have : Css.enc (d :: V) = Css.enc1 d ++ Css.enc V := by simp [Css.enc]
  rw [this, he]
  rfl
 obtain ⟨h1, h2⟩ := bt_of hdrop
 refine ⟨h1, ?_⟩
 rw [h2]
 rcases hb with ⟨_, e⟩ | ⟨e1, e2⟩
 ·rw [e]
 ·rw [gapC_big e1, gapC_big (by omega)]
theorem last_byte {s : ByteArray} {c : Int} (hr : s.data.toList = Css.enc1 c ++ Css.enc []) : s.size = Css.width c := by
 rw [← bytes_len, hr, List.length_append, Css.enc1_length]
 rfl
theorem enc_hex (n : Nat) : Css.enc (92 :: Css.hexStr n) = (92 :: Css.hexStr n).map Css.byte := by
 have : ∀ V : List Int, (∀ c ∈ V, c < 128) → Css.enc V = V.map Css.byte := by
  intro V
  induction V with
  | nil => intro _; rfl
  | cons c V ih =>
   intro h
   have e : Css.enc (c :: V) = Css.enc1 c ++ Css.enc V := by simp [Css.enc]
   rw [e, ih (fun d hd => h d (by simp [hd]))]
   unfold Css.enc1
   rw [if_pos (h c (by simp))]
   rfl
 refine this _ fun c hc => ?_
 rcases List.mem_cons.1 hc with rfl | hc
 ·decide
 ·exact Css.hexStr_asc n c hc
def gapN (V : List Int) (need : Bool) : Bool := match V with | d :: _ => gapC d | [] => need
theorem enc_gap {p : Prop} [Decidable p] : Css.enc (if p then [32] else []) = if p then [32] else [] := by split <;> rfl
theorem pEsc_hex (c : Int) (V : List Int) (need : Bool) : Css.pEsc c .hex V need = (92 :: Css.hexStr c.toNat) ++ (if (92 :: Css.hexStr c.toNat).length < 7 ∧ gapN V need = true then [32] else []) := by
 generalize ht : 92 :: Css.hexStr c.toNat = t
 unfold Css.pEsc
 simp only [ht]
 by_cases h : t.length < 7
 ·rw [if_pos h]
  simp only [h, true_and]
  cases V with
  | nil => cases need <;> simp [gapN]
  | cons d V =>
   change (if gapC d = true then _ else _) = t ++ if gapC d = true then [32] else []
   cases gapC d <;> simp
 ·rw [if_neg h, if_neg (fun h' => h h'.1), List.append_nil]
set_option maxRecDepth 100000 in
set_option maxHeartbeats 2000000 in
theorem c103_hex {w : World} {base g : Nat} {ws asc : Bool} {v : Value} {T : List UInt8} (h : Px w base g ws asc v T) (F : Interp) (hF : F.told.answers w.tape) (c : Int) (hc : Css.Valid c)
  (e : Int) (he : e = 2 ∨ (e = 1 ∧ Css.isHexC c = true)) (rest : ByteArray) (V : List Int) (hr : rest.data.toList = Css.enc1 c ++ Css.enc V) (hV : ∀ d ∈ V, Css.Valid d) (hrs : rest.size ≤ 1099511627776) (need : Bool) (hs : T.length + 16 ≤ 35184372088832) :
  Calls Tryz.prog 103 #[.pointer (some ⟨g, 0, none⟩), .int .i32 c, .int .u8 e, .string rest, .bool need] w fun e w' => e = .returned (.tuple #[]) ∧ ∃ v', Px w' base g ws asc v' (T ++ Css.enc (Css.pEsc c .hex V need)) ∧ Kv w w' g v v' := by
 obtain ⟨i0, z0, hi0, hz0, hz1, hz2, hz3⟩ := info5
 have HI := Lib.hid (And.intro hi0 (And.intro hz0 (And.intro hz1 (And.intro hz2 hz3))))
 have h01 : 0 < 1 := by omega
 have HA : Hid (∀ wa, wa = w.alloc (.cells #[.int .u8 0, .int .u8 0, .int .u8 0, .int .u8 0] 340 (0, 0)) → Px wa base g ws asc v T ∧ w.grownBy wa none ∧ F.told.answers wa.tape) := Lib.hid fun wa e => by subst e; exact ⟨h.alloc _, grown_alloc (grown_refl w none) _, hF⟩
 have HE := Lib.hid he
 clear hi0 hz0 hz1 hz2 hz3 h hF he
 go_enter Tryz.func103, Tryz.ntmps103
 go_upto_region 1 with (fail)
 generalize hwa : w.alloc (.cells #[.int .u8 0, .int .u8 0, .int .u8 0, .int .u8 0] 340 (0, 0)) = wa
 obtain ⟨hPa, hGa, hFa⟩ := HA.out wa hwa.symm
 have HQ := Lib.hid (And.intro hPa (And.intro hGa hFa))
 clear HA hwa hPa hGa hFa
 go_cut [40] (fun v40 wc => v40 = .bool (e == 1) ∧ wa = wc)
 case first =>
  rcases HE.out with rfl | ⟨rfl, hx⟩
  ·go_wp2_with fail
   go_meet
   exact ⟨rfl, rfl⟩
  ·simp only [Css.isHexC, Bool.or_eq_true, Bool.and_eq_true, decide_eq_true_eq] at hx
   rcases hexWays c with ⟨a1, a2, a3, a4, a5, a6⟩ | ⟨a1, a2, a3, a4, a5, a6⟩ | ⟨a1, a2, a3, a4, a5, a6⟩ | ⟨a1, a2, a3, a4, a5, a6⟩ | ⟨a1, a2, a3, a4, a5, a6⟩ | ⟨a1, a2, a3, a4, a5, a6⟩ | ⟨a1, a2, a3, a4, a5, a6⟩
   all_goals first
    | (exfalso; omega)
    | skip
   all_goals
    clear hx
    go_wp2_with fail
    go_meet
    exact ⟨rfl, rfl⟩
 case rest =>
  obtain ⟨rfl, rfl⟩ := hcut
  go_upto_if 40 with (fail)
  go_cut [2] (fun v2 wc => v2 = .int .u8 2 ∧ wa = wc)
  case first =>
   rcases HE.out with rfl | ⟨rfl, hx⟩
   ·go_wp2_with fail
    go_meet
    exact ⟨rfl, rfl⟩
   ·go_wp2_with fail
    go_meet
    exact ⟨rfl, rfl⟩
  case rest =>
   obtain ⟨rfl, rfl⟩ := hcut
   have hF' := answers_open HQ.out.2.2
   have ht : (FmtStop.textOf (F.told "fmt.Sprintf" [[92, 37, 120], shape21, digits 8 (c % 18446744073709551616).toNat] 0)).data.toList = (92 :: Css.hexStr c.toNat).map Css.byte := tx_told F (by have := hc.1; omega) (by have := hc.2.1; omega)
   go_upto_region 13 with (fail)
   generalize FmtStop.textOf (F.told "fmt.Sprintf" [[92, 37, 120], shape21, digits 8 (c % 18446744073709551616).toNat] 0) = s at ht ⊢
   have HB : Hid (∀ wb, wb = (wa.alloc (.cells #[.iface 21 (.int .i32 c)] 20 (0, 0))).drew → Px wb base g ws asc v T ∧ w.grownBy wb none) := Lib.hid fun wb e => by
    subst e
    exact ⟨(HQ.out.1.alloc _).free (grown_drew (grown_refl _ none)), grown_drew (grown_alloc HQ.out.2.1 _)⟩
   generalize hwb : (wa.alloc (.cells #[.iface 21 (.int .i32 c)] 20 (0, 0))).drew = wb
   obtain ⟨hPb, hGb⟩ := HB.out wb hwb.symm
   obtain ⟨_, _, _, _, c15⟩ := hPb.cells
   have HP := Lib.hid (And.intro hPb hGb)
   have hsz : s.size = (92 :: Css.hexStr c.toNat).length := by rw [← bytes_len, ht, List.length_map]
   have h6 := hexStr_six 5 c.toNat (by have := hc.2.1; omega)
   have h7 : s.size ≤ 7 := by rw [hsz]; simp; omega
   have h63 : T.length + s.size ≤ maxLen := by unfold maxLen; omega
   have h47 : (T.length + s.size) * 1 ≤ 140737488355328 := by omega
   have HT := Lib.hid (And.intro ht hsz)
   clear HB hwb hPb hGb HQ hF' ht hsz h6
   go_upto_region 14 with ((at_builtin; refine wpList_append_src rfl base (.tmp 91) (.tmp 92) 117 9 5 i0 z0 1 1 rfl Tryz.underlying117 HI.out.1 HI.out.2.1 HI.out.2.2.1 HI.out.2.2.2.1 HI.out.2.2.2.2 h01 v T.length (bc T) rfl _ s.size (byteCells s) rfl (Src.ofString _ Tryz.underlying9 s) HP.out.1.own HP.out.1.base h63 h47 ?_; intro v1 w1 hown hgr hat; rw [bc_bytes] at hown; have hl : s.size = s.data.toList.length := (bytes_len s).symm; rw [hl] at hown; obtain ⟨hfz, ⟨u, hcu⟩, hP, hK⟩ := HP.out.1.grew hown hgr hat; obtain ⟨A1, m1, k1, hv1⟩ := own_any hown; subst hv1; have HR := Lib.hid (And.intro hP (Kv.after HP.out.2 hK)); clear hown hgr hat hP hK hl))
   clear hfz hcu c15
   generalize w1.setCell ⟨g, 15, none⟩ (Value.slice A1 m1 k1) = W at HR ⊢
   have hT1 : T ++ s.data.toList = T ++ Css.enc (92 :: Css.hexStr c.toNat) := by rw [HT.out.1, enc_hex]
   rw [hT1] at HR
   clear hT1 h63 h47
   have hlen : (Css.enc (92 :: Css.hexStr c.toNat)).length = s.size := by rw [enc_hex, List.length_map, HT.out.2]
   have h63 : (T ++ Css.enc (92 :: Css.hexStr c.toNat)).length + 1 ≤ maxLen := by unfold maxLen; rw [List.length_append, hlen]; omega
   have h47 : ((T ++ Css.enc (92 :: Css.hexStr c.toNat)).length + 1) * 1 ≤ 140737488355328 := by rw [List.length_append, hlen]; omega
   have HE : Hid (∀ x, Css.enc (Css.pEsc c .hex V need) = Css.enc (92 :: Css.hexStr c.toNat) ++ x ↔ x = if s.size < 7 ∧ gapN V need = true then [32] else []) := Lib.hid fun x => by
    rw [pEsc_hex, Css.enc_append, HT.out.2, enc_gap]
    exact ⟨fun h => (List.append_cancel_left h).symm, fun h => by rw [h]⟩
   clear hlen hs
   by_cases hl7 : (s.size : Int) < 7
   ·cases V with
    | nil =>
     have hrl := last_byte hr
     have hrl' : ¬ (Css.width c : Int) < rest.size := by omega
     have hw := Css.width_pos c
     clear hr hrl
     go_wp2_with fail
     refine (c116 c hc _).mono ?_
     rintro e1 w' ⟨rfl, rfl⟩
     obtain ⟨_, _, _, _, c15⟩ := HR.out.1.cells
     cases need with
     | false =>
      go_wp2_with fail
      go_end0
      exact ⟨rfl, _, by rw [(HE.out []).2 (by rw [if_neg (fun h => by cases h.2)]), List.append_nil]; exact HR.out.1, HR.out.2⟩
     | true =>
      go_wp2_with ((at_builtin; refine wpList_append_src rfl base (.tmp 153) (.tmp 154) 117 117 5 i0 z0 1 1 rfl Tryz.underlying117 HI.out.1 HI.out.2.1 HI.out.2.2.1 HI.out.2.2.2.1 HI.out.2.2.2.2 h01 (.slice A1 m1 k1) (T ++ Css.enc (92 :: Css.hexStr c.toNat)).length (bc (T ++ Css.enc (92 :: Css.hexStr c.toNat))) rfl _ 1 (bc [32]) rfl (Src.block Tryz.underlying117 _ (bc [32]) 5 (new_blk' rfl) rfl (bc_one _)) (HR.out.1.alloc _).own (HR.out.1.alloc _).base h63 h47 ?_; intro v2 w4 hown hgr hat; obtain ⟨hfz, ⟨u, hcu⟩, hPx, hKv⟩ := (HR.out.1.alloc _).grew (t := [32]) hown hgr hat; obtain ⟨A2, m2, k2, hv2⟩ := own_any hown; subst hv2; have HZ := Lib.hid (And.intro hPx (HR.out.2.trans (Kv.after (grown_alloc (grown_refl W none) _) hKv))); clear hown hgr hat hPx hKv))
      go_end0
      exact ⟨rfl, _, by rw [(HE.out [32]).2 (by rw [if_pos (show s.size < 7 ∧ gapN [] true = true from ⟨by omega, rfl⟩)]), ← List.append_assoc]; exact HZ.out.1, HZ.out.2⟩
    | cons d V =>
     obtain ⟨hlt, hgap⟩ := next_byte hr (hV d (by simp))
     have hb := bt_at rest (Css.width c)
     have hb0 := bt_lo rest (Css.width c)
     have hb1 := bt_hi rest (Css.width c)
     generalize bt rest (Css.width c) = b at hb hb0 hb1 hgap
     have hlt' : (Css.width c : Int) < rest.size := by omega
     have hw := Css.width_pos c
     have hgn : gapN (d :: V) need = gapC b := hgap.symm
     rw [hgn] at HE
     clear hr hgap hV hgn
     go_wp2_with fail
     refine (c116 c hc _).mono ?_
     rintro e1 w' ⟨rfl, rfl⟩
     go_upto_region 18 with (fail)
     go_cut [138] (fun v138 wc => v138 = .bool (gapC b) ∧ W = wc)
     case first =>
      rcases hexWays b with ⟨a1, a2, a3, a4, a5, a6⟩ | ⟨a1, a2, a3, a4, a5, a6⟩ | ⟨a1, a2, a3, a4, a5, a6⟩ | ⟨a1, a2, a3, a4, a5, a6⟩ | ⟨a1, a2, a3, a4, a5, a6⟩ | ⟨a1, a2, a3, a4, a5, a6⟩ | ⟨a1, a2, a3, a4, a5, a6⟩ <;> cases a7 : (b == 32) <;> cases a8 : (b == 9)
      all_goals first
       | (exfalso; simp only [beq_iff_eq] at a7 a8; omega)
       | skip
      all_goals
       go_wp2_with fail
       go_meet
       exact ⟨by simp [gapC, Css.isHexC, *], rfl⟩
     case rest =>
      obtain ⟨rfl, rfl⟩ := hcut
      obtain ⟨_, _, _, _, c15⟩ := HR.out.1.cells
      cases hg : gapC b with
      | false =>
       have HG := Lib.hid hg
       clear hg
       go_wp2_with fail
       go_end0
       exact ⟨rfl, _, by rw [(HE.out []).2 (by rw [HG.out]; simp), List.append_nil]; exact HR.out.1, HR.out.2⟩
      | true =>
       have HG := Lib.hid hg
       clear hg
       go_wp2_with ((at_builtin; refine wpList_append_src rfl base (.tmp 143) (.tmp 144) 117 117 5 i0 z0 1 1 rfl Tryz.underlying117 HI.out.1 HI.out.2.1 HI.out.2.2.1 HI.out.2.2.2.1 HI.out.2.2.2.2 h01 (.slice A1 m1 k1) (T ++ Css.enc (92 :: Css.hexStr c.toNat)).length (bc (T ++ Css.enc (92 :: Css.hexStr c.toNat))) rfl _ 1 (bc [32]) rfl (Src.block Tryz.underlying117 _ (bc [32]) 5 (new_blk' rfl) rfl (bc_one _)) (HR.out.1.alloc _).own (HR.out.1.alloc _).base h63 h47 ?_; intro v2 w4 hown hgr hat; obtain ⟨hfz, ⟨u, hcu⟩, hPx, hKv⟩ := (HR.out.1.alloc _).grew (t := [32]) hown hgr hat; obtain ⟨A2, m2, k2, hv2⟩ := own_any hown; subst hv2; have HZ := Lib.hid (And.intro hPx (HR.out.2.trans (Kv.after (grown_alloc (grown_refl W none) _) hKv))); clear hown hgr hat hPx hKv))
       go_end0
       exact ⟨rfl, _, by rw [(HE.out [32]).2 (by rw [if_pos ⟨by omega, HG.out⟩]), ← List.append_assoc]; exact HZ.out.1, HZ.out.2⟩
   ·go_wp2_with fail
    go_end0
    exact ⟨rfl, _, by rw [(HE.out []).2 (by rw [if_neg (fun h => by have := h.1; omega)]), List.append_nil]; exact HR.out.1, HR.out.2⟩
end Go.Proofs.YtkfdcbdlcipmfaaGreatFmt
