/- The reference's lexer in memory: names, functions and addresses. The text has at most 2^60 bytes. -/
import Derived.Test.YtkfdcbdlcipmfaaGreatFmtProg
import Derived.WalkKit
import Derived.WalkLawsBesides
import Derived.WalkSpells
import Derived.BigQuiet
import Derived.Deep.QuietTactic
import Derived.Outline
import Derived.Laws.BitsLemmas
import Derived.Lib.Hide
import Derived.OneCell
import Derived.Deep.Draws
import Derived.Deep.LoopGhost
import Derived.Laws.BytesArg
import Derived.Laws.ResultCell
import Derived.Deep.DeepCutAuto
import Derived.Deep.CutBlock
import Derived.Test.YtkfdcbdlcipmfaaGreatFmtGG
set_option linter.unusedVariables false
set_option linter.unusedSimpArgs false
namespace Go.Proofs.YtkfdcbdlcipmfaaGreatFmt
open Go.RowKit
theorem hexRun_sfx (n : Nat) : ∀ (v : Int) (U : List Int), (Css.hexRun n v U).2 <:+ U := by
 induction n with
 | zero => exact fun v U => List.suffix_refl U
 | succ n ih =>
  intro v U
  simp only [Css.hexRun]
  split
  ·exact (ih _ _).trans (List.tail_suffix U)
  ·exact List.suffix_refl U
theorem newline_sfx (U : List Int) : Css.newline U <:+ U := by
 unfold Css.newline
 split
 ·exact List.drop_suffix 2 U
 ·exact List.tail_suffix U
theorem esc_sfx (U : List Int) : (Css.esc U).2.1 <:+ U := by
 unfold Css.esc
 dsimp only
 split
 ·split
  ·exact List.tail_suffix U
  ·exact List.tail_suffix U
 ·split
  ·exact (newline_sfx _).trans (hexRun_sfx _ _ _)
  ·split
   ·exact (List.tail_suffix _).trans (hexRun_sfx _ _ _)
   ·exact hexRun_sfx _ _ _
theorem name_sfx (U : List Int) : (Css.name U).2.1 <:+ U := by
 induction hn : U.length using Nat.strongRecOn generalizing U with
 | _ n ih =>
  subst hn
  rw [Css.name]
  split
  ·rename_i h
   have h1 := (name_c h).2
   exact (ih U.tail.length h1 _ rfl).trans (List.tail_suffix U)
  ·split
   ·rename_i h1 h
    have h2 := (name_e (by simpa using h1) h).2
    exact ((ih _ h2 _ rfl).trans (esc_sfx _)).trans (List.tail_suffix U)
   ·exact List.suffix_refl U
theorem name_wd (U : List Int) : Css.wd (Css.name U).2.1 ≤ Css.wd U := by
 obtain ⟨p, hp⟩ := name_sfx U
 calc Css.wd (Css.name U).2.1 ≤ Css.wd p + Css.wd (Css.name U).2.1 := Nat.le_add_left _ _
  _ = Css.wd U := by rw [← Css.wd_append, hp]
theorem badURL_text (U : List Int) : (Css.badURL U).1.text = [] := by
 induction hn : U.length using Nat.strongRecOn generalizing U with
 | _ n ih =>
  subst hn
  rw [Css.badURL.eq_def]
  split
  ·rfl
  ·rename_i c V
   have he := Css.esc_le V
   split
   ·rfl
   ·split
    ·exact ih (Css.esc V).2.1.length (by simp; omega) _ rfl
    ·exact ih V.length (by simp) _ rfl
theorem url_text (U : List Int) : ∀ out, (Css.url out U).1.text.length ≤ out.length + 4 * U.length := by
 induction hn : U.length using Nat.strongRecOn generalizing U with
 | _ n ih =>
  subst hn
  intro out
  rw [Css.url.eq_def]
  split
  ·simp
  ·rename_i c V
   have he := Css.esc_le V
   have hs := Css.spaces_le V
   split
   ·simp
   ·split
    ·dsimp only
     split
     ·rw [badURL_text]; simp
     ·have := ih (Css.spaces V).length (by simp; omega) _ rfl out
      simp only [List.length_cons]; omega
    ·split
     ·rw [badURL_text]; simp
     ·split
      ·have := ih (Css.esc V).2.1.length (by simp; omega) _ rfl (out ++ Css.enc1 (Css.esc V).1)
       have h4 := enc1_le (Css.esc V).1
       simp only [List.length_append] at this
       simp only [List.length_cons]; omega
      ·have := ih V.length (by simp) _ rfl (out ++ Css.enc1 c)
       have h4 := enc1_le c
       simp only [List.length_append] at this
       simp only [List.length_cons]; omega
theorem named_no {U V : List Int} {t : List UInt8} {o : Bool} (hn : Css.name U = (t, V, o)) (h : (Css.pk 0 V == 40) = false) : Css.named U = (⟨29, 0, false, t⟩, V, o) := by
 unfold Css.named
 simp only [hn]
 rw [if_pos (by simp only [bne, h]; rfl)]
theorem named_fn {U V : List Int} {t : List UInt8} {o : Bool} (hn : Css.name U = (t, V, o)) (h : (Css.pk 0 V == 40) = true) (h2 : (Css.isURL t && (Css.pk 0 (Css.spaces V.tail) != 34 && Css.pk 0 (Css.spaces V.tail) != 39)) = false) : Css.named U = (⟨27, 0, false, t⟩, V.tail, o) := by
 unfold Css.named
 simp only [hn]
 rw [if_neg (by simp only [bne, h]; simp), if_neg (by rw [h2]; simp)]
theorem named_url {U V : List Int} {t : List UInt8} {o : Bool} (hn : Css.name U = (t, V, o)) (h : (Css.pk 0 V == 40) = true) (h2 : (Css.isURL t && (Css.pk 0 (Css.spaces V.tail) != 34 && Css.pk 0 (Css.spaces V.tail) != 39)) = true) : Css.named U = ((Css.url [] (Css.spaces V.tail)).1, (Css.url [] (Css.spaces V.tail)).2.1, o || (Css.url [] (Css.spaces V.tail)).2.2 || !(Css.wd U - Css.wd V == 3) || !Css.trimmed (Css.url [] (Css.spaces V.tail)).1.text) := by
 unfold Css.named
 simp only [hn]
 rw [if_neg (by simp only [bne, h]; simp), if_pos h2]
theorem Lx.back {w w' : World} {g : Nat} {s : ByteArray} {U V : List Int} {cv cv' : Value} {op op' : Bool} (h : Lx w g s V cv op) (h' : Lx w' g s U cv' op') : Lx (w'.setCell ⟨g, 1, none⟩ (.int .i64 ((s.size - Css.wd V : Nat) : Int))) g s V cv' op' :=
 ⟨by simpa using set_blk h'.blk 1 (.int .i64 ((s.size - Css.wd V : Nat) : Int)), h.left, h.fits, h.size⟩
theorem keep_six {w : World} {b c : Nat} {o : Obj} (h : w.heap[b]? = some o) (hn : c ≠ b) (v0 v1 v2 v3 v4 v5 : Value) :
  ((((((w.setCell ⟨c, 0, none⟩ v0).setCell ⟨c, 1, none⟩ v1).setCell ⟨c, 2, none⟩ v2).setCell ⟨c, 3, none⟩ v3).setCell ⟨c, 4, none⟩ v4).setCell ⟨c, 5, none⟩ v5).heap[b]? = some o := by
 have k : w.grownBy ((((((w.setCell ⟨c, 0, none⟩ v0).setCell ⟨c, 1, none⟩ v1).setCell ⟨c, 2, none⟩ v2).setCell ⟨c, 3, none⟩ v3).setCell ⟨c, 4, none⟩ v4).setCell ⟨c, 5, none⟩ v5) (some c) :=
  grown_setCell (grown_setCell (grown_setCell (grown_setCell (grown_setCell (grown_setCell (grown_refl _ _) _ _) _ _) _ _) _ _) _ _) _ _
 exact Kp.keep k h (Ne.symm hn)
theorem alloc_keep {w : World} {b : Nat} {o : Obj} (h : w.heap[b]? = some o) (p : Obj) : (w.alloc p).heap[b]? = some o :=
 Kp.keep (g := w.heap.size) (grown_alloc (grown_refl w _) p) h (by have := lt_of_block h; omega)
theorem six_new (w : World) (v0 v1 v2 v3 v4 v5 : Value) : (((((((w.alloc (.cells #[.int .i64 0, .int .i64 0, .int .i64 0, .int .i64 0, .bool false, .string { data := #[] }] 62 (0, 0))).setCell ⟨w.heap.size, 0, none⟩ v0).setCell ⟨w.heap.size, 1, none⟩ v1).setCell ⟨w.heap.size, 2, none⟩ v2).setCell ⟨w.heap.size, 3, none⟩ v3).setCell ⟨w.heap.size, 4, none⟩ v4).setCell ⟨w.heap.size, 5, none⟩ v5).heap[w.heap.size]? = some (.cells #[v0, v1, v2, v3, v4, v5] 62 (0, 0)) := by
 simpa using set_blk (set_blk (set_blk (set_blk (set_blk (set_blk (new_blk w (.cells #[.int .i64 0, .int .i64 0, .int .i64 0, .int .i64 0, .bool false, .string { data := #[] }] 62 (0, 0))) 0 v0) 1 v1) 2 v2) 3 v3) 4 v4) 5 v5
theorem Kp.allocdR {w w' : World} {g : Nat} (h : Kp w w' g) (o : Obj) : Kp w (w'.alloc o) g := grown_alloc h o
theorem Lx.setOpen {w : World} {g : Nat} {s : ByteArray} {U : List Int} {cv : Value} {op : Bool} (h : Lx w g s U cv op) (b : Bool) : Lx (w.setCell ⟨g, 3, none⟩ (.bool b)) g s U cv b :=
 ⟨by simpa using set_blk h.blk 3 (.bool b), h.left, h.fits, h.size⟩
theorem str_list (l : List UInt8) : (str l).data.toList = l := by simp [str]
set_option maxRecDepth 100000 in
set_option maxHeartbeats 4000000 in
theorem c70 {w : World} {g : Nat} {s : ByteArray} {U : List Int} {cv : Value} {op : Bool} (h : Lx w g s U cv op) :
  Calls Tryz.prog 70 #[.pointer (some ⟨g, 0, none⟩)] w fun e w' => e = .returned (tkVal (Css.named U).1) ∧ Lx w' g s (Css.named U).2.1 cv (op || (Css.named U).2.2) ∧ Kp w w' g := by
 have hlt := lt_of_block h.blk
 have hlen := h.len
 have hne : w.heap.size ≠ g := by omega
 have hfit := h.fits
 have hsz := h.size
 have hL := h.allocd (.cells #[Value.int IntKind.i64 0, Value.int IntKind.i64 0, Value.int IntKind.i64 0, Value.int IntKind.i64 0, Value.bool false, Value.string { data := #[] }] 62)
 generalize hR : Css.named U = R
 have HR := Lib.hid hR
 clear hR h
 have hpos := hL.pos
 have hle := name_wd U
 have hnl := Css.name_le U
 go_enter Tryz.func70, Tryz.ntmps70
 go_wp2_with fail
 refine (c47 hL).mono ?_
 rintro e w1 ⟨rfl, h, hK1⟩
 have HS : Slot w1 w.heap.size := hK1.newBlk hlt
 have HK := Lib.hid (Kp.allocd hK1)
 clear hK1 hL hpos
 generalize hX : Css.name U = X at h hle hnl ⊢
 have HX := Lib.hid hX
 clear hX
 obtain ⟨t, V, o⟩ := X
 simp only at h hle hnl ⊢
 have hpos := h.pos
 have hun : ((s.size - Css.wd V : Nat) : Int) - ((s.size - Css.wd U : Nat) : Int) = ((Css.wd U - Css.wd V : Nat) : Int) := by omega
 have HU : Hid ((((Css.wd U - Css.wd V : Nat) : Int) == 3) = (Css.wd U - Css.wd V == 3)) := by
  show _ = _
  rw [Bool.eq_iff_iff]; simp; omega
 generalize hsh : (((Css.wd U - Css.wd V : Nat) : Int) == 3) = short at HU
 obtain ⟨hc0, hc1, hc2, hc3, hc4, hc5, hf0, hf1, hf2, hf3, hf4, hf5⟩ := six HS
 cases t1 : (Css.pk 0 V == 40) with
 | false =>
  have t1n : (Css.pk 0 V != 40) = true := by simp only [bne, t1]; rfl
  have HE := Lib.hid (HR.out.symm.trans (named_no HX.out t1))
  go_wp2_with fail
  refine (c59_0 h).mono ?_
  rintro e w' ⟨rfl, rfl⟩
  go_wp2
  rw [HE.out]
  exact bodyPost_ret (v := .agg (tkCells 29 0 0 0 false (str t))) (by simp [results, Tryz.results70, go_sem, tkCells, str, *]) rfl ⟨rfl, h.six hne _ _ _ _ _ _, HK.out.six (Nat.le_refl _) _ _ _ _ _ _⟩
 | true =>
  have t1n : (Css.pk 0 V != 40) = false := by simp only [bne, t1]; rfl
  have hVt : V.tail.length ≤ V.length := by simp
  go_wp2_with fail
  refine (c59_0 h).mono ?_
  rintro e w' ⟨rfl, rfl⟩
  go_wp2_with fail
  refine (c61 h).mono ?_
  rintro e w2 ⟨rfl, h2, hK2⟩
  have HS2 : Slot w2 w.heap.size := Kp.keep hK2 HS hne
  have HK2 := Lib.hid (HK.out.trans hK2)
  clear HS HK hK2 h hpos hc0 hc1 hc2 hc3 hc4 hc5 hf0 hf1 hf2 hf3 hf4 hf5
  obtain ⟨hc0, hc1, hc2, hc3, hc4, hc5, hf0, hf1, hf2, hf3, hf4, hf5⟩ := six HS2
  have HT : Hid (Css.isURL (str t).data.toList = Css.isURL t) := by rw [str_list]; rfl
  cases t2 : Css.isURL t with
  | false =>
   have HE := Lib.hid (HR.out.symm.trans (named_fn HX.out t1 (by rw [t2]; rfl)))
   have t2' := HT.out.trans t2
   go_wp2_with fail
   refine (c48 _ _).mono ?_
   rintro e w' ⟨rfl, rfl⟩
   go_wp2
   rw [HE.out]
   exact bodyPost_ret (v := .agg (tkCells 27 0 0 0 false (str t))) (by simp [results, Tryz.results70, go_sem, tkCells, str, *]) rfl ⟨rfl, h2.six hne _ _ _ _ _ _, HK2.out.six (Nat.le_refl _) _ _ _ _ _ _⟩
  | true =>
   have t2' := HT.out.trans t2
   have hpos := h2.pos
   go_wp2_with fail
   refine (c48 _ _).mono ?_
   rintro e w' ⟨rfl, rfl⟩
   rw [t2']
   go_wp2_with fail
   go_loopg [] V.tail.length (fun k wr => ∃ W : List Int, W.length ≤ k ∧ W.length ≤ V.tail.length ∧ Lx wr g s W cv (op || o) ∧ Slot wr w.heap.size ∧ Hid (Kp w wr g) ∧ Hid (Css.spaces V.tail = Css.spaces W))
   case atStart => exact ⟨V.tail, Nat.le_refl _, Nat.le_refl _, h2, HS2, HK2, Lib.hid rfl⟩
   case round =>
    clear HK2 HS2 hc0 hc1 hc2 hc3 hc4 hc5 hf0 hf1 hf2 hf3 hf4 hf5 hpos
    obtain ⟨W, hk, hW, h, HS, HK, HD⟩ := hrel
    cases hd : Css.isSpace (Css.pk 0 W) with
    | true =>
     obtain ⟨e1, e2⟩ := spaces_pos hd
     have HE := Lib.hid e1
     clear e1
     go_wp2_with fail
     refine (c59_0 h).mono ?_
     rintro e w' ⟨rfl, rfl⟩
     go_wp2_with fail
     refine (c64 _ _).mono ?_
     rintro e w' ⟨rfl, rfl⟩
     go_wp2_with fail
     refine (c61 h).mono ?_
     rintro e w3 ⟨rfl, hL1, hK1⟩
     go_wp2
     go_roundg W.tail.length
     case measure => omega
     case rel => exact ⟨W.tail, Nat.le_refl _, by omega, hL1, Kp.keep hK1 HS hne, HK.out.trans hK1, HD.out.trans HE.out⟩
    | false =>
     have HE := Lib.hid (HD.out.trans (spaces_neg hd))
     clear HD
     obtain ⟨hc0, hc1, hc2, hc3, hc4, hc5, hf0, hf1, hf2, hf3, hf4, hf5⟩ := six HS
     go_wp2_with fail
     refine (c59_0 h).mono ?_
     rintro e w' ⟨rfl, rfl⟩
     go_wp2_with fail
     refine (c64 _ _).mono ?_
     rintro e w' ⟨rfl, rfl⟩
     go_wp2_with fail
     refine (c59_0 h).mono ?_
     rintro e w' ⟨rfl, rfl⟩
     cases t3 : (Css.pk 0 W != 34 && Css.pk 0 W != 39) with
     | true =>
      have t4 : (Css.pk 0 W != 34) = true := by simp at t3 ⊢; exact t3.1
      have t5 : (Css.pk 0 W != 39) = true := by simp at t3 ⊢; exact t3.2
      have hN := HR.out.symm.trans (named_url HX.out t1 (by rw [HE.out, t2, t3]; rfl))
      rw [HE.out] at hN
      have HN := Lib.hid hN
      clear hN
      have hut := url_text W []
      rw [List.length_nil, Nat.zero_add] at hut
      have hsz2 := str_size (Css.url [] W).1.text
      have hlt2 := lt_of_block h.blk
      go_wp2_with fail
      refine (c95 h).mono ?_
      rintro e w3 ⟨rfl, h3, hK3⟩
      have HS3 : Slot w3 w.heap.size := Kp.keep hK3 HS hne
      have HK3 := Lib.hid (HK.out.trans hK3)
      clear HS HK hK3 h hc0 hc1 hc2 hc3 hc4 hc5 hf0 hf1 hf2 hf3 hf4 hf5
      generalize Css.url [] W = X at h3 hut hsz2 HN ⊢
      have hlt3 := lt_of_block HS3
      have hb3 : w3.heap.size ≠ g := by have := lt_of_block h3.blk; omega
      have hb4 : w3.heap.size ≠ w.heap.size := by omega
      simp only [tkVal, tkCells]
      have h3 := h3.allocd (.cells #[.int .i64 X.1.kind, .int .i64 0, .int .i64 0, .int .i64 X.1.unit, .bool X.1.id, .string (str X.1.text)] 62)
      have HS3 : Slot _ w.heap.size := alloc_keep HS3 (.cells #[.int .i64 X.1.kind, .int .i64 0, .int .i64 0, .int .i64 X.1.unit, .bool X.1.id, .string (str X.1.text)] 62)
      have HB := new_blk w3 (.cells #[.int .i64 X.1.kind, .int .i64 0, .int .i64 0, .int .i64 X.1.unit, .bool X.1.id, .string (str X.1.text)] 62)
      have HK3 := HK3.out.allocdR (.cells #[.int .i64 X.1.kind, .int .i64 0, .int .i64 0, .int .i64 X.1.unit, .bool X.1.id, .string (str X.1.text)] 62)
      have HK3 := Lib.hid HK3
      go_upto_region 14 with (fail)
      obtain ⟨hc0, hc1, hc2, hc3, hc4, hc5, hf0, hf1, hf2, hf3, hf4, hf5⟩ := six HS3
      obtain ⟨hd0, hd1, hd2, hd3, hd4, hd5, he0, he1, he2, he3, he4, he5⟩ := six HB
      have hg3 := free_blk h3.blk 3
      have hgc := cell_blk h3.blk (i := 3) (v := .bool (op || o || X.2.2)) rfl
      generalize w3.alloc (.cells #[.int .i64 X.1.kind, .int .i64 0, .int .i64 0, .int .i64 X.1.unit, .bool X.1.id, .string (str X.1.text)] 62) = w4 at *
      cases t6 : (op || o || X.2.2) with
      | true =>
       rw [t6] at hgc
       go_wp2
       rw [HN.out]
       exact bodyPost_ret (v := .agg (tkCells X.1.kind 0 0 X.1.unit X.1.id (str X.1.text))) (by simp [results, Tryz.results70, go_sem, tkCells, str, *]) rfl ⟨rfl, by have hz := (h3.setOpen true).six hne (.int .i64 X.1.kind) (.int .i64 0) (.int .i64 0) (.int .i64 X.1.unit) (.bool X.1.id) (.string (str X.1.text)); rw [← HU.out]; simp only [← Bool.or_assoc, t6, Bool.true_or] at hz ⊢; exact hz, (HK3.out.trans (Kp.opened _ _ _ _)).six (Nat.le_refl _) _ _ _ _ _ _⟩
      | false =>
       rw [t6] at hgc
       cases short with
       | false =>
        go_wp2
        rw [HN.out]
        exact bodyPost_ret (v := .agg (tkCells X.1.kind 0 0 X.1.unit X.1.id (str X.1.text))) (by simp [results, Tryz.results70, go_sem, tkCells, str, *]) rfl ⟨rfl, by have hz := (h3.setOpen true).six hne (.int .i64 X.1.kind) (.int .i64 0) (.int .i64 0) (.int .i64 X.1.unit) (.bool X.1.id) (.string (str X.1.text)); rw [← HU.out]; simp only [← Bool.or_assoc, t6, Bool.true_or] at hz ⊢; exact hz, (HK3.out.trans (Kp.opened _ _ _ _)).six (Nat.le_refl _) _ _ _ _ _ _⟩
       | true =>
        go_wp2_with fail
        refine (c96 _ _ (by omega)).mono ?_
        rintro e w' ⟨rfl, rfl⟩
        rw [str_list]
        cases t7 : Css.trimmed X.1.text with
        | true =>
         go_wp2
         rw [HN.out]
         exact bodyPost_ret (v := .agg (tkCells X.1.kind 0 0 X.1.unit X.1.id (str X.1.text))) (by simp [results, Tryz.results70, go_sem, tkCells, str, *]) rfl ⟨rfl, by have hz := (h3.setOpen false).six hne (.int .i64 X.1.kind) (.int .i64 0) (.int .i64 0) (.int .i64 X.1.unit) (.bool X.1.id) (.string (str X.1.text)); rw [← HU.out]; simp only [← Bool.or_assoc, t6, t7] at hz ⊢; exact hz, (HK3.out.trans (Kp.opened _ _ _ _)).six (Nat.le_refl _) _ _ _ _ _ _⟩
        | false =>
         go_wp2
         rw [HN.out]
         exact bodyPost_ret (v := .agg (tkCells X.1.kind 0 0 X.1.unit X.1.id (str X.1.text))) (by simp [results, Tryz.results70, go_sem, tkCells, str, *]) rfl ⟨rfl, by have hz := (h3.setOpen true).six hne (.int .i64 X.1.kind) (.int .i64 0) (.int .i64 0) (.int .i64 X.1.unit) (.bool X.1.id) (.string (str X.1.text)); rw [← HU.out]; simp only [← Bool.or_assoc, t6, t7] at hz ⊢; exact hz, (HK3.out.trans (Kp.opened _ _ _ _)).six (Nat.le_refl _) _ _ _ _ _ _⟩
     | false =>
      have HN := Lib.hid (HR.out.symm.trans (named_fn HX.out t1 (by rw [HE.out, t2, t3]; rfl)))
      cases t4 : (Css.pk 0 W != 34) with
      | true =>
       have t5 : (Css.pk 0 W != 39) = false := by simpa [t4] using t3
       have hg1 := free_blk h.blk 1
       have hgc := h.pos
       go_wp2
       rw [HN.out]
       exact bodyPost_ret (v := .agg (tkCells 27 0 0 0 false (str t))) (by simp [results, Tryz.results70, go_sem, tkCells, str, *]) rfl ⟨rfl, (h2.back h).six hne _ _ _ _ _ _, (HK.out.trans (Kp.opened _ _ _ _)).six (Nat.le_refl _) _ _ _ _ _ _⟩
      | false =>
       have hg1 := free_blk h.blk 1
       have hgc := h.pos
       go_wp2
       rw [HN.out]
       exact bodyPost_ret (v := .agg (tkCells 27 0 0 0 false (str t))) (by simp [results, Tryz.results70, go_sem, tkCells, str, *]) rfl ⟨rfl, (h2.back h).six hne _ _ _ _ _ _, (HK.out.trans (Kp.opened _ _ _ _)).six (Nat.le_refl _) _ _ _ _ _ _⟩
end Go.Proofs.YtkfdcbdlcipmfaaGreatFmt
/- The reference's lexer in memory: the next token. The text has at most 2^60 bytes. -/
namespace Go.Proofs.YtkfdcbdlcipmfaaGreatFmt
open Go.RowKit
theorem left_drop {s : ByteArray} {U : List Int} (hl : Css.codes (sfx s (s.size - Css.wd U)) = U) (hf : Css.wd U ≤ s.size) (k : Nat) :
  Css.codes (sfx s (s.size - Css.wd (U.drop k))) = U.drop k ∧ Css.wd (U.drop k) ≤ s.size := by
 induction k with
 | zero => exact ⟨hl, hf⟩
 | succ k ih =>
  have := left_head ih.1 ih.2
  rw [List.tail_drop] at this
  exact ⟨this.2.2.1, this.2.2.2⟩
theorem wd_ascii {U : List Int} {c : Int} (h : Css.pk 0 U = c) (h0 : c ≠ -1) (h1 : c < 128) : Css.wd U = Css.wd U.tail + 1 := by
 cases U with
 | nil => exact absurd ((Css.pk_nil 0).symm.trans h).symm h0
 | cons d V =>
  rw [Css.pk_cons_zero] at h
  subst h
  simp [Css.wd, Css.width, h1, Nat.add_comm]
theorem pk_tail (k : Nat) (U : List Int) : Css.pk k U.tail = Css.pk (k + 1) U := by
 cases U with
 | nil => simp [Css.pk_nil]
 | cons c V => rw [List.tail_cons, Css.pk_cons_succ]
theorem tail_tail (U : List Int) : U.tail.tail = U.drop 2 := by simp [← List.drop_one]
theorem tail_drop2 (U : List Int) : (U.drop 2).tail = U.drop 3 := by simp
theorem tail_drop3 (U : List Int) : (U.drop 3).tail = U.drop 4 := by simp
theorem Lx.moved {w : World} {g : Nat} {s : ByteArray} {U : List Int} {cv : Value} {op : Bool} (h : Lx w g s U cv op) (k : Nat) : Lx (w.setCell ⟨g, 1, none⟩ (.int .i64 ((s.size - Css.wd (U.drop k) : Nat) : Int))) g s (U.drop k) cv op :=
 ⟨by simpa using set_blk h.blk 1 (.int .i64 ((s.size - Css.wd (U.drop k) : Nat) : Int)), (left_drop h.left h.fits k).1, (left_drop h.left h.fits k).2, h.size⟩
theorem leap3 {U : List Int} {a b c : Int} (h0 : Css.pk 0 U = a) (h1 : Css.pk 1 U = b) (h2 : Css.pk 2 U = c) (ha : a ≠ -1 ∧ a < 128) (hb : b ≠ -1 ∧ b < 128) (hc : c ≠ -1 ∧ c < 128) : Css.wd U = Css.wd (U.drop 3) + 3 := by
 have e0 := wd_ascii h0 ha.1 ha.2
 have e1 := wd_ascii ((pk_tail 0 U).trans h1) hb.1 hb.2
 have e2 := wd_ascii (((pk_tail 0 U.tail).trans (pk_tail 1 U)).trans h2) hc.1 hc.2
 rw [tail_tail] at e1 e2
 rw [tail_drop2] at e2
 omega
theorem leap4 {U : List Int} {a b c d : Int} (h0 : Css.pk 0 U = a) (h1 : Css.pk 1 U = b) (h2 : Css.pk 2 U = c) (h3 : Css.pk 3 U = d) (ha : a ≠ -1 ∧ a < 128) (hb : b ≠ -1 ∧ b < 128) (hc : c ≠ -1 ∧ c < 128) (hd : d ≠ -1 ∧ d < 128) : Css.wd U = Css.wd (U.drop 4) + 4 := by
 have e0 := leap3 h0 h1 h2 ha hb hc
 have hp : Css.pk 0 (U.drop 3) = d := by rw [← tail_drop2, pk_tail, ← tail_tail, pk_tail, pk_tail]; exact h3
 have e1 := wd_ascii hp hd.1 hd.2
 rw [tail_drop3] at e1
 omega
theorem next_0 {U : List Int} (y : (Css.pk 0 U == -1) = true) : Css.next U = (⟨0, 0, false, []⟩, U, false) := by
 unfold Css.next
 dsimp only
 rw [if_pos y]
theorem next_1 {U : List Int} (n0 : (Css.pk 0 U == -1) = false) (y : (Css.isSpace (Css.pk 0 U)) = true) : Css.next U = (⟨38, 0, false, []⟩, Css.spaces U, false) := by
 unfold Css.next
 dsimp only
 rw [if_neg (by rw [n0]; exact Bool.false_ne_true), if_pos y]
theorem next_2 {U : List Int} (n0 : (Css.pk 0 U == -1) = false) (n1 : Css.isSpace (Css.pk 0 U) = false) (y : ((Css.pk 0 U == 34 || Css.pk 0 U == 39)) = true) : Css.next U = Css.quoted (Css.pk 0 U) [] U.tail := by
 unfold Css.next
 dsimp only
 rw [if_neg (by rw [n0]; exact Bool.false_ne_true), if_neg (by rw [n1]; exact Bool.false_ne_true), if_pos y]
theorem next_3 {U : List Int} (n0 : (Css.pk 0 U == -1) = false) (n1 : Css.isSpace (Css.pk 0 U) = false) (n2 : (Css.pk 0 U == 34 || Css.pk 0 U == 39) = false) (y : ((Css.pk 0 U == 35 && (Css.continues (Css.pk 1 U) || Css.escapes (Css.pk 1 U) (Css.pk 2 U)))) = true) : Css.next U = (⟨28, 0, Css.identifies (Css.pk 1 U) (Css.pk 2 U) (Css.pk 3 U), (Css.name U.tail).1⟩, (Css.name U.tail).2) := by
 unfold Css.next
 dsimp only
 rw [if_neg (by rw [n0]; exact Bool.false_ne_true), if_neg (by rw [n1]; exact Bool.false_ne_true), if_neg (by rw [n2]; exact Bool.false_ne_true), if_pos y]
theorem next_4 {U : List Int} (n0 : (Css.pk 0 U == -1) = false) (n1 : Css.isSpace (Css.pk 0 U) = false) (n2 : (Css.pk 0 U == 34 || Css.pk 0 U == 39) = false) (n3 : (Css.pk 0 U == 35 && (Css.continues (Css.pk 1 U) || Css.escapes (Css.pk 1 U) (Css.pk 2 U))) = false) (y : (Css.counts (Css.pk 0 U) (Css.pk 1 U) (Css.pk 2 U)) = true) : Css.next U = Css.numeric U := by
 unfold Css.next
 dsimp only
 rw [if_neg (by rw [n0]; exact Bool.false_ne_true), if_neg (by rw [n1]; exact Bool.false_ne_true), if_neg (by rw [n2]; exact Bool.false_ne_true), if_neg (by rw [n3]; exact Bool.false_ne_true), if_pos y]
theorem next_5 {U : List Int} (n0 : (Css.pk 0 U == -1) = false) (n1 : Css.isSpace (Css.pk 0 U) = false) (n2 : (Css.pk 0 U == 34 || Css.pk 0 U == 39) = false) (n3 : (Css.pk 0 U == 35 && (Css.continues (Css.pk 1 U) || Css.escapes (Css.pk 1 U) (Css.pk 2 U))) = false) (n4 : Css.counts (Css.pk 0 U) (Css.pk 1 U) (Css.pk 2 U) = false) (y : ((Css.pk 0 U == 45 && Css.pk 1 U == 45 && Css.pk 2 U == 62)) = true) : Css.next U = (⟨4, 0, false, []⟩, U.drop 3, false) := by
 unfold Css.next
 dsimp only
 rw [if_neg (by rw [n0]; exact Bool.false_ne_true), if_neg (by rw [n1]; exact Bool.false_ne_true), if_neg (by rw [n2]; exact Bool.false_ne_true), if_neg (by rw [n3]; exact Bool.false_ne_true), if_neg (by rw [n4]; exact Bool.false_ne_true), if_pos y]
theorem next_6 {U : List Int} (n0 : (Css.pk 0 U == -1) = false) (n1 : Css.isSpace (Css.pk 0 U) = false) (n2 : (Css.pk 0 U == 34 || Css.pk 0 U == 39) = false) (n3 : (Css.pk 0 U == 35 && (Css.continues (Css.pk 1 U) || Css.escapes (Css.pk 1 U) (Css.pk 2 U))) = false) (n4 : Css.counts (Css.pk 0 U) (Css.pk 1 U) (Css.pk 2 U) = false) (n5 : (Css.pk 0 U == 45 && Css.pk 1 U == 45 && Css.pk 2 U == 62) = false) (y : (Css.identifies (Css.pk 0 U) (Css.pk 1 U) (Css.pk 2 U)) = true) : Css.next U = Css.named U := by
 unfold Css.next
 dsimp only
 rw [if_neg (by rw [n0]; exact Bool.false_ne_true), if_neg (by rw [n1]; exact Bool.false_ne_true), if_neg (by rw [n2]; exact Bool.false_ne_true), if_neg (by rw [n3]; exact Bool.false_ne_true), if_neg (by rw [n4]; exact Bool.false_ne_true), if_neg (by rw [n5]; exact Bool.false_ne_true), if_pos y]
theorem next_7 {U : List Int} (n0 : (Css.pk 0 U == -1) = false) (n1 : Css.isSpace (Css.pk 0 U) = false) (n2 : (Css.pk 0 U == 34 || Css.pk 0 U == 39) = false) (n3 : (Css.pk 0 U == 35 && (Css.continues (Css.pk 1 U) || Css.escapes (Css.pk 1 U) (Css.pk 2 U))) = false) (n4 : Css.counts (Css.pk 0 U) (Css.pk 1 U) (Css.pk 2 U) = false) (n5 : (Css.pk 0 U == 45 && Css.pk 1 U == 45 && Css.pk 2 U == 62) = false) (n6 : Css.identifies (Css.pk 0 U) (Css.pk 1 U) (Css.pk 2 U) = false) (y : ((Css.pk 0 U == 60 && Css.pk 1 U == 33 && Css.pk 2 U == 45 && Css.pk 3 U == 45)) = true) : Css.next U = (⟨5, 0, false, []⟩, U.drop 4, false) := by
 unfold Css.next
 dsimp only
 rw [if_neg (by rw [n0]; exact Bool.false_ne_true), if_neg (by rw [n1]; exact Bool.false_ne_true), if_neg (by rw [n2]; exact Bool.false_ne_true), if_neg (by rw [n3]; exact Bool.false_ne_true), if_neg (by rw [n4]; exact Bool.false_ne_true), if_neg (by rw [n5]; exact Bool.false_ne_true), if_neg (by rw [n6]; exact Bool.false_ne_true), if_pos y]
theorem next_8 {U : List Int} (n0 : (Css.pk 0 U == -1) = false) (n1 : Css.isSpace (Css.pk 0 U) = false) (n2 : (Css.pk 0 U == 34 || Css.pk 0 U == 39) = false) (n3 : (Css.pk 0 U == 35 && (Css.continues (Css.pk 1 U) || Css.escapes (Css.pk 1 U) (Css.pk 2 U))) = false) (n4 : Css.counts (Css.pk 0 U) (Css.pk 1 U) (Css.pk 2 U) = false) (n5 : (Css.pk 0 U == 45 && Css.pk 1 U == 45 && Css.pk 2 U == 62) = false) (n6 : Css.identifies (Css.pk 0 U) (Css.pk 1 U) (Css.pk 2 U) = false) (n7 : (Css.pk 0 U == 60 && Css.pk 1 U == 33 && Css.pk 2 U == 45 && Css.pk 3 U == 45) = false) (y : ((Css.pk 0 U == 64 && Css.identifies (Css.pk 1 U) (Css.pk 2 U) (Css.pk 3 U))) = true) : Css.next U = (⟨1, 0, false, (Css.name U.tail).1⟩, (Css.name U.tail).2) := by
 unfold Css.next
 dsimp only
 rw [if_neg (by rw [n0]; exact Bool.false_ne_true), if_neg (by rw [n1]; exact Bool.false_ne_true), if_neg (by rw [n2]; exact Bool.false_ne_true), if_neg (by rw [n3]; exact Bool.false_ne_true), if_neg (by rw [n4]; exact Bool.false_ne_true), if_neg (by rw [n5]; exact Bool.false_ne_true), if_neg (by rw [n6]; exact Bool.false_ne_true), if_neg (by rw [n7]; exact Bool.false_ne_true), if_pos y]
theorem next_9 {U : List Int} (n0 : (Css.pk 0 U == -1) = false) (n1 : Css.isSpace (Css.pk 0 U) = false) (n2 : (Css.pk 0 U == 34 || Css.pk 0 U == 39) = false) (n3 : (Css.pk 0 U == 35 && (Css.continues (Css.pk 1 U) || Css.escapes (Css.pk 1 U) (Css.pk 2 U))) = false) (n4 : Css.counts (Css.pk 0 U) (Css.pk 1 U) (Css.pk 2 U) = false) (n5 : (Css.pk 0 U == 45 && Css.pk 1 U == 45 && Css.pk 2 U == 62) = false) (n6 : Css.identifies (Css.pk 0 U) (Css.pk 1 U) (Css.pk 2 U) = false) (n7 : (Css.pk 0 U == 60 && Css.pk 1 U == 33 && Css.pk 2 U == 45 && Css.pk 3 U == 45) = false) (n8 : (Css.pk 0 U == 64 && Css.identifies (Css.pk 1 U) (Css.pk 2 U) (Css.pk 3 U)) = false) : Css.next U = (⟨Css.signKind (Css.pk 0 U), 0, false, []⟩, U.tail, false) := by
 unfold Css.next
 dsimp only
 rw [if_neg (by rw [n0]; exact Bool.false_ne_true), if_neg (by rw [n1]; exact Bool.false_ne_true), if_neg (by rw [n2]; exact Bool.false_ne_true), if_neg (by rw [n3]; exact Bool.false_ne_true), if_neg (by rw [n4]; exact Bool.false_ne_true), if_neg (by rw [n5]; exact Bool.false_ne_true), if_neg (by rw [n6]; exact Bool.false_ne_true), if_neg (by rw [n7]; exact Bool.false_ne_true), if_neg (by rw [n8]; exact Bool.false_ne_true)]
set_option maxRecDepth 100000 in
set_option maxHeartbeats 4000000 in
theorem c54 {w : World} {g : Nat} {s : ByteArray} {U : List Int} {cv : Value} {op : Bool} (h : Lx w g s U cv op) :
  Calls Tryz.prog 54 #[.pointer (some ⟨g, 0, none⟩)] w fun e w' => e = .returned (tkVal (Css.next U).1) ∧ Lx w' g s (Css.next U).2.1 cv (op || (Css.next U).2.2) ∧ Kp w w' g := by
 have hlt := lt_of_block h.blk
 have hne : w.heap.size ≠ g := by omega
 have hL := h.allocd (.cells #[Value.int IntKind.i64 0, Value.int IntKind.i64 0, Value.int IntKind.i64 0, Value.int IntKind.i64 0, Value.bool false, Value.string { data := #[] }] 62)
 have HS : Slot _ w.heap.size := new_blk w (.cells #[Value.int IntKind.i64 0, Value.int IntKind.i64 0, Value.int IntKind.i64 0, Value.int IntKind.i64 0, Value.bool false, Value.string { data := #[] }] 62)
 have HK : Hid (Kp w _ g) := Lib.hid ((Kp.refl w g).allocdR (.cells #[Value.int IntKind.i64 0, Value.int IntKind.i64 0, Value.int IntKind.i64 0, Value.int IntKind.i64 0, Value.bool false, Value.string { data := #[] }] 62))
 generalize hR : Css.next U = R
 have HR := Lib.hid hR
 clear hR h
 go_enter Tryz.func54, Tryz.ntmps54
 go_wp2_with fail
 refine (c59_0 hL).mono ?_
 rintro e w' ⟨rfl, rfl⟩
 go_wp2_with fail
 refine (c59_1 hL).mono ?_
 rintro e w' ⟨rfl, rfl⟩
 go_wp2_with fail
 refine (c59_2 hL).mono ?_
 rintro e w' ⟨rfl, rfl⟩
 generalize w.alloc (.cells #[Value.int IntKind.i64 0, Value.int IntKind.i64 0, Value.int IntKind.i64 0, Value.int IntKind.i64 0, Value.bool false, Value.string { data := #[] }] 62) = w1 at hL HS HK ⊢
 have h := hL
 clear hL
 cases y : (Css.pk 0 U == -1) with
 | true =>
  have HE := Lib.hid (HR.out.symm.trans (next_0 y))
  obtain ⟨hc0, hc1, hc2, hc3, hc4, hc5, hf0, hf1, hf2, hf3, hf4, hf5⟩ := six HS
  go_wp2
  rw [HE.out]
  exact bodyPost_ret (v := .agg (tkCells 0 0 0 0 false (str []))) (by simp [results, Tryz.results54, go_sem, tkVal, tkCells, str, hc0, hc1, hc2, hc3, hc4, hc5]) rfl ⟨rfl, by simpa using h.six hne _ _ _ _ _ _, HK.out.six (Nat.le_refl _) _ _ _ _ _ _⟩
 | false =>
  have n0 := y
  clear y
  go_wp2_with fail
  refine (c64 _ _).mono ?_
  rintro e w' ⟨rfl, rfl⟩
  cases y : (Css.isSpace (Css.pk 0 U)) with
  | true =>
   have HE := Lib.hid (HR.out.symm.trans (next_1 n0 y))
   go_wp2_with fail
   refine (c65 h).mono ?_
   rintro e w2 ⟨rfl, h2, hK2⟩
   obtain ⟨hc0, hc1, hc2, hc3, hc4, hc5, hf0, hf1, hf2, hf3, hf4, hf5⟩ := six (Kp.keep hK2 HS hne)
   go_wp2
   rw [HE.out]
   exact bodyPost_ret (v := .agg (tkCells 38 0 0 0 false (str []))) (by simp [results, Tryz.results54, go_sem, tkVal, tkCells, str, hc0, hc1, hc2, hc3, hc4, hc5]) rfl ⟨rfl, by simpa using h2.six hne _ _ _ _ _ _, (HK.out.trans hK2).six (Nat.le_refl _) _ _ _ _ _ _⟩
  | false =>
   have n1 := y
   clear y
   go_upto_region 7 with (fail)
   go_cut [23] (fun v wc => v = .bool (Css.pk 0 U == 34 || Css.pk 0 U == 39) ∧ w1 = wc)
   case first =>
    cases t1 : (Css.pk 0 U == 34) <;> cases t2 : (Css.pk 0 U == 39)
    all_goals (go_wp2_with fail; go_meet; exact ⟨by simp [t1, t2], rfl⟩)
   case rest =>
    obtain ⟨rfl, rfl⟩ := hcut
    cases y : ((Css.pk 0 U == 34 || Css.pk 0 U == 39)) with
    | true =>
     have HE := Lib.hid (HR.out.symm.trans (next_2 n0 n1 y))
     go_wp2_with fail
     refine (c66 h (by simpa using y)).mono ?_
     rintro e w2 ⟨rfl, h2, hK2⟩
     obtain ⟨hc0, hc1, hc2, hc3, hc4, hc5, hf0, hf1, hf2, hf3, hf4, hf5⟩ := six (Kp.keep hK2 HS hne)
     simp only [tkVal, tkCells]
     go_wp2
     rw [HE.out]
     exact bodyPost_ret (v := tkVal (Css.quoted (Css.pk 0 U) [] U.tail).1) (by simp [results, Tryz.results54, go_sem, tkVal, tkCells, str, hc0, hc1, hc2, hc3, hc4, hc5]) rfl ⟨rfl, h2.six hne _ _ _ _ _ _, (HK.out.trans hK2).six (Nat.le_refl _) _ _ _ _ _ _⟩
    | false =>
     have n2 := y
     clear y
     go_upto_region 9 with (fail)
     go_cut [32] (fun v wc => v = .bool (Css.pk 0 U == 35 && (Css.continues (Css.pk 1 U) || Css.escapes (Css.pk 1 U) (Css.pk 2 U))) ∧ w1 = wc)
     case first =>
      cases t1 : (Css.pk 0 U == 35) with
      | false => go_wp2_with fail; go_meet; exact ⟨by simp only [t1, Bool.and_false, Bool.false_and, Bool.and_true, Bool.true_and], rfl⟩
      | true =>
       cases t2 : Css.continues (Css.pk 1 U) with
       | true =>
        go_wp2_with fail
        refine (c58 _ _).mono ?_
        rintro e w' ⟨rfl, rfl⟩
        rw [t2]
        go_wp2_with fail
        go_meet
        exact ⟨by simp only [t1, t2, Bool.or_false, Bool.or_true, Bool.true_or, Bool.false_or, Bool.and_false, Bool.false_and, Bool.and_true, Bool.true_and], rfl⟩
       | false =>
        go_wp2_with fail
        refine (c58 _ _).mono ?_
        rintro e w' ⟨rfl, rfl⟩
        rw [t2]
        go_wp2_with fail
        refine (c62 _ _ _).mono ?_
        rintro e w' ⟨rfl, rfl⟩
        go_wp2_with fail
        go_meet
        exact ⟨by simp only [t1, t2, Bool.or_false, Bool.or_true, Bool.true_or, Bool.false_or, Bool.and_false, Bool.false_and, Bool.and_true, Bool.true_and], rfl⟩
     case rest =>
      obtain ⟨rfl, rfl⟩ := hcut
      cases y : ((Css.pk 0 U == 35 && (Css.continues (Css.pk 1 U) || Css.escapes (Css.pk 1 U) (Css.pk 2 U)))) with
      | true =>
       have HE := Lib.hid (HR.out.symm.trans (next_3 n0 n1 n2 y))
       go_wp2_with fail
       refine (c61 h).mono ?_
       rintro e w2 ⟨rfl, h2, hK2⟩
       go_wp2_with fail
       refine (c59_2 h2).mono ?_
       rintro e w' ⟨rfl, rfl⟩
       rw [pk_tail]
       go_wp2_with fail
       refine (c67 _ _ _ _).mono ?_
       rintro e w' ⟨rfl, rfl⟩
       go_wp2_with fail
       refine (c47 h2).mono ?_
       rintro e w3 ⟨rfl, h3, hK3⟩
       obtain ⟨hc0, hc1, hc2, hc3, hc4, hc5, hf0, hf1, hf2, hf3, hf4, hf5⟩ := six (Kp.keep hK3 (Kp.keep hK2 HS hne) hne)
       go_wp2
       rw [HE.out]
       exact bodyPost_ret (v := .agg (tkCells 28 0 0 0 (Css.identifies (Css.pk 1 U) (Css.pk 2 U) (Css.pk 3 U)) (str (Css.name U.tail).1))) (by simp [results, Tryz.results54, go_sem, tkVal, tkCells, str, hc0, hc1, hc2, hc3, hc4, hc5]) rfl ⟨rfl, by simpa using h3.six hne _ _ _ _ _ _, ((HK.out.trans hK2).trans hK3).six (Nat.le_refl _) _ _ _ _ _ _⟩
      | false =>
       have n3 := y
       clear y
       go_wp2_with fail
       refine (c68 _ _ _ _).mono ?_
       rintro e w' ⟨rfl, rfl⟩
       cases y : (Css.counts (Css.pk 0 U) (Css.pk 1 U) (Css.pk 2 U)) with
       | true =>
        have HE := Lib.hid (HR.out.symm.trans (next_4 n0 n1 n2 n3 y))
        go_wp2_with fail
        refine (c69 h).mono ?_
        rintro e w2 ⟨rfl, h2, hK2⟩
        obtain ⟨hc0, hc1, hc2, hc3, hc4, hc5, hf0, hf1, hf2, hf3, hf4, hf5⟩ := six (Kp.keep hK2 HS hne)
        simp only [tkVal, tkCells]
        go_wp2
        rw [HE.out]
        exact bodyPost_ret (v := tkVal (Css.numeric U).1) (by simp [results, Tryz.results54, go_sem, tkVal, tkCells, str, hc0, hc1, hc2, hc3, hc4, hc5]) rfl ⟨rfl, h2.six hne _ _ _ _ _ _, (HK.out.trans hK2).six (Nat.le_refl _) _ _ _ _ _ _⟩
       | false =>
        have n4 := y
        clear y
        go_upto_region 15 with (fail)
        go_cut [62] (fun v wc => v = .bool (Css.pk 0 U == 45 && Css.pk 1 U == 45 && Css.pk 2 U == 62) ∧ w1 = wc)
        case first =>
         cases t1 : (Css.pk 0 U == 45) with
         | false => go_wp2_with fail; go_meet; exact ⟨by simp only [t1, Bool.and_false, Bool.false_and, Bool.and_true, Bool.true_and], rfl⟩
         | true =>
          cases t2 : (Css.pk 1 U == 45) with
          | false => go_wp2_with fail; go_meet; exact ⟨by simp only [t1, t2, Bool.and_false, Bool.false_and, Bool.and_true, Bool.true_and], rfl⟩
          | true => cases t3 : (Css.pk 2 U == 62) <;> (go_wp2_with fail; go_meet; exact ⟨by simp only [t1, t2, t3, Bool.and_false, Bool.false_and, Bool.and_true, Bool.true_and], rfl⟩)
        case rest =>
         obtain ⟨rfl, rfl⟩ := hcut
         cases y : ((Css.pk 0 U == 45 && Css.pk 1 U == 45 && Css.pk 2 U == 62)) with
         | true =>
          have HE := Lib.hid (HR.out.symm.trans (next_5 n0 n1 n2 n3 n4 y))
          have hy : (Css.pk 0 U = 45 ∧ Css.pk 1 U = 45) ∧ Css.pk 2 U = 62 := by simpa using y
          have hw := leap3 hy.1.1 hy.1.2 hy.2 (by decide) (by decide) (by decide)
          have hfit := h.fits
          have hsz := h.size
          have hg1 := free_blk h.blk 1
          have hsum : ((s.size - Css.wd U : Nat) : Int) + 3 = ((s.size - Css.wd (U.drop 3) : Nat) : Int) := by omega
          have hpos := h.pos
          have HW := Lib.hid (h.moved 3)
          clear hw hy hfit y h HR
          obtain ⟨hc0, hc1, hc2, hc3, hc4, hc5, hf0, hf1, hf2, hf3, hf4, hf5⟩ := six HS
          go_wp2
          rw [HE.out]
          exact bodyPost_ret (v := .agg (tkCells 4 0 0 0 false (str []))) (by simp [results, Tryz.results54, go_sem, tkVal, tkCells, str, hc0, hc1, hc2, hc3, hc4, hc5]) rfl ⟨rfl, by simpa using HW.out.six hne _ _ _ _ _ _, (HK.out.trans (Kp.opened _ _ _ _)).six (Nat.le_refl _) _ _ _ _ _ _⟩
         | false =>
          have n5 := y
          clear y
          go_wp2_with fail
          refine (c67 _ _ _ _).mono ?_
          rintro e w' ⟨rfl, rfl⟩
          cases y : (Css.identifies (Css.pk 0 U) (Css.pk 1 U) (Css.pk 2 U)) with
          | true =>
           have HE := Lib.hid (HR.out.symm.trans (next_6 n0 n1 n2 n3 n4 n5 y))
           go_wp2_with fail
           refine (c70 h).mono ?_
           rintro e w2 ⟨rfl, h2, hK2⟩
           obtain ⟨hc0, hc1, hc2, hc3, hc4, hc5, hf0, hf1, hf2, hf3, hf4, hf5⟩ := six (Kp.keep hK2 HS hne)
           simp only [tkVal, tkCells]
           go_wp2
           rw [HE.out]
           exact bodyPost_ret (v := tkVal (Css.named U).1) (by simp [results, Tryz.results54, go_sem, tkVal, tkCells, str, hc0, hc1, hc2, hc3, hc4, hc5]) rfl ⟨rfl, h2.six hne _ _ _ _ _ _, (HK.out.trans hK2).six (Nat.le_refl _) _ _ _ _ _ _⟩
          | false =>
           have n6 := y
           clear y
           go_upto_region 20 with (fail)
           go_cut [88] (fun v wc => v = .bool (Css.pk 0 U == 60 && Css.pk 1 U == 33 && Css.pk 2 U == 45 && Css.pk 3 U == 45) ∧ w1 = wc)
           case first =>
            cases t1 : (Css.pk 0 U == 60) with
            | false => go_wp2_with fail; go_meet; exact ⟨by simp only [t1, Bool.and_false, Bool.false_and, Bool.and_true, Bool.true_and], rfl⟩
            | true =>
             cases t2 : (Css.pk 1 U == 33) with
             | false => go_wp2_with fail; go_meet; exact ⟨by simp only [t1, t2, Bool.and_false, Bool.false_and, Bool.and_true, Bool.true_and], rfl⟩
             | true =>
              cases t3 : (Css.pk 2 U == 45) with
              | false => go_wp2_with fail; go_meet; exact ⟨by simp only [t1, t2, t3, Bool.and_false, Bool.false_and, Bool.and_true, Bool.true_and], rfl⟩
              | true =>
               go_wp2_with fail
               refine (c59_3 h).mono ?_
               rintro e w' ⟨rfl, rfl⟩
               cases t4 : (Css.pk 3 U == 45) <;> (go_wp2_with fail; go_meet; exact ⟨by simp only [t1, t2, t3, t4, Bool.and_false, Bool.false_and, Bool.and_true, Bool.true_and], rfl⟩)
           case rest =>
            obtain ⟨rfl, rfl⟩ := hcut
            cases y : ((Css.pk 0 U == 60 && Css.pk 1 U == 33 && Css.pk 2 U == 45 && Css.pk 3 U == 45)) with
            | true =>
             have HE := Lib.hid (HR.out.symm.trans (next_7 n0 n1 n2 n3 n4 n5 n6 y))
             have hy : ((Css.pk 0 U = 60 ∧ Css.pk 1 U = 33) ∧ Css.pk 2 U = 45) ∧ Css.pk 3 U = 45 := by simpa using y
             have hw := leap4 hy.1.1.1 hy.1.1.2 hy.1.2 hy.2 (by decide) (by decide) (by decide) (by decide)
             have hfit := h.fits
             have hsz := h.size
             have hg1 := free_blk h.blk 1
             have hsum : ((s.size - Css.wd U : Nat) : Int) + 4 = ((s.size - Css.wd (U.drop 4) : Nat) : Int) := by omega
             have hpos := h.pos
             have HW := Lib.hid (h.moved 4)
             clear hw hy hfit y h HR
             obtain ⟨hc0, hc1, hc2, hc3, hc4, hc5, hf0, hf1, hf2, hf3, hf4, hf5⟩ := six HS
             go_wp2
             rw [HE.out]
             exact bodyPost_ret (v := .agg (tkCells 5 0 0 0 false (str []))) (by simp [results, Tryz.results54, go_sem, tkVal, tkCells, str, hc0, hc1, hc2, hc3, hc4, hc5]) rfl ⟨rfl, by simpa using HW.out.six hne _ _ _ _ _ _, (HK.out.trans (Kp.opened _ _ _ _)).six (Nat.le_refl _) _ _ _ _ _ _⟩
            | false =>
             have n7 := y
             clear y
             go_upto_region 23 with (fail)
             go_cut [112] (fun v wc => v = .bool (Css.pk 0 U == 64 && Css.identifies (Css.pk 1 U) (Css.pk 2 U) (Css.pk 3 U)) ∧ w1 = wc)
             case first =>
              cases t1 : (Css.pk 0 U == 64) with
              | false => go_wp2_with fail; go_meet; exact ⟨by simp only [t1, Bool.and_false, Bool.false_and, Bool.and_true, Bool.true_and], rfl⟩
              | true =>
               go_wp2_with fail
               refine (c59_3 h).mono ?_
               rintro e w' ⟨rfl, rfl⟩
               go_wp2_with fail
               refine (c67 _ _ _ _).mono ?_
               rintro e w' ⟨rfl, rfl⟩
               go_wp2_with fail
               go_meet
               exact ⟨by simp only [t1, Bool.or_false, Bool.or_true, Bool.true_or, Bool.false_or, Bool.and_false, Bool.false_and, Bool.and_true, Bool.true_and], rfl⟩
             case rest =>
              obtain ⟨rfl, rfl⟩ := hcut
              cases y : ((Css.pk 0 U == 64 && Css.identifies (Css.pk 1 U) (Css.pk 2 U) (Css.pk 3 U))) with
              | true =>
               have HE := Lib.hid (HR.out.symm.trans (next_8 n0 n1 n2 n3 n4 n5 n6 n7 y))
               go_wp2_with fail
               refine (c61 h).mono ?_
               rintro e w2 ⟨rfl, h2, hK2⟩
               go_wp2_with fail
               refine (c47 h2).mono ?_
               rintro e w3 ⟨rfl, h3, hK3⟩
               obtain ⟨hc0, hc1, hc2, hc3, hc4, hc5, hf0, hf1, hf2, hf3, hf4, hf5⟩ := six (Kp.keep hK3 (Kp.keep hK2 HS hne) hne)
               go_wp2
               rw [HE.out]
               exact bodyPost_ret (v := .agg (tkCells 1 0 0 0 false (str (Css.name U.tail).1))) (by simp [results, Tryz.results54, go_sem, tkVal, tkCells, str, hc0, hc1, hc2, hc3, hc4, hc5]) rfl ⟨rfl, by simpa using h3.six hne _ _ _ _ _ _, ((HK.out.trans hK2).trans hK3).six (Nat.le_refl _) _ _ _ _ _ _⟩
              | false =>
               have n8 := y
               clear y
               have HE := Lib.hid (HR.out.symm.trans (next_9 n0 n1 n2 n3 n4 n5 n6 n7 n8))
               go_wp2_with fail
               refine (c71 h).mono ?_
               rintro e w2 ⟨rfl, h2, hK2⟩
               obtain ⟨hc0, hc1, hc2, hc3, hc4, hc5, hf0, hf1, hf2, hf3, hf4, hf5⟩ := six (Kp.keep hK2 HS hne)
               simp only [tkVal, tkCells]
               go_wp2
               rw [HE.out]
               exact bodyPost_ret (v := tkVal ⟨Css.signKind (Css.pk 0 U), 0, false, []⟩) (by simp [results, Tryz.results54, go_sem, tkVal, tkCells, str, hc0, hc1, hc2, hc3, hc4, hc5]) rfl ⟨rfl, by simpa using h2.six hne _ _ _ _ _ _, (HK.out.trans hK2).six (Nat.le_refl _) _ _ _ _ _ _⟩
end Go.Proofs.YtkfdcbdlcipmfaaGreatFmt
