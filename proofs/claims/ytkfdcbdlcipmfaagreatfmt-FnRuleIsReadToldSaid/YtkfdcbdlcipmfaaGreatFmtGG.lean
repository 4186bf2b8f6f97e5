/- The reference's lexer in memory: numbers. The text has at most 2^60 bytes. -/
import Derived.Test.YtkfdcbdlcipmfaaGreatFmtProg
import Derived.WalkKit
import Derived.WalkLawsBesides
import Derived.WalkSpells
import Derived.BigQuiet
import Derived.Deep.QuietTactic
import Derived.Outline
import Derived.Laws.BitsLemmas
import Derived.Lib.Hide
import Derived.OneCell
import Derived.Deep.Draws
import Derived.Deep.LoopGhost
import Derived.Laws.BytesArg
import Derived.Laws.ResultCell
import Derived.Deep.DeepCutAuto
import Derived.Deep.CutBlock
import Derived.Test.YtkfdcbdlcipmfaaGreatFmtGF
import Derived.Test.YtkfdcbdlcipmfaaGreatFmtGC
set_option linter.unusedVariables false
set_option linter.unusedSimpArgs false
namespace Go.Proofs.YtkfdcbdlcipmfaaGreatFmt
open Go.RowKit
theorem Lx.pos {w : World} {g : Nat} {s : ByteArray} {U : List Int} {cv : Value} {op : Bool} (h : Lx w g s U cv op) : w.cell? ⟨g, 1, none⟩ = some (.int .i64 ((s.size - Css.wd U : Nat) : Int)) :=
 cell_blk h.blk (i := 1) (v := .int .i64 ((s.size - Css.wd U : Nat) : Int)) rfl
set_option maxRecDepth 100000 in
set_option maxHeartbeats 4000000 in
theorem c69 {w : World} {g : Nat} {s : ByteArray} {U : List Int} {cv : Value} {op : Bool} (h : Lx w g s U cv op) :
  Calls Tryz.prog 69 #[.pointer (some ⟨g, 0, none⟩)] w fun e w' => e = .returned (tkVal (Css.numeric U).1) ∧ Lx w' g s (Css.numeric U).2.1 cv (op || (Css.numeric U).2.2) ∧ Kp w w' g := by
 have hlt := lt_of_block h.blk
 have hc1 := h.pos
 have hfit := h.fits
 have hne : w.heap.size ≠ g := by omega
 generalize hR : Css.numeric U = R
 have HR := Lib.hid hR
 clear hR
 go_enter Tryz.func69, Tryz.ntmps69
 go_wp2_with fail
 refine (c59_0 (h.allocd _)).mono ?_
 rintro e w' ⟨rfl, rfl⟩
 go_upto_region 3 with (fail)
 go_cut [19] (fun v19 wc => v19 = .bool (Css.pk 0 U == 43 || Css.pk 0 U == 45) ∧ Lx wc g s U cv op ∧ Slot wc w.heap.size ∧ Hid (Kp w wc g))
 case first =>
  have hL := h.allocd (.cells #[Value.int IntKind.i64 0, Value.int IntKind.i64 0, Value.int IntKind.i64 0, Value.int IntKind.i64 0, Value.bool false, Value.string { data := #[] }] 62)
  cases t1 : (Css.pk 0 U == 43) <;> cases t2 : (Css.pk 0 U == 45)
  all_goals (go_wp2_with fail; go_meet; exact ⟨by simp [t1, t2], hL, new_blk _ _, Kp.allocd (Kp.refl _ _)⟩)
 case rest =>
  clear h hc1
  obtain ⟨rfl, h, HS, HK⟩ := hcut
  have HB : Hid (Css.nSign U = if (Css.pk 0 U == 43 || Css.pk 0 U == 45) then U.tail else U) := rfl
  generalize (Css.pk 0 U == 43 || Css.pk 0 U == 45) = b at HB
  go_upto_if 19 with (fail)
  go_cut [] (fun wd => Lx wd g s (Css.nSign U) cv op ∧ Slot wd w.heap.size ∧ Hid (Kp w wd g))
  case first =>
   cases b with
   | true =>
    go_wp2_with fail
    refine (c61 h).mono ?_
    rintro e w2 ⟨rfl, hL2, hK2⟩
    go_wp2_with fail
    go_meet
    exact ⟨by rw [HB.out]; simpa using hL2, Kp.keep hK2 HS hne, HK.out.trans hK2⟩
   | false =>
    go_wp2_with fail
    go_meet
    exact ⟨by rw [HB.out, if_neg (by simp)]; exact h, HS, HK⟩
  case rest =>
   clear h HS HK HB
   obtain ⟨h, HS, HK⟩ := hcut
   go_wp2_with fail
   refine (c94 h).mono ?_
   rintro e w2 ⟨rfl, hL2, hK2⟩
   clear h
   have HS2 : Slot w2 w.heap.size := Kp.keep hK2 HS hne
   have HK2 := Lib.hid (HK.out.trans hK2)
   clear HS HK hK2
   generalize hD : Css.digits (Css.nSign U) = D at hL2
   have HD := Lib.hid hD
   clear hD
   go_upto_region 6 with (fail)
   go_cut [31] (fun v31 wc => v31 = .bool (Css.pk 0 D == 46 && Css.isDigit (Css.pk 1 D)) ∧ Lx wc g s D cv op ∧ Slot wc w.heap.size ∧ Hid (Kp w wc g))
   case first =>
    cases t1 : (Css.pk 0 D == 46) with
    | true =>
     go_wp2_with fail
     refine (c59_0 hL2).mono ?_
     rintro e w' ⟨rfl, rfl⟩
     go_wp2_with fail
     refine (c59_1 hL2).mono ?_
     rintro e w' ⟨rfl, rfl⟩
     go_wp2_with fail
     refine (c90 _ _).mono ?_
     rintro e w' ⟨rfl, rfl⟩
     go_wp2_with fail
     go_meet
     exact ⟨by simp [*], hL2, HS2, HK2⟩
    | false =>
     go_wp2_with fail
     refine (c59_0 hL2).mono ?_
     rintro e w' ⟨rfl, rfl⟩
     go_wp2_with fail
     go_meet
     exact ⟨by simp [*], hL2, HS2, HK2⟩
   case rest =>
    clear hL2 HS2 HK2
    obtain ⟨rfl, h, HS, HK⟩ := hcut
    have HB : Hid (Css.nFrac D = if (Css.pk 0 D == 46 && Css.isDigit (Css.pk 1 D)) then (Css.digits D.tail, false) else (D, Css.pk 0 D == 46)) := rfl
    generalize (Css.pk 0 D == 46 && Css.isDigit (Css.pk 1 D)) = b at HB
    go_upto_if 31 with (fail)
    go_cut [] (fun wd => Lx wd g s (Css.nFrac D).1 cv (op || (Css.nFrac D).2) ∧ Slot wd w.heap.size ∧ Hid (Kp w wd g))
    case first =>
     cases b with
     | true =>
      go_wp2_with fail
      refine (c61 h).mono ?_
      rintro e w2 ⟨rfl, hL2, hK2⟩
      go_wp2_with fail
      refine (c94 hL2).mono ?_
      rintro e w3 ⟨rfl, hL3, hK3⟩
      go_wp2_with fail
      go_meet
      exact ⟨by rw [HB.out]; simpa using hL3, Kp.keep hK3 (Kp.keep hK2 HS hne) hne, (HK.out.trans hK2).trans hK3⟩
     | false =>
      cases t1 : (Css.pk 0 D == 46) with
      | true =>
       have hf3 := free_blk h.blk 3
       have hc3 := cell_blk h.blk (i := 3) (v := .bool op) rfl
       go_wp2_with fail
       refine (c59_0 h).mono ?_
       rintro e w' ⟨rfl, rfl⟩
       go_wp2_with fail
       go_meet
       exact ⟨by rw [HB.out, if_neg (by simp), t1]; simpa using h.opened, Kp.keep (Kp.opened _ _ _ _) HS hne, HK.out.trans (Kp.opened _ _ _ _)⟩
      | false =>
       go_wp2_with fail
       refine (c59_0 h).mono ?_
       rintro e w' ⟨rfl, rfl⟩
       go_wp2_with fail
       go_meet
       exact ⟨by rw [HB.out, if_neg (by simp), t1]; simpa using h, HS, HK⟩
    case rest =>
     clear h HS HK HB
     obtain ⟨h, HS, HK⟩ := hcut
     have HF : Hid (Css.numHead U = (Css.nExp (Css.nFrac D).1, (Css.nFrac D).2)) := by rw [← HD.out]; rfl
     clear HD
     generalize Css.nFrac D = F at h HF
     obtain ⟨F, o⟩ := F
     simp only at h
     go_wp2_with fail
     refine (c59_0 h).mono ?_
     rintro e w' ⟨rfl, rfl⟩
     go_upto_region 12 with (fail)
     go_cut [49] (fun v49 wc => v49 = .bool (Css.pk 0 F == 101 || Css.pk 0 F == 69) ∧ Lx wc g s F cv (op || o) ∧ Slot wc w.heap.size ∧ Hid (Kp w wc g))
     case first =>
      cases t1 : (Css.pk 0 F == 101) <;> cases t2 : (Css.pk 0 F == 69)
      all_goals (go_wp2_with fail; go_meet; exact ⟨by simp [t1, t2], h, HS, HK⟩)
     case rest =>
      clear h HS HK
      obtain ⟨rfl, h, HS, HK⟩ := hcut
      have HB : Hid (Css.nExp F = if ((Css.pk 0 F == 101 || Css.pk 0 F == 69) && (Css.isDigit (Css.pk 1 F) || ((Css.pk 1 F == 43 || Css.pk 1 F == 45) && Css.isDigit (Css.pk 2 F)))) then Css.digits (F.drop 2) else F) := rfl
      generalize (Css.pk 0 F == 101 || Css.pk 0 F == 69) = b at HB
      go_upto_if 49 with (fail)
      go_cut [] (fun wd => Lx wd g s (Css.nExp F) cv (op || o) ∧ Slot wd w.heap.size ∧ Hid (Kp w wd g))
      case first =>
       cases b with
       | false =>
        go_wp2_with fail
        go_meet
        exact ⟨by rw [HB.out, if_neg (by simp)]; exact h, HS, HK⟩
       | true =>
        have hdr : F.tail.tail = F.drop 2 := by simp [← List.drop_one]
        have HDR := Lib.hid hdr
        clear hdr
        cases t1 : Css.isDigit (Css.pk 1 F) with
        | true =>
         go_wp2_with fail
         refine (c59_1 h).mono ?_
         rintro e w' ⟨rfl, rfl⟩
         go_wp2_with fail
         refine (c90 _ _).mono ?_
         rintro e w' ⟨rfl, rfl⟩
         go_wp2_with fail
         refine (c61 h).mono ?_
         rintro e w2 ⟨rfl, hL2, hK2⟩
         go_wp2_with fail
         refine (c61 hL2).mono ?_
         rintro e w3 ⟨rfl, hL3, hK3⟩
         go_wp2_with fail
         refine (c94 hL3).mono ?_
         rintro e w4 ⟨rfl, hL4, hK4⟩
         go_wp2_with fail
         go_meet
         exact ⟨by rw [HB.out, if_pos (by simp [*]), ← HDR.out]; exact hL4, Kp.keep hK4 (Kp.keep hK3 (Kp.keep hK2 HS hne) hne) hne, ((HK.out.trans hK2).trans hK3).trans hK4⟩
        | false =>
         cases t2 : (Css.pk 1 F == 43) with
         | true =>
          cases t3 : Css.isDigit (Css.pk 2 F) with
          | true =>
           go_wp2_with fail
           refine (c59_1 h).mono ?_
           rintro e w' ⟨rfl, rfl⟩
           go_wp2_with fail
           refine (c90 _ _).mono ?_
           rintro e w' ⟨rfl, rfl⟩
           go_wp2_with fail
           refine (c59_2 h).mono ?_
           rintro e w' ⟨rfl, rfl⟩
           go_wp2_with fail
           refine (c90 _ _).mono ?_
           rintro e w' ⟨rfl, rfl⟩
           go_wp2_with fail
           refine (c61 h).mono ?_
           rintro e w2 ⟨rfl, hL2, hK2⟩
           go_wp2_with fail
           refine (c61 hL2).mono ?_
           rintro e w3 ⟨rfl, hL3, hK3⟩
           go_wp2_with fail
           refine (c94 hL3).mono ?_
           rintro e w4 ⟨rfl, hL4, hK4⟩
           go_wp2_with fail
           go_meet
           exact ⟨by rw [HB.out, if_pos (by simp [*]), ← HDR.out]; exact hL4, Kp.keep hK4 (Kp.keep hK3 (Kp.keep hK2 HS hne) hne) hne, ((HK.out.trans hK2).trans hK3).trans hK4⟩
          | false =>
           go_wp2_with fail
           refine (c59_1 h).mono ?_
           rintro e w' ⟨rfl, rfl⟩
           go_wp2_with fail
           refine (c90 _ _).mono ?_
           rintro e w' ⟨rfl, rfl⟩
           go_wp2_with fail
           refine (c59_2 h).mono ?_
           rintro e w' ⟨rfl, rfl⟩
           go_wp2_with fail
           refine (c90 _ _).mono ?_
           rintro e w' ⟨rfl, rfl⟩
           go_wp2_with fail
           go_meet
           exact ⟨by rw [HB.out, if_neg (by simp [*])]; exact h, HS, HK⟩
         | false =>
          cases t4 : (Css.pk 1 F == 45) with
          | true =>
           cases t3 : Css.isDigit (Css.pk 2 F) with
           | true =>
            go_wp2_with fail
            refine (c59_1 h).mono ?_
            rintro e w' ⟨rfl, rfl⟩
            go_wp2_with fail
            refine (c90 _ _).mono ?_
            rintro e w' ⟨rfl, rfl⟩
            go_wp2_with fail
            refine (c59_2 h).mono ?_
            rintro e w' ⟨rfl, rfl⟩
            go_wp2_with fail
            refine (c90 _ _).mono ?_
            rintro e w' ⟨rfl, rfl⟩
            go_wp2_with fail
            refine (c61 h).mono ?_
            rintro e w2 ⟨rfl, hL2, hK2⟩
            go_wp2_with fail
            refine (c61 hL2).mono ?_
            rintro e w3 ⟨rfl, hL3, hK3⟩
            go_wp2_with fail
            refine (c94 hL3).mono ?_
            rintro e w4 ⟨rfl, hL4, hK4⟩
            go_wp2_with fail
            go_meet
            exact ⟨by rw [HB.out, if_pos (by simp [*]), ← HDR.out]; exact hL4, Kp.keep hK4 (Kp.keep hK3 (Kp.keep hK2 HS hne) hne) hne, ((HK.out.trans hK2).trans hK3).trans hK4⟩
           | false =>
            go_wp2_with fail
            refine (c59_1 h).mono ?_
            rintro e w' ⟨rfl, rfl⟩
            go_wp2_with fail
            refine (c90 _ _).mono ?_
            rintro e w' ⟨rfl, rfl⟩
            go_wp2_with fail
            refine (c59_2 h).mono ?_
            rintro e w' ⟨rfl, rfl⟩
            go_wp2_with fail
            refine (c90 _ _).mono ?_
            rintro e w' ⟨rfl, rfl⟩
            go_wp2_with fail
            go_meet
            exact ⟨by rw [HB.out, if_neg (by simp [*])]; exact h, HS, HK⟩
          | false =>
           go_wp2_with fail
           refine (c59_1 h).mono ?_
           rintro e w' ⟨rfl, rfl⟩
           go_wp2_with fail
           refine (c90 _ _).mono ?_
           rintro e w' ⟨rfl, rfl⟩
           go_wp2_with fail
           go_meet
           exact ⟨by rw [HB.out, if_neg (by simp [*])]; exact h, HS, HK⟩
      case rest =>
       clear h HS HK HB
       obtain ⟨h, HS, HK⟩ := hcut
       have HN : Hid (Css.numHead U = (Css.nExp F, o)) := HF.out
       clear HF
       generalize Css.nExp F = E at h HN
       have hle : Css.wd E ≤ Css.wd U := by
        obtain ⟨p, hp⟩ := Css.numHead_suffix U
        rw [HN.out] at hp
        rw [hp, Css.wd_append]; simp
       obtain ⟨hc0, hc1, hc2, hc3, hc4, hc5, hf0, hf1, hf2, hf3, hf4, hf5⟩ := six HS
       have hpos := h.pos
       have hsz := h.size
       cases ti : Css.identifies (Css.pk 0 E) (Css.pk 1 E) (Css.pk 2 E) with
       | true =>
        have HE : Hid (R = (⟨26, Css.wd U - Css.wd E, false, []⟩, (Css.name E).2.1, o || (Css.name E).2.2)) := by
         show _ = _
         rw [← HR.out]; unfold Css.numeric; rw [HN.out]; simp [ti]
        go_wp2_with fail
        refine (c59_0 h).mono ?_
        rintro e w' ⟨rfl, rfl⟩
        go_wp2_with fail
        refine (c59_1 h).mono ?_
        rintro e w' ⟨rfl, rfl⟩
        go_wp2_with fail
        refine (c59_2 h).mono ?_
        rintro e w' ⟨rfl, rfl⟩
        go_wp2_with fail
        refine (c67 _ _ _ _).mono ?_
        rintro e w' ⟨rfl, rfl⟩
        go_wp2_with fail
        refine (c47 h).mono ?_
        rintro e w2 ⟨rfl, hL2, hK2⟩
        obtain ⟨hd0, hd1, hd2, hd3, hd4, hd5, he0, he1, he2, he3, he4, he5⟩ := six (Kp.keep hK2 HS hne)
        have hun : ((s.size - Css.wd E : Nat) : Int) - ((s.size - Css.wd U : Nat) : Int) = ((Css.wd U - Css.wd E : Nat) : Int) := by omega
        go_wp2
        rw [HE.out]
        exact bodyPost_ret (v := .agg (tkCells 26 0 0 (Css.wd U - Css.wd E : Nat) false (str []))) (by simp [results, Tryz.results69, go_sem, tkCells, str, *]) rfl ⟨rfl, by simpa [Bool.or_assoc] using hL2.six hne _ _ _ _ _ _, (HK.out.trans hK2).six (Nat.le_refl _) _ _ _ _ _ _⟩
       | false =>
        cases tp : (Css.pk 0 E == 37) with
        | true =>
         have HE : Hid (R = (⟨34, 0, false, []⟩, E.tail, o)) := by
          show _ = _
          rw [← HR.out]; unfold Css.numeric; rw [HN.out]; simp [ti, tp]
         go_wp2_with fail
         refine (c59_0 h).mono ?_
         rintro e w' ⟨rfl, rfl⟩
         go_wp2_with fail
         refine (c59_1 h).mono ?_
         rintro e w' ⟨rfl, rfl⟩
         go_wp2_with fail
         refine (c59_2 h).mono ?_
         rintro e w' ⟨rfl, rfl⟩
         go_wp2_with fail
         refine (c67 _ _ _ _).mono ?_
         rintro e w' ⟨rfl, rfl⟩
         go_wp2_with fail
         refine (c59_0 h).mono ?_
         rintro e w' ⟨rfl, rfl⟩
         go_wp2_with fail
         refine (c61 h).mono ?_
         rintro e w2 ⟨rfl, hL2, hK2⟩
         obtain ⟨hd0, hd1, hd2, hd3, hd4, hd5, he0, he1, he2, he3, he4, he5⟩ := six (Kp.keep hK2 HS hne)
         go_wp2
         rw [HE.out]
         exact bodyPost_ret (v := .agg (tkCells 34 0 0 0 false (str []))) (by simp [results, Tryz.results69, go_sem, tkCells, str, *]) rfl ⟨rfl, hL2.six hne _ _ _ _ _ _, (HK.out.trans hK2).six (Nat.le_refl _) _ _ _ _ _ _⟩
        | false =>
         have HE : Hid (R = (⟨30, 0, false, []⟩, E, o)) := by
          show _ = _
          rw [← HR.out]; unfold Css.numeric; rw [HN.out]; simp [ti, tp]
         go_wp2_with fail
         refine (c59_0 h).mono ?_
         rintro e w' ⟨rfl, rfl⟩
         go_wp2_with fail
         refine (c59_1 h).mono ?_
         rintro e w' ⟨rfl, rfl⟩
         go_wp2_with fail
         refine (c59_2 h).mono ?_
         rintro e w' ⟨rfl, rfl⟩
         go_wp2_with fail
         refine (c67 _ _ _ _).mono ?_
         rintro e w' ⟨rfl, rfl⟩
         go_wp2_with fail
         refine (c59_0 h).mono ?_
         rintro e w' ⟨rfl, rfl⟩
         go_wp2
         rw [HE.out]
         exact bodyPost_ret (v := .agg (tkCells 30 0 0 0 false (str []))) (by simp [results, Tryz.results69, go_sem, tkCells, str, *]) rfl ⟨rfl, h.six hne _ _ _ _ _ _, HK.out.six (Nat.le_refl _) _ _ _ _ _ _⟩
end Go.Proofs.YtkfdcbdlcipmfaaGreatFmt
/- The reference's lexer in memory: the name url, whitespace at the ends of a text, bad addresses. The text has at most 2^60 bytes. -/
namespace Go.Proofs.YtkfdcbdlcipmfaaGreatFmt
open Go.RowKit
theorem isURL_len {l : List UInt8} (h : l.length ≠ 3) : Css.isURL l = false := by
 match l, h with
 | [], _ => rfl
 | [_], _ => rfl
 | [_, _], _ => rfl
 | [_, _, _], h => exact absurd rfl h
 | _ :: _ :: _ :: _ :: _, _ => rfl
theorem isURL_bt {s : ByteArray} (h : s.size = 3) : Css.isURL s.data.toList = ((bt s 0 == 117 || bt s 0 == 85) && (bt s 1 == 114 || bt s 1 == 82) && (bt s 2 == 108 || bt s 2 == 76)) := by
 have h0 := sfx_cons s 0 (by omega)
 have h1 := sfx_cons s 1 (by omega)
 have h2 := sfx_cons s 2 (by omega)
 have h3 := sfx_nil s 3 (by omega)
 have e : s.data.toList = [s[0], s[1], s[2]] := by
  have : sfx s 0 = s.data.toList := by simp [sfx]
  rw [← this, h0, h1, h2, h3]
 rw [e]
 have b0 := bt_at s 0 (by omega)
 have b1 := bt_at s 1 (by omega)
 have b2 := bt_at s 2 (by omega)
 have q : ∀ (x : UInt8) (n : Nat), n < 256 → (x == UInt8.ofNat n) = ((x.toNat : Int) == (n : Int)) := by
  intro x n hn
  rw [Bool.eq_iff_iff]
  simp only [beq_iff_eq]
  rw [← UInt8.toNat_inj, UInt8.toNat_ofNat']
  omega
 simp only [Css.isURL]
 rw [← b0, ← b1, ← b2]
 rw [show (117 : UInt8) = UInt8.ofNat 117 from rfl, show (85 : UInt8) = UInt8.ofNat 85 from rfl, show (114 : UInt8) = UInt8.ofNat 114 from rfl, show (82 : UInt8) = UInt8.ofNat 82 from rfl,
  show (108 : UInt8) = UInt8.ofNat 108 from rfl, show (76 : UInt8) = UInt8.ofNat 76 from rfl]
 rw [q _ 117 (by decide), q _ 85 (by decide), q _ 114 (by decide), q _ 82 (by decide), q _ 108 (by decide), q _ 76 (by decide)]
 rfl
set_option maxRecDepth 100000 in
set_option maxHeartbeats 1000000 in
theorem c48 (s : ByteArray) (w : World) : Calls Tryz.prog 48 #[.string s] w fun e w' => e = .returned (.bool (Css.isURL s.data.toList)) ∧ w = w' := by
 by_cases h : s.size = 3
 ·rw [isURL_bt h]
  have hx0 := bt_at s 0
  have hx1 := bt_at s 1
  have hx2 := bt_at s 2
  generalize bt s 0 = b0 at hx0 ⊢
  generalize bt s 1 = b1 at hx1 ⊢
  generalize bt s 2 = b2 at hx2 ⊢
  have hl : ((s.size : Int) == 3) = true := by simp; omega
  have h0 : 0 < s.size := by omega
  have h1 : 1 < s.size := by omega
  have h2 : 2 < s.size := by omega
  clear h
  go_enter Tryz.func48, Tryz.ntmps48
  go_wp2
  all_goals (go_ret; exact ⟨ret_bool (by first | (simp [*]; done) | (simp_all; done) | (rw [Bool.eq_iff_iff]; simp_all; omega)), rfl⟩)
 ·rw [isURL_len (by simpa using h)]
  have hl : ((s.size : Int) == 3) = false := by simp; omega
  clear h
  go_enter Tryz.func48, Tryz.ntmps48
  go_wp2
  go_ret
  exact ⟨rfl, rfl⟩
theorem bad_stop {V : List Int} (h : Css.pk 0 V = 41) : Css.badURL V = (⟨3, 0, false, []⟩, V.tail, false) := by
 cases V with
 | nil => exact absurd h (by decide)
 | cons c V => rw [Css.pk_cons_zero] at h; rw [Css.badURL.eq_def]; simp [h]
theorem bad_nil : Css.badURL [] = (⟨3, 0, false, []⟩, [], true) := by rw [Css.badURL.eq_def]
theorem bad_go {V : List Int} (h0 : Css.pk 0 V ≠ -1) (h : Css.pk 0 V ≠ 41) : Css.badURL V = (if Css.escapes (Css.pk 0 V) (Css.pk 0 V.tail) then
  ((Css.badURL (Css.esc V.tail).2.1).1, (Css.badURL (Css.esc V.tail).2.1).2.1, (Css.esc V.tail).2.2 || (Css.badURL (Css.esc V.tail).2.1).2.2) else Css.badURL V.tail) := by
 cases V with
 | nil => exact absurd (Css.pk_nil 0) h0
 | cons c V =>
  rw [Css.pk_cons_zero] at h
  rw [Css.badURL.eq_def]
  simp only [Css.pk_cons_zero, List.tail_cons]
  rw [if_neg (by simpa using h)]
set_option maxRecDepth 100000 in
set_option maxHeartbeats 4000000 in
theorem c125 {w : World} {g : Nat} {s : ByteArray} {U : List Int} {cv : Value} {op : Bool} (h : Lx w g s U cv op) :
  Calls Tryz.prog 125 #[.pointer (some ⟨g, 0, none⟩)] w fun e w' => e = .returned (tkVal (Css.badURL U).1) ∧ Lx w' g s (Css.badURL U).2.1 cv (op || (Css.badURL U).2.2) ∧ Kp w w' g := by
 have hlt := lt_of_block h.blk
 have hne : w.heap.size ≠ g := by omega
 have hL := h.allocd (.cells #[Value.int IntKind.i64 0, Value.int IntKind.i64 0, Value.int IntKind.i64 0, Value.int IntKind.i64 0, Value.bool false, Value.string { data := #[] }] 62)
 generalize hR : Css.badURL U = R
 have HR := Lib.hid hR
 clear hR h
 go_enter Tryz.func125, Tryz.ntmps125
 go_wp2_with fail
 go_loopg [] U.length (fun k wr => ∃ (V : List Int) (op' : Bool), V.length ≤ k ∧ Lx wr g s V cv op' ∧ Slot wr w.heap.size ∧ Hid (Kp w wr g) ∧
  Hid ((Css.badURL V).1 = R.1 ∧ (Css.badURL V).2.1 = R.2.1 ∧ (op' || (Css.badURL V).2.2) = (op || R.2.2)))
 case atStart => exact ⟨U, op, Nat.le_refl _, hL, new_blk _ _, Kp.allocd (Kp.refl _ _), by rw [← HR.out]; exact ⟨rfl, rfl, rfl⟩⟩
 case round =>
  clear hL HR
  obtain ⟨V, op', hk, h, HS, HK, HN⟩ := hrel
  cases t1 : (Css.pk 0 V == 41) with
  | true =>
   have HE := Lib.hid (bad_stop (V := V) (by simpa using t1))
   go_wp2_with fail
   refine (c61 h).mono ?_
   rintro e w2 ⟨rfl, hL2, hK2⟩
   obtain ⟨hd0, hd1, hd2, hd3, hd4, hd5, he0, he1, he2, he3, he4, he5⟩ := six (Kp.keep hK2 HS hne)
   go_wp2
   exact bodyPost_ret (v := .agg (tkCells 3 0 0 0 false (str []))) (by simp [results, Tryz.results125, go_sem, tkCells, str, *]) rfl ⟨by rw [← HN.out.1, HE.out]; rfl, by rw [← HN.out.2.1, ← HN.out.2.2, HE.out]; simpa using hL2.six hne _ _ _ _ _ _, (HK.out.trans hK2).six (Nat.le_refl _) _ _ _ _ _ _⟩
  | false =>
   cases t2 : (Css.pk 0 V == -1) with
   | true =>
    obtain rfl := h.pk_nil (by simpa using t2)
    have HE := Lib.hid bad_nil
    go_wp2_with fail
    refine (c61 h).mono ?_
    rintro e w2 ⟨rfl, hL2, hK2⟩
    obtain ⟨hd0, hd1, hd2, hd3, hd4, hd5, he0, he1, he2, he3, he4, he5⟩ := six (Kp.keep hK2 HS hne)
    have hf3 := free_blk hL2.blk 3
    have hc3 := cell_blk hL2.blk (i := 3) (v := .bool op') rfl
    go_wp2
    exact bodyPost_ret (v := .agg (tkCells 3 0 0 0 false (str []))) (by simp [results, Tryz.results125, go_sem, tkCells, str, *]) rfl ⟨by rw [← HN.out.1, HE.out]; rfl, by rw [← HN.out.2.1, ← HN.out.2.2, HE.out]; simpa using hL2.opened.six hne _ _ _ _ _ _, ((HK.out.trans hK2).trans (Kp.opened _ _ _ _)).six (Nat.le_refl _) _ _ _ _ _ _⟩
   | false =>
    have t2n : Css.pk 0 V ≠ -1 := by simpa using t2
    have hlt2 : V.tail.length < V.length := by have := Css.pk_lt (U := V) (k := 0) rfl t2n; simp; omega
    have HB := Lib.hid (bad_go t2n (by simpa using t1))
    clear t2n
    cases t3 : Css.escapes (Css.pk 0 V) (Css.pk 0 V.tail) with
    | true =>
     have HE := Lib.hid (HB.out.trans (by rw [if_pos t3]))
     have hel := Css.esc_le V.tail
     go_wp2_with fail
     refine (c61 h).mono ?_
     rintro e w2 ⟨rfl, hL2, hK2⟩
     go_wp2_with fail
     refine (c59_0 hL2).mono ?_
     rintro e w' ⟨rfl, rfl⟩
     go_wp2_with fail
     refine (c62 _ _ _).mono ?_
     rintro e w' ⟨rfl, rfl⟩
     go_wp2_with fail
     refine (c63 hL2).mono ?_
     rintro e w3 ⟨rfl, hL3, hK3⟩
     go_wp2
     go_roundg (Css.esc V.tail).2.1.length
     case measure => omega
     case rel =>
      refine ⟨(Css.esc V.tail).2.1, op' || (Css.esc V.tail).2.2, Nat.le_refl _, hL3, Kp.keep hK3 (Kp.keep hK2 HS hne) hne, (HK.out.trans hK2).trans hK3, ?_⟩
      have := HN.out
      rw [HE.out] at this
      exact ⟨this.1, this.2.1, by rw [← this.2.2, Bool.or_assoc]⟩
    | false =>
     have HE := Lib.hid (HB.out.trans (by rw [if_neg (by simp [t3])]))
     go_wp2_with fail
     refine (c61 h).mono ?_
     rintro e w2 ⟨rfl, hL2, hK2⟩
     go_wp2_with fail
     refine (c59_0 hL2).mono ?_
     rintro e w' ⟨rfl, rfl⟩
     go_wp2_with fail
     refine (c62 _ _ _).mono ?_
     rintro e w' ⟨rfl, rfl⟩
     go_wp2
     go_roundg V.tail.length
     case measure => omega
     case rel =>
      refine ⟨V.tail, op', Nat.le_refl _, hL2, Kp.keep hK2 HS hne, HK.out.trans hK2, ?_⟩
      rw [← HE.out]; exact HN.out
end Go.Proofs.YtkfdcbdlcipmfaaGreatFmt
/- The reference's lexer in memory: addresses. The text has at most 2^60 bytes. -/
namespace Go.Proofs.YtkfdcbdlcipmfaaGreatFmt
open Go.RowKit
def urlBad (V : List Int) : Bool := Css.pk 0 V == 34 || Css.pk 0 V == 39 || Css.pk 0 V == 40 || Css.unprintable (Css.pk 0 V) || (Css.pk 0 V == 92 && !Css.escapes (Css.pk 0 V) (Css.pk 1 V))
section url
variable {out : List UInt8} {V : List Int}
theorem u_stop (h : Css.pk 0 V = 41) : Css.url out V = (⟨37, 0, false, out⟩, V.tail, false) := by
 cases V with
 | nil => exact absurd h (by decide)
 | cons c V => rw [Css.pk_cons_zero] at h; rw [Css.url.eq_def]; simp [h]
theorem u_nil : Css.url out [] = (⟨37, 0, false, out⟩, [], true) := by rw [Css.url.eq_def]
theorem u_space (h : Css.isSpace (Css.pk 0 V) = true) : Css.url out V = if (Css.pk 0 (Css.spaces V) != 41 && Css.pk 0 (Css.spaces V) != -1) then Css.badURL (Css.spaces V) else Css.url out (Css.spaces V) := by
 rw [(spaces_pos h).1]
 cases V with
 | nil => exact absurd h (by decide)
 | cons c V =>
  rw [Css.pk_cons_zero] at h
  have h41 : c ≠ 41 := by rintro rfl; exact absurd h (by decide)
  rw [Css.url.eq_def]
  simp only [List.tail_cons]
  rw [if_neg (by simpa using h41), if_pos h]
  rfl
theorem u_bad (h0 : Css.pk 0 V ≠ -1) (h1 : Css.pk 0 V ≠ 41) (h2 : Css.isSpace (Css.pk 0 V) = false) (h : urlBad V = true) : Css.url out V = Css.badURL V := by
 cases V with
 | nil => exact absurd (Css.pk_nil 0) h0
 | cons c V =>
  unfold urlBad at h
  rw [Css.pk_cons_zero] at h1 h2
  rw [Css.pk_cons_zero, Css.pk_cons_succ] at h
  rw [Css.url.eq_def]
  simp only
  rw [if_neg (by simpa using h1), if_neg (by simp [h2]), if_pos h]
theorem u_esc (h : Css.pk 0 V = 92) (hb : urlBad V = false) : Css.url out V = ((Css.url (out ++ Css.enc1 (Css.esc V.tail).1) (Css.esc V.tail).2.1).1, (Css.url (out ++ Css.enc1 (Css.esc V.tail).1) (Css.esc V.tail).2.1).2.1,
  (Css.esc V.tail).2.2 || (Css.url (out ++ Css.enc1 (Css.esc V.tail).1) (Css.esc V.tail).2.1).2.2) := by
 cases V with
 | nil => exact absurd h (by decide)
 | cons c V =>
  unfold urlBad at hb
  rw [Css.pk_cons_zero] at h
  rw [Css.pk_cons_zero, Css.pk_cons_succ] at hb
  subst h
  rw [Css.url.eq_def]
  simp only [List.tail_cons]
  rw [if_neg (by decide), if_neg (by decide), if_neg (by rw [hb]; simp), if_pos (by decide)]
theorem u_else (h0 : Css.pk 0 V ≠ -1) (h1 : Css.pk 0 V ≠ 41) (h2 : Css.isSpace (Css.pk 0 V) = false) (h : Css.pk 0 V ≠ 92) (hb : urlBad V = false) : Css.url out V = Css.url (out ++ Css.enc1 (Css.pk 0 V)) V.tail := by
 cases V with
 | nil => exact absurd (Css.pk_nil 0) h0
 | cons c V =>
  unfold urlBad at hb
  rw [Css.pk_cons_zero] at h1 h2 h
  rw [Css.pk_cons_zero, Css.pk_cons_succ] at hb
  rw [Css.url.eq_def]
  simp only [List.tail_cons, Css.pk_cons_zero]
  rw [if_neg (by simpa using h1), if_neg (by simp [h2]), if_neg (by simp [hb]), if_neg (by simpa using h)]
end url
set_option maxRecDepth 100000 in
set_option maxHeartbeats 4000000 in
theorem c95 {w : World} {g : Nat} {s : ByteArray} {U : List Int} {cv : Value} {op : Bool} (h : Lx w g s U cv op) :
  Calls Tryz.prog 95 #[.pointer (some ⟨g, 0, none⟩)] w fun e w' => e = .returned (tkVal (Css.url [] U).1) ∧ Lx w' g s (Css.url [] U).2.1 cv (op || (Css.url [] U).2.2) ∧ Kp w w' g := by
 have hlt := lt_of_block h.blk
 have hlen := h.len
 have hne : w.heap.size ≠ g := by omega
 have hL := h.allocd (.cells #[Value.int IntKind.i64 0, Value.int IntKind.i64 0, Value.int IntKind.i64 0, Value.int IntKind.i64 0, Value.bool false, Value.string { data := #[] }] 62)
 generalize hR : Css.url [] U = R
 have HR := Lib.hid hR
 clear hR h
 go_enter Tryz.func95, Tryz.ntmps95
 go_wp2_with fail
 go_loopg [3] U.length (fun k v3 wr => ∃ (V : List Int) (out : List UInt8) (op' : Bool), V.length ≤ k ∧ v3 = .string (str out) ∧ out.length + 4 * V.length ≤ 4 * U.length ∧ Lx wr g s V cv op' ∧ Slot wr w.heap.size ∧ Hid (Kp w wr g) ∧
  Hid ((Css.url out V).1 = R.1 ∧ (Css.url out V).2.1 = R.2.1 ∧ (op' || (Css.url out V).2.2) = (op || R.2.2)))
 case atStart => exact ⟨U, [], op, Nat.le_refl _, rfl, by simp, hL, new_blk _ _, Kp.allocd (Kp.refl _ _), by rw [← HR.out]; exact ⟨rfl, rfl, rfl⟩⟩
 case round =>
  clear hL HR
  obtain ⟨V, out, op', hk, rfl, hout, h, HS, HK, HN⟩ := hrel
  have hrr := h.range 0
  obtain ⟨hc0, hc1, hc2, hc3, hc4, hc5, hf0, hf1, hf2, hf3, hf4, hf5⟩ := six HS
  cases t1 : (Css.pk 0 V == 41) with
  | true =>
   have HE := Lib.hid (u_stop (out := out) (by simpa using t1))
   go_wp2_with fail
   refine (c59_0 h).mono ?_
   rintro e w' ⟨rfl, rfl⟩
   go_wp2_with fail
   refine (c61 h).mono ?_
   rintro e w2 ⟨rfl, hL2, hK2⟩
   obtain ⟨hd0, hd1, hd2, hd3, hd4, hd5, he0, he1, he2, he3, he4, he5⟩ := six (Kp.keep hK2 HS hne)
   go_wp2
   exact bodyPost_ret (v := .agg (tkCells 37 0 0 0 false (str out))) (by simp [results, Tryz.results95, go_sem, tkCells, str, *]) rfl ⟨by rw [← HN.out.1, HE.out]; rfl, by rw [← HN.out.2.1, ← HN.out.2.2, HE.out]; simpa [Bool.or_assoc] using hL2.six hne _ _ _ _ _ _, (HK.out.trans hK2).six (Nat.le_refl _) _ _ _ _ _ _⟩
  | false =>
   cases t2 : (Css.pk 0 V == -1) with
   | true =>
    obtain rfl := h.pk_nil (by simpa using t2)
    have HE := Lib.hid (u_nil (out := out))
    have hg3 := free_blk h.blk 3
    have hgc := cell_blk h.blk (i := 3) (v := .bool op') rfl
    go_wp2_with fail
    refine (c59_0 h).mono ?_
    rintro e w' ⟨rfl, rfl⟩
    go_wp2
    exact bodyPost_ret (v := .agg (tkCells 37 0 0 0 false (str out))) (by simp [results, Tryz.results95, go_sem, tkCells, str, *]) rfl ⟨by rw [← HN.out.1, HE.out]; rfl, by rw [← HN.out.2.1, ← HN.out.2.2, HE.out]; simpa [Bool.or_assoc] using h.opened.six hne _ _ _ _ _ _, (HK.out.trans (Kp.opened _ _ _ _)).six (Nat.le_refl _) _ _ _ _ _ _⟩
   | false =>
    have t1n : Css.pk 0 V ≠ 41 := by simpa using t1
    have t2n : Css.pk 0 V ≠ -1 := by simpa using t2
    have T := Lib.hid (And.intro t1n t2n)
    have hlt2 : V.tail.length < V.length := by have := Css.pk_lt (U := V) (k := 0) rfl t2n; simp; omega
    clear t1n t2n
    cases t3 : Css.isSpace (Css.pk 0 V) with
    | true =>
     have HB := Lib.hid (u_space (out := out) t3)
     have hsl := Css.spaces_lt t3
     have HW : Hid (Css.spaces V = Css.spaces V) := Lib.hid rfl
     cases t4 : (Css.pk 0 (Css.spaces V) == 41) with
     | true =>
      have HE := Lib.hid (HB.out.trans (by rw [if_neg (by simp only [bne, t4]; simp)]))
      have t4n : (Css.pk 0 (Css.spaces V) != 41) = false := by simp only [bne, t4]; rfl
      go_wp2_with fail
      refine (c59_0 h).mono ?_
      rintro e w' ⟨rfl, rfl⟩
      go_wp2_with fail
      refine (c64 _ _).mono ?_
      rintro e w' ⟨rfl, rfl⟩
      go_wp2_with fail
      refine (c65 h).mono ?_
      rintro e w2 ⟨rfl, hL2, hK2⟩
      go_wp2_with fail
      refine (c59_0 hL2).mono ?_
      rintro e w' ⟨rfl, rfl⟩
      go_wp2
      go_roundg (Css.spaces V).length
      case measure => omega
      case rel =>
       refine ⟨Css.spaces V, out, op', Nat.le_refl _, rfl, by omega, hL2, Kp.keep hK2 HS hne, HK.out.trans hK2, ?_⟩
       rw [← HE.out]; exact HN.out
     | false =>
      have t4n : (Css.pk 0 (Css.spaces V) != 41) = true := by simp only [bne, t4]; rfl
      cases t5 : (Css.pk 0 (Css.spaces V) == -1) with
      | true =>
       have HE := Lib.hid (HB.out.trans (by rw [if_neg (by simp only [bne, t5]; simp)]))
       have t5n : (Css.pk 0 (Css.spaces V) != -1) = false := by simp only [bne, t5]; rfl
       go_wp2_with fail
       refine (c59_0 h).mono ?_
       rintro e w' ⟨rfl, rfl⟩
       go_wp2_with fail
       refine (c64 _ _).mono ?_
       rintro e w' ⟨rfl, rfl⟩
       go_wp2_with fail
       refine (c65 h).mono ?_
       rintro e w2 ⟨rfl, hL2, hK2⟩
       go_wp2_with fail
       refine (c59_0 hL2).mono ?_
       rintro e w' ⟨rfl, rfl⟩
       go_wp2
       go_roundg (Css.spaces V).length
       case measure => omega
       case rel =>
        refine ⟨Css.spaces V, out, op', Nat.le_refl _, rfl, by omega, hL2, Kp.keep hK2 HS hne, HK.out.trans hK2, ?_⟩
        rw [← HE.out]; exact HN.out
      | false =>
       have HE := Lib.hid (HB.out.trans (by rw [if_pos (by simp only [bne, t4, t5]; rfl)]))
       have t5n : (Css.pk 0 (Css.spaces V) != -1) = true := by simp only [bne, t5]; rfl
       go_wp2_with fail
       refine (c59_0 h).mono ?_
       rintro e w' ⟨rfl, rfl⟩
       go_wp2_with fail
       refine (c64 _ _).mono ?_
       rintro e w' ⟨rfl, rfl⟩
       go_wp2_with fail
       refine (c65 h).mono ?_
       rintro e w2 ⟨rfl, hL2, hK2⟩
       go_wp2_with fail
       refine (c59_0 hL2).mono ?_
       rintro e w' ⟨rfl, rfl⟩
       go_wp2_with fail
       refine (c125 hL2).mono ?_
       rintro e w3 ⟨rfl, hL3, hK3⟩
       obtain ⟨hd0, hd1, hd2, hd3, hd4, hd5, he0, he1, he2, he3, he4, he5⟩ := six (Kp.keep hK3 (Kp.keep hK2 HS hne) hne)
       simp only [tkVal, tkCells]
       go_wp2
       exact bodyPost_ret (v := tkVal (Css.badURL (Css.spaces V)).1) (by simp [results, Tryz.results95, go_sem, tkVal, tkCells, str, *]) rfl ⟨by rw [← HN.out.1, HE.out], by rw [← HN.out.2.1, ← HN.out.2.2, HE.out]; exact hL3.six hne _ _ _ _ _ _, ((HK.out.trans hK2).trans hK3).six (Nat.le_refl _) _ _ _ _ _ _⟩
    | false =>
     go_wp2_with fail
     refine (c59_0 h).mono ?_
     rintro e w' ⟨rfl, rfl⟩
     go_wp2_with fail
     refine (c64 _ _).mono ?_
     rintro e w' ⟨rfl, rfl⟩
     go_upto_region 15 with (fail)
     go_cut [43] (fun v43 wc => v43 = .bool (urlBad V) ∧ Lx wc g s V cv op' ∧ Slot wc w.heap.size ∧ Hid (Kp w wc g))
     case first =>
      cases u1 : (Css.pk 0 V == 34) with
      | true => go_wp2_with fail; go_meet; exact ⟨by simp [urlBad, *], h, HS, HK⟩
      | false =>
       cases u2 : (Css.pk 0 V == 39) with
       | true => go_wp2_with fail; go_meet; exact ⟨by simp [urlBad, *], h, HS, HK⟩
       | false =>
        cases u3 : (Css.pk 0 V == 40) with
        | true => go_wp2_with fail; go_meet; exact ⟨by simp [urlBad, *], h, HS, HK⟩
        | false =>
         cases u4 : Css.unprintable (Css.pk 0 V) with
         | true =>
          go_wp2_with fail
          refine (c126 _ _).mono ?_
          rintro e w' ⟨rfl, rfl⟩
          go_wp2_with fail; go_meet; exact ⟨by simp [urlBad, *], h, HS, HK⟩
         | false =>
          cases u5 : (Css.pk 0 V == 92) with
          | false =>
           go_wp2_with fail
           refine (c126 _ _).mono ?_
           rintro e w' ⟨rfl, rfl⟩
           go_wp2_with fail; go_meet; exact ⟨by simp [urlBad, *], h, HS, HK⟩
          | true =>
           go_wp2_with fail
           refine (c126 _ _).mono ?_
           rintro e w' ⟨rfl, rfl⟩
           go_wp2_with fail
           refine (c59_1 h).mono ?_
           rintro e w' ⟨rfl, rfl⟩
           go_wp2_with fail
           refine (c62 _ _ _).mono ?_
           rintro e w' ⟨rfl, rfl⟩
           go_wp2_with fail; go_meet; exact ⟨by simp [urlBad, *], h, HS, HK⟩
     case rest =>
      clear h HS HK hc0 hc1 hc2 hc3 hc4 hc5 hf0 hf1 hf2 hf3 hf4 hf5
      obtain ⟨rfl, h, HS, HK⟩ := hcut
      cases tb : urlBad V with
      | true =>
       have HE := Lib.hid (u_bad (out := out) T.out.2 T.out.1 t3 tb)
       go_wp2_with fail
       refine (c125 h).mono ?_
       rintro e w3 ⟨rfl, hL3, hK3⟩
       obtain ⟨hd0, hd1, hd2, hd3, hd4, hd5, he0, he1, he2, he3, he4, he5⟩ := six (Kp.keep hK3 HS hne)
       simp only [tkVal, tkCells]
       go_wp2
       exact bodyPost_ret (v := tkVal (Css.badURL V).1) (by simp [results, Tryz.results95, go_sem, tkVal, tkCells, str, *]) rfl ⟨by rw [← HN.out.1, HE.out], by rw [← HN.out.2.1, ← HN.out.2.2, HE.out]; exact hL3.six hne _ _ _ _ _ _, (HK.out.trans hK3).six (Nat.le_refl _) _ _ _ _ _ _⟩
      | false =>
       have hsz := str_size out
       cases t6 : (Css.pk 0 V == 92) with
       | true =>
        have HE := Lib.hid (u_esc (out := out) (by simpa using t6) tb)
        have hel := Css.esc_le V.tail
        go_wp2_with fail
        refine (c61 h).mono ?_
        rintro e w2 ⟨rfl, hL2, hK2⟩
        have hr1 := hL2.range 0
        have hr2 := esc_range hr1.1 hr1.2
        have h4 := enc1_le (Css.esc V.tail).1
        have hsz2 := str_size (Css.enc1 (Css.esc V.tail).1)
        go_wp2_with fail
        refine (c63 hL2).mono ?_
        rintro e w3 ⟨rfl, hL3, hK3⟩
        go_wp2_with fail
        refine (c60s _ _ hr2.1 hr2.2).mono ?_
        rintro e w4 ⟨rfl, hG4⟩
        go_wp2
        go_roundg (Css.esc V.tail).2.1.length
        case measure => omega
        case rel =>
         refine ⟨(Css.esc V.tail).2.1, out ++ Css.enc1 (Css.esc V.tail).1, op' || (Css.esc V.tail).2.2, Nat.le_refl _, by rw [str_append], by rw [List.length_append]; omega, hL3.free hG4, free_keep hG4 (Kp.keep hK3 (Kp.keep hK2 HS hne) hne), ((HK.out.trans hK2).trans hK3).free hG4, ?_⟩
         have := HN.out
         rw [HE.out] at this
         exact ⟨this.1, this.2.1, by rw [← this.2.2, Bool.or_assoc]⟩
       | false =>
        have HE := Lib.hid (u_else (out := out) T.out.2 T.out.1 t3 (by simpa using t6) tb)
        have h4 := enc1_le (Css.pk 0 V)
        have hsz2 := str_size (Css.enc1 (Css.pk 0 V))
        go_wp2_with fail
        refine (c61 h).mono ?_
        rintro e w2 ⟨rfl, hL2, hK2⟩
        go_wp2_with fail
        refine (c60s _ _ hrr.1 hrr.2).mono ?_
        rintro e w4 ⟨rfl, hG4⟩
        go_wp2
        go_roundg V.tail.length
        case measure => omega
        case rel =>
         refine ⟨V.tail, out ++ Css.enc1 (Css.pk 0 V), op', Nat.le_refl _, by rw [str_append], by rw [List.length_append]; omega, hL2.free hG4, free_keep hG4 (Kp.keep hK2 HS hne), (HK.out.trans hK2).free hG4, ?_⟩
         have := HN.out
         rw [HE.out] at this
         exact this
end Go.Proofs.YtkfdcbdlcipmfaaGreatFmt
/- The reference's lexer in memory: whitespace at the ends of a text; names, functions and addresses. -/
namespace Go.Proofs.YtkfdcbdlcipmfaaGreatFmt
open Go.RowKit
theorem trimmed_bt {s : ByteArray} (h : 0 < s.size) : Css.trimmed s.data.toList = (!Css.isSpace (bt s 0) && !Css.isSpace (bt s (s.size - 1))) := by
 obtain ⟨⟨l⟩⟩ := s
 cases l with
 | nil => simp [ByteArray.size] at h
 | cons a r =>
  have h1 : bt ⟨⟨a :: r⟩⟩ 0 = a.toNat := by unfold bt; rw [dif_pos (by simp [ByteArray.size])]; rfl
  have h2 : bt ⟨⟨a :: r⟩⟩ ((⟨⟨a :: r⟩⟩ : ByteArray).size - 1) = ((a :: r).getLastD 0).toNat := by
   have hl : (⟨⟨a :: r⟩⟩ : ByteArray).size - 1 = r.length := by simp [ByteArray.size]
   rw [hl]
   unfold bt
   rw [dif_pos (by simp [ByteArray.size])]
   show (((a :: r)[r.length]'(by simp)).toNat : Int) = _
   have : (a :: r).getLastD 0 = (a :: r)[r.length]'(by simp) := by
    rw [List.getLastD_eq_getLast?, List.getLast?_eq_getElem?]
    simp
   rw [this]
  rw [h1, h2]
  rfl
set_option maxRecDepth 100000 in
set_option maxHeartbeats 1000000 in
theorem c96 (s : ByteArray) (w : World) (hs : s.size ≤ 4611686018427387904) : Calls Tryz.prog 96 #[.string s] w fun e w' => e = .returned (.bool (Css.trimmed s.data.toList)) ∧ w = w' := by
 by_cases h : s.size = 0
 ·obtain rfl : s = { data := #[] } := by
   obtain ⟨⟨l⟩⟩ := s
   simp [ByteArray.size] at h
   simp [h]
  go_enter Tryz.func96, Tryz.ntmps96
  go_wp2
  go_ret
  exact ⟨rfl, rfl⟩
 ·have h0 : 0 < s.size := by omega
  rw [trimmed_bt h0]
  have hne : s.toList.isEmpty = false := by
   rw [ByteArray.toList_eq]
   cases hl : s.data.toList with
   | nil => exact absurd (by have := congrArg List.length hl; simpa using this) h
   | cons a r => rfl
  have hx0 := bt_at s 0
  have hx1 := bt_at s (s.size - 1)
  have hz : s.size - 1 < s.size := by omega
  have hz1 : ((s.size : Int) - 1) = ((s.size - 1 : Nat) : Int) := by omega
  generalize bt s 0 = b0 at hx0 ⊢
  generalize bt s (s.size - 1) = b1 at hx1 ⊢
  have hl0 : 0 ≤ b0 := by rw [← hx0 h0]; omega
  have hh0 : b0 ≤ 255 := by rw [← hx0 h0]; have := (s[0]'h0).toNat_lt; omega
  have hl1 : 0 ≤ b1 := by rw [← hx1 hz]; omega
  have hh1 : b1 ≤ 255 := by rw [← hx1 hz]; have := (s[s.size-1]'hz).toNat_lt; omega
  cases t1 : Css.isSpace b0 with
  | true =>
   go_enter Tryz.func96, Tryz.ntmps96
   go_wp2_with fail
   refine (c64 _ _).mono ?_
   rintro e w' ⟨rfl, rfl⟩
   go_wp2
   go_ret
   exact ⟨rfl, rfl⟩
  | false =>
   go_enter Tryz.func96, Tryz.ntmps96
   go_wp2_with fail
   refine (c64 _ _).mono ?_
   rintro e w' ⟨rfl, rfl⟩
   go_wp2_with fail
   refine (c64 _ _).mono ?_
   rintro e w' ⟨rfl, rfl⟩
   go_wp2
   go_ret
   exact ⟨rfl, rfl⟩
end Go.Proofs.YtkfdcbdlcipmfaaGreatFmt
