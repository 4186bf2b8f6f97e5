/- What the reference answers of two items that must stand apart. No condition. -/
import Derived.Test.YtkfdcbdlcipmfaaGreatFmtProg
import Derived.WalkKit
import Derived.WalkLawsBesides
import Derived.WalkSpells
import Derived.BigQuiet
import Derived.Deep.QuietTactic
import Derived.Outline
import Derived.Laws.BitsLemmas
import Derived.Lib.Hide
import Derived.OneCell
import Derived.Deep.Draws
import Derived.Deep.LoopGhost
import Derived.Laws.BytesArg
import Derived.Laws.ResultCell
import Derived.Deep.CutBlock
import Derived.Deep.DeepCutAuto
import Derived.Deep.AppendLies
import Derived.Deep.AppendSrc
import Derived.Maps.OwnOps
import Derived.Test.YtkfdcbdlcipmfaaGreatFmtGF
import Derived.Test.YtkfdcbdlcipmfaaGreatFmtGJ
import Derived.Laws.OwnMore
set_option linter.unusedVariables false
set_option linter.unusedSimpArgs false
namespace Go.Proofs.YtkfdcbdlcipmfaaGreatFmt
open Go.RowKit
theorem ap_a {k k' : Int} {t t' : List UInt8} (h : (Css.cls k != 0 && k != 27) = true) : Css.apartB k t k' t' = (Css.cls k' != 0 || (k' == 22 || (k' == 4 || (k' == 33 || (k' == 11 || (k' == 17 || (k' == 23 || k' == 20))))))) := by
 unfold Css.apartB
 rw [if_pos h, Bool.eq_iff_iff]
 simp
theorem ap_b {k k' : Int} {t t' : List UInt8} (h : (Css.cls k != 0 && k != 27) = false) (hr : Css.risky (Css.sgn k t) = true) : Css.apartB k t k' t' = (Css.cls k' != 0 || (k' == 4 || (k' == 5 || (Css.sgn k' t' != 0 && (Css.sgn k' t' != 44 && (Css.sgn k' t' != 59 && (Css.sgn k' t' != 58 && (Css.sgn k' t' != 123 && (Css.sgn k' t' != 91 && Css.sgn k' t' != 40))))))))) := by
 unfold Css.apartB
 rw [if_neg (by rw [h]; exact Bool.false_ne_true), if_pos hr]
 rw [Bool.eq_iff_iff]
 simp [Css.calmSign, or_assoc]
theorem ap_c {k k' : Int} {t t' : List UInt8} (h : (Css.cls k != 0 && k != 27) = false) (hr : Css.risky (Css.sgn k t) = false) : Css.apartB k t k' t' = false := by
 unfold Css.apartB
 rw [if_neg (by rw [h]; exact Bool.false_ne_true), if_neg (by rw [hr]; exact Bool.false_ne_true)]
def ItB (w : World) (b : Nat) (x : Css.Item) : Prop := w.heap[b]? = some (.cells #[.int .i64 x.kind, .int .i64 x.unit, .string (str x.text), .int .i64 x.space] 34 (0, 0))
theorem ItB.cells {w : World} {b : Nat} {x : Css.Item} (h : ItB w b x) : w.cell? ⟨b, 0, none⟩ = some (.int .i64 x.kind) ∧ w.cell? ⟨b, 1, none⟩ = some (.int .i64 x.unit) ∧ w.cell? ⟨b, 2, none⟩ = some (.string (str x.text)) ∧ w.cell? ⟨b, 3, none⟩ = some (.int .i64 x.space) :=
 ⟨cell_blk h rfl, cell_blk h rfl, cell_blk h rfl, cell_blk h rfl⟩
theorem ItB.free {w w' : World} {b : Nat} {x : Css.Item} (h : ItB w b x) (hg : w.grownBy w' none) : ItB w' b x := free_keep hg h
set_option maxRecDepth 100000 in
set_option maxHeartbeats 4000000 in
theorem c40_a (x y : Css.Item) (w : World) (h1 : (Css.cls x.kind != 0) = true) (h2 : (x.kind != 27) = true) :
  Calls Tryz.prog 40 #[itemVal x, itemVal y] w fun e w' => e = .returned (.bool (Css.apartB x.kind x.text y.kind y.text)) ∧ w.grownBy w' none := by
 generalize hR : Css.apartB x.kind x.text y.kind y.text = R
 have HR := Lib.hid hR
 clear hR
 unfold itemVal
 have HG : Hid (w.grownBy ((w.alloc (.cells #[.int .i64 x.kind, .int .i64 x.unit, .string (str x.text), .int .i64 x.space] 34)).alloc (.cells #[.int .i64 y.kind, .int .i64 y.unit, .string (str y.text), .int .i64 y.space] 34)) none) := Lib.hid (grown_alloc (grown_alloc (grown_refl _ _) _) _)
 have HA := Lib.hid (HR.out.symm.trans (ap_a (k' := y.kind) (t := x.text) (t' := y.text) (show (Css.cls x.kind != 0 && x.kind != 27) = true by rw [h1, h2]; rfl)))
 clear HR
 go_enter Tryz.func40, Tryz.ntmps40
 go_wp2_with fail
 refine (c50 _ _).mono ?_
 rintro e w' ⟨rfl, rfl⟩
 go_wp2_with fail
 refine (c50 _ _).mono ?_
 rintro e w' ⟨rfl, rfl⟩
 cases t0 : (Css.cls y.kind != 0) with
 | true =>
  go_wp2_with fail
  go_ret
  exact ⟨by rw [HA.out]; simp only [t0, Bool.true_or, Bool.or_true, Bool.false_or, Bool.or_false] <;> rfl, HG.out⟩
 | false =>
  cases t1 : (y.kind == 22) with
  | true =>
   go_wp2_with fail
   go_ret
   exact ⟨by rw [HA.out]; simp only [t0, t1, Bool.true_or, Bool.or_true, Bool.false_or, Bool.or_false] <;> rfl, HG.out⟩
  | false =>
   cases t2 : (y.kind == 4) with
   | true =>
    go_wp2_with fail
    go_ret
    exact ⟨by rw [HA.out]; simp only [t0, t1, t2, Bool.true_or, Bool.or_true, Bool.false_or, Bool.or_false] <;> rfl, HG.out⟩
   | false =>
    cases t3 : (y.kind == 33) with
    | true =>
     go_wp2_with fail
     go_ret
     exact ⟨by rw [HA.out]; simp only [t0, t1, t2, t3, Bool.true_or, Bool.or_true, Bool.false_or, Bool.or_false] <;> rfl, HG.out⟩
    | false =>
     cases t4 : (y.kind == 11) with
     | true =>
      go_wp2_with fail
      go_ret
      exact ⟨by rw [HA.out]; simp only [t0, t1, t2, t3, t4, Bool.true_or, Bool.or_true, Bool.false_or, Bool.or_false] <;> rfl, HG.out⟩
     | false =>
      cases t5 : (y.kind == 17) with
      | true =>
       go_wp2_with fail
       go_ret
       exact ⟨by rw [HA.out]; simp only [t0, t1, t2, t3, t4, t5, Bool.true_or, Bool.or_true, Bool.false_or, Bool.or_false] <;> rfl, HG.out⟩
      | false =>
       cases t6 : (y.kind == 23) with
       | true =>
        go_wp2_with fail
        go_ret
        exact ⟨by rw [HA.out]; simp only [t0, t1, t2, t3, t4, t5, t6, Bool.true_or, Bool.or_true, Bool.false_or, Bool.or_false] <;> rfl, HG.out⟩
       | false =>
        cases t7 : (y.kind == 20) with
        | true =>
         go_wp2_with fail
         go_ret
         exact ⟨by rw [HA.out]; simp only [t0, t1, t2, t3, t4, t5, t6, t7, Bool.true_or, Bool.or_true, Bool.false_or, Bool.or_false] <;> rfl, HG.out⟩
        | false =>
         go_wp2_with fail
         go_ret
         exact ⟨by rw [HA.out]; simp only [t0, t1, t2, t3, t4, t5, t6, t7, Bool.true_or, Bool.or_true, Bool.false_or, Bool.or_false] <;> rfl, HG.out⟩
theorem risky_eq (s : Int) : Css.risky s = ((s == 35 || (s == 45 || (s == 64 || (s == 43 || (s == 46 || (s == 60 || (s == 47 || (s == 33 || (s == 37 || s == 63)))))))))) := by
 unfold Css.risky
 rw [Bool.eq_iff_iff]
 simp
set_option maxRecDepth 100000 in
set_option maxHeartbeats 4000000 in
theorem c40_c (x y : Css.Item) (w : World) (h1 : (Css.cls x.kind != 0 && x.kind != 27) = false) (hr : Css.risky (Css.sgn x.kind x.text) = false) :
  Calls Tryz.prog 40 #[itemVal x, itemVal y] w fun e w' => e = .returned (.bool (Css.apartB x.kind x.text y.kind y.text)) ∧ w.grownBy w' none := by
 generalize hR : Css.apartB x.kind x.text y.kind y.text = R
 have HR := Lib.hid hR
 clear hR
 unfold itemVal
 have HG : Hid (w.grownBy ((w.alloc (.cells #[.int .i64 x.kind, .int .i64 x.unit, .string (str x.text), .int .i64 x.space] 34)).alloc (.cells #[.int .i64 y.kind, .int .i64 y.unit, .string (str y.text), .int .i64 y.space] 34)) none) := Lib.hid (grown_alloc (grown_alloc (grown_refl _ _) _) _)
 have HA := Lib.hid (HR.out.symm.trans (ap_c (k' := y.kind) (t := x.text) (t' := y.text) h1 hr))
 clear HR
 rw [risky_eq] at hr
 simp only [Bool.or_eq_false_iff] at hr
 obtain ⟨s0, s1, s2, s3, s4, s5, s6, s7, s8, s9⟩ := hr
 cases h2 : (Css.cls x.kind != 0) with
 | false =>
  clear h1
  go_enter Tryz.func40, Tryz.ntmps40
  go_wp2_with fail
  refine (c50 _ _).mono ?_
  rintro e w' ⟨rfl, rfl⟩
  go_wp2_with fail
  have hc := fun (w' : World) => c51 x w'
  unfold itemVal at hc
  refine (hc _).mono ?_
  clear hc
  rintro e w1 ⟨rfl, hg1⟩
  have HY : ItB w1 (w.heap.size + 1) y := free_keep hg1 (new_blk' (by simp))
  have HG1 := Lib.hid (grown_trans HG.out hg1)
  clear hg1
  go_wp2_with fail
  go_ret
  exact ⟨by rw [HA.out]; rfl, HG1.out⟩
 | true =>
  have h3 : (x.kind != 27) = false := by rw [h2] at h1; simpa using h1
  clear h1
  go_enter Tryz.func40, Tryz.ntmps40
  go_wp2_with fail
  refine (c50 _ _).mono ?_
  rintro e w' ⟨rfl, rfl⟩
  go_wp2_with fail
  have hc := fun (w' : World) => c51 x w'
  unfold itemVal at hc
  refine (hc _).mono ?_
  clear hc
  rintro e w1 ⟨rfl, hg1⟩
  have HY : ItB w1 (w.heap.size + 1) y := free_keep hg1 (new_blk' (by simp))
  have HG1 := Lib.hid (grown_trans HG.out hg1)
  clear hg1
  go_wp2_with fail
  go_ret
  exact ⟨by rw [HA.out]; rfl, HG1.out⟩
set_option maxRecDepth 100000 in
set_option maxHeartbeats 4000000 in
theorem c40_b (x y : Css.Item) (w : World) (h1 : (Css.cls x.kind != 0 && x.kind != 27) = false) (hr : Css.risky (Css.sgn x.kind x.text) = true) :
  Calls Tryz.prog 40 #[itemVal x, itemVal y] w fun e w' => e = .returned (.bool (Css.apartB x.kind x.text y.kind y.text)) ∧ w.grownBy w' none := by
 generalize hR : Css.apartB x.kind x.text y.kind y.text = R
 have HR := Lib.hid hR
 clear hR
 unfold itemVal
 have HG : Hid (w.grownBy ((w.alloc (.cells #[.int .i64 x.kind, .int .i64 x.unit, .string (str x.text), .int .i64 x.space] 34)).alloc (.cells #[.int .i64 y.kind, .int .i64 y.unit, .string (str y.text), .int .i64 y.space] 34)) none) := Lib.hid (grown_alloc (grown_alloc (grown_refl _ _) _) _)
 have HA := Lib.hid (HR.out.symm.trans (ap_b (k' := y.kind) (t := x.text) (t' := y.text) h1 hr))
 clear HR
 have HR2 : Hid (Css.risky (Css.sgn x.kind x.text) = true) := hr
 clear hr
 have HB : ∀ (w1 : World) (e : Ending), e = .returned (.int .u8 (Css.sgn x.kind x.text)) → True := fun _ _ _ => trivial
 clear HB
 cases h2 : (Css.cls x.kind != 0 && x.kind != 27) with
 | true => rw [h2] at h1; cases h1
 | false =>
  clear h1
  cases h3 : (Css.cls x.kind != 0) with
  | false =>
   clear h2
   go_enter Tryz.func40, Tryz.ntmps40
   go_wp2_with fail
   refine (c50 _ _).mono ?_
   rintro e w' ⟨rfl, rfl⟩
   go_wp2_with fail
   have hc := fun (w' : World) => c51 x w'
   unfold itemVal at hc
   refine (hc _).mono ?_
   clear hc
   rintro e w1 ⟨rfl, hg1⟩
   have HY1 : ItB w1 (w.heap.size + 1) y := free_keep hg1 (new_blk' (by simp))
   have HG1 := Lib.hid (grown_trans HG.out hg1)
   clear hg1
   have hrg := sgn_range x.kind x.text
   generalize Css.sgn x.kind x.text = sg at HR2 hrg
   go_upto_block 0 with (fail)
   go_step
   go_step
   go_cut [57] (fun v wc => v = .bool (Css.risky sg) ∧ w1 = wc)
   case first =>
    cases s0 : (sg == 35) with
    | true =>
     go_wp2_with fail
     go_meet
     exact ⟨by rw [risky_eq]; simp only [s0, Bool.true_or, Bool.or_true, Bool.false_or, Bool.or_false] <;> rfl, rfl⟩
    | false =>
     cases s1 : (sg == 45) with
     | true =>
      go_wp2_with fail
      go_meet
      exact ⟨by rw [risky_eq]; simp only [s0, s1, Bool.true_or, Bool.or_true, Bool.false_or, Bool.or_false] <;> rfl, rfl⟩
     | false =>
      cases s2 : (sg == 64) with
      | true =>
       go_wp2_with fail
       go_meet
       exact ⟨by rw [risky_eq]; simp only [s0, s1, s2, Bool.true_or, Bool.or_true, Bool.false_or, Bool.or_false] <;> rfl, rfl⟩
      | false =>
       cases s3 : (sg == 43) with
       | true =>
        go_wp2_with fail
        go_meet
        exact ⟨by rw [risky_eq]; simp only [s0, s1, s2, s3, Bool.true_or, Bool.or_true, Bool.false_or, Bool.or_false] <;> rfl, rfl⟩
       | false =>
        cases s4 : (sg == 46) with
        | true =>
         go_wp2_with fail
         go_meet
         exact ⟨by rw [risky_eq]; simp only [s0, s1, s2, s3, s4, Bool.true_or, Bool.or_true, Bool.false_or, Bool.or_false] <;> rfl, rfl⟩
        | false =>
         cases s5 : (sg == 60) with
         | true =>
          go_wp2_with fail
          go_meet
          exact ⟨by rw [risky_eq]; simp only [s0, s1, s2, s3, s4, s5, Bool.true_or, Bool.or_true, Bool.false_or, Bool.or_false] <;> rfl, rfl⟩
         | false =>
          cases s6 : (sg == 47) with
          | true =>
           go_wp2_with fail
           go_meet
           exact ⟨by rw [risky_eq]; simp only [s0, s1, s2, s3, s4, s5, s6, Bool.true_or, Bool.or_true, Bool.false_or, Bool.or_false] <;> rfl, rfl⟩
          | false =>
           cases s7 : (sg == 33) with
           | true =>
            go_wp2_with fail
            go_meet
            exact ⟨by rw [risky_eq]; simp only [s0, s1, s2, s3, s4, s5, s6, s7, Bool.true_or, Bool.or_true, Bool.false_or, Bool.or_false] <;> rfl, rfl⟩
           | false =>
            cases s8 : (sg == 37) with
            | true =>
             go_wp2_with fail
             go_meet
             exact ⟨by rw [risky_eq]; simp only [s0, s1, s2, s3, s4, s5, s6, s7, s8, Bool.true_or, Bool.or_true, Bool.false_or, Bool.or_false] <;> rfl, rfl⟩
            | false =>
             cases s9 : (sg == 63) with
             | true =>
              go_wp2_with fail
              go_meet
              exact ⟨by rw [risky_eq]; simp only [s0, s1, s2, s3, s4, s5, s6, s7, s8, s9, Bool.true_or, Bool.or_true, Bool.false_or, Bool.or_false] <;> rfl, rfl⟩
             | false =>
              go_wp2_with fail
              go_meet
              exact ⟨by rw [risky_eq]; simp only [s0, s1, s2, s3, s4, s5, s6, s7, s8, s9, Bool.true_or, Bool.or_true, Bool.false_or, Bool.or_false] <;> rfl, rfl⟩
   case rest =>
    obtain ⟨rfl, rfl⟩ := hcut
    rw [HR2.out]
    obtain ⟨y0, y1, y2, y3⟩ := HY1.cells
    go_wp2_with fail
    refine (c50 _ _).mono ?_
    rintro e w' ⟨rfl, rfl⟩
    cases t0 : (Css.cls y.kind != 0) with
    | true =>
     go_wp2_with fail
     go_ret
     exact ⟨by rw [HA.out]; simp only [t0, Bool.true_or, Bool.or_true, Bool.false_or, Bool.or_false, Bool.and_true, Bool.true_and, Bool.and_false, Bool.false_and] <;> rfl, HG1.out⟩
    | false =>
     cases t1 : (y.kind == 4) with
     | true =>
      go_wp2_with fail
      go_ret
      exact ⟨by rw [HA.out]; simp only [t0, t1, Bool.true_or, Bool.or_true, Bool.false_or, Bool.or_false, Bool.and_true, Bool.true_and, Bool.and_false, Bool.false_and] <;> rfl, HG1.out⟩
     | false =>
      cases t2 : (y.kind == 5) with
      | true =>
       go_wp2_with fail
       go_ret
       exact ⟨by rw [HA.out]; simp only [t0, t1, t2, Bool.true_or, Bool.or_true, Bool.false_or, Bool.or_false, Bool.and_true, Bool.true_and, Bool.and_false, Bool.false_and] <;> rfl, HG1.out⟩
      | false =>
       go_wp2_with fail
       have hc3 := fun (w' : World) => c51 y w'
       unfold itemVal at hc3
       refine (hc3 _).mono ?_
       clear hc3
       rintro e w2 ⟨rfl, hg⟩
       have HG2 := Lib.hid (grown_trans HG1.out hg)
       have HY2 := HY1.free hg
       obtain ⟨y0, y1, y2, y3⟩ := HY2.cells
       clear hg
       cases t3 : (Css.sgn y.kind y.text != 0) with
       | false =>
        go_wp2_with fail
        go_ret
        exact ⟨by rw [HA.out]; simp only [t0, t1, t2, t3, Bool.true_or, Bool.or_true, Bool.false_or, Bool.or_false, Bool.and_true, Bool.true_and, Bool.and_false, Bool.false_and] <;> rfl, HG2.out⟩
       | true =>
        clear y0 y1 y2 y3
        obtain ⟨y0, y1, y2, y3⟩ := HY2.cells
        go_wp2_with fail
        have hc4 := fun (w' : World) => c51 y w'
        unfold itemVal at hc4
        refine (hc4 _).mono ?_
        clear hc4
        rintro e w3 ⟨rfl, hg⟩
        have HG3 := Lib.hid (grown_trans HG2.out hg)
        have HY3 := HY2.free hg
        obtain ⟨y0, y1, y2, y3⟩ := HY3.cells
        clear hg
        cases t4 : (Css.sgn y.kind y.text != 44) with
        | false =>
         go_wp2_with fail
         go_ret
         exact ⟨by rw [HA.out]; simp only [t0, t1, t2, t3, t4, Bool.true_or, Bool.or_true, Bool.false_or, Bool.or_false, Bool.and_true, Bool.true_and, Bool.and_false, Bool.false_and] <;> rfl, HG3.out⟩
        | true =>
         clear y0 y1 y2 y3
         obtain ⟨y0, y1, y2, y3⟩ := HY3.cells
         go_wp2_with fail
         have hc5 := fun (w' : World) => c51 y w'
         unfold itemVal at hc5
         refine (hc5 _).mono ?_
         clear hc5
         rintro e w4 ⟨rfl, hg⟩
         have HG4 := Lib.hid (grown_trans HG3.out hg)
         have HY4 := HY3.free hg
         obtain ⟨y0, y1, y2, y3⟩ := HY4.cells
         clear hg
         cases t5 : (Css.sgn y.kind y.text != 59) with
         | false =>
          go_wp2_with fail
          go_ret
          exact ⟨by rw [HA.out]; simp only [t0, t1, t2, t3, t4, t5, Bool.true_or, Bool.or_true, Bool.false_or, Bool.or_false, Bool.and_true, Bool.true_and, Bool.and_false, Bool.false_and] <;> rfl, HG4.out⟩
         | true =>
          clear y0 y1 y2 y3
          obtain ⟨y0, y1, y2, y3⟩ := HY4.cells
          go_wp2_with fail
          have hc6 := fun (w' : World) => c51 y w'
          unfold itemVal at hc6
          refine (hc6 _).mono ?_
          clear hc6
          rintro e w5 ⟨rfl, hg⟩
          have HG5 := Lib.hid (grown_trans HG4.out hg)
          have HY5 := HY4.free hg
          obtain ⟨y0, y1, y2, y3⟩ := HY5.cells
          clear hg
          cases t6 : (Css.sgn y.kind y.text != 58) with
          | false =>
           go_wp2_with fail
           go_ret
           exact ⟨by rw [HA.out]; simp only [t0, t1, t2, t3, t4, t5, t6, Bool.true_or, Bool.or_true, Bool.false_or, Bool.or_false, Bool.and_true, Bool.true_and, Bool.and_false, Bool.false_and] <;> rfl, HG5.out⟩
          | true =>
           clear y0 y1 y2 y3
           obtain ⟨y0, y1, y2, y3⟩ := HY5.cells
           go_wp2_with fail
           have hc7 := fun (w' : World) => c51 y w'
           unfold itemVal at hc7
           refine (hc7 _).mono ?_
           clear hc7
           rintro e w6 ⟨rfl, hg⟩
           have HG6 := Lib.hid (grown_trans HG5.out hg)
           have HY6 := HY5.free hg
           obtain ⟨y0, y1, y2, y3⟩ := HY6.cells
           clear hg
           cases t7 : (Css.sgn y.kind y.text != 123) with
           | false =>
            go_wp2_with fail
            go_ret
            exact ⟨by rw [HA.out]; simp only [t0, t1, t2, t3, t4, t5, t6, t7, Bool.true_or, Bool.or_true, Bool.false_or, Bool.or_false, Bool.and_true, Bool.true_and, Bool.and_false, Bool.false_and] <;> rfl, HG6.out⟩
           | true =>
            clear y0 y1 y2 y3
            obtain ⟨y0, y1, y2, y3⟩ := HY6.cells
            go_wp2_with fail
            have hc8 := fun (w' : World) => c51 y w'
            unfold itemVal at hc8
            refine (hc8 _).mono ?_
            clear hc8
            rintro e w7 ⟨rfl, hg⟩
            have HG7 := Lib.hid (grown_trans HG6.out hg)
            have HY7 := HY6.free hg
            obtain ⟨y0, y1, y2, y3⟩ := HY7.cells
            clear hg
            cases t8 : (Css.sgn y.kind y.text != 91) with
            | false =>
             go_wp2_with fail
             go_ret
             exact ⟨by rw [HA.out]; simp only [t0, t1, t2, t3, t4, t5, t6, t7, t8, Bool.true_or, Bool.or_true, Bool.false_or, Bool.or_false, Bool.and_true, Bool.true_and, Bool.and_false, Bool.false_and] <;> rfl, HG7.out⟩
            | true =>
             clear y0 y1 y2 y3
             obtain ⟨y0, y1, y2, y3⟩ := HY7.cells
             go_wp2_with fail
             have hc9 := fun (w' : World) => c51 y w'
             unfold itemVal at hc9
             refine (hc9 _).mono ?_
             clear hc9
             rintro e w8 ⟨rfl, hg⟩
             have HG8 := Lib.hid (grown_trans HG7.out hg)
             have HY8 := HY7.free hg
             obtain ⟨y0, y1, y2, y3⟩ := HY8.cells
             clear hg
             cases t9 : (Css.sgn y.kind y.text != 40) with
             | false =>
              go_wp2_with fail
              go_ret
              exact ⟨by rw [HA.out]; simp only [t0, t1, t2, t3, t4, t5, t6, t7, t8, t9, Bool.true_or, Bool.or_true, Bool.false_or, Bool.or_false, Bool.and_true, Bool.true_and, Bool.and_false, Bool.false_and] <;> rfl, HG8.out⟩
             | true =>
              go_wp2_with fail
              go_ret
              exact ⟨by rw [HA.out]; simp only [t0, t1, t2, t3, t4, t5, t6, t7, t8, t9, Bool.true_or, Bool.or_true, Bool.false_or, Bool.or_false, Bool.and_true, Bool.true_and, Bool.and_false, Bool.false_and] <;> rfl, HG8.out⟩
  | true =>
   have h4 : (x.kind != 27) = false := by rw [h3] at h2; simpa using h2
   clear h2
   go_enter Tryz.func40, Tryz.ntmps40
   go_wp2_with fail
   refine (c50 _ _).mono ?_
   rintro e w' ⟨rfl, rfl⟩
   go_wp2_with fail
   have hc := fun (w' : World) => c51 x w'
   unfold itemVal at hc
   refine (hc _).mono ?_
   clear hc
   rintro e w1 ⟨rfl, hg1⟩
   have HY1 : ItB w1 (w.heap.size + 1) y := free_keep hg1 (new_blk' (by simp))
   have HG1 := Lib.hid (grown_trans HG.out hg1)
   clear hg1
   have hrg := sgn_range x.kind x.text
   generalize Css.sgn x.kind x.text = sg at HR2 hrg
   go_upto_block 0 with (fail)
   go_step
   go_step
   go_cut [57] (fun v wc => v = .bool (Css.risky sg) ∧ w1 = wc)
   case first =>
    cases s0 : (sg == 35) with
    | true =>
     go_wp2_with fail
     go_meet
     exact ⟨by rw [risky_eq]; simp only [s0, Bool.true_or, Bool.or_true, Bool.false_or, Bool.or_false] <;> rfl, rfl⟩
    | false =>
     cases s1 : (sg == 45) with
     | true =>
      go_wp2_with fail
      go_meet
      exact ⟨by rw [risky_eq]; simp only [s0, s1, Bool.true_or, Bool.or_true, Bool.false_or, Bool.or_false] <;> rfl, rfl⟩
     | false =>
      cases s2 : (sg == 64) with
      | true =>
       go_wp2_with fail
       go_meet
       exact ⟨by rw [risky_eq]; simp only [s0, s1, s2, Bool.true_or, Bool.or_true, Bool.false_or, Bool.or_false] <;> rfl, rfl⟩
      | false =>
       cases s3 : (sg == 43) with
       | true =>
        go_wp2_with fail
        go_meet
        exact ⟨by rw [risky_eq]; simp only [s0, s1, s2, s3, Bool.true_or, Bool.or_true, Bool.false_or, Bool.or_false] <;> rfl, rfl⟩
       | false =>
        cases s4 : (sg == 46) with
        | true =>
         go_wp2_with fail
         go_meet
         exact ⟨by rw [risky_eq]; simp only [s0, s1, s2, s3, s4, Bool.true_or, Bool.or_true, Bool.false_or, Bool.or_false] <;> rfl, rfl⟩
        | false =>
         cases s5 : (sg == 60) with
         | true =>
          go_wp2_with fail
          go_meet
          exact ⟨by rw [risky_eq]; simp only [s0, s1, s2, s3, s4, s5, Bool.true_or, Bool.or_true, Bool.false_or, Bool.or_false] <;> rfl, rfl⟩
         | false =>
          cases s6 : (sg == 47) with
          | true =>
           go_wp2_with fail
           go_meet
           exact ⟨by rw [risky_eq]; simp only [s0, s1, s2, s3, s4, s5, s6, Bool.true_or, Bool.or_true, Bool.false_or, Bool.or_false] <;> rfl, rfl⟩
          | false =>
           cases s7 : (sg == 33) with
           | true =>
            go_wp2_with fail
            go_meet
            exact ⟨by rw [risky_eq]; simp only [s0, s1, s2, s3, s4, s5, s6, s7, Bool.true_or, Bool.or_true, Bool.false_or, Bool.or_false] <;> rfl, rfl⟩
           | false =>
            cases s8 : (sg == 37) with
            | true =>
             go_wp2_with fail
             go_meet
             exact ⟨by rw [risky_eq]; simp only [s0, s1, s2, s3, s4, s5, s6, s7, s8, Bool.true_or, Bool.or_true, Bool.false_or, Bool.or_false] <;> rfl, rfl⟩
            | false =>
             cases s9 : (sg == 63) with
             | true =>
              go_wp2_with fail
              go_meet
              exact ⟨by rw [risky_eq]; simp only [s0, s1, s2, s3, s4, s5, s6, s7, s8, s9, Bool.true_or, Bool.or_true, Bool.false_or, Bool.or_false] <;> rfl, rfl⟩
             | false =>
              go_wp2_with fail
              go_meet
              exact ⟨by rw [risky_eq]; simp only [s0, s1, s2, s3, s4, s5, s6, s7, s8, s9, Bool.true_or, Bool.or_true, Bool.false_or, Bool.or_false] <;> rfl, rfl⟩
   case rest =>
    obtain ⟨rfl, rfl⟩ := hcut
    rw [HR2.out]
    obtain ⟨y0, y1, y2, y3⟩ := HY1.cells
    go_wp2_with fail
    refine (c50 _ _).mono ?_
    rintro e w' ⟨rfl, rfl⟩
    cases t0 : (Css.cls y.kind != 0) with
    | true =>
     go_wp2_with fail
     go_ret
     exact ⟨by rw [HA.out]; simp only [t0, Bool.true_or, Bool.or_true, Bool.false_or, Bool.or_false, Bool.and_true, Bool.true_and, Bool.and_false, Bool.false_and] <;> rfl, HG1.out⟩
    | false =>
     cases t1 : (y.kind == 4) with
     | true =>
      go_wp2_with fail
      go_ret
      exact ⟨by rw [HA.out]; simp only [t0, t1, Bool.true_or, Bool.or_true, Bool.false_or, Bool.or_false, Bool.and_true, Bool.true_and, Bool.and_false, Bool.false_and] <;> rfl, HG1.out⟩
     | false =>
      cases t2 : (y.kind == 5) with
      | true =>
       go_wp2_with fail
       go_ret
       exact ⟨by rw [HA.out]; simp only [t0, t1, t2, Bool.true_or, Bool.or_true, Bool.false_or, Bool.or_false, Bool.and_true, Bool.true_and, Bool.and_false, Bool.false_and] <;> rfl, HG1.out⟩
      | false =>
       go_wp2_with fail
       have hc3 := fun (w' : World) => c51 y w'
       unfold itemVal at hc3
       refine (hc3 _).mono ?_
       clear hc3
       rintro e w2 ⟨rfl, hg⟩
       have HG2 := Lib.hid (grown_trans HG1.out hg)
       have HY2 := HY1.free hg
       obtain ⟨y0, y1, y2, y3⟩ := HY2.cells
       clear hg
       cases t3 : (Css.sgn y.kind y.text != 0) with
       | false =>
        go_wp2_with fail
        go_ret
        exact ⟨by rw [HA.out]; simp only [t0, t1, t2, t3, Bool.true_or, Bool.or_true, Bool.false_or, Bool.or_false, Bool.and_true, Bool.true_and, Bool.and_false, Bool.false_and] <;> rfl, HG2.out⟩
       | true =>
        clear y0 y1 y2 y3
        obtain ⟨y0, y1, y2, y3⟩ := HY2.cells
        go_wp2_with fail
        have hc4 := fun (w' : World) => c51 y w'
        unfold itemVal at hc4
        refine (hc4 _).mono ?_
        clear hc4
        rintro e w3 ⟨rfl, hg⟩
        have HG3 := Lib.hid (grown_trans HG2.out hg)
        have HY3 := HY2.free hg
        obtain ⟨y0, y1, y2, y3⟩ := HY3.cells
        clear hg
        cases t4 : (Css.sgn y.kind y.text != 44) with
        | false =>
         go_wp2_with fail
         go_ret
         exact ⟨by rw [HA.out]; simp only [t0, t1, t2, t3, t4, Bool.true_or, Bool.or_true, Bool.false_or, Bool.or_false, Bool.and_true, Bool.true_and, Bool.and_false, Bool.false_and] <;> rfl, HG3.out⟩
        | true =>
         clear y0 y1 y2 y3
         obtain ⟨y0, y1, y2, y3⟩ := HY3.cells
         go_wp2_with fail
         have hc5 := fun (w' : World) => c51 y w'
         unfold itemVal at hc5
         refine (hc5 _).mono ?_
         clear hc5
         rintro e w4 ⟨rfl, hg⟩
         have HG4 := Lib.hid (grown_trans HG3.out hg)
         have HY4 := HY3.free hg
         obtain ⟨y0, y1, y2, y3⟩ := HY4.cells
         clear hg
         cases t5 : (Css.sgn y.kind y.text != 59) with
         | false =>
          go_wp2_with fail
          go_ret
          exact ⟨by rw [HA.out]; simp only [t0, t1, t2, t3, t4, t5, Bool.true_or, Bool.or_true, Bool.false_or, Bool.or_false, Bool.and_true, Bool.true_and, Bool.and_false, Bool.false_and] <;> rfl, HG4.out⟩
         | true =>
          clear y0 y1 y2 y3
          obtain ⟨y0, y1, y2, y3⟩ := HY4.cells
          go_wp2_with fail
          have hc6 := fun (w' : World) => c51 y w'
          unfold itemVal at hc6
          refine (hc6 _).mono ?_
          clear hc6
          rintro e w5 ⟨rfl, hg⟩
          have HG5 := Lib.hid (grown_trans HG4.out hg)
          have HY5 := HY4.free hg
          obtain ⟨y0, y1, y2, y3⟩ := HY5.cells
          clear hg
          cases t6 : (Css.sgn y.kind y.text != 58) with
          | false =>
           go_wp2_with fail
           go_ret
           exact ⟨by rw [HA.out]; simp only [t0, t1, t2, t3, t4, t5, t6, Bool.true_or, Bool.or_true, Bool.false_or, Bool.or_false, Bool.and_true, Bool.true_and, Bool.and_false, Bool.false_and] <;> rfl, HG5.out⟩
          | true =>
           clear y0 y1 y2 y3
           obtain ⟨y0, y1, y2, y3⟩ := HY5.cells
           go_wp2_with fail
           have hc7 := fun (w' : World) => c51 y w'
           unfold itemVal at hc7
           refine (hc7 _).mono ?_
           clear hc7
           rintro e w6 ⟨rfl, hg⟩
           have HG6 := Lib.hid (grown_trans HG5.out hg)
           have HY6 := HY5.free hg
           obtain ⟨y0, y1, y2, y3⟩ := HY6.cells
           clear hg
           cases t7 : (Css.sgn y.kind y.text != 123) with
           | false =>
            go_wp2_with fail
            go_ret
            exact ⟨by rw [HA.out]; simp only [t0, t1, t2, t3, t4, t5, t6, t7, Bool.true_or, Bool.or_true, Bool.false_or, Bool.or_false, Bool.and_true, Bool.true_and, Bool.and_false, Bool.false_and] <;> rfl, HG6.out⟩
           | true =>
            clear y0 y1 y2 y3
            obtain ⟨y0, y1, y2, y3⟩ := HY6.cells
            go_wp2_with fail
            have hc8 := fun (w' : World) => c51 y w'
            unfold itemVal at hc8
            refine (hc8 _).mono ?_
            clear hc8
            rintro e w7 ⟨rfl, hg⟩
            have HG7 := Lib.hid (grown_trans HG6.out hg)
            have HY7 := HY6.free hg
            obtain ⟨y0, y1, y2, y3⟩ := HY7.cells
            clear hg
            cases t8 : (Css.sgn y.kind y.text != 91) with
            | false =>
             go_wp2_with fail
             go_ret
             exact ⟨by rw [HA.out]; simp only [t0, t1, t2, t3, t4, t5, t6, t7, t8, Bool.true_or, Bool.or_true, Bool.false_or, Bool.or_false, Bool.and_true, Bool.true_and, Bool.and_false, Bool.false_and] <;> rfl, HG7.out⟩
            | true =>
             clear y0 y1 y2 y3
             obtain ⟨y0, y1, y2, y3⟩ := HY7.cells
             go_wp2_with fail
             have hc9 := fun (w' : World) => c51 y w'
             unfold itemVal at hc9
             refine (hc9 _).mono ?_
             clear hc9
             rintro e w8 ⟨rfl, hg⟩
             have HG8 := Lib.hid (grown_trans HG7.out hg)
             have HY8 := HY7.free hg
             obtain ⟨y0, y1, y2, y3⟩ := HY8.cells
             clear hg
             cases t9 : (Css.sgn y.kind y.text != 40) with
             | false =>
              go_wp2_with fail
              go_ret
              exact ⟨by rw [HA.out]; simp only [t0, t1, t2, t3, t4, t5, t6, t7, t8, t9, Bool.true_or, Bool.or_true, Bool.false_or, Bool.or_false, Bool.and_true, Bool.true_and, Bool.and_false, Bool.false_and] <;> rfl, HG8.out⟩
             | true =>
              go_wp2_with fail
              go_ret
              exact ⟨by rw [HA.out]; simp only [t0, t1, t2, t3, t4, t5, t6, t7, t8, t9, Bool.true_or, Bool.or_true, Bool.false_or, Bool.or_false, Bool.and_true, Bool.true_and, Bool.and_false, Bool.false_and] <;> rfl, HG8.out⟩
theorem c40 (x y : Css.Item) (w : World) :
  Calls Tryz.prog 40 #[itemVal x, itemVal y] w fun e w' => e = .returned (.bool (Css.apartB x.kind x.text y.kind y.text)) ∧ w.grownBy w' none := by
 cases h1 : (Css.cls x.kind != 0 && x.kind != 27) with
 | true =>
  have h2 : (Css.cls x.kind != 0) = true ∧ (x.kind != 27) = true := by rw [Bool.and_eq_true] at h1; exact h1
  exact c40_a x y w h2.1 h2.2
 | false =>
  cases h2 : Css.risky (Css.sgn x.kind x.text) with
  | true => exact c40_b x y w h1 h2
  | false => exact c40_c x y w h1 h2
end Go.Proofs.YtkfdcbdlcipmfaaGreatFmt
/- What the reference's follower and Set answer. At most 1000 nodes. -/
namespace Go.Proofs.YtkfdcbdlcipmfaaGreatFmt
open Go.RowKit
def folB (l : List Css.Node) (i : Nat) : Bool := match l[i]?, l[i + 1]? with
 | some n, some m => (Css.opens n.kind).isNone && m.depth == n.depth
 | _, _ => false
theorem folB_last {l : List Css.Node} {i : Nat} (h : l.length ≤ i + 1) : folB l i = false := by
 unfold folB
 rw [List.getElem?_eq_none h]
 split
 ·rename_i h; cases h
 ·rfl
theorem folB_at {l : List Css.Node} {i : Nat} (h : i + 1 < l.length) : folB l i = ((Css.opens (l[i]'(by omega)).kind).isNone && (l[i + 1]).depth == (l[i]'(by omega)).depth) := by
 unfold folB
 rw [List.getElem?_eq_getElem h, List.getElem?_eq_getElem (by omega)]
theorem folB_open {l : List Css.Node} {i : Nat} (h : i < l.length) (ho : (Css.opens (l[i]).kind).isSome = true) : folB l i = false := by
 by_cases h1 : i + 1 < l.length
 ·rw [folB_at h1]
  cases hx : Css.opens (l[i]).kind with
  | none => rw [hx] at ho; cases ho
  | some c => rfl
 ·exact folB_last (by omega)
def folV (l : List Css.Node) (i : Nat) : Int := if folB l i then (i : Int) + 1 else -1
theorem folV_no {l : List Css.Node} {i : Nat} (h : folB l i = false) : folV l i = -1 := by unfold folV; rw [h]; rfl
theorem folV_yes {l : List Css.Node} {i : Nat} (h : folB l i = true) : folV l i = (i : Int) + 1 := by unfold folV; rw [h]; rfl
set_option maxRecDepth 100000 in
set_option maxHeartbeats 1000000 in
theorem c39 {w : World} {B : Nat} {A : Option Addr} {c : Nat} {l : List Css.Node} (h : Nd w B A l) (hl : l.length ≤ 1000) (i : Nat) (hi : i < l.length) :
  Calls Tryz.prog 39 #[.slice A l.length c, .int .i64 i] w fun e w' => e = .returned (.int .i64 (folV l i)) ∧ ∃ m, w' = w.drewN m := by
 obtain ⟨ad, rfl, hb, hc0, hc1, hc2, hc3, hc4, hc5⟩ := h.elem hi
 clear hc1 hc3 hc4 hc5
 generalize hF : folV l i = F
 have HF := Lib.hid hF
 clear hF
 generalize hn : l[i] = n at hc0 hc2
 have HN := Lib.hid hn
 clear hn
 have H := Lib.hid h
 clear h
 cases ho : (Css.opens n.kind).isSome with
 | true =>
  have HE : Hid (F = -1) := Lib.hid (HF.out.symm.trans (folV_no (folB_open hi (by rw [HN.out]; exact ho))))
  go_enter Tryz.func39, Tryz.ntmps39
  go_wp2_with fail
  refine (c30 _ _).mono ?_
  rintro e w' ⟨rfl, rfl⟩
  rw [ho]
  go_wp2_with fail
  go_ret
  exact ⟨by rw [HE.out]; rfl, 0, rfl⟩
 | false =>
  have hno : (Css.opens n.kind).isNone = true := by
   cases hx : Css.opens n.kind with
   | none => rfl
   | some c => rw [hx] at ho; cases ho
  by_cases h1 : i + 1 < l.length
  ·obtain ⟨ad2, e2, _, _, _, hd2, _, _, _⟩ := H.out.elem h1
   simp only [Option.some.injEq] at e2
   subst e2
   have hF2 := folB_at h1
   generalize hm : l[i + 1] = m at hd2 hF2
   have HM := Lib.hid hm
   clear hm
   rw [HN.out, hno, Bool.true_and] at hF2
   have h1' : (i : Int) + 1 < l.length := by omega
   have hsum : IntKind.i64.wrap ((i : Int) + 1) = (i : Int) + 1 := IntWalk.i64_in _ (by omega)
   have hd1 : decide ((i : Int) + 1 < l.length) = true := by simpa using h1'
   clear hno
   cases hd : (m.depth == n.depth) with
   | true =>
    have HE : Hid (F = (i : Int) + 1) := Lib.hid (HF.out.symm.trans (folV_yes (hF2.trans hd)))
    clear hF2
    go_enter Tryz.func39, Tryz.ntmps39
    go_wp2_with fail
    refine (c30 _ _).mono ?_
    rintro e w' ⟨rfl, rfl⟩
    rw [ho]
    go_wp2_with fail
    go_quiet (fail)
    go_wp2_with fail
    go_ret
    exact ⟨by rw [HE.out]; rfl, _, rfl⟩
   | false =>
    have HE : Hid (F = -1) := Lib.hid (HF.out.symm.trans (folV_no (hF2.trans hd)))
    clear hF2
    go_enter Tryz.func39, Tryz.ntmps39
    go_wp2_with fail
    refine (c30 _ _).mono ?_
    rintro e w' ⟨rfl, rfl⟩
    rw [ho]
    go_wp2_with fail
    go_quiet (fail)
    go_wp2_with fail
    go_ret
    exact ⟨by rw [HE.out]; rfl, _, rfl⟩
  ·have HE : Hid (F = -1) := Lib.hid (HF.out.symm.trans (folV_no (folB_last (by omega))))
   have h1' : (l.length : Int) ≤ (i : Int) + 1 := by omega
   have hsum : IntKind.i64.wrap ((i : Int) + 1) = (i : Int) + 1 := IntWalk.i64_in _ (by omega)
   have hd1 : decide ((i : Int) + 1 < l.length) = false := by simp; omega
   clear h1 hno
   go_enter Tryz.func39, Tryz.ntmps39
   go_wp2_with fail
   refine (c30 _ _).mono ?_
   rintro e w' ⟨rfl, rfl⟩
   rw [ho]
   go_wp2_with fail
   go_quiet (fail)
   go_wp2_with fail
   go_ret
   exact ⟨by rw [HE.out]; rfl, _, rfl⟩
end Go.Proofs.YtkfdcbdlcipmfaaGreatFmt
