/- The law of rules. -/
import Derived.Test.YtkfdcbdlcipmfaaGreatFmtHK
set_option linter.unusedVariables false
set_option linter.unusedSimpArgs false
namespace Go.Proofs.YtkfdcbdlcipmfaaGreatFmt
open Go.RowKit Go.Extern.Stop Go.Stop Go.Extern


def decIn (m : Bool) (P : List Css.Item) : List Css.Item := P ++ (if m then [] else [Css.semi])
theorem ruleI_cells (m : Bool) (key : List UInt8) (l1 l2 : List Css.Node) : itemsC (ruleI m key l1 l2) = itemsC (itemsN l1) ++ itemCells Css.brace ++ itemsC (decIn m (preI key l2)) ++ itemCells Css.unbrace := by
  unfold ruleI decIn preI
  simp [itemsC]
theorem ruleI_len (m : Bool) (key : List UInt8) (l1 l2 : List Css.Node) : (ruleI m key l1 l2).length = (itemsN l1).length + 1 + (decIn m (preI key l2)).length + 1 := by
  unfold ruleI decIn preI
  simp
  omega
theorem decIn_len (m : Bool) (P : List Css.Item) : (decIn m P).length = P.length + (if m then 0 else 1) := by unfold decIn; cases m <;> simp

set_option maxRecDepth 400000 in
set_option maxHeartbeats 400000000 in
theorem c3 {F : Interp} {w : World} {A B : Option Addr} {c d : Nat} {l r : List Css.Node} (name : List UInt8) (m asc : Bool) (h1 : F.told.answers w.tape) (h2 : Tabs w) (hN : Nd w w.heap.size A l) (hM : Nd w w.heap.size B r) :
    Calls Tryz.prog 3 #[.slice A l.length c, .string (str name), .slice B r.length d, .bool m, .bool asc] w (Yes w) := by
  have H13 : Hid (∀ W, w.grownBy W none → Calls Tryz.prog 13 #[] W fun e w' => e = .returned (.bool true) ∧ w.grownBy w' none) := Lib.hid fun W hg => (c13 (F := F) (by rw [hg.tape]; exact h1) (h2.free hg)).mono (by rintro e w' ⟨rfl, h⟩; exact ⟨rfl, grown_trans hg h⟩)
  have H10 : Hid (Calls Tryz.prog 10 #[.slice A l.length c] w fun e w' => ∃ b, e = .returned (.bool b) ∧ w.grownBy w' none ∧ (b = true → FitsL l)) := Lib.hid (c10 hN)
  have H10b : Hid (∀ W, w.grownBy W none → Calls Tryz.prog 10 #[.slice B r.length d] W fun e w' => ∃ b, e = .returned (.bool b) ∧ w.grownBy w' none ∧ (b = true → FitsL r)) := Lib.hid fun W hg => (c10 (Sl.more (Sl.free hM hg (Nat.le_refl _)) hg.size)).mono (by rintro e w' ⟨b, rfl, h, k⟩; exact ⟨b, rfl, grown_trans hg h, k⟩)
  have H11 : Hid (∀ W, w.grownBy W none → FitsL l → Calls Tryz.prog 11 #[.slice A l.length c, .bool true, .bool asc] W fun e w' => ∃ A' c' b, e = .returned (.tuple #[.slice A' (if b then l.length else 0) c', .bool b]) ∧ w.grownBy w' none ∧ (b = true → Fine w' asc l A' c')) := Lib.hid fun W hg hf => (c11 (Sl.more (Sl.free hN hg (Nat.le_refl _)) hg.size) hf true asc).mono (by
    rintro e w' (⟨rfl, h⟩ | ⟨A', c', rfl, h, hgood, hnd, hown⟩)
    · exact ⟨none, 0, false, rfl, grown_trans hg h, fun e => by simp at e⟩
    · exact ⟨A', c', true, rfl, grown_trans hg h, fun _ => ⟨hgood, hnd, cap_of hown⟩⟩)
  have H11b : Hid (∀ W, w.grownBy W none → FitsL r → Calls Tryz.prog 11 #[.slice B r.length d, .bool true, .bool asc] W fun e w' => ∃ A' c' b, e = .returned (.tuple #[.slice A' (if b then r.length else 0) c', .bool b]) ∧ w.grownBy w' none ∧ W.grownBy w' none ∧ (b = true → Fine w' asc r A' c')) := Lib.hid fun W hg hf => (c11 (Sl.more (Sl.free hM hg (Nat.le_refl _)) hg.size) hf true asc).mono (by
    rintro e w' (⟨rfl, h⟩ | ⟨A', c', rfl, h, hgood, hnd, hown⟩)
    · exact ⟨none, 0, false, rfl, grown_trans hg h, h, fun e => by simp at e⟩
    · exact ⟨A', c', true, rfl, grown_trans hg h, h, fun _ => ⟨hgood, hnd, cap_of hown⟩⟩)
  have H18 : Hid (∀ W A' c' B' d', w.grownBy W none → Fine W asc l A' c' → Fine W asc r B' d' → namedB asc name = true → Calls Tryz.prog 18 #[.slice A' l.length c', .string (str name), .slice B' r.length d', .bool m, .bool asc] W fun e w' => ∃ s, e = .returned (.string s) ∧ W.grownBy w' none ∧ s.size ≤ 2147483648 ∧ Css.Told s.data.toList (ruleI m name (Css.setL true l) (Css.setL true r))) := Lib.hid fun W A' c' B' d' hg hf hr hn => by
    obtain ⟨ts, hp⟩ := hf.1.prep true
    obtain ⟨us, hq⟩ := hr.1.prep true
    have := c18 (F := F) (ws := m) (w := W) (A1 := A') (c1 := c') (A2 := B') (c2 := d') (by rw [hg.tape]; exact h1) (h2.free hg) hp (chain_ok hp.chain hp.deep) hf.2.1 (by rw [setL_len]; exact hf.2.2) hq (chain_ok hq.chain hq.deep) hr.2.1 (by rw [setL_len]; exact hr.2.2) hn
    rw [setL_len, setL_len] at this
    refine this.mono ?_
    rintro e w' ⟨s, rfl, hg2, hs⟩
    exact ⟨s, rfl, hg2, Nat.le_trans hs.1 (by omega), hs.told hp hq hn hp.after⟩
  have H14 : Hid (∀ W A' c', Fine W asc r A' c' → Calls Tryz.prog 14 #[.string (str name), .slice A' r.length c'] W fun e w' => ∃ g c2, e = .returned (.slice (some ⟨g, 0, none⟩) ((preI name (Css.setL true r)).length + 1) c2) ∧ W.grownBy w' none ∧ Ended W w' g c2 (preI name (Css.setL true r)) (preI name (Css.setL true r)).length) := Lib.hid fun W A' c' hf => by
    obtain ⟨ts, hp⟩ := hf.1.prep true
    have := c14 (A := A') (c := c') name hf.2.1 hp.isDeep
    rw [setL_len] at this
    refine this.mono ?_
    rintro e w' ⟨A2, c2, rfl, hg2, hI⟩
    obtain ⟨g, rfl, hl, hE⟩ := Ended.of hI
    exact ⟨g, c2, by rw [hl], hg2, hE⟩
  have H16 : Hid (∀ W A' c', Fine W asc l A' c' → Calls Tryz.prog 16 #[.slice A' l.length c'] W fun e w' => ∃ A2 c2, e = .returned (.slice A2 l.length c2) ∧ W.grownBy w' none ∧ Nd w' w'.heap.size A2 (Css.setL true l)) := Lib.hid fun W A' c' hf => by
    have := c16 (A := A') (c := c') hf.2.1 (by rw [setL_len]; have := hf.1.len; omega)
    rw [setL_len] at this
    refine this.mono ?_
    rintro e w' ⟨A2, c2, rfl, hg2, hO⟩
    exact ⟨A2, c2, rfl, hg2, Sl.of_own (by rw [setL_len]; exact hO)⟩
  have H15 : Hid (∀ W A' c', Good l asc → Nd W W.heap.size A' (Css.setL true l) → Calls Tryz.prog 15 #[.slice A' l.length c'] W fun e w' => ∃ A2 c2, e = .returned (.slice A2 (itemsN (Css.setL true l)).length c2) ∧ W.grownBy w' none ∧ w'.ownsRow W.heap.size 34 4 (.slice A2 (itemsN (Css.setL true l)).length c2) (itemsN (Css.setL true l)).length (itemsC (itemsN (Css.setL true l)))) := Lib.hid fun W A' c' hG hN' => by
    have hd := hG.set true
    have := c15 (c := c') hN' hd.len hd.chain hd.deep _ rfl
    rw [setL_len] at this
    exact this
  have HPL : Hid (r.length ≤ 1000 → (preI name (Css.setL true r)).length ≤ 2002) := Lib.hid fun h => by
    have := preI_len name (Css.setL true r)
    rw [setL_len] at this
    omega
  have HQL : Hid (l.length ≤ 1000 → (itemsN (Css.setL true l)).length ≤ 2000) := Lib.hid fun h => by
    have := itemsN_length (Css.setL true l)
    rw [setL_len] at this
    omega
  have H17 : Hid (∀ (s : ByteArray) (W : World) (A4 : Option Addr) (base c4 k : Nat), k = (itemsN (Css.setL true l)).length + 1 + (decIn m (preI name (Css.setL true r))).length + 1 → s.size ≤ 2147483648 → Css.Told s.data.toList (ruleI m name (Css.setL true l) (Css.setL true r)) → W.ownsRow base 34 4 (.slice A4 k c4) k (itemsC (itemsN (Css.setL true l)) ++ itemCells Css.brace ++ itemsC (decIn m (preI name (Css.setL true r))) ++ itemCells Css.unbrace) → Calls Tryz.prog 17 #[.string s, .slice A4 k c4, .bool false] W (Yes W)) := Lib.hid fun s W A4 base c4 k hk hz ht ho => by
    have hl := ruleI_len m name (Css.setL true l) (Css.setL true r)
    have := c17_told (A := A4) (c := c4) (base := base) (w := W) ht hz (by omega) (by rw [hl, ← hk, ruleI_cells]; exact ho) false
    rwa [hl, ← hk] at this
  clear h1 h2 hN hM
  obtain ⟨i0, z0, hi0, hz0, hz1, hz2, hz3⟩ := info34
  have HI := Lib.hid (And.intro hi0 (And.intro hz0 (And.intro hz1 (And.intro hz2 hz3))))
  clear hi0 hz0 hz1 hz2 hz3
  have hz : (str name).size = name.length := str_size name
  generalize hT : preI name (Css.setL true r) = T at *
  generalize hU : itemsN (Css.setL true l) = U at *
  generalize ruleI m name (Css.setL true l) (Css.setL true r) = R at *
  have hd : (str name).data.toList = name := str_data name
  generalize str name = s at *
  clear hT hU
  have h04 : 0 < 4 := by omega
  by_cases hs : s.size ≤ 2147483647
  · have H12 : Hid (∀ W, Calls Tryz.prog 12 #[.string s, .bool asc] W fun e w' => e = .returned (.bool (namedB asc name)) ∧ W = w') := Lib.hid fun W => by
      have := c12 s asc W (by omega)
      rw [hd] at this
      exact this
    have hs' : ¬ ((2147483647 : Int) < s.size) := by omega
    clear hd hz hs
    go_enter Tryz.func3, Tryz.ntmps3
    go_wp2_with fail
    refine H10.out.mono ?_
    rintro e w1 ⟨b, rfl, hg1, hb⟩
    have G1 := Lib.hid hg1
    cases b with
    | false =>
      clear hb hg1
      go_wp2_with fail
      exact bodyPost_ret (v := .bool true) (by simp [results, Tryz.results3, go_sem]) rfl ⟨rfl, G1.out⟩
    | true =>
      have HF1 := Lib.hid (hb rfl)
      clear hb hg1
      go_wp2_with fail
      refine (H10b.out _ G1.out).mono ?_
      rintro e w2 ⟨b, rfl, hg2, hb⟩
      have G2 := Lib.hid hg2
      clear hg2
      cases b with
      | false =>
        clear hb
        go_wp2_with fail
        exact bodyPost_ret (v := .bool true) (by simp [results, Tryz.results3, go_sem]) rfl ⟨rfl, G2.out⟩
      | true =>
        have HF2 := Lib.hid (hb rfl)
        clear hb
        go_wp2_with fail
        refine (H11.out _ G2.out HF1.out).mono ?_
        rintro e w3 ⟨A', c', b1, rfl, hg3, hf⟩
        have G3 := Lib.hid hg3
        clear hg3
        cases b1 with
        | false =>
          clear hf
          simp only [Bool.false_eq_true, if_false]
          go_wp2_with fail
          refine (H11b.out _ G3.out HF2.out).mono ?_
          rintro e w4 ⟨B', d', b2, rfl, hg4, hgx, hf⟩
          have G4 := Lib.hid hg4
          clear hg4 hgx hf
          cases b2
          all_goals
            simp only [Bool.false_eq_true, if_false, if_true]
            go_wp2_with fail
            refine (H13.out _ G4.out).mono ?_
            rintro e w9 ⟨rfl, hg9⟩
            have G9 := Lib.hid hg9
            clear hg9
            go_wp2_with fail
            exact bodyPost_ret (v := .bool true) (by simp [results, Tryz.results3, go_sem]) rfl ⟨rfl, G9.out⟩
        | true =>
          have HA := Lib.hid (hf rfl)
          clear hf
          simp only [if_true]
          go_wp2_with fail
          refine (H11b.out _ G3.out HF2.out).mono ?_
          rintro e w4 ⟨B', d', b2, rfl, hg4, hgx, hf⟩
          have G4 := Lib.hid hg4
          have HA4 := Lib.hid (HA.out.free hgx)
          clear hg4 hgx HA
          cases b2 with
          | false =>
            clear hf
            simp only [Bool.false_eq_true, if_false]
            go_wp2_with fail
            refine (H13.out _ G4.out).mono ?_
            rintro e w9 ⟨rfl, hg9⟩
            have G9 := Lib.hid hg9
            clear hg9
            go_wp2_with fail
            exact bodyPost_ret (v := .bool true) (by simp [results, Tryz.results3, go_sem]) rfl ⟨rfl, G9.out⟩
          | true =>
            have HB4 := Lib.hid (hf rfl)
            clear hf
            simp only [if_true]
            go_wp2_with fail
            refine (H12.out _).mono ?_
            rintro e w5 ⟨rfl, rfl⟩
            cases hn : namedB asc name with
            | false =>
              clear hn
              go_wp2_with fail
              refine (H13.out _ G4.out).mono ?_
              rintro e w9 ⟨rfl, hg9⟩
              have G9 := Lib.hid hg9
              clear hg9
              go_wp2_with fail
              exact bodyPost_ret (v := .bool true) (by simp [results, Tryz.results3, go_sem]) rfl ⟨rfl, G9.out⟩
            | true =>
              have HNM := Lib.hid hn
              clear hn
              go_wp2_with fail
              refine (H14.out _ _ _ HB4.out).mono ?_
              rintro e w5 ⟨g, c2, rfl, hg5, hE⟩
              have hpl := HPL.out HB4.out.1.len
              have hql := HQL.out HA4.out.1.len
              have hcap := hE.2.1
              have H5 := Lib.hid (And.intro (grown_trans G4.out hg5) (And.intro (HA4.out.free hg5) (And.intro (HB4.out.free hg5) hE)))
              clear hg5 hE HA4 HB4
              have hn2 : ((T.length : Nat) : Int) ≤ c2 := by omega
              have hn0 : ((T.length : Nat) : Int) ≤ 2002 := by omega
              have hn1 : ((T.length : Nat) : Int) + 1 - 1 = (T.length : Int) := by omega
              cases m with
              | true =>
                have HD : Hid ((decIn true T).length = T.length ∧ Sl w5 w5.heap.size 4 (some ⟨g, 0, none⟩) (T.length) (itemsC (decIn true T))) := Lib.hid ⟨by simp [decIn], Sl.of_own (c := c2) (by have := H5.out.2.2.2.cut; simpa [decIn] using this)⟩
                have HN : Hid (∀ u ∈ itemsC (decIn true T), u.oneCell' = true) := Lib.hid (itemsC_one _)
                go_wp2_with fail
                refine (H16.out _ _ _ H5.out.2.1).mono ?_
                rintro e w6 ⟨A6, c6, rfl, hg6, hN6⟩
                have H6 := Lib.hid (And.intro hg6 hN6)
                clear hg6 hN6
                go_wp2_with fail
                refine (H15.out _ _ _ H5.out.2.1.1 H6.out.2).mono ?_
                rintro e w7 ⟨A7, c7, rfl, hg7, hO7⟩
                have HB : Hid (∀ o, w6.grownBy (w7.alloc o) none ∧ (w7.alloc o).ownsRow w6.heap.size 34 4 (.slice A7 U.length c7) U.length (itemsC U) ∧ (w7.alloc o).heap[w7.heap.size]? = some o) := Lib.hid fun o => ⟨grown_alloc hg7 o, hO7.alloc o, new_blk _ _⟩
                clear hg7 hO7
                have hU1 : U.length + 1 ≤ 5000 := by clear hn1 hn0 hn2 hcap hpl; omega
                have hU2 : U.length + 1 + (T.length) ≤ 5000 := by clear hn1 hn0 hn2 hcap; omega
                have hU3 : U.length + 1 + (T.length) + 1 ≤ 5000 := by clear hn1 hn0 hn2 hcap; omega
                have h63 : U.length + 1 ≤ maxLen := Nat.le_trans hU1 (by decide)
                have h47 : (U.length + 1) * 40 ≤ 140737488355328 := Nat.le_trans (Nat.mul_le_mul_right 40 hU1) (by decide)
                have h63b : U.length + 1 + (T.length) ≤ maxLen := Nat.le_trans hU2 (by decide)
                have h47b : (U.length + 1 + (T.length)) * 40 ≤ 140737488355328 := Nat.le_trans (Nat.mul_le_mul_right 40 hU2) (by decide)
                have h63c : U.length + 1 + (T.length) + 1 ≤ maxLen := Nat.le_trans hU3 (by decide)
                have h47c : (U.length + 1 + (T.length) + 1) * 40 ≤ 140737488355328 := Nat.le_trans (Nat.mul_le_mul_right 40 hU3) (by decide)
                clear hU1 hU2 hU3
                go_wp2_with (first
                  | (at_builtin; refine wpList_append_src rfl w6.heap.size (.tmp 64) (.tmp 66) 28 28 34 i0 z0 4 40 rfl Tryz.underlying28 HI.out.1 HI.out.2.1 HI.out.2.2.1 HI.out.2.2.2.1 HI.out.2.2.2.2 h04 (.slice A7 U.length c7) (U.length) (itemsC U) rfl _ (1) (itemCells Css.brace) rfl (Src.block Tryz.underlying28 _ (itemCells Css.brace) 34 (HB.out _).2.2 rfl (itemCells_one _)) (HB.out _).2.1 (HB.out _).1.size h63 h47 ?_; intro v8 w8 hown hgr hat; have HG8 := Lib.hid (grown_own (base := w6.heap.size) (HB.out _).1 hgr (own_base (HB.out (.cells (itemCells Css.brace).toArray 34 (0, 0))).2.1)); have HO8 := Lib.hid hown; have HS8 := Lib.hid (Sl.free HD.out.2 (grown_trans H6.out.1 HG8.out) (Nat.le_refl _)); clear hown hgr hat)
                  | (at_builtin; refine wpList_append_src rfl w6.heap.size (.tmp 68) (.tmp 69) 28 28 34 i0 z0 4 40 rfl Tryz.underlying28 HI.out.1 HI.out.2.1 HI.out.2.2.1 HI.out.2.2.2.1 HI.out.2.2.2.2 h04 v8 (U.length + 1) (itemsC U ++ itemCells Css.brace) rfl _ (T.length) (itemsC (decIn true T)) rfl (Src.slice Tryz.underlying28 HS8.out HN.out) HO8.out HG8.out.size h63b h47b ?_; intro v9 w9 hown hgr hat; have HG9 := Lib.hid (grown_own (base := w6.heap.size) HG8.out hgr (own_base HO8.out)); have HO9 := Lib.hid hown; have HB9 : Hid (∀ o, w6.grownBy (w9.alloc o) none ∧ (w9.alloc o).ownsRow w6.heap.size 34 4 v9 (U.length + 1 + T.length) (itemsC U ++ itemCells Css.brace ++ itemsC (decIn true T)) ∧ (w9.alloc o).heap[w9.heap.size]? = some o) := Lib.hid fun o => ⟨grown_alloc HG9.out o, HO9.out.alloc o, new_blk _ _⟩; clear hown hgr hat)
                  | (at_builtin; refine wpList_append_src rfl w6.heap.size (.tmp 70) (.tmp 72) 28 28 34 i0 z0 4 40 rfl Tryz.underlying28 HI.out.1 HI.out.2.1 HI.out.2.2.1 HI.out.2.2.2.1 HI.out.2.2.2.2 h04 v9 (U.length + 1 + T.length) (itemsC U ++ itemCells Css.brace ++ itemsC (decIn true T)) rfl _ (1) (itemCells Css.unbrace) rfl (Src.block Tryz.underlying28 _ (itemCells Css.unbrace) 34 (HB9.out _).2.2 rfl (itemCells_one _)) (HB9.out _).2.1 (HB9.out _).1.size h63c h47c ?_; intro v10 w10 hown hgr hat; have HG10 := Lib.hid (grown_own (base := w6.heap.size) (HB9.out _).1 hgr (own_base HO9.out)); obtain ⟨A10, c10, hv10⟩ := own_slice' hown; subst hv10; have HO10 := Lib.hid hown; clear hown hgr hat))
                refine (H18.out _ _ _ _ _ (grown_trans H5.out.1 (grown_trans H6.out.1 HG10.out)) (H5.out.2.1.free (grown_trans H6.out.1 HG10.out)) (H5.out.2.2.1.free (grown_trans H6.out.1 HG10.out)) HNM.out).mono ?_
                rintro e w11 ⟨s1, rfl, hg11, hz11, ht11⟩
                have H11c := Lib.hid (And.intro (grown_trans (grown_trans H5.out.1 (grown_trans H6.out.1 HG10.out)) hg11) (And.intro hz11 (And.intro ht11 (own_free HO10.out hg11))))
                clear hg11 hz11 ht11
                go_wp2_with fail
                refine (H17.out _ _ _ w6.heap.size _ _ (by have := HD.out.1; omega) H11c.out.2.1 H11c.out.2.2.1 H11c.out.2.2.2).mono ?_
                rintro e w12 ⟨rfl, hg12⟩
                have G12 := Lib.hid (grown_trans H11c.out.1 hg12)
                clear hg12
                go_wp2_with fail
                refine (H13.out _ G12.out).mono ?_
                rintro e w9 ⟨rfl, hg9⟩
                have G9 := Lib.hid hg9
                clear hg9
                go_wp2_with fail
                exact bodyPost_ret (v := .bool true) (by simp [results, Tryz.results3, go_sem]) rfl ⟨rfl, G9.out⟩
              | false =>
                have HD : Hid ((decIn false T).length = T.length + 1 ∧ Sl w5 w5.heap.size 4 (some ⟨g, 0, none⟩) (T.length + 1) (itemsC (decIn false T))) := Lib.hid ⟨by simp [decIn], Sl.of_own (c := c2) (by have := H5.out.2.2.2.2.2; simpa [decIn] using this)⟩
                have HN : Hid (∀ u ∈ itemsC (decIn false T), u.oneCell' = true) := Lib.hid (itemsC_one _)
                go_wp2_with fail
                refine (H16.out _ _ _ H5.out.2.1).mono ?_
                rintro e w6 ⟨A6, c6, rfl, hg6, hN6⟩
                have H6 := Lib.hid (And.intro hg6 hN6)
                clear hg6 hN6
                go_wp2_with fail
                refine (H15.out _ _ _ H5.out.2.1.1 H6.out.2).mono ?_
                rintro e w7 ⟨A7, c7, rfl, hg7, hO7⟩
                have HB : Hid (∀ o, w6.grownBy (w7.alloc o) none ∧ (w7.alloc o).ownsRow w6.heap.size 34 4 (.slice A7 U.length c7) U.length (itemsC U) ∧ (w7.alloc o).heap[w7.heap.size]? = some o) := Lib.hid fun o => ⟨grown_alloc hg7 o, hO7.alloc o, new_blk _ _⟩
                clear hg7 hO7
                have hU1 : U.length + 1 ≤ 5000 := by clear hn1 hn0 hn2 hcap hpl; omega
                have hU2 : U.length + 1 + (T.length + 1) ≤ 5000 := by clear hn1 hn0 hn2 hcap; omega
                have hU3 : U.length + 1 + (T.length + 1) + 1 ≤ 5000 := by clear hn1 hn0 hn2 hcap; omega
                have h63 : U.length + 1 ≤ maxLen := Nat.le_trans hU1 (by decide)
                have h47 : (U.length + 1) * 40 ≤ 140737488355328 := Nat.le_trans (Nat.mul_le_mul_right 40 hU1) (by decide)
                have h63b : U.length + 1 + (T.length + 1) ≤ maxLen := Nat.le_trans hU2 (by decide)
                have h47b : (U.length + 1 + (T.length + 1)) * 40 ≤ 140737488355328 := Nat.le_trans (Nat.mul_le_mul_right 40 hU2) (by decide)
                have h63c : U.length + 1 + (T.length + 1) + 1 ≤ maxLen := Nat.le_trans hU3 (by decide)
                have h47c : (U.length + 1 + (T.length + 1) + 1) * 40 ≤ 140737488355328 := Nat.le_trans (Nat.mul_le_mul_right 40 hU3) (by decide)
                clear hU1 hU2 hU3
                go_wp2_with (first
                  | (at_builtin; refine wpList_append_src rfl w6.heap.size (.tmp 64) (.tmp 66) 28 28 34 i0 z0 4 40 rfl Tryz.underlying28 HI.out.1 HI.out.2.1 HI.out.2.2.1 HI.out.2.2.2.1 HI.out.2.2.2.2 h04 (.slice A7 U.length c7) (U.length) (itemsC U) rfl _ (1) (itemCells Css.brace) rfl (Src.block Tryz.underlying28 _ (itemCells Css.brace) 34 (HB.out _).2.2 rfl (itemCells_one _)) (HB.out _).2.1 (HB.out _).1.size h63 h47 ?_; intro v8 w8 hown hgr hat; have HG8 := Lib.hid (grown_own (base := w6.heap.size) (HB.out _).1 hgr (own_base (HB.out (.cells (itemCells Css.brace).toArray 34 (0, 0))).2.1)); have HO8 := Lib.hid hown; have HS8 := Lib.hid (Sl.free HD.out.2 (grown_trans H6.out.1 HG8.out) (Nat.le_refl _)); clear hown hgr hat)
                  | (at_builtin; refine wpList_append_src rfl w6.heap.size (.tmp 68) (.tmp 69) 28 28 34 i0 z0 4 40 rfl Tryz.underlying28 HI.out.1 HI.out.2.1 HI.out.2.2.1 HI.out.2.2.2.1 HI.out.2.2.2.2 h04 v8 (U.length + 1) (itemsC U ++ itemCells Css.brace) rfl _ (T.length + 1) (itemsC (decIn false T)) rfl (Src.slice Tryz.underlying28 HS8.out HN.out) HO8.out HG8.out.size h63b h47b ?_; intro v9 w9 hown hgr hat; have HG9 := Lib.hid (grown_own (base := w6.heap.size) HG8.out hgr (own_base HO8.out)); have HO9 := Lib.hid hown; have HB9 : Hid (∀ o, w6.grownBy (w9.alloc o) none ∧ (w9.alloc o).ownsRow w6.heap.size 34 4 v9 (U.length + 1 + T.length + 1) (itemsC U ++ itemCells Css.brace ++ itemsC (decIn false T)) ∧ (w9.alloc o).heap[w9.heap.size]? = some o) := Lib.hid fun o => ⟨grown_alloc HG9.out o, HO9.out.alloc o, new_blk _ _⟩; clear hown hgr hat)
                  | (at_builtin; refine wpList_append_src rfl w6.heap.size (.tmp 70) (.tmp 72) 28 28 34 i0 z0 4 40 rfl Tryz.underlying28 HI.out.1 HI.out.2.1 HI.out.2.2.1 HI.out.2.2.2.1 HI.out.2.2.2.2 h04 v9 (U.length + 1 + T.length + 1) (itemsC U ++ itemCells Css.brace ++ itemsC (decIn false T)) rfl _ (1) (itemCells Css.unbrace) rfl (Src.block Tryz.underlying28 _ (itemCells Css.unbrace) 34 (HB9.out _).2.2 rfl (itemCells_one _)) (HB9.out _).2.1 (HB9.out _).1.size h63c h47c ?_; intro v10 w10 hown hgr hat; have HG10 := Lib.hid (grown_own (base := w6.heap.size) (HB9.out _).1 hgr (own_base HO9.out)); obtain ⟨A10, c10, hv10⟩ := own_slice' hown; subst hv10; have HO10 := Lib.hid hown; clear hown hgr hat))
                refine (H18.out _ _ _ _ _ (grown_trans H5.out.1 (grown_trans H6.out.1 HG10.out)) (H5.out.2.1.free (grown_trans H6.out.1 HG10.out)) (H5.out.2.2.1.free (grown_trans H6.out.1 HG10.out)) HNM.out).mono ?_
                rintro e w11 ⟨s1, rfl, hg11, hz11, ht11⟩
                have H11c := Lib.hid (And.intro (grown_trans (grown_trans H5.out.1 (grown_trans H6.out.1 HG10.out)) hg11) (And.intro hz11 (And.intro ht11 (own_free HO10.out hg11))))
                clear hg11 hz11 ht11
                go_wp2_with fail
                refine (H17.out _ _ _ w6.heap.size _ _ (by have := HD.out.1; omega) H11c.out.2.1 H11c.out.2.2.1 H11c.out.2.2.2).mono ?_
                rintro e w12 ⟨rfl, hg12⟩
                have G12 := Lib.hid (grown_trans H11c.out.1 hg12)
                clear hg12
                go_wp2_with fail
                refine (H13.out _ G12.out).mono ?_
                rintro e w9 ⟨rfl, hg9⟩
                have G9 := Lib.hid hg9
                clear hg9
                go_wp2_with fail
                exact bodyPost_ret (v := .bool true) (by simp [results, Tryz.results3, go_sem]) rfl ⟨rfl, G9.out⟩
  · have hs' : (2147483647 : Int) < s.size := by omega
    clear hd hz hs
    go_enter Tryz.func3, Tryz.ntmps3
    go_wp2_with fail
    refine H10.out.mono ?_
    rintro e w1 ⟨b, rfl, hg1, hb⟩
    have G1 := Lib.hid hg1
    clear hb hg1
    cases b
    all_goals
      go_wp2_with fail
      exact bodyPost_ret (v := .bool true) (by simp [results, Tryz.results3, go_sem]) rfl ⟨rfl, G1.out⟩
end Go.Proofs.YtkfdcbdlcipmfaaGreatFmt
