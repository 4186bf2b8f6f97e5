/- The law of important declarations. -/
import Derived.Test.YtkfdcbdlcipmfaaGreatFmtHJ
set_option linter.unusedVariables false
set_option linter.unusedSimpArgs false
namespace Go.Proofs.YtkfdcbdlcipmfaaGreatFmt
open Go.RowKit Go.Extern.Stop Go.Stop Go.Extern

def preI (key : List UInt8) (l : List Css.Node) : List Css.Item := [⟨29, 0, key, -1⟩, Css.colon] ++ itemsN l
def impEnd : List Css.Item := [Css.bang, ⟨29, 0, Css.impText, -1⟩, Css.semi]
theorem preI_len (key : List UInt8) (l : List Css.Node) : (preI key l).length ≤ 2 + 2 * l.length := by
  have := itemsN_length l
  simp [preI]
  omega
theorem itemsC_len : ∀ l : List Css.Item, (itemsC l).length = l.length * 4
  | [] => rfl
  | x :: l => by
    have := itemsC_len l
    simp only [itemsC, List.flatMap_cons, List.length_append, itemCells_length, List.length_cons] at this ⊢
    omega
def Ended (w w' : World) (g c : Nat) (P : List Css.Item) (n : Nat) : Prop := P.length = n ∧ n + 1 ≤ c ∧ w'.ownsRow w.heap.size 34 4 (.slice (some ⟨g, 0, none⟩) (n + 1) c) (n + 1) (itemsC (P ++ [Css.semi]))
theorem Ended.of {w w' : World} {A : Option Addr} {c : Nat} {key : List UInt8} {l : List Css.Node} (hI : It w w' A c (declI key l)) :
    ∃ g, A = some ⟨g, 0, none⟩ ∧ (declI key l).length = (preI key l).length + 1 ∧ Ended w w' g c (preI key l) (preI key l).length := by
  have hl : (declI key l).length = (preI key l).length + 1 := by simp [declI, preI]
  have hI' : w'.ownsRow w.heap.size 34 4 (.slice A (declI key l).length c) (declI key l).length (itemsC (declI key l)) := hI
  obtain ⟨g, rfl, _⟩ := own_first hI' (by omega) (by omega)
  rw [hl] at hI'
  exact ⟨g, rfl, hl, rfl, own_cap hI', hI'⟩
theorem Ended.free {w w' W : World} {g c n : Nat} {P : List Css.Item} (h : Ended w w' g c P n) (hg : w'.grownBy W none) : Ended w W g c P n := ⟨h.1, h.2.1, own_free h.2.2 hg⟩
theorem Ended.last {w w' : World} {g c n : Nat} {P : List Css.Item} (h : Ended w w' g c P n) : w'.cell? ⟨g, n * 4, none⟩ = some (.int .i64 35) ∧ w'.cell? ⟨g, n * 4 + 1, none⟩ = some (.int .i64 0) ∧ w'.cell? ⟨g, n * 4 + 2, none⟩ = some (.string ⟨#[59]⟩) ∧ w'.cell? ⟨g, n * 4 + 3, none⟩ = some (.int .i64 (-1)) := by
  obtain ⟨rfl, _, h3⟩ := h
  have q := own_item h3 (by simp) (k := P.length) (by simp)
  have e : (P ++ [Css.semi])[P.length]'(by simp) = Css.semi := by simp
  rw [e] at q
  exact q
theorem Ended.cut {w w' : World} {g c n : Nat} {P : List Css.Item} (h : Ended w w' g c P n) : w'.ownsRow w.heap.size 34 4 (.slice (some ⟨g, 0, none⟩) n c) n (itemsC P) := by
  obtain ⟨rfl, _, h3⟩ := h
  have := own_cut h3 (Nat.le_succ P.length)
  rwa [itemsC_append, List.take_left' (itemsC_len P)] at this
theorem Fine.free {w w' : World} {asc : Bool} {l : List Css.Node} {A : Option Addr} {c : Nat} (h : Fine w asc l A c) (hg : w.grownBy w' none) : Fine w' asc l A c := ⟨h.1, Sl.more (Sl.free h.2.1 hg (Nat.le_refl _)) hg.size, h.2.2⟩
theorem Src.impEnd {W : World} {b : Nat} (h : W.heap[b]? = some (.cells (itemsC impEnd).toArray 34 (0, 0))) : Src Tryz.prog 4 28 (.slice (some ⟨b, 0, none⟩) 3 3) 3 (itemsC impEnd) W :=
  Src.ofSlice W Tryz.underlying28 _ _ _ _ rfl (by simpa using World.news_of_block h) (itemsC_one _)

set_option maxRecDepth 400000 in
set_option maxHeartbeats 4000000 in
theorem c8 {F : Interp} {w : World} {A : Option Addr} {c : Nat} {l : List Css.Node} (name : List UInt8) (m asc : Bool) (h1 : F.told.answers w.tape) (h2 : Tabs w) (hN : Nd w w.heap.size A l) :
    Calls Tryz.prog 8 #[.string (str name), .slice A l.length c, .bool m, .bool asc] w (Yes w) := by
  have H13 : Hid (∀ W, w.grownBy W none → Calls Tryz.prog 13 #[] W fun e w' => e = .returned (.bool true) ∧ w.grownBy w' none) := Lib.hid fun W hg => (c13 (F := F) (by rw [hg.tape]; exact h1) (h2.free hg)).mono (by rintro e w' ⟨rfl, h⟩; exact ⟨rfl, grown_trans hg h⟩)
  have H10 : Hid (Calls Tryz.prog 10 #[.slice A l.length c] w fun e w' => ∃ b, e = .returned (.bool b) ∧ w.grownBy w' none ∧ (b = true → FitsL l)) := Lib.hid (c10 hN)
  have H11 : Hid (∀ W, w.grownBy W none → FitsL l → Calls Tryz.prog 11 #[.slice A l.length c, .bool true, .bool asc] W fun e w' => ∃ A' c' b, e = .returned (.tuple #[.slice A' (if b then l.length else 0) c', .bool b]) ∧ w.grownBy w' none ∧ (b = true → Fine w' asc l A' c')) := Lib.hid fun W hg hf => (c11 (Sl.more (Sl.free hN hg (Nat.le_refl _)) hg.size) hf true asc).mono (by
    rintro e w' (⟨rfl, h⟩ | ⟨A', c', rfl, h, hgood, hnd, hown⟩)
    · exact ⟨none, 0, false, rfl, grown_trans hg h, fun e => by simp at e⟩
    · exact ⟨A', c', true, rfl, grown_trans hg h, fun _ => ⟨hgood, hnd, cap_of hown⟩⟩)
  have H22 : Hid (∀ W A' c', w.grownBy W none → Fine W asc l A' c' → namedB asc name = true → Calls Tryz.prog 22 #[.string (str name), .slice A' l.length c', .bool true, .bool m, .bool asc] W fun e w' => ∃ s, e = .returned (.string s) ∧ W.grownBy w' none ∧ s.size ≤ 2147483648 ∧ Css.Told s.data.toList (preI name (Css.setL true l) ++ impEnd)) := Lib.hid fun W A' c' hg hf hn => by
    obtain ⟨ts, hp⟩ := hf.1.prep true
    have := c22 (F := F) (ws := m) (w := W) (A := A') (c := c') true (by rw [hg.tape]; exact h1) (h2.free hg) hp (chain_ok hp.chain hp.deep) hf.2.1 (by rw [setL_len]; exact hf.2.2) hn (fun _ => hp.after)
    rw [setL_len] at this
    refine this.mono ?_
    rintro e w' ⟨s, rfl, hg2, hs⟩
    have hs : ImpTo asc m name ts s := hs
    exact ⟨s, rfl, hg2, Nat.le_trans hs.1 (by omega), hs.told hp hn hp.after⟩
  have H14 : Hid (∀ W A' c', Fine W asc l A' c' → Calls Tryz.prog 14 #[.string (str name), .slice A' l.length c'] W fun e w' => ∃ g c2, e = .returned (.slice (some ⟨g, 0, none⟩) ((preI name (Css.setL true l)).length + 1) c2) ∧ W.grownBy w' none ∧ Ended W w' g c2 (preI name (Css.setL true l)) (preI name (Css.setL true l)).length) := Lib.hid fun W A' c' hf => by
    obtain ⟨ts, hp⟩ := hf.1.prep true
    have := c14 (A := A') (c := c') name hf.2.1 hp.isDeep
    rw [setL_len] at this
    refine this.mono ?_
    rintro e w' ⟨A2, c2, rfl, hg2, hI⟩
    obtain ⟨g, rfl, hl, hE⟩ := Ended.of hI
    exact ⟨g, c2, by rw [hl], hg2, hE⟩
  have HPL : Hid (l.length ≤ 1000 → (preI name (Css.setL true l)).length ≤ 2002) := Lib.hid fun h => by
    have := preI_len name (Css.setL true l)
    rw [setL_len] at this
    omega
  have H17 : Hid (∀ (s : ByteArray) (W : World) (P : List Css.Item) (base n : Nat) (A4 : Option Addr) (c4 : Nat), P.length = n → s.size ≤ 2147483648 → Css.Told s.data.toList (P ++ impEnd) → W.ownsRow base 34 4 (.slice A4 (n + 3) c4) (n + 3) (itemsC P ++ itemsC impEnd) → Calls Tryz.prog 17 #[.string s, .slice A4 (n + 3) c4, .bool false] W (Yes W)) := Lib.hid fun s W P base n A4 c4 hn hz ht ho => by
    have hl : (P ++ impEnd).length = n + 3 := by simp [impEnd, hn]
    have := c17_told (A := A4) (c := c4) (base := base) (w := W) ht hz (by omega) (by rw [hl, itemsC_append]; exact ho) false
    rwa [hl] at this
  clear h1 h2 hN
  obtain ⟨i0, z0, hi0, hz0, hz1, hz2, hz3⟩ := info34
  have HI := Lib.hid (And.intro hi0 (And.intro hz0 (And.intro hz1 (And.intro hz2 hz3))))
  clear hi0 hz0 hz1 hz2 hz3
  have hz : (str name).size = name.length := str_size name
  generalize hT : preI name (Css.setL true l) = T at *
  have hd : (str name).data.toList = name := str_data name
  generalize str name = s at *
  clear hT
  have h04 : 0 < 4 := by omega
  by_cases hs : s.size ≤ 2147483647
  · have H12 : Hid (∀ W, Calls Tryz.prog 12 #[.string s, .bool asc] W fun e w' => e = .returned (.bool (namedB asc name)) ∧ W = w') := Lib.hid fun W => by
      have := c12 s asc W (by omega)
      rw [hd] at this
      exact this
    have hs' : ¬ ((2147483647 : Int) < s.size) := by omega
    clear hd hz hs
    go_enter Tryz.func8, Tryz.ntmps8
    go_wp2_with fail
    refine H10.out.mono ?_
    rintro e w1 ⟨b, rfl, hg1, hb⟩
    have G1 := Lib.hid hg1
    cases b with
    | false =>
      clear hb hg1
      go_wp2_with fail
      exact bodyPost_ret (v := .bool true) (by simp [results, Tryz.results8, go_sem]) rfl ⟨rfl, G1.out⟩
    | true =>
      have h11 := H11.out _ hg1 (hb rfl)
      have H11 := Lib.hid h11
      clear hb hg1 h11
      go_wp2_with fail
      refine H11.out.mono ?_
      rintro e w2 ⟨A', c', b, rfl, hg2, hf⟩
      have G2 := Lib.hid hg2
      clear hg2
      cases b with
      | false =>
        clear hf
        simp only [Bool.false_eq_true, if_false]
        go_wp2_with fail
        refine (H13.out _ G2.out).mono ?_
        rintro e w9 ⟨rfl, hg9⟩
        have G9 := Lib.hid hg9
        clear hg9
        go_wp2_with fail
        exact bodyPost_ret (v := .bool true) (by simp [results, Tryz.results8, go_sem]) rfl ⟨rfl, G9.out⟩
      | true =>
        have HF := Lib.hid (hf rfl)
        clear hf
        simp only [if_true]
        go_wp2_with fail
        refine (H12.out _).mono ?_
        rintro e w3 ⟨rfl, rfl⟩
        cases hn : namedB asc name with
        | false =>
          clear hn
          go_wp2_with fail
          refine (H13.out _ G2.out).mono ?_
          rintro e w9 ⟨rfl, hg9⟩
          have G9 := Lib.hid hg9
          clear hg9
          go_wp2_with fail
          exact bodyPost_ret (v := .bool true) (by simp [results, Tryz.results8, go_sem]) rfl ⟨rfl, G9.out⟩
        | true =>
          have HNM := Lib.hid hn
          clear hn
          go_wp2_with fail
          refine (H14.out _ _ _ HF.out).mono ?_
          rintro e w3 ⟨g, c2, rfl, hg3, hE⟩
          have hpl := HPL.out HF.out.1.len
          have hcap := hE.2.1
          have H3 := Lib.hid (And.intro hg3 hE)
          obtain ⟨q0, q1, q2, q3⟩ := hE.last
          clear hg3 hE
          generalize hTL : T.length = n at *
          have HTL := Lib.hid hTL
          clear hTL
          have h63 : n + 3 ≤ maxLen := by unfold maxLen; omega
          have h47 : (n + 3) * 40 ≤ 140737488355328 := by omega
          have hn0 : (n : Int) ≤ 2002 := by omega
          have hn1 : (n : Int) + 1 - 1 = (n : Int) := by omega
          have hn2 : (n : Int) ≤ c2 := by omega
          have hn3 : IntKind.i64.wrap (n : Int) = (n : Int) := IntWalk.i64_in _ (by omega)
          have hn4 : (0 : Int) ≤ n := by omega
          clear hcap hpl
          have HW : Hid (∀ W, W = w3.alloc (.cells #[.int .i64 35, .int .i64 0, .string ⟨#[59]⟩, .int .i64 (-1)] 34 (0, 0)) → w2.grownBy W none ∧ W.ownsRow w2.heap.size 34 4 (.slice (some ⟨g, 0, none⟩) n c2) n (itemsC T) ∧ W.heap[w3.heap.size]? = some (.cells #[.int .i64 35, .int .i64 0, .string ⟨#[59]⟩, .int .i64 (-1)] 34 (0, 0))) := Lib.hid fun W e => by
            have hgW : w3.grownBy W none := by rw [e]; exact grown_alloc (grown_refl _ _) _
            exact ⟨grown_trans H3.out.1 hgW, own_free H3.out.2.cut hgW, by rw [e]; exact new_blk _ _⟩
          go_upto_region 8 with (fail)
          generalize hW : w3.alloc (.cells #[.int .i64 35, .int .i64 0, .string ⟨#[59]⟩, .int .i64 (-1)] 34 (0, 0)) = W
          have HW := Lib.hid (HW.out W hW.symm)
          clear hW q0 q1 q2 q3 H3
          generalize w3.heap.size = xe at HW ⊢
          obtain ⟨r0, r1, r2, r3⟩ : W.cell? ⟨xe, 0, none⟩ = some (.int .i64 35) ∧ W.cell? ⟨xe, 1, none⟩ = some (.int .i64 0) ∧ W.cell? ⟨xe, 2, none⟩ = some (.string ⟨#[59]⟩) ∧ W.cell? ⟨xe, 3, none⟩ = some (.int .i64 (-1)) := ⟨cell_blk HW.out.2.2 rfl, cell_blk HW.out.2.2 rfl, cell_blk HW.out.2.2 rfl, cell_blk HW.out.2.2 rfl⟩
          have HB : Hid (∀ k, w2.grownBy ((W.drewN k).alloc (.cells (itemsC impEnd).toArray 34 (0, 0))) none ∧ ((W.drewN k).alloc (.cells (itemsC impEnd).toArray 34 (0, 0))).ownsRow w2.heap.size 34 4 (.slice (some ⟨g, 0, none⟩) n c2) n (itemsC T) ∧ Src Tryz.prog 4 28 (.slice (some ⟨W.heap.size, 0, none⟩) 3 3) 3 (itemsC impEnd) ((W.drewN k).alloc (.cells (itemsC impEnd).toArray 34 (0, 0)))) := Lib.hid fun k => by
            have hgW := grown_alloc (grown_drewN (grown_refl W none) k) (.cells (itemsC impEnd).toArray 34 (0, 0))
            exact ⟨grown_trans HW.out.1 hgW, own_free HW.out.2.1 hgW, Src.impEnd (new_blk _ _)⟩
          go_region_law (refine step_append_src rfl w2.heap.size (.tmp 48) (.tmp 52) 28 28 34 i0 z0 4 40 rfl Tryz.underlying28 HI.out.1 HI.out.2.1 HI.out.2.2.1 HI.out.2.2.2.1 HI.out.2.2.2.2 h04 (.slice (some ⟨g, 0, none⟩) n c2) n (itemsC T) (by simp [Act.eval, Act.put]) _ 3 (itemsC impEnd) (by simp [Act.eval, Act.put]) (HB.out _).2.2 (HB.out _).2.1 (HB.out _).1.size h63 h47 ?_; intro v4 w4 hown hgr hat; have HG4 := Lib.hid (grown_own (base := w2.heap.size) (HB.out _).1 hgr (own_base (HB.out 0).2.1)); obtain ⟨A4, c4, hv4⟩ := own_slice' hown; subst hv4; have HO4 := Lib.hid hown; clear hown hgr hat)
          go_wp2_with fail
          refine (H22.out _ _ _ (grown_trans G2.out HG4.out) (HF.out.free HG4.out) HNM.out).mono ?_
          rintro e w5 ⟨s1, rfl, hg5, hz5, ht5⟩
          have H5 := Lib.hid (And.intro (grown_trans (grown_trans G2.out HG4.out) hg5) (And.intro hz5 (And.intro ht5 (own_free HO4.out hg5))))
          clear hg5 hz5 ht5
          go_wp2_with fail
          refine (H17.out _ _ T _ _ _ _ HTL.out H5.out.2.1 H5.out.2.2.1 H5.out.2.2.2).mono ?_
          rintro e w6 ⟨rfl, hg6⟩
          have G6 := Lib.hid (grown_trans H5.out.1 hg6)
          clear hg6
          go_wp2_with fail
          refine (H13.out _ G6.out).mono ?_
          rintro e w9 ⟨rfl, hg9⟩
          have G9 := Lib.hid hg9
          clear hg9
          go_wp2_with fail
          exact bodyPost_ret (v := .bool true) (by simp [results, Tryz.results8, go_sem]) rfl ⟨rfl, G9.out⟩
  · have hs' : (2147483647 : Int) < s.size := by omega
    clear hd hz hs
    go_enter Tryz.func8, Tryz.ntmps8
    go_wp2_with fail
    exact bodyPost_ret (v := .bool true) (by simp [results, Tryz.results8, go_sem]) rfl ⟨rfl, grown_refl _ _⟩
end Go.Proofs.YtkfdcbdlcipmfaaGreatFmt
