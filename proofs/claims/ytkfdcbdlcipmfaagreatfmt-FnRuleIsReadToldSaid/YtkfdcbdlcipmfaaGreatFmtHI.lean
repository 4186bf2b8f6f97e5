/- The laws of at-rules. -/
import Derived.Test.YtkfdcbdlcipmfaaGreatFmtHH
set_option linter.unusedVariables false
set_option linter.unusedSimpArgs false
namespace Go.Proofs.YtkfdcbdlcipmfaaGreatFmt
open Go.RowKit Go.Extern.Stop Go.Stop Go.Extern

theorem setL_len (all : Bool) : ∀ l : List Css.Node, (Css.setL all l).length = l.length
  | [] => by simp [Css.setL]
  | n :: r => by
    have := setL_len all r
    unfold Css.setL
    simp [this]
theorem cap_of {w : World} {base size n c : Nat} {A : Option Addr} {e : TypeId} {xs : List Value} (h : w.ownsRow base e size (.slice A n c) n xs) : n ≤ c := by
  rcases h.2 with ⟨_, h0⟩ | ⟨g, cap, cur, e1, _, _, hle, _⟩
  · omega
  · simp only [Value.slice.injEq] at e1
    omega

def Fine (w : World) (asc : Bool) (l : List Css.Node) (A' : Option Addr) (c' : Nat) : Prop := Good l asc ∧ Nd w w.heap.size A' (Css.setL true l) ∧ l.length ≤ c'

set_option maxRecDepth 400000 in
set_option maxHeartbeats 4000000 in
theorem c5 {F : Interp} {w : World} {A : Option Addr} {c : Nat} {l : List Css.Node} (name : List UInt8) (m asc : Bool) (h1 : F.told.answers w.tape) (h2 : Tabs w) (hN : Nd w w.heap.size A l) :
    Calls Tryz.prog 5 #[.string (str name), .slice A l.length c, .bool m, .bool asc] w (Yes w) := by
  have H13 : Hid (∀ W, w.grownBy W none → Calls Tryz.prog 13 #[] W fun e w' => e = .returned (.bool true) ∧ w.grownBy w' none) := Lib.hid fun W hg => (c13 (F := F) (by rw [hg.tape]; exact h1) (h2.free hg)).mono (by rintro e w' ⟨rfl, h⟩; exact ⟨rfl, grown_trans hg h⟩)
  have H10 : Hid (Calls Tryz.prog 10 #[.slice A l.length c] w fun e w' => ∃ b, e = .returned (.bool b) ∧ w.grownBy w' none ∧ (b = true → FitsL l)) := Lib.hid (c10 hN)
  have H11 : Hid (∀ W, w.grownBy W none → FitsL l → Calls Tryz.prog 11 #[.slice A l.length c, .bool true, .bool asc] W fun e w' => ∃ A' c' b, e = .returned (.tuple #[.slice A' (if b then l.length else 0) c', .bool b]) ∧ w.grownBy w' none ∧ (b = true → Fine w' asc l A' c')) := Lib.hid fun W hg hf => (c11 (Sl.more (Sl.free hN hg (Nat.le_refl _)) hg.size) hf true asc).mono (by
    rintro e w' (⟨rfl, h⟩ | ⟨A', c', rfl, h, hgood, hnd, hown⟩)
    · exact ⟨none, 0, false, rfl, grown_trans hg h, fun e => by simp at e⟩
    · exact ⟨A', c', true, rfl, grown_trans hg h, fun _ => ⟨hgood, hnd, cap_of hown⟩⟩)
  have H19 : Hid (∀ W A' c', w.grownBy W none → Fine W asc l A' c' → namedB asc name = true → Calls Tryz.prog 19 #[.string (str name), .slice A' l.length c', .bool m, .bool asc] W fun e w' => ∃ s, e = .returned (.string s) ∧ w.grownBy w' none ∧ Fine w' asc l A' c' ∧ s.size ≤ 2147483648 ∧ Css.Told s.data.toList (atI name (Css.setL true l))) := Lib.hid fun W A' c' hg hf hn => by
    obtain ⟨ts, hp⟩ := hf.1.prep true
    have := c19 (F := F) (ws := m) (w := W) (A := A') (c := c') (by rw [hg.tape]; exact h1) (h2.free hg) hp (chain_ok hp.chain hp.deep) hf.2.1 (by rw [setL_len]; exact hf.2.2) hn
    rw [setL_len] at this
    refine this.mono ?_
    rintro e w' ⟨s, rfl, hg2, hs⟩
    exact ⟨s, rfl, grown_trans hg hg2, ⟨hf.1, Sl.more (Sl.free hf.2.1 hg2 (Nat.le_refl _)) hg2.size, hf.2.2⟩, Nat.le_trans hs.1 (by omega), hs.told hp hn⟩
  have H21 : Hid (∀ W A' c', w.grownBy W none → Fine W asc l A' c' → Calls Tryz.prog 21 #[.string (str name), .slice A' l.length c'] W fun e w' => ∃ A2 c2, e = .returned (.slice A2 (atI name (Css.setL true l)).length c2) ∧ w.grownBy w' none ∧ It W w' A2 c2 (atI name (Css.setL true l))) := Lib.hid fun W A' c' hg hf => by
    obtain ⟨ts, hp⟩ := hf.1.prep true
    have := c21 (A := A') (c := c') name hf.2.1 hp.isDeep
    rw [setL_len] at this
    refine this.mono ?_
    rintro e w' ⟨A2, c2, rfl, hg2, hI⟩
    exact ⟨A2, c2, rfl, grown_trans hg hg2, hI⟩
  clear h1 h2 hN
  have hz : (str name).size = name.length := str_size name
  generalize hT : atI name (Css.setL true l) = T at *
  have hne : 0 < T.length := by rw [← hT]; simp [atI]
  have hd : (str name).data.toList = name := str_data name
  generalize str name = s at *
  clear hT
  by_cases hs : s.size ≤ 2147483647
  · have H12 : Hid (∀ W, Calls Tryz.prog 12 #[.string s, .bool asc] W fun e w' => e = .returned (.bool (namedB asc name)) ∧ W = w') := Lib.hid fun W => by
      have := c12 s asc W (by omega)
      rw [hd] at this
      exact this
    have hs' : ¬ ((2147483647 : Int) < s.size) := by omega
    clear hd hz hs
    go_enter Tryz.func5, Tryz.ntmps5
    go_wp2_with fail
    refine H10.out.mono ?_
    rintro e w1 ⟨b, rfl, hg1, hb⟩
    have G1 := Lib.hid hg1
    cases b with
    | false =>
      clear hb hg1
      go_wp2_with fail
      exact bodyPost_ret (v := .bool true) (by simp [results, Tryz.results5, go_sem]) rfl ⟨rfl, G1.out⟩
    | true =>
      have h11 := H11.out _ hg1 (hb rfl)
      have H11 := Lib.hid h11
      clear hb hg1 h11
      go_wp2_with fail
      refine H11.out.mono ?_
      rintro e w2 ⟨A', c', b, rfl, hg2, hf⟩
      have G2 := Lib.hid hg2
      clear hg2
      cases b with
      | false =>
        clear hf
        simp only [Bool.false_eq_true, if_false]
        go_wp2_with fail
        refine (H13.out _ G2.out).mono ?_
        rintro e w9 ⟨rfl, hg9⟩
        have G9 := Lib.hid hg9
        clear hg9
        go_wp2_with fail
        exact bodyPost_ret (v := .bool true) (by simp [results, Tryz.results5, go_sem]) rfl ⟨rfl, G9.out⟩
      | true =>
        have HF := Lib.hid (hf rfl)
        clear hf
        simp only [if_true]
        go_wp2_with fail
        refine (H12.out _).mono ?_
        rintro e w3 ⟨rfl, rfl⟩
        cases hn : namedB asc name with
        | false =>
          clear hn
          go_wp2_with fail
          refine (H13.out _ G2.out).mono ?_
          rintro e w9 ⟨rfl, hg9⟩
          have G9 := Lib.hid hg9
          clear hg9
          go_wp2_with fail
          exact bodyPost_ret (v := .bool true) (by simp [results, Tryz.results5, go_sem]) rfl ⟨rfl, G9.out⟩
        | true =>
          have HNM := Lib.hid hn
          clear hn
          go_wp2_with fail
          refine (H19.out _ _ _ G2.out HF.out HNM.out).mono ?_
          rintro e w3 ⟨s1, rfl, hg3, hf3, hz3, ht3⟩
          have H3 := Lib.hid (And.intro hg3 (And.intro hf3 (And.intro hz3 ht3)))
          clear hg3 hf3 hz3 ht3
          go_wp2_with fail
          refine (H21.out _ _ _ H3.out.1 H3.out.2.1).mono ?_
          rintro e w4 ⟨A2, c2, rfl, hg4, hI⟩
          have H4 := Lib.hid (And.intro hg4 hI)
          clear hg4 hI
          go_wp2_with fail
          refine (c17_told H3.out.2.2.2 H3.out.2.2.1 hne H4.out.2 false).mono ?_
          rintro e w5 ⟨rfl, hg5⟩
          have G5 := Lib.hid (grown_trans H4.out.1 hg5)
          clear hg5
          go_wp2_with fail
          refine (H13.out _ G5.out).mono ?_
          rintro e w9 ⟨rfl, hg9⟩
          have G9 := Lib.hid hg9
          clear hg9
          go_wp2_with fail
          exact bodyPost_ret (v := .bool true) (by simp [results, Tryz.results5, go_sem]) rfl ⟨rfl, G9.out⟩
  · have hs' : (2147483647 : Int) < s.size := by omega
    clear hd hz hs
    go_enter Tryz.func5, Tryz.ntmps5
    go_wp2_with fail
    exact bodyPost_ret (v := .bool true) (by simp [results, Tryz.results5, go_sem]) rfl ⟨rfl, grown_refl _ _⟩
end Go.Proofs.YtkfdcbdlcipmfaaGreatFmt
