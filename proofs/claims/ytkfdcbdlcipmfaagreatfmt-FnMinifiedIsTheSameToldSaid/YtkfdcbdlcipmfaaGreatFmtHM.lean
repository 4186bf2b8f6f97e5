/- The law of at-rules, minified and in ASCII. -/
import Derived.Test.YtkfdcbdlcipmfaaGreatFmtHJ
set_option linter.unusedVariables false
set_option linter.unusedSimpArgs false
namespace Go.Proofs.YtkfdcbdlcipmfaaGreatFmt
open Go.RowKit Go.Extern.Stop Go.Stop Go.Extern

theorem AtTo.low {m : Bool} {name : List UInt8} {l : List Css.Node} {ts : List Css.Tree} {s : ByteArray} (h : AtTo true m name ts s) (hp : Prep true l ts) (hn : namedB true name = true) : ∀ p, p < s.size → bt s p ≤ 127 := by
  obtain ⟨_, body, hb, ha, he⟩ := h
  obtain ⟨_, h1, h2⟩ := named_of hn
  have hA : Css.Asc true (Css.atText true name ts body (Css.nl m)) := by
    unfold Css.atText
    refine (Css.Asc.cons (by decide) (Css.pIdent_asc _)).append (Css.Asc.append ?_ (ha.append (Css.Asc.cons (by decide) (Css.Asc.ws (Css.nl_ws m)))))
    split
    · exact Css.Asc.nil
    · exact Css.Asc.cons (by decide) Css.Asc.nil
  have hV : ∀ c ∈ Css.atText true name ts body (Css.nl m), Css.Valid c := by
    unfold Css.atText
    exact Css.valid_append (Css.valid_cons Css.v64 (Css.pIdent_name_valid (mode := 0) (ascii := true) (need := !ts.isEmpty) h1)) (Css.valid_append (X := if ts.isEmpty then [] else [32]) (by split; exact Css.valid_nil; exact Css.valid_cons Css.v32 Css.valid_nil) (Css.valid_append (Css.PL_valid ts _ body hp.tr.wl hb) (Css.valid_cons Css.v59 (Css.nl_valid m))))
  intro p hps
  have hm : s[p] ∈ s.data.toList := Array.mem_toList_iff.2 (Array.getElem_mem (by simpa using hps))
  rw [he] at hm
  have := Css.enc_asc hV (hA rfl) _ hm
  have hb := bt_at s p hps
  omega

set_option maxRecDepth 400000 in
set_option maxHeartbeats 4000000 in
theorem c4 {F : Interp} {w : World} {A : Option Addr} {c : Nat} {l : List Css.Node} (name : List UInt8) (h1 : F.told.answers w.tape) (h2 : Tabs w) (hN : Nd w w.heap.size A l) :
    Calls Tryz.prog 4 #[.string (str name), .slice A l.length c] w (Yes w) := by
  have H13 : Hid (∀ W, w.grownBy W none → Calls Tryz.prog 13 #[] W fun e w' => e = .returned (.bool true) ∧ w.grownBy w' none) := Lib.hid fun W hg => (c13 (F := F) (by rw [hg.tape]; exact h1) (h2.free hg)).mono (by rintro e w' ⟨rfl, h⟩; exact ⟨rfl, grown_trans hg h⟩)
  have H10 : Hid (Calls Tryz.prog 10 #[.slice A l.length c] w fun e w' => ∃ b, e = .returned (.bool b) ∧ w.grownBy w' none ∧ (b = true → FitsL l)) := Lib.hid (c10 hN)
  have H11 : Hid (∀ W, w.grownBy W none → FitsL l → Calls Tryz.prog 11 #[.slice A l.length c, .bool false, .bool true] W fun e w' => ∃ A' c' b, e = .returned (.tuple #[.slice A' (if b then l.length else 0) c', .bool b]) ∧ w.grownBy w' none ∧ (b = true → FineT w' true l A' c')) := Lib.hid fun W hg hf => (c11 (Sl.more (Sl.free hN hg (Nat.le_refl _)) hg.size) hf false true).mono (by
    rintro e w' (⟨rfl, h⟩ | ⟨A', c', rfl, h, hgood, hnd, hown⟩)
    · exact ⟨none, 0, false, rfl, grown_trans hg h, fun e => by simp at e⟩
    · exact ⟨A', c', true, rfl, grown_trans hg h, fun _ => ⟨hgood, hnd, cap_of hown⟩⟩)
  have H19 : Hid (∀ W A' c' (m asc : Bool), w.grownBy W none → FineT W true l A' c' → namedB true name = true → Calls Tryz.prog 19 #[.string (str name), .slice A' l.length c', .bool m, .bool asc] W fun e w' => ∃ s, e = .returned (.string s) ∧ W.grownBy w' none ∧ s.size ≤ 600000000 ∧ Css.Told s.data.toList (atI name (Css.setL false l)) ∧ (asc = true → ∀ p, p < s.size → bt s p ≤ 127)) := Lib.hid fun W A' c' m asc hg hf hn => by
    obtain ⟨ts, hp⟩ := hf.1.prep false
    have hp2 : Prep asc (Css.setL false l) ts := by cases asc; exact hp.weak; exact hp
    have hn2 : namedB asc name = true := by cases asc; exact named_weak hn; exact hn
    have := c19 (F := F) (ws := m) (asc := asc) (w := W) (A := A') (c := c') (by rw [hg.tape]; exact h1) (h2.free hg) hp2 (chain_ok hp.chain hp.deep) hf.2.1 (by rw [setL_len]; exact hf.2.2) hn2
    rw [setL_len] at this
    refine this.mono ?_
    rintro e w' ⟨s, rfl, hg2, hs⟩
    exact ⟨s, rfl, hg2, hs.1, hs.told hp2 hn2, fun e => by subst e; exact hs.low hp hn⟩
  have H20 : Hid (∀ (s1 s2 : ByteArray) (W : World), Good l true → s1.size ≤ 600000000 → s2.size ≤ 600000000 → Css.Told s1.data.toList (atI name (Css.setL false l)) → Css.Told s2.data.toList (atI name (Css.setL false l)) → Calls Tryz.prog 20 #[.string s1, .string s2] W (Yes W)) := Lib.hid fun s1 s2 W hG z1 z2 t1 t2 => by
    obtain ⟨ts, hp⟩ := hG.prep false
    refine c20_told t1 t2 ?_ (by omega) (by omega) (by simp [atI]) W
    have := Css.at_kinds (name := name) hp.tr.wl
    unfold atI
    rw [hp.items]
    simpa [Css.atItems] using this
  clear h1 h2 hN
  have hz : (str name).size = name.length := str_size name
  generalize atI name (Css.setL false l) = T at *
  have hd : (str name).data.toList = name := str_data name
  generalize str name = s at *
  by_cases hs : s.size ≤ 2147483647
  · have H12 : Hid (∀ W, Calls Tryz.prog 12 #[.string s, .bool true] W fun e w' => e = .returned (.bool (namedB true name)) ∧ W = w') := Lib.hid fun W => by
      have := c12 s true W (by omega)
      rw [hd] at this
      exact this
    have hs' : ¬ ((2147483647 : Int) < s.size) := by omega
    clear hd hz hs
    go_enter Tryz.func4, Tryz.ntmps4
    go_wp2_with fail
    refine H10.out.mono ?_
    rintro e w1 ⟨b, rfl, hg1, hb⟩
    have G1 := Lib.hid hg1
    cases b with
    | false =>
      clear hb hg1
      go_wp2_with fail
      exact bodyPost_ret (v := .bool true) (by simp [results, Tryz.results4, go_sem]) rfl ⟨rfl, G1.out⟩
    | true =>
      have h11 := H11.out _ hg1 (hb rfl)
      have H11 := Lib.hid h11
      clear hb hg1 h11
      go_wp2_with fail
      refine H11.out.mono ?_
      rintro e w2 ⟨A', c', b, rfl, hg2, hf⟩
      have G2 := Lib.hid hg2
      clear hg2
      cases b with
      | false =>
        clear hf
        simp only [Bool.false_eq_true, if_false]
        go_wp2_with fail
        refine (H13.out _ G2.out).mono ?_
        rintro e w9 ⟨rfl, hg9⟩
        have G9 := Lib.hid hg9
        clear hg9
        go_wp2_with fail
        exact bodyPost_ret (v := .bool true) (by simp [results, Tryz.results4, go_sem]) rfl ⟨rfl, G9.out⟩
      | true =>
        have HF := Lib.hid (hf rfl)
        clear hf
        simp only [if_true]
        go_wp2_with fail
        refine (H12.out _).mono ?_
        rintro e w3 ⟨rfl, rfl⟩
        cases hn : namedB true name with
        | false =>
          clear hn
          go_wp2_with fail
          refine (H13.out _ G2.out).mono ?_
          rintro e w9 ⟨rfl, hg9⟩
          have G9 := Lib.hid hg9
          clear hg9
          go_wp2_with fail
          exact bodyPost_ret (v := .bool true) (by simp [results, Tryz.results4, go_sem]) rfl ⟨rfl, G9.out⟩
        | true =>
          have HNM := Lib.hid hn
          clear hn
          have HFF : Hid (∀ W, w2.grownBy W none → w.grownBy W none ∧ FineT W true l A' c') := Lib.hid fun W hg => ⟨grown_trans G2.out hg, HF.out.1, Sl.more (Sl.free HF.out.2.1 hg (Nat.le_refl _)) hg.size, HF.out.2.2⟩
          have HGD := Lib.hid HF.out.1
          go_wp2_with fail
          refine (H19.out _ _ _ false false G2.out HF.out HNM.out).mono ?_
          rintro e w3 ⟨s1, rfl, hg3, hz3, ht3, _⟩
          have H3 := Lib.hid (And.intro hg3 (And.intro hz3 ht3))
          clear hg3 hz3 ht3 HF G2
          have HW : Hid (∀ W, W = w3.alloc (.cells #[.bool false, .bool true] 4 (0, 0)) → w2.grownBy W none ∧ W.heap[w3.heap.size]? = some (.cells #[.bool false, .bool true] 4 (0, 0))) := Lib.hid fun W e => by
            have hgW : w3.grownBy W none := by rw [e]; exact grown_alloc (grown_refl _ _) _
            exact ⟨grown_trans H3.out.1 hgW, by rw [e]; exact new_blk _ _⟩
          go_upto_region 8 with (fail)
          generalize hW : w3.alloc (.cells #[.bool false, .bool true] 4 (0, 0)) = W
          have HW := Lib.hid (HW.out W hW.symm)
          clear hW
          generalize w3.heap.size = xb at HW ⊢
          go_loopg [37] 2 (fun gk v37 wr => ∃ k : Nat, k ≤ 2 ∧ gk = 2 - k ∧ v37 = .int .i64 k ∧ Hid (W.grownBy wr none))
          case atStart => exact ⟨0, by omega, rfl, rfl, Lib.hid (grown_refl _ _)⟩
          case round =>
            obtain ⟨k, hk, rfl, rfl, HG⟩ := hrel
            by_cases hlt : k < 2
            · obtain ⟨mm, hmm⟩ : ∃ mm, wr.cell? ⟨xb, k, none⟩ = some (.bool mm) := by
                have hb := free_keep HG.out HW.out.2
                rcases (show k = 0 ∨ k = 1 by omega) with rfl | rfl
                · exact ⟨false, cell_blk hb rfl⟩
                · exact ⟨true, cell_blk hb rfl⟩
              have hk2 : (k : Int) < 2 := by omega
              have HFW := Lib.hid (HFF.out wr (grown_trans HW.out.1 HG.out))
              go_wp2_with fail
              refine (H19.out _ _ _ mm true HFW.out.1 HFW.out.2 HNM.out).mono ?_
              rintro e w5 ⟨s2, rfl, hg5, hz5, ht5, hb5⟩
              have H5 := Lib.hid (And.intro hg5 (And.intro ht5 (hb5 rfl)))
              clear hg5 ht5 hb5 hmm
              have hz5' : (s2.size : Int) ≤ 600000000 := by omega
              go_wp2_with fail
              go_loop [47] (fun v47 => ∃ p : Nat, v47 = .int .i64 p ∧ p ≤ s2.size) (fun v47 => s2.size - (intOf v47).toNat)
              case atStart => exact ⟨0, rfl, by omega⟩
              case round =>
                obtain ⟨p, rfl, hp⟩ := hrel
                by_cases hlp : p < s2.size
                · have hb := bt_at s2 p
                  have hb0 := bt_lo s2 p
                  have hb7 := H5.out.2.2 p hlp
                  generalize bt s2 p = b at hb hb0 hb7
                  go_wp2_with fail
                  go_round
                  case rel => exact ⟨p + 1, by go_num, hlp⟩
                  case measure => simp [intOf]; omega
                · go_wp2_with fail
                  refine (H20.out _ _ _ HGD.out H3.out.2.1 hz5 H3.out.2.2 H5.out.2.1).mono ?_
                  rintro e w6 ⟨rfl, hg6⟩
                  have HFW6 := Lib.hid (And.intro (grown_trans HG.out (grown_trans H5.out.1 hg6)) (HFF.out w6 (grown_trans HW.out.1 (grown_trans HG.out (grown_trans H5.out.1 hg6)))))
                  clear hg6
                  go_wp2_with fail
                  refine (H19.out _ _ _ mm false HFW6.out.2.1 HFW6.out.2.2 HNM.out).mono ?_
                  rintro e w7 ⟨s3, rfl, hg7, hz7, ht7, _⟩
                  have H7 := Lib.hid (And.intro hg7 (And.intro hz7 ht7))
                  clear hg7 hz7 ht7
                  go_wp2_with fail
                  refine (H20.out _ _ _ HGD.out H3.out.2.1 H7.out.2.1 H3.out.2.2 H7.out.2.2).mono ?_
                  rintro e w8 ⟨rfl, hg8⟩
                  have HG8 := Lib.hid (grown_trans HFW6.out.1 (grown_trans H7.out.1 hg8))
                  clear hg8
                  go_wp2_with fail
                  go_roundg (2 - (k + 1))
                  case measure => omega
                  case rel => exact ⟨k + 1, by omega, rfl, by go_num, HG8⟩
            · have hk2 : ¬ (k : Int) < 2 := by omega
              have G8 := Lib.hid (HFF.out wr (grown_trans HW.out.1 HG.out)).1
              go_wp2_with fail
              refine (H13.out _ G8.out).mono ?_
              rintro e w9 ⟨rfl, hg9⟩
              have G9 := Lib.hid hg9
              clear hg9
              go_wp2_with fail
              exact bodyPost_ret (v := .bool true) (by simp [results, Tryz.results4, go_sem]) rfl ⟨rfl, G9.out⟩
  · have hs' : (2147483647 : Int) < s.size := by omega
    clear hd hz hs
    go_enter Tryz.func4, Tryz.ntmps4
    go_wp2_with fail
    exact bodyPost_ret (v := .bool true) (by simp [results, Tryz.results4, go_sem]) rfl ⟨rfl, grown_refl _ _⟩
end Go.Proofs.YtkfdcbdlcipmfaaGreatFmt
