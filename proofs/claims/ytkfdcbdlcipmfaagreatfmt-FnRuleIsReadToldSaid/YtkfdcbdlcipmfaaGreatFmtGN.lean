/- What the reference's Set answers. At most 1000 nodes. -/
import Derived.Test.YtkfdcbdlcipmfaaGreatFmtProg
import Derived.WalkKit
import Derived.WalkLawsBesides
import Derived.WalkSpells
import Derived.BigQuiet
import Derived.Deep.QuietTactic
import Derived.Outline
import Derived.Laws.BitsLemmas
import Derived.Lib.Hide
import Derived.OneCell
import Derived.Deep.Draws
import Derived.Deep.LoopGhost
import Derived.Laws.BytesArg
import Derived.Laws.ResultCell
import Derived.Deep.DeepCutAuto
import Derived.Deep.CutBlock
import Derived.Deep.RegionLaw
import Derived.Maps.AppendAt
import Derived.Deep.AppendLies
import Derived.KernelRfl
import Derived.Laws.OwnMore
import Derived.Deep.RegionHeld3
import Derived.Deep.AppendSrc
import Derived.Maps.OwnOps
import Derived.Test.YtkfdcbdlcipmfaaGreatFmtGA
import Derived.Test.YtkfdcbdlcipmfaaGreatFmtGL
import Derived.Test.YtkfdcbdlcipmfaaGreatFmtGK
import Derived.Test.YtkfdcbdlcipmfaaGreatFmtGM
set_option linter.unusedVariables false
set_option linter.unusedSimpArgs false
namespace Go.Proofs.YtkfdcbdlcipmfaaGreatFmt
open Go.RowKit
theorem setL_length (a : Bool) : ∀ l : List Css.Node, (Css.setL a l).length = l.length
 | [] => rfl
 | n :: r => by simp [Css.setL, setL_length a r]
theorem setL_at (a : Bool) : ∀ (l : List Css.Node) (k : Nat) (h : k < l.length), (Css.setL a l)[k]'(by rw [setL_length]; exact h) = { l[k] with after := (l[k]).after || a || Css.needs l[k] (l.drop (k + 1)) }
 | n :: r, 0, _ => rfl
 | n :: r, k + 1, h => by
  simp only [Css.setL, List.getElem_cons_succ, List.drop_succ_cons]
  exact setL_at a r k (by simpa using h)
def midL (a : Bool) (l : List Css.Node) (k : Nat) : List Css.Node := (Css.setL a l).take k ++ l.drop k
theorem midL_zero (a : Bool) (l : List Css.Node) : midL a l 0 = l := by simp [midL]
theorem midL_end (a : Bool) (l : List Css.Node) : midL a l l.length = Css.setL a l := by
 unfold midL
 rw [List.drop_length, List.append_nil, List.take_of_length_le (by rw [setL_length]; exact Nat.le_refl _)]
theorem midL_length (a : Bool) (l : List Css.Node) (k : Nat) (h : k ≤ l.length) : (midL a l k).length = l.length := by
 unfold midL
 rw [List.length_append, List.length_take, List.length_drop, setL_length]
 omega
theorem midL_at {a : Bool} {l : List Css.Node} {k i : Nat} (hk : k ≤ l.length) (h : k ≤ i) (hi : i < l.length) : (midL a l k)[i]'(by rw [midL_length a l k hk]; exact hi) = l[i] := by
 unfold midL
 rw [List.getElem_append_right (by rw [List.length_take, setL_length]; omega)]
 simp only [List.getElem_drop, List.length_take, setL_length]
 congr 1
 omega
theorem midL_next {a : Bool} {l : List Css.Node} {k : Nat} (h : k < l.length) : midL a l (k + 1) = (midL a l k).set k { l[k] with after := (l[k]).after || a || Css.needs l[k] (l.drop (k + 1)) } := by
 unfold midL
 rw [← setL_at a l k h, List.take_succ_eq_append_getElem (by rw [setL_length]; exact h), List.drop_eq_getElem_cons h]
 rw [List.set_append_right _ _ (by rw [List.length_take, setL_length]; omega)]
 simp only [List.length_take, setL_length]
 rw [show k - min k l.length = 0 from by omega, List.set_cons_zero, List.append_assoc]
 rfl
theorem nodesC_set {l : List Css.Node} {k : Nat} (h : k < l.length) (b : Bool) : (nodesC l).set (k * 6 + 5) (.bool b) = nodesC (l.set k { l[k] with after := b }) := by
 induction l generalizing k with
 | nil => simp at h
 | cons n r ih =>
  cases k with
  | zero => rfl
  | succ k =>
   have hk : k < r.length := by simpa using h
   show (nodeCells n ++ nodesC r).set ((k + 1) * 6 + 5) (.bool b) = nodeCells n ++ nodesC (r.set k _)
   have e := ih hk
   rw [List.set_append_right _ _ (by simp [nodeCells]; omega), nodeCells_length, show (k + 1) * 6 + 5 - 6 = k * 6 + 5 from by omega, e]
   rfl
theorem folB_mid {a : Bool} {l : List Css.Node} {k : Nat} (hk : k < l.length) : folB (midL a l k) k = folB l k := by
 by_cases h1 : k + 1 < l.length
 ·rw [folB_at (by rw [midL_length a l k (by omega)]; exact h1), folB_at h1, midL_at (by omega) (Nat.le_refl _) hk, midL_at (by omega) (by omega) h1]
 ·rw [folB_last (by rw [midL_length a l k (by omega)]; omega), folB_last (by omega)]
theorem needs_no {l : List Css.Node} {k : Nat} (hk : k < l.length) (h : folB l k = false) : Css.needs l[k] (l.drop (k + 1)) = false := by
 by_cases h1 : k + 1 < l.length
 ·rw [folB_at h1] at h
  rw [List.drop_eq_getElem_cons h1]
  simp only [Css.needs, h, Bool.false_and]
 ·rw [List.drop_eq_nil_of_le (by omega)]
  rfl
theorem needs_yes {l : List Css.Node} {k : Nat} (h1 : k + 1 < l.length) (h : folB l k = true) : Css.needs (l[k]'(by omega)) (l.drop (k + 1)) = Css.apartB (l[k]'(by omega)).kind (l[k]'(by omega)).text (l[k + 1]).kind (l[k + 1]).text := by
 rw [folB_at h1] at h
 rw [List.drop_eq_getElem_cons h1]
 simp only [Css.needs, h, Bool.true_and]
theorem folB_lt {l : List Css.Node} {k : Nat} (h : folB l k = true) : k + 1 < l.length := by
 rcases Nat.lt_or_ge (k + 1) l.length with h1 | h1
 ·exact h1
 ·rw [folB_last h1] at h; cases h
theorem own_node {w : World} {base g cap : Nat} {t : TypeId} {l : List Css.Node} (h : w.ownsRow base t 6 (.slice (some ⟨g, 0, none⟩) l.length cap) l.length (nodesC l)) {k : Nat} (hk : k < l.length) :
  w.cell? ⟨g, k * 6, none⟩ = some (.int .i64 l[k].kind) ∧ w.cell? ⟨g, k * 6 + 1, none⟩ = some (.int .i64 l[k].unit) ∧ w.cell? ⟨g, k * 6 + 2, none⟩ = some (.int .i64 l[k].depth) ∧
   w.cell? ⟨g, k * 6 + 3, none⟩ = some (.string (str l[k].text)) ∧ w.cell? ⟨g, k * 6 + 4, none⟩ = some (.bool l[k].before) ∧ w.cell? ⟨g, k * 6 + 5, none⟩ = some (.bool l[k].after) := by
 have hj : ∀ j, j < 6 → w.cell? ⟨g, k * 6 + j, none⟩ = (nodeCells l[k])[j]? := fun j h6 => by
  rw [h.cellAt (k * 6 + j) (by omega)]
  exact flat_get nodeCells 6 nodeCells_length l k j hk h6
 exact ⟨hj 0 (by omega), hj 1 (by omega), hj 2 (by omega), hj 3 (by omega), hj 4 (by omega), hj 5 (by omega)⟩
theorem midL_set {a : Bool} {l : List Css.Node} {k : Nat} {n : Css.Node} (hk : k < (midL a l k).length) (hat : (midL a l k)[k] = n) (hnx : midL a l (k + 1) = (midL a l k).set k { n with after := true }) :
  (nodesC (midL a l k)).set (k * 6 + 5) (.bool true) = nodesC (midL a l (k + 1)) := by
 rw [nodesC_set hk, hat, hnx]
theorem midL_same {a : Bool} {l : List Css.Node} {k : Nat} {n : Css.Node} (hk : k < (midL a l k).length) (hat : (midL a l k)[k] = n) (hnx : midL a l (k + 1) = (midL a l k).set k { n with after := n.after }) : midL a l (k + 1) = midL a l k := by
 rw [hnx, ← hat]
 exact List.set_getElem_self hk
theorem own_store {w wr w2 : World} {g n c base : Nat} (hg : w.grownBy wr none) (h : wr.grownBy w2 (some g)) (hb : w.heap.size ≤ g) : w.grownBy w2 none :=
 grown_own (base := base) (v := .slice (some ⟨g, 0, none⟩) n c) hg (by simpa [Value.ownBlock] using h) (fun k hk => by simp [Value.ownBlock] at hk; omega)
def SetR (wr : World) (b : Bool) (v : Value) (wc : World) : Prop := v = .bool b ∧ wr.grownBy wc none
set_option maxRecDepth 100000 in
set_option maxHeartbeats 2000000 in
theorem c28 {w : World} {A : Option Addr} {c : Nat} {l : List Css.Node} (h : Nd w w.heap.size A l) (hl : l.length ≤ 1000) (a : Bool) :
  Calls Tryz.prog 28 #[.slice A l.length c, .bool a] w fun e w' => ∃ A' c', e = .returned (.slice A' l.length c') ∧ w.grownBy w' none ∧ w'.ownsRow w.heap.size 50 6 (.slice A' l.length c') l.length (nodesC (Css.setL a l)) := by
 have H := Lib.hid h
 clear h
 obtain ⟨i0, z0, hi0, hz0, hz1, hz2, hz3⟩ := info50
 have HI := Lib.hid (And.intro hi0 (And.intro hz0 (And.intro hz1 (And.intro hz2 hz3))))
 clear hi0 hz0 hz1 hz2 hz3
 have hown0 := Lib.hid (World.ownsRow_nil w w.heap.size 50 6)
 have hone : Hid (∀ u ∈ nodesC l, u.oneCell' = true) := Lib.hid fun u hu => by
  obtain ⟨n, _, hu⟩ := List.mem_flatMap.1 hu
  exact nodeCells_one n u hu
 have h63 : 0 + l.length ≤ maxLen := by unfold maxLen; omega
 have h47 : (0 + l.length) * 48 ≤ 140737488355328 := by omega
 have h06 : 0 < 6 := by omega
 go_enter Tryz.func28, Tryz.ntmps28
 go_wp2_with ((at_builtin; refine wpList_append_src rfl w.heap.size _ (.tmp 8) 31 31 50 i0 z0 6 48 rfl Tryz.underlying31 HI.out.1 HI.out.2.1 HI.out.2.2.1 HI.out.2.2.2.1 HI.out.2.2.2.2 h06 (.slice none 0 0) 0 [] rfl _ l.length (nodesC l) rfl (Src.slice Tryz.underlying31 H.out hone.out) hown0.out (Nat.le_refl _) h63 h47 ?_; intro v1 w1 hown hgr hat; obtain ⟨A1, c1, rfl⟩ := own_slice' hown; simp only [Nat.zero_add, List.nil_append] at hown ⊢; have HO1 := Lib.hid hown; have HG1 := Lib.hid hgr; clear hown hgr hat))
 go_loopg [12] l.length (fun gk v12 wr => ∃ k : Nat, k ≤ l.length ∧ gk = l.length - k ∧ v12 = .int .i64 k ∧ Hid (w.grownBy wr none) ∧ Hid (wr.ownsRow w.heap.size 50 6 (.slice A1 l.length c1) l.length (nodesC (midL a l k))))
 case atStart => exact ⟨0, by omega, rfl, rfl, HG1, by rw [midL_zero]; exact HO1⟩
 case round =>
  clear HG1 HO1
  obtain ⟨k, hk, rfl, rfl, HG, HO⟩ := hrel
  by_cases hlt : k < l.length
  ·obtain ⟨g, hA, _⟩ := own_first HO.out (by omega) (by omega)
   subst hA
   have hml := midL_length a l k hk
   have hO := HO.out
   rw [← hml] at hO
   obtain ⟨n0, n1, n2, n3, n4, n5⟩ := own_node hO (k := k) (by omega)
   have hat := midL_at (a := a) hk (Nat.le_refl _) hlt
   rw [hat] at n0 n1 n2 n3 n4 n5
   have hfz := fun j => HO.out.frozenAt j
   have hnx := midL_next (a := a) hlt
   generalize hn : l[k] = n at n0 n1 n2 n3 n4 n5 hat hnx
   cases a with
   | true =>
    have hz := hfz (k * 6 + 5)
    have hst := HO.out.stored (k * 6 + 5) (.bool true)
    have hbg := own_base HO.out g (by simp [Value.ownBlock])
    have HG2 := Lib.hid (own_store (n := 0) (c := 0) (base := 0) HG.out hst.2 hbg)
    have HO2 : Hid (_) := Lib.hid (show (wr.setCell ⟨g, k * 6 + 5, none⟩ (.bool true)).ownsRow w.heap.size 50 6 (.slice (some ⟨g, 0, none⟩) l.length c1) l.length (nodesC (midL true l (k + 1))) by
     rw [← midL_set (n := n) (by omega) hat (by rw [hnx]; simp)]; exact hst.1)
    clear hfz hO hst hbg hnx hat
    go_wp2_with fail
    go_roundg (l.length - (k + 1))
    case measure => omega
    case rel => exact ⟨k + 1, hlt, rfl, by go_num, HG2, HO2⟩
   | false =>
    have hfl := folB_mid (a := false) hlt
    have hNd : Nd wr wr.heap.size (some ⟨g, 0, none⟩) (midL false l k) := Sl.of_own hO
    have hc39 := c39 (c := c1) hNd (by omega) k (by omega)
    rw [hml, show folV (midL false l k) k = folV l k from by unfold folV; rw [hfl]] at hc39
    have H39 := Lib.hid hc39
    clear hNd hc39 hfl
    cases hf : folB l k with
    | false =>
     have hnn := needs_no hlt hf
     have HS : Hid (midL false l (k + 1) = midL false l k) := Lib.hid (midL_same (n := n) (by omega) hat (by rw [hnx, ← hn, hnn]; simp))
     have hv := folV_no hf
     have HF := Lib.hid hv
     clear hfz hO hnx hat hnn hf hv
     go_wp2_with fail
     refine H39.out.mono ?_
     rintro e w1 ⟨rfl, nq, rfl⟩
     rw [HF.out]
     go_wp2_with fail
     go_quiet (fail)
     go_wp2_with fail
     go_roundg (l.length - (k + 1))
     case measure => omega
     case rel => exact ⟨k + 1, hlt, rfl, by go_num, Lib.hid (grown_drewN HG.out _), by rw [HS.out]; exact HO⟩
    | true =>
     have hlt2 := folB_lt hf
     have hny := needs_yes hlt2 hf
     have hv := folV_yes hf
     have HF := Lib.hid hv
     obtain ⟨m0, m1, m2, m3, m4, m5⟩ := own_node hO (k := k + 1) (by omega)
     have hat2 := midL_at (a := false) hk (Nat.le_succ k) hlt2
     rw [hat2] at m0 m1 m2 m3 m4 m5
     generalize hm : l[k + 1] = m at m0 m1 m2 m3 m4 m5 hat2 hny
     clear m0 m1 m2 m3 m4 m5 n0 n1 n2 n3 n4 n5
     have FACTS : Hid (∀ W, wr.grownBy W none → wr.grownBy W none ∧ W.cell? ⟨g, k * 6, none⟩ = some (.int .i64 n.kind) ∧ W.cell? ⟨g, k * 6 + 1, none⟩ = some (.int .i64 n.unit) ∧ W.cell? ⟨g, k * 6 + 2, none⟩ = some (.int .i64 n.depth) ∧ W.cell? ⟨g, k * 6 + 3, none⟩ = some (.string (str n.text)) ∧ W.cell? ⟨g, k * 6 + 4, none⟩ = some (.bool n.before) ∧ W.cell? ⟨g, k * 6 + 5, none⟩ = some (.bool n.after) ∧ W.cell? ⟨g, (k + 1) * 6, none⟩ = some (.int .i64 m.kind) ∧ W.cell? ⟨g, (k + 1) * 6 + 1, none⟩ = some (.int .i64 m.unit) ∧ W.cell? ⟨g, (k + 1) * 6 + 2, none⟩ = some (.int .i64 m.depth) ∧ W.cell? ⟨g, (k + 1) * 6 + 3, none⟩ = some (.string (str m.text)) ∧ W.cell? ⟨g, (k + 1) * 6 + 4, none⟩ = some (.bool m.before) ∧ W.cell? ⟨g, (k + 1) * 6 + 5, none⟩ = some (.bool m.after)) := Lib.hid fun W hW => by
      have hOW := own_free hO hW
      have q1 := own_node hOW (k := k) (by omega)
      have q2 := own_node hOW (k := k + 1) (by omega)
      rw [hat] at q1
      rw [hat2] at q2
      exact ⟨hW, q1.1, q1.2.1, q1.2.2.1, q1.2.2.2.1, q1.2.2.2.2.1, q1.2.2.2.2.2, q2⟩
     have hz := hfz (k * 6 + 5)
     have H41n := fun W => c41 n W
     have H41m := fun W => c41 m W
     have H40 := fun W => c40 (itemOf n) (itemOf m) W
     unfold nodeVal itemVal itemOf at H41n H41m
     unfold itemVal itemOf at H40
     simp only at H41n H41m H40
     have HH := Lib.hid (And.intro H41n (And.intro H41m H40))
     have hk1 : (0 : Int) ≤ (k : Int) + 1 := by omega
     have hk2 : (k : Int) + 1 < l.length := by omega
     have hsum : IntKind.i64.wrap ((k : Int) + 1) = (k : Int) + 1 := IntWalk.i64_in _ (by omega)
     have HNY := Lib.hid (And.intro hny (And.intro hat hnx))
     have HM := Lib.hid (And.intro hn hm)
     have HZ := Lib.hid hfz
     clear hfz hO hnx hat hat2 hny hf hv H41n H41m H40 hn hm hz
     go_wp2_with fail
     refine H39.out.mono ?_
     rintro e w1 ⟨rfl, nq, rfl⟩
     rw [HF.out]
     have hgW := grown_drewN (grown_refl wr none) nq
     generalize wr.drewN nq = W at hgW ⊢
     obtain ⟨_, p0, p1, p2, p3, p4, p5, q0, q1, q2, q3, q4, q5⟩ := FACTS.out W hgW
     go_upto_region 8 with (fail)
     go_cut [37] (fun v wc => SetR wr (Css.apartB n.kind n.text m.kind m.text) v wc)
     case first =>
      go_region_held3 (fun w' => wr.grownBy w' none ∧ w'.cell? ⟨g, k * 6, none⟩ = some (.int .i64 n.kind) ∧ w'.cell? ⟨g, k * 6 + 1, none⟩ = some (.int .i64 n.unit) ∧ w'.cell? ⟨g, k * 6 + 2, none⟩ = some (.int .i64 n.depth) ∧ w'.cell? ⟨g, k * 6 + 3, none⟩ = some (.string (str n.text)) ∧ w'.cell? ⟨g, k * 6 + 4, none⟩ = some (.bool n.before) ∧ w'.cell? ⟨g, k * 6 + 5, none⟩ = some (.bool n.after) ∧ w'.cell? ⟨g, (k + 1) * 6, none⟩ = some (.int .i64 m.kind) ∧ w'.cell? ⟨g, (k + 1) * 6 + 1, none⟩ = some (.int .i64 m.unit) ∧ w'.cell? ⟨g, (k + 1) * 6 + 2, none⟩ = some (.int .i64 m.depth) ∧ w'.cell? ⟨g, (k + 1) * 6 + 3, none⟩ = some (.string (str m.text)) ∧ w'.cell? ⟨g, (k + 1) * 6 + 4, none⟩ = some (.bool m.before) ∧ w'.cell? ⟨g, (k + 1) * 6 + 5, none⟩ = some (.bool m.after)) (first | exact FACTS.out _ (grown_drew hgW) | exact FACTS.out _ hgx | go_keep)
       (first | (go_at_call 41; (with_reducible refine (HH.out.1 _).mono ?_); rintro e w' ⟨rfl, hg⟩; have hgx := grown_trans (a := wr) (by first | assumption | exact grown_drew hgW) hg) | (go_at_call 41; (with_reducible refine (HH.out.2.1 _).mono ?_); rintro e w' ⟨rfl, hg⟩; have hgx := grown_trans (a := wr) (by first | assumption | exact grown_drew hgW) hg) | (go_at_call 40; (with_reducible refine (HH.out.2.2 _).mono ?_); rintro e w' ⟨rfl, hg⟩; have hgx := grown_trans (a := wr) (by first | assumption | exact grown_drew hgW) hg))
      go_wp2_with fail
      go_meet
      exact ⟨rfl, hgx⟩
     case rest =>
      clear p0 p1 p2 p3 p4 p5 q0 q1 q2 q3 q4 q5 hgW
      obtain ⟨rfl, hgc⟩ := hcut
      obtain ⟨_, p0, p1, p2, p3, p4, p5, _⟩ := FACTS.out wc hgc
      have HOW := Lib.hid (own_free HO.out hgc)
      have hz := HOW.out.frozenAt (k * 6 + 5)
      have hst := HOW.out.stored (k * 6 + 5) (.bool true)
      have hbg := own_base HO.out g (by simp [Value.ownBlock])
      have HGC := Lib.hid (grown_trans HG.out hgc)
      clear p0 p1 p2 p3 p4 hgc
      cases hb : Css.apartB n.kind n.text m.kind m.text with
      | true =>
       have HG2 := Lib.hid (own_store (n := 0) (c := 0) (base := 0) HGC.out hst.2 hbg)
       have HO2 : Hid (_) := Lib.hid (show (wc.setCell ⟨g, k * 6 + 5, none⟩ (.bool true)).ownsRow w.heap.size 50 6 (.slice (some ⟨g, 0, none⟩) l.length c1) l.length (nodesC (midL false l (k + 1))) by
        rw [← midL_set (n := n) (by omega) HNY.out.2.1 (by rw [HNY.out.2.2, ← HM.out.1, HNY.out.1, HM.out.1, hb]; simp)]; exact hst.1)
       clear hst hbg
       go_wp2_with fail
       go_roundg (l.length - (k + 1))
       case measure => omega
       case rel => exact ⟨k + 1, hlt, rfl, by go_num, HG2, HO2⟩
      | false =>
       have HS : Hid (midL false l (k + 1) = midL false l k) := Lib.hid (midL_same (n := n) (by omega) HNY.out.2.1 (by rw [HNY.out.2.2, ← HM.out.1, HNY.out.1, HM.out.1, hb]; simp))
       clear hst hbg hz p5
       go_wp2_with fail
       go_roundg (l.length - (k + 1))
       case measure => omega
       case rel => exact ⟨k + 1, hlt, rfl, by go_num, HGC, by rw [HS.out]; exact HOW⟩
  ·have hk' : k = l.length := by omega
   have HO2 : Hid (wr.ownsRow w.heap.size 50 6 (.slice A1 l.length c1) l.length (nodesC (Css.setL a l))) := by
    have := HO.out
    rw [hk', midL_end] at this
    exact this
   clear hk'
   go_wp2_with fail
   go_ret
   exact ⟨A1, c1, rfl, HG.out, HO2.out⟩
end Go.Proofs.YtkfdcbdlcipmfaaGreatFmt
/- What the statements' own test of a tree answers. Each list has at most 2^31 - 1 nodes, each text at most 2^31 - 1 bytes. -/
namespace Go.Proofs.YtkfdcbdlcipmfaaGreatFmt
open Go.RowKit
def textSum (l : List Css.Node) : Nat := (l.map fun n => n.text.length).sum
structure Good (l : List Css.Node) (ascii : Bool) : Prop where
 chain : Css.chain 0 l = true
 len : l.length ≤ 1000
 deep : ∀ n ∈ l, n.depth ≤ 64
 sum : textSum l ≤ 1048576
 low : ∀ n ∈ l, lowA ascii n.text = true
def TreeR (l : List Css.Node) (all ascii : Bool) (w : World) (e : Ending) (w' : World) : Prop :=
 (e = .returned (.tuple #[.slice none 0 0, .bool false]) ∧ w.grownBy w' none) ∨
 (∃ A' c', e = .returned (.tuple #[.slice A' l.length c', .bool true]) ∧ w.grownBy w' none ∧ Good l ascii ∧ Nd w' w'.heap.size A' (Css.setL all l) ∧ w'.ownsRow w.heap.size 45 6 (.slice A' l.length c') l.length (nodesC (Css.setL all l)))
theorem own_lower {w : World} {base base' size n : Nat} {e : TypeId} {v : Value} {xs : List Value} (h : w.ownsRow base e size v n xs) (hb : base' ≤ base) : w.ownsRow base' e size v n xs := by
 refine ⟨h.1, ?_⟩
 rcases h.2 with h2 | ⟨g, cap, cur, e1, hbg, r⟩
 ·exact .inl h2
 ·exact .inr ⟨g, cap, cur, e1, Nat.le_trans hb hbg, r⟩
theorem textSum_snoc {l : List Css.Node} {k : Nat} (hk : k < l.length) : textSum (l.take (k + 1)) = textSum (l.take k) + (l[k]).text.length := by
 unfold textSum
 rw [List.take_succ_eq_append_getElem hk, List.map_append, List.sum_append]
 simp
theorem TreeR.no {l : List Css.Node} {all ascii : Bool} {w w' : World} (h : w.grownBy w' none) : TreeR l all ascii w (.returned (.tuple #[.slice none 0 0, .bool false])) w' := .inl ⟨rfl, h⟩
set_option maxRecDepth 100000 in
set_option maxHeartbeats 2000000 in
theorem c11 {w : World} {A : Option Addr} {c : Nat} {l : List Css.Node} (h : Nd w w.heap.size A l) (hf : FitsL l) (all ascii : Bool) :
  Calls Tryz.prog 11 #[.slice A l.length c, .bool all, .bool ascii] w (TreeR l all ascii w) := by
 have hlen := hf.1
 have H := Lib.hid h
 have HF := Lib.hid hf
 clear h hf
 go_enter Tryz.func11, Tryz.ntmps11
 go_wp2_with fail
 refine (c16 H.out hlen).mono ?_
 rintro e w1 ⟨A1, c1, rfl, hG1, hO1⟩
 have HG1 := Lib.hid hG1
 have HN1 : Hid (Nd w1 w1.heap.size A1 l) := Lib.hid (Sl.of_own hO1)
 clear hG1 hO1
 by_cases hl : l.length ≤ 1000
 ·have hl' : (l.length : Int) ≤ 1000 := by omega
  go_wp2_with fail
  refine (c25 HN1.out hl HF.out.2).mono ?_
  rintro e w2 ⟨b, rfl, hg2, hb⟩
  have HG2 := Lib.hid (grown_trans HG1.out hg2)
  have HN2 : Hid (Nd w2 w2.heap.size A1 l) := Lib.hid ((Sl.free HN1.out hg2 (Nat.le_refl _)).more hg2.size)
  clear hg2
  cases b with
  | false =>
   go_wp2_with fail
   go_ret2
   exact TreeR.no HG2.out
  | true =>
   have HC := Lib.hid (hb rfl)
   clear hb
   go_wp2_with fail
   go_loopg [9, 24] l.length (fun gk v9 v24 wr => ∃ (k sz : Nat), k ≤ l.length ∧ gk = l.length - k ∧ v9 = .int .i64 sz ∧ v24 = .int .i64 k ∧ sz ≤ 1048576 ∧ Hid (sz = textSum (l.take k)) ∧ Hid (w2.grownBy wr none) ∧ Hid (∀ i (hi : i < l.length), i < k → (l[i]).depth ≤ 64 ∧ lowA ascii (l[i]).text = true))
   case atStart => exact ⟨0, 0, by omega, rfl, rfl, rfl, by omega, Lib.hid rfl, Lib.hid (grown_refl _ _), Lib.hid fun i hi h => absurd h (by omega)⟩
   case round =>
    obtain ⟨k, sz, hk, rfl, rfl, rfl, hsz, HS, HG, HA⟩ := hrel
    by_cases hlt : k < l.length
    ·obtain ⟨ad, hA, hb, hc0, hc1, hc2, hc3, hc4, hc5⟩ := Nd.elem (Sl.free HN2.out HG.out (Nat.le_refl _)) hlt
     subst hA
     have htx := HF.out.2 l[k] (List.getElem_mem hlt)
     have hsn := textSum_snoc hlt
     generalize hn : l[k] = n at hc0 hc1 hc2 hc3 hc4 hc5 htx hsn
     have HSN := Lib.hid hsn
     have HN := Lib.hid hn
     have hss := str_size n.text
     have hG3 : Hid (∀ o, w.grownBy (wr.alloc o) none ∧ w2.grownBy (wr.alloc o) none) := Lib.hid fun o => ⟨grown_alloc (grown_trans HG2.out HG.out) o, grown_alloc HG.out o⟩
     have hsum : IntKind.i64.wrap ((sz : Int) + ((str n.text).size : Nat)) = (sz : Int) + ((str n.text).size : Nat) := IntWalk.i64_in _ (by omega)
     clear hn hsn
     by_cases hd : 64 < n.depth
     ·go_wp2_with fail
      go_ret2
      exact TreeR.no (hG3.out _).1
     ·have hd' : n.depth ≤ 64 := by omega
      clear hd
      by_cases hs2 : 1048576 < (sz : Int) + ((str n.text).size : Nat)
      ·go_wp2_with fail
       go_ret2
       exact TreeR.no (hG3.out _).1
      ·have hs2' : (sz : Int) + ((str n.text).size : Nat) ≤ 1048576 := by omega
       clear hs2
       go_wp2_with fail
       refine (c26 _ _ _ (by omega)).mono ?_
       rintro e w' ⟨rfl, rfl⟩
       rw [str_data]
       cases hlo : lowA ascii n.text with
       | false =>
        go_wp2_with fail
        go_ret2
        exact TreeR.no (hG3.out _).1
       | true =>
        have HA2 : Hid (∀ i (hi : i < l.length), i < k + 1 → (l[i]).depth ≤ 64 ∧ lowA ascii (l[i]).text = true) := Lib.hid fun i hi hik => by
         rcases Nat.lt_succ_iff_lt_or_eq.1 hik with h | h
         ·exact HA.out i hi h
         ·subst h; rw [HN.out]; exact ⟨hd', hlo⟩
        have HS2 : Hid (sz + n.text.length = textSum (l.take (k + 1))) := Lib.hid (by rw [HSN.out, HS.out])
        go_wp2_with fail
        go_roundg (l.length - (k + 1))
        case measure => omega
        case rel => exact ⟨k + 1, sz + n.text.length, hlt, rfl, by go_num, by go_num, by omega, HS2, Lib.hid (hG3.out _).2, HA2⟩
    ·have hk' : k = l.length := by omega
     have HGD : Hid (Good l ascii) := Lib.hid ⟨HC.out, hl, fun n hn => by
      obtain ⟨i, hi, rfl⟩ := List.getElem_of_mem hn
      exact (HA.out i hi (by omega)).1, by have := HS.out; rw [hk', List.take_length] at this; omega, fun n hn => by
      obtain ⟨i, hi, rfl⟩ := List.getElem_of_mem hn
      exact (HA.out i hi (by omega)).2⟩
     have HN3 : Hid (Nd wr wr.heap.size A1 l) := Lib.hid ((Sl.free HN2.out HG.out (Nat.le_refl _)).more HG.out.size)
     clear hk'
     go_wp2_with fail
     refine (c28 HN3.out hl all).mono ?_
     rintro e w3 ⟨A3, c3, rfl, hG3, hO3⟩
     have hlen3 := setL_length all l
     have hN4 : Nd w3 w3.heap.size A3 (Css.setL all l) := Sl.of_own (by rw [hlen3]; exact hO3)
     have h27 := c27 (c := c3) hN4 (by omega)
     rw [hlen3] at h27
     have H27 := Lib.hid h27
     have HG5 := Lib.hid (grown_trans (grown_trans HG2.out HG.out) hG3)
     clear hN4 h27 hG3 hO3
     go_wp2_with fail
     refine H27.out.mono ?_
     rintro e w4 ⟨A4, c4, rfl, hG4, hO4⟩
     go_wp2_with fail
     go_ret2
     exact .inr ⟨A4, c4, rfl, grown_trans HG5.out hG4, HGD.out, Sl.of_own (by rw [hlen3]; exact hO4), own_lower hO4 HG5.out.size⟩
 ·have hl' : 1000 < (l.length : Int) := by omega
  go_wp2_with fail
  go_ret2
  exact TreeR.no HG1.out
end Go.Proofs.YtkfdcbdlcipmfaaGreatFmt
