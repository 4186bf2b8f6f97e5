/- Two trees of tokens behind each other: what the law of pieces asks of its nodes and texts. -/
import Derived.Test.YtkfdcbdlcipmfaaGreatFmtHK
set_option linter.unusedVariables false
set_option linter.unusedSimpArgs false
namespace Go.Proofs.YtkfdcbdlcipmfaaGreatFmt
open Go.RowKit Go.Extern.Stop Go.Stop Go.Extern

theorem nodesC_setBefore {l : List Css.Node} (h : 0 < l.length) : (nodesC l).set 4 (.bool false) = nodesC (Css.setBefore l) := by
  cases l with
  | nil => simp at h
  | cons n r => rfl
theorem nodesC_setAfter {l : List Css.Node} {k : Nat} (h : k < l.length) (b : Bool) : (nodesC l).set (k * 6 + 5) (.bool b) = nodesC (Css.setAfter l k b) := by
  rw [Css.setAfter_at h]
  exact nodesC_set h b
theorem nodesC_append (a b : List Css.Node) : nodesC (a ++ b) = nodesC a ++ nodesC b := by simp [nodesC]
theorem setAfter_len (l : List Css.Node) (k : Nat) (b : Bool) : (Css.setAfter l k b).length = l.length := by
  unfold Css.setAfter
  split <;> simp
theorem setBefore_len (l : List Css.Node) : (Css.setBefore l).length = l.length := by
  cases l <;> rfl
theorem setAfter_cons (n : Css.Node) (r : List Css.Node) (k : Nat) (b : Bool) : Css.setAfter (n :: r) (k + 1) b = n :: Css.setAfter r k b := by
  unfold Css.setAfter
  simp only [List.getElem?_cons_succ]
  cases r[k]? <;> rfl
theorem setAfter_append : ∀ {a b : List Css.Node} {e : Nat}, e < a.length → Css.setAfter (Css.setAfter a e false ++ b) e true = Css.setAfter a e true ++ b
  | [], _, _, h => absurd h (by simp)
  | n :: r, b, 0, _ => rfl
  | n :: r, b, e + 1, h => by
    rw [setAfter_cons, setAfter_cons, List.cons_append, setAfter_cons, List.cons_append, setAfter_append (by simpa using h)]
theorem sim_deep : ∀ {l l' : List Css.Node}, Css.Sim l l' → (∀ n ∈ l, n.depth ≤ 64) → ∀ n ∈ l', n.depth ≤ 64
  | [], [], _, _ => fun _ h => absurd h (by simp)
  | n :: l, m :: l', h, hd => fun x hx => by
    rcases List.mem_cons.1 hx with rfl | hx
    · rw [← h.1.2.2.1]; exact hd n (by simp)
    · exact sim_deep h.2 (fun y hy => hd y (by simp [hy])) x hx
  | [], _ :: _, h, _ => absurd h (by simp [Css.Sim])
  | _ :: _, [], h, _ => absurd h (by simp [Css.Sim])
theorem Good.setLow {l : List Css.Node} {asc : Bool} (h : Good l asc) (all : Bool) : asc = true → ∀ n ∈ Css.setL all l, Css.low n.text = true := fun ha n hn => by
  obtain ⟨m, hm, e⟩ := Css.set_mem hn
  rw [e]
  exact lowA_low (h.low m hm) ha
theorem pieces_prep {a b : List Css.Node} {asc : Bool} {e : Nat} (ha : Good a asc) (hb : Good b asc) (hb0 : 0 < b.length) (hl : a.length + b.length ≤ 1000) (he : e < (Css.setL false a).length) (hd : ((Css.setL false a)[e]).depth = 0)
    (hlast : ∀ i (hi : i < (Css.setL false a).length), e < i → 0 < ((Css.setL false a)[i]).depth) :
    ∃ tsa tsb ts, Prep asc (Css.setAfter (Css.setL false a) e false) tsa ∧ Prep asc (Css.setBefore (Css.setL false b)) tsb ∧ Prep asc (Css.setAfter (Css.setL false a) e true ++ Css.setBefore (Css.setL false b)) ts ∧ Css.bareL ts = Css.bareL tsa ++ Css.bareL tsb := by
  have da := ha.set false
  have db := hb.set false
  have sa := textSum_set false a
  have sb := textSum_set false b
  have la := ha.sum
  have lb := hb.sum
  have l1 := setL_len false a
  have l2 := setL_len false b
  obtain ⟨tsa, tsb, ts, h1, h2, h3, h4⟩ := Css.pieces_trees (ascii := asc) da.chain (Css.set_tight false a) (ha.setLow false) db.chain (Css.set_tight false b) (hb.setLow false) (by intro h; rw [h] at l2; simp at l2; omega) he hd hlast
  have p1 := Css.setAfter_sim (Css.setL false a) e false
  have p2 := Css.setAfter_sim (Css.setL false a) e true
  have p3 := Css.setBefore_sim (Css.setL false b)
  have q1 := textSum_sim p1
  have q2 := textSum_sim p2
  have q3 := textSum_sim p3
  refine ⟨tsa, tsb, ts, ⟨h1, p1.chain da.chain, by omega, sim_deep p1 da.deep, by omega⟩, ⟨h2, p3.chain db.chain, by omega, sim_deep p3 db.deep, by omega⟩, ⟨h3, Css.chain_append (p2.chain da.chain) (Int.le_refl 0) (p3.chain db.chain), by rw [List.length_append]; omega, fun n hn => ?_, by rw [textSum_append]; omega⟩, h4⟩
  rcases List.mem_append.1 hn with hn | hn
  · exact sim_deep p2 da.deep n hn
  · exact sim_deep p3 db.deep n hn

theorem enc_sign {c : Int} {b : UInt8} (h : Css.enc1 c = [b]) (l : List Int) : Css.enc (c :: l) = b :: Css.enc l := by simp [Css.enc, h]
theorem enc_k (l : List Int) : Css.enc (107 :: 58 :: l) = 107 :: 58 :: Css.enc l := by
  rw [enc_sign (b := 107) (by decide), enc_sign (b := 58) (by decide)]
def oneTx (z : ByteArray) : ByteArray := (⟨#[107, 58]⟩ : ByteArray) ++ z ++ ⟨#[59]⟩
def twoTx (x y : ByteArray) : ByteArray := (⟨#[107, 58]⟩ : ByteArray) ++ x ++ ⟨#[32, 32]⟩ ++ y ++ ⟨#[59]⟩
theorem oneTx_told {asc : Bool} {ts : List Css.Tree} {l : List Css.Node} {z : ByteArray} (h : ValTo asc ts z) (hp : Prep asc l ts) : Css.Told (oneTx z).data.toList (Css.declItems [107] (Css.itemsL none ts ++ [Css.semi])) := by
  obtain ⟨_, body, b1, _, he⟩ := h
  have := Css.piece_told hp.tr.wl b1
  rw [enc_k, Css.enc_append, ← he] at this
  unfold oneTx
  simp only [ByteArray.data_append, Array.toList_append]
  exact this
theorem twoTx_told {asc : Bool} {tsa tsb : List Css.Tree} {la lb : List Css.Node} {x y : ByteArray} (h : ValTo asc tsa x) (k : ValTo asc tsb y) (hp : Prep asc la tsa) (hq : Prep asc lb tsb) : Css.Told (twoTx x y).data.toList (Css.declItems [107] (Css.itemsL none tsa ++ (Css.itemsL none tsb ++ [Css.semi]))) := by
  obtain ⟨_, b1, h1, _, e1⟩ := h
  obtain ⟨_, b2, h2, _, e2⟩ := k
  have := Css.pieces_told hp.tr.wl h1 hq.tr.wl h2
  rw [enc_k, Css.enc_append, enc_sign (b := 32) (by decide), enc_sign (b := 32) (by decide), Css.enc_append, ← e1, ← e2] at this
  unfold twoTx
  simp only [ByteArray.data_append, Array.toList_append, List.append_assoc]
  exact this
theorem pieces_yes {asc : Bool} {tsa tsb ts : List Css.Tree} {la lb lc : List Css.Node} {x y z : ByteArray} (hx : ValTo asc tsa x) (hy : ValTo asc tsb y) (hz : ValTo asc ts z) (hp : Prep asc la tsa) (hq : Prep asc lb tsb) (hr : Prep asc lc ts)
    (hb : Css.bareL ts = Css.bareL tsa ++ Css.bareL tsb) (w : World) : Calls Tryz.prog 20 #[.string (oneTx z), .string (twoTx x y)] w (Yes w) := by
  have t1 := (oneTx_told hz hr).bared
  have t2 := (twoTx_told hx hy hp hq).bared
  rw [Css.pieces_same hb] at t1
  have z1 := hx.1
  have z2 := hy.1
  have z3 := hz.1
  refine c20_told t1 t2 (Css.bare_kinds ?_) ?_ ?_ (by simp [Css.declItems]) w
  · rw [← List.append_assoc]
    intro i hi
    have hi : i ∈ Css.declItems [107] (Css.itemsL none tsa ++ (Css.itemsL none tsb ++ [Css.semi])) := by simpa using hi
    simp only [Css.declItems, List.mem_cons, List.mem_append] at hi
    rcases hi with rfl | rfl | hi | hi | hi
    · simp
    · simp [Css.colon]
    · exact Css.itemsL_kind _ tsa hp.tr.wl i hi
    · exact Css.itemsL_kind _ tsb hq.tr.wl i hi
    · exact Css.semi_kind i (by simpa using hi)
  · unfold oneTx; simp only [ByteArray.size_append]; have : (⟨#[107, 58]⟩ : ByteArray).size = 2 := rfl; have : (⟨#[59]⟩ : ByteArray).size = 1 := rfl; omega
  · unfold twoTx; simp only [ByteArray.size_append]; have : (⟨#[107, 58]⟩ : ByteArray).size = 2 := rfl; have : (⟨#[59]⟩ : ByteArray).size = 1 := rfl; have : (⟨#[32, 32]⟩ : ByteArray).size = 2 := rfl; omega
end Go.Proofs.YtkfdcbdlcipmfaaGreatFmt
/- The law of pieces. -/
namespace Go.Proofs.YtkfdcbdlcipmfaaGreatFmt
open Go.RowKit Go.Extern.Stop Go.Stop Go.Extern

def OwnL (w : World) (base : Nat) (A : Option Addr) (c : Nat) (l : List Css.Node) : Prop := w.ownsRow base 45 6 (.slice A l.length c) l.length (nodesC l)
theorem OwnL.nd {w : World} {base : Nat} {A : Option Addr} {c : Nat} {l : List Css.Node} (h : OwnL w base A c l) : Nd w w.heap.size A l := Sl.of_own h
theorem own_nodeN {w : World} {base g cap n : Nat} {t : TypeId} {l : List Css.Node} (h : w.ownsRow base t 6 (.slice (some ⟨g, 0, none⟩) n cap) n (nodesC l)) (hl : l.length = n) {k : Nat} (hk : k < l.length) :
    w.cell? ⟨g, k * 6, none⟩ = some (.int .i64 l[k].kind) ∧ w.cell? ⟨g, k * 6 + 1, none⟩ = some (.int .i64 l[k].unit) ∧ w.cell? ⟨g, k * 6 + 2, none⟩ = some (.int .i64 l[k].depth) ∧
      w.cell? ⟨g, k * 6 + 3, none⟩ = some (.string (str l[k].text)) ∧ w.cell? ⟨g, k * 6 + 4, none⟩ = some (.bool l[k].before) ∧ w.cell? ⟨g, k * 6 + 5, none⟩ = some (.bool l[k].after) := by
  subst hl
  exact own_node h hk
theorem nodesC_len : ∀ l : List Css.Node, (nodesC l).length = l.length * 6
  | [] => rfl
  | n :: l => by
    have := nodesC_len l
    simp only [nodesC, List.flatMap_cons, List.length_append, nodeCells_length, List.length_cons] at this ⊢
    omega
theorem nodesC_one (l : List Css.Node) : ∀ u ∈ nodesC l, u.oneCell' = true := fun u hu => by
  obtain ⟨n, _, hu⟩ := List.mem_flatMap.1 hu
  exact nodeCells_one n u hu
theorem own_far {w w' : World} {base size n c g k : Nat} {e : TypeId} {xs : List Value} (h : w.ownsRow base e size (.slice (some ⟨g, 0, none⟩) n c) n xs) (hg : w.grownBy w' (some k)) (hne : g ≠ k) : w'.ownsRow base e size (.slice (some ⟨g, 0, none⟩) n c) n xs := by
  refine ⟨h.1, ?_⟩
  rcases h.2 with ⟨h', _⟩ | ⟨g', cap, cur, e1, hb, hh, r⟩
  · simp at h'
  · have e2 := e1
    simp only [Value.slice.injEq, Option.some.injEq, Addr.mk.injEq, and_true, true_and] at e2
    obtain ⟨rfl, rfl⟩ := e2
    exact .inr ⟨g, c, cur, rfl, hb, (hg.block g (lt_of_block hh) (by simpa using hne)).trans hh, r⟩
structure Two (w W : World) (asc : Bool) (a b a1 b1 : List Css.Node) (ga gb ca cb na nb : Nat) : Prop where
  grown : w.grownBy W none
  la : a1.length = na
  lb : b1.length = nb
  owna : W.ownsRow w.heap.size 45 6 (.slice (some ⟨ga, 0, none⟩) na ca) na (nodesC a1)
  ownb : W.ownsRow w.heap.size 45 6 (.slice (some ⟨gb, 0, none⟩) nb cb) nb (nodesC b1)
  ne : ga ≠ gb

set_option maxRecDepth 400000 in
set_option maxHeartbeats 400000000 in
theorem c9 {F : Interp} {w : World} {A B : Option Addr} {c d : Nat} {l r : List Css.Node} (m asc : Bool) (h1 : F.told.answers w.tape) (h2 : Tabs w) (hN : Nd w w.heap.size A l) (hM : Nd w w.heap.size B r) :
    Calls Tryz.prog 9 #[.slice A l.length c, .slice B r.length d, .bool m, .bool asc] w (Yes w) := by
  have H13 : Hid (∀ W, w.grownBy W none → Calls Tryz.prog 13 #[] W fun e w' => e = .returned (.bool true) ∧ w.grownBy w' none) := Lib.hid fun W hg => (c13 (F := F) (by rw [hg.tape]; exact h1) (h2.free hg)).mono (by rintro e w' ⟨rfl, h⟩; exact ⟨rfl, grown_trans hg h⟩)
  have H10 : Hid (Calls Tryz.prog 10 #[.slice A l.length c] w fun e w' => ∃ b, e = .returned (.bool b) ∧ w.grownBy w' none ∧ (b = true → FitsL l)) := Lib.hid (c10 hN)
  have H10b : Hid (∀ W, w.grownBy W none → Calls Tryz.prog 10 #[.slice B r.length d] W fun e w' => ∃ b, e = .returned (.bool b) ∧ w.grownBy w' none ∧ (b = true → FitsL r)) := Lib.hid fun W hg => (c10 (Sl.more (Sl.free hM hg (Nat.le_refl _)) hg.size)).mono (by rintro e w' ⟨b, rfl, h, k⟩; exact ⟨b, rfl, grown_trans hg h, k⟩)
  have H11 : Hid (∀ W, w.grownBy W none → FitsL l → Calls Tryz.prog 11 #[.slice A l.length c, .bool false, .bool asc] W fun e w' => ∃ A' c' b, e = .returned (.tuple #[.slice A' (if b then l.length else 0) c', .bool b]) ∧ w.grownBy w' none ∧ (b = true → Good l asc ∧ w'.ownsRow w.heap.size 45 6 (.slice A' l.length c') l.length (nodesC (Css.setL false l)))) := Lib.hid fun W hg hf => (c11 (Sl.more (Sl.free hN hg (Nat.le_refl _)) hg.size) hf false asc).mono (by
    rintro e w' (⟨rfl, h⟩ | ⟨A', c', rfl, h, hgood, hnd, hown⟩)
    · exact ⟨none, 0, false, rfl, grown_trans hg h, fun e => by simp at e⟩
    · exact ⟨A', c', true, rfl, grown_trans hg h, fun _ => ⟨hgood, own_lower hown hg.size⟩⟩)
  have H11b : Hid (∀ W, w.grownBy W none → FitsL r → Calls Tryz.prog 11 #[.slice B r.length d, .bool false, .bool asc] W fun e w' => ∃ A' c' b, e = .returned (.tuple #[.slice A' (if b then r.length else 0) c', .bool b]) ∧ w.grownBy w' none ∧ W.grownBy w' none ∧ (b = true → Good r asc ∧ w'.ownsRow W.heap.size 45 6 (.slice A' r.length c') r.length (nodesC (Css.setL false r)))) := Lib.hid fun W hg hf => (c11 (Sl.more (Sl.free hM hg (Nat.le_refl _)) hg.size) hf false asc).mono (by
    rintro e w' (⟨rfl, h⟩ | ⟨A', c', rfl, h, hgood, hnd, hown⟩)
    · exact ⟨none, 0, false, rfl, grown_trans hg h, h, fun e => by simp at e⟩
    · exact ⟨A', c', true, rfl, grown_trans hg h, h, fun _ => ⟨hgood, hown⟩⟩)
  have H23 : Hid (∀ (W : World) (X : Option Addr) (cx n : Nat) (lx : List Css.Node) (ts : List Css.Tree), w.grownBy W none → Prep asc lx ts → lx.length = n → n ≤ cx → Nd W W.heap.size X lx → Calls Tryz.prog 23 #[.slice X n cx, .bool m, .bool asc] W fun e w' => ∃ s, e = .returned (.string s) ∧ W.grownBy w' none ∧ s.size ≤ 600000000 ∧ ValTo asc ts s) := Lib.hid fun W X cx n lx ts hg hp hl hc hn => by
    subst hl
    refine (c23 (F := F) (ws := m) (w := W) (A := X) (c := cx) (by rw [hg.tape]; exact h1) (h2.free hg) hp (chain_ok hp.chain hp.deep) hn hc).mono ?_
    rintro e w' ⟨s, rfl, hg2, hv⟩
    exact ⟨s, rfl, hg2, hv.1, hv⟩
  clear h1 h2 hN hM
  obtain ⟨i0, z0, hi0, hz0, hz1, hz2, hz3⟩ := info45
  have HI := Lib.hid (And.intro hi0 (And.intro hz0 (And.intro hz1 (And.intro hz2 hz3))))
  clear hi0 hz0 hz1 hz2 hz3
  have h06 : 0 < 6 := by omega
  go_enter Tryz.func9, Tryz.ntmps9
  go_wp2_with fail
  refine H10.out.mono ?_
  rintro e w1 ⟨b, rfl, hg1, hb⟩
  have G1 := Lib.hid hg1
  clear hg1
  cases b with
  | false =>
    clear hb
    go_wp2_with fail
    exact bodyPost_ret (v := .bool true) (by simp [results, Tryz.results9, go_sem]) rfl ⟨rfl, G1.out⟩
  | true =>
    have HF1 := Lib.hid (hb rfl)
    clear hb
    go_wp2_with fail
    refine (H10b.out _ G1.out).mono ?_
    rintro e w2 ⟨b, rfl, hg2, hb⟩
    have G2 := Lib.hid hg2
    clear hg2
    cases b with
    | false =>
      clear hb
      go_wp2_with fail
      exact bodyPost_ret (v := .bool true) (by simp [results, Tryz.results9, go_sem]) rfl ⟨rfl, G2.out⟩
    | true =>
      have HF2 := Lib.hid (hb rfl)
      clear hb
      go_wp2_with fail
      refine (H11.out _ G2.out HF1.out).mono ?_
      rintro e w3 ⟨A', c', b1, rfl, hg3, hf⟩
      have G3 := Lib.hid hg3
      clear hg3
      cases b1 with
      | false =>
        clear hf
        simp only [Bool.false_eq_true, if_false]
        go_wp2_with fail
        refine (H11b.out _ G3.out HF2.out).mono ?_
        rintro e w4 ⟨B', d', b2, rfl, hg4, hgx, hf⟩
        have G4 := Lib.hid hg4
        clear hg4 hgx hf
        cases b2
        all_goals
          simp only [Bool.false_eq_true, if_false, if_true]
          go_wp2_with fail
          refine (H13.out _ G4.out).mono ?_
          rintro e w9 ⟨rfl, hg9⟩
          have G9 := Lib.hid hg9
          clear hg9
          go_wp2_with fail
          exact bodyPost_ret (v := .bool true) (by simp [results, Tryz.results9, go_sem]) rfl ⟨rfl, G9.out⟩
      | true =>
        have HA := Lib.hid (hf rfl)
        clear hf
        simp only [if_true]
        go_wp2_with fail
        refine (H11b.out _ G3.out HF2.out).mono ?_
        rintro e w4 ⟨B', d', b2, rfl, hg4, hgx, hf⟩
        have G4 := Lib.hid hg4
        cases b2 with
        | false =>
          clear hf hg4 hgx HA
          simp only [Bool.false_eq_true, if_false]
          go_wp2_with fail
          refine (H13.out _ G4.out).mono ?_
          rintro e w9 ⟨rfl, hg9⟩
          have G9 := Lib.hid hg9
          clear hg9
          go_wp2_with fail
          exact bodyPost_ret (v := .bool true) (by simp [results, Tryz.results9, go_sem]) rfl ⟨rfl, G9.out⟩
        | true =>
          have hA := HA.out
          have hB := hf rfl
          have HG := Lib.hid (And.intro hA.1 hB.1)
          have hla := hA.1.len
          have hlb := hB.1.len
          simp only [if_true]
          by_cases ha0 : l.length = 0
          · have ha0' : ((l.length : Int) == 0) = true := beq_iff_eq.2 (by omega)
            clear hA hB HA hf hg4 hgx ha0
            go_wp2_with fail
            refine (H13.out _ G4.out).mono ?_
            rintro e w9 ⟨rfl, hg9⟩
            have G9 := Lib.hid hg9
            clear hg9
            go_wp2_with fail
            exact bodyPost_ret (v := .bool true) (by simp [results, Tryz.results9, go_sem]) rfl ⟨rfl, G9.out⟩
          · have ha0' : ((l.length : Int) == 0) = false := beq_eq_false_iff_ne.2 (by omega)
            by_cases hb0 : r.length = 0
            · have hb0' : ((r.length : Int) == 0) = true := beq_iff_eq.2 (by omega)
              clear hA hB HA hf hg4 hgx ha0 hb0
              go_wp2_with fail
              refine (H13.out _ G4.out).mono ?_
              rintro e w9 ⟨rfl, hg9⟩
              have G9 := Lib.hid hg9
              clear hg9
              go_wp2_with fail
              exact bodyPost_ret (v := .bool true) (by simp [results, Tryz.results9, go_sem]) rfl ⟨rfl, G9.out⟩
            · have hb0' : ((r.length : Int) == 0) = false := beq_eq_false_iff_ne.2 (by omega)
              by_cases hs : 1000 < l.length + r.length
              · have hs' : (1000 : Int) < (l.length : Int) + r.length := by omega
                clear hA hB HA hf hg4 hgx ha0 hb0 hs
                go_wp2_with fail
                refine (H13.out _ G4.out).mono ?_
                rintro e w9 ⟨rfl, hg9⟩
                have G9 := Lib.hid hg9
                clear hg9
                go_wp2_with fail
                exact bodyPost_ret (v := .bool true) (by simp [results, Tryz.results9, go_sem]) rfl ⟨rfl, G9.out⟩
              · have hs' : ¬ (1000 : Int) < (l.length : Int) + r.length := by omega
                obtain ⟨ga, rfl, hga⟩ := own_first hA.2 (by omega) h06
                obtain ⟨gb, rfl, hgb⟩ := own_first hB.2 (by omega) h06
                have hlt : ga < w3.heap.size := (hA.2.lt ga (by simp [Value.ownBlock])).2
                have hge : w3.heap.size ≤ gb := own_base hB.2 gb (by simp [Value.ownBlock])
                have hca := own_cap hA.2
                have hcb := own_cap hB.2
                have HT : Hid (Two w w4 asc l r (Css.setL false l) (Css.setL false r) ga gb c' d' l.length r.length) := Lib.hid ⟨hg4, setL_len false l, setL_len false r, own_free hA.2 hgx, own_lower hB.2 G3.out.size, by omega⟩
                have HL : Hid (l.length + r.length ≤ 1000 ∧ 0 < r.length) := Lib.hid ⟨by omega, by omega⟩
                clear hA hB HA hf hg4 hgx hga hgb hlt hge
                have HZ : Hid (∀ h : 0 < (Css.setL false l).length, ((Css.setL false l)[0]).depth = 0) := Lib.hid fun h => by
                  have hc := (HG.out.1.set false).chain
                  generalize Css.setL false l = a1 at h hc ⊢
                  cases a1 with
                  | nil => simp at h
                  | cons n t =>
                    obtain ⟨q1, q2, _, _⟩ := Css.chain_cons hc
                    show n.depth = 0
                    omega
                have HP : Hid (∀ e (he : e < (Css.setL false l).length), ((Css.setL false l)[e]).depth = 0 → (∀ i (hi : i < (Css.setL false l).length), e < i → 0 < ((Css.setL false l)[i]).depth) → ∃ tsa tsb ts, Prep asc (Css.setAfter (Css.setL false l) e false) tsa ∧ Prep asc (Css.setBefore (Css.setL false r)) tsb ∧ Prep asc (Css.setAfter (Css.setL false l) e true ++ Css.setBefore (Css.setL false r)) ts ∧ Css.bareL ts = Css.bareL tsa ++ Css.bareL tsb) := Lib.hid fun e he h0 h1 => pieces_prep HG.out.1 HG.out.2 HL.out.2 HL.out.1 he h0 h1
                have HD : Hid (∀ n ∈ Css.setL false l, 0 ≤ n.depth) := Lib.hid (Css.chain_depth (HG.out.1.set false).chain)
                generalize Css.setL false l = a1 at HT HZ HP HD
                generalize Css.setL false r = b1 at HT HP
                generalize hna : l.length = na at *
                generalize hnb : r.length = nb at *
                obtain ⟨n1, hn1⟩ : ∃ n1, na = n1 + 1 := ⟨na - 1, by omega⟩
                subst hn1
                clear ha0 hb0 hs ha0' hs'
                have ha0' : ((n1 : Int) + 1 == 0) = false := beq_eq_false_iff_ne.2 (by omega)
                have hs' : ¬ (1000 : Int) < (n1 : Int) + 1 + nb := by have := HL.out.1; omega
                have hz0 : (n1 : Int) + 1 - 1 = (n1 : Int) := by omega
                have hz2 : (n1 : Int) ≤ 1000 := by omega
                have hz3 : (nb : Int) ≤ 1000 := by omega
                go_upto_region 8 with (fail)
                go_loopg [11] n1 (fun gk v11 wr => ∃ e : Nat, e ≤ n1 ∧ gk = e ∧ v11 = .int .i64 e ∧ wr = w4 ∧ Hid (∀ i (hi : i < a1.length), e < i → 0 < (a1[i]).depth))
                case atStart => exact ⟨n1, Nat.le_refl _, rfl, rfl, rfl, Lib.hid fun i hi h => by have := HT.out.la; omega⟩
                case round =>
                  obtain ⟨e, he, hgk, rfl, rfl, HE⟩ := hrel
                  obtain rfl := hgk.symm
                  have hea : e < a1.length := by have := HT.out.la; omega
                  obtain ⟨p0, p1, p2, p3, p4, p5⟩ := own_nodeN HT.out.owna HT.out.la hea
                  have hei : (e : Int) < (n1 : Int) + 1 := by omega
                  have hei0 : (0 : Int) ≤ e := by omega
                  by_cases hdp : 0 < (a1[e]).depth
                  · obtain ⟨e1, rfl⟩ : ∃ e1, e = e1 + 1 := ⟨e - 1, by
                      rcases Nat.eq_zero_or_pos e with h | h
                      · subst h; have := HZ.out (by omega); omega
                      · omega⟩
                    have HE2 : Hid (∀ i (hi : i < a1.length), e1 < i → 0 < (a1[i]).depth) := Lib.hid fun i hi h => by
                      rcases Nat.lt_or_ge (e1 + 1) i with h' | h'
                      · exact HE.out i hi h'
                      · have : i = e1 + 1 := by omega
                        subst this
                        exact hdp
                    generalize a1[e1 + 1] = n at p0 p1 p2 p3 p4 p5 hdp
                    go_wp2_with fail
                    go_roundg e1
                    case measure => omega
                    case rel => exact ⟨e1, by omega, rfl, by go_num, rfl, HE2⟩
                  · have HQ := Lib.hid (HP.out e hea (by have := HD.out _ (List.getElem_mem hea); omega) HE.out)
                    generalize a1[e] = n at p0 p1 p2 p3 p4 p5 hdp
                    go_upto_region 10 with (fail)
                    have HN : Hid (∀ W2, W2 = (wr.setCell ⟨ga, e * 6 + 5, none⟩ (.bool false)).setCell ⟨gb, 4, none⟩ (.bool false) → w.grownBy W2 none ∧ W2.ownsRow w.heap.size 45 6 (.slice (some ⟨ga, 0, none⟩) (n1 + 1) c') (n1 + 1) (nodesC (Css.setAfter a1 e false)) ∧ W2.ownsRow w.heap.size 45 6 (.slice (some ⟨gb, 0, none⟩) nb d') nb (nodesC (Css.setBefore b1))) := Lib.hid fun W2 hw2 => by
                      have s1 := HT.out.owna.stored (e * 6 + 5) (.bool false)
                      rw [nodesC_setAfter hea] at s1
                      have hb2 := own_far HT.out.ownb s1.2 (Ne.symm HT.out.ne)
                      have s2 := hb2.stored 4 (.bool false)
                      rw [nodesC_setBefore (by have := HT.out.lb; have := HL.out.2; omega)] at s2
                      have ha2 := own_far s1.1 s2.2 HT.out.ne
                      have q1 := own_store (n := 0) (c := 0) (base := 0) HT.out.grown s1.2 (own_base HT.out.owna ga (by simp [Value.ownBlock]))
                      have q2 := own_store (n := 0) (c := 0) (base := 0) q1 s2.2 (own_base HT.out.ownb gb (by simp [Value.ownBlock]))
                      rw [hw2]
                      exact ⟨q2, ha2, s2.1⟩
                    have z1 := HT.out.owna.frozenAt (e * 6 + 5)
                    have z2 := HT.out.ownb.frozenAt 4
                    have hnbp : 0 < nb := HL.out.2
                    obtain ⟨o0, o1, o2, o3, o4, o5⟩ := own_nodeN HT.out.ownb HT.out.lb (k := 0) (by have := HT.out.lb; omega)
                    generalize b1[0]'(by have := HT.out.lb; omega) = nbn at o0 o1 o2 o3 o4 o5
                    simp only [Nat.zero_mul, Nat.zero_add] at o0 o1 o2 o3 o4 o5
                    have hnbi : (0 : Int) < nb := by omega
                    have hgne : ga ≠ gb := HT.out.ne
                    have hgne2 : gb ≠ ga := Ne.symm hgne
                    clear p0 p1 p2 p3 p4 o0 o1 o2 o3 o5
                    have HLN := Lib.hid (And.intro HT.out.la HT.out.lb)
                    clear HT hnbp
                    go_upto_region 11 with (fail)
                    generalize hW2 : (wr.setCell ⟨ga, e * 6 + 5, none⟩ (.bool false)).setCell ⟨gb, 4, none⟩ (.bool false) = W2
                    obtain ⟨hg2, hoa2, hob2⟩ := HN.out W2 hW2.symm
                    have H2 := Lib.hid (And.intro hg2 (And.intro hoa2 hob2))
                    have hga2 : ga < W2.heap.size := (hoa2.lt ga (by simp [Value.ownBlock])).2
                    have hgb2 : gb < W2.heap.size := (hob2.lt gb (by simp [Value.ownBlock])).2
                    have HSA : Hid (Sl W2 W2.heap.size 6 (some ⟨ga, 0, none⟩) (n1 + 1) (nodesC (Css.setAfter a1 e false))) := Lib.hid (Sl.of_own hoa2)
                    have HSB : Hid (Sl W2 W2.heap.size 6 (some ⟨gb, 0, none⟩) nb (nodesC (Css.setBefore b1))) := Lib.hid (Sl.of_own hob2)
                    have HNA : Hid (∀ u ∈ nodesC (Css.setAfter a1 e false), u.oneCell' = true) := Lib.hid (nodesC_one _)
                    have HNB : Hid (∀ u ∈ nodesC (Css.setBefore b1), u.oneCell' = true) := Lib.hid (nodesC_one _)
                    have HO0 := Lib.hid (World.ownsRow_nil W2 W2.heap.size 45 6)
                    have HB2 := Lib.hid (And.intro hga2 hgb2)
                    clear hW2 hg2 hoa2 hob2 HN z1 z2 p5 o4 hga2 hgb2
                    have h63 : 0 + (n1 + 1) ≤ maxLen := by unfold maxLen; omega
                    have h47 : (0 + (n1 + 1)) * 48 ≤ 140737488355328 := by omega
                    have h63b : n1 + 1 + nb ≤ maxLen := by unfold maxLen; omega
                    have h47b : (n1 + 1 + nb) * 48 ≤ 140737488355328 := by omega
                    go_upto_region 12 with (first
                      | (at_builtin; refine wpList_append_src rfl W2.heap.size _ (.tmp 79) 22 22 45 i0 z0 6 48 rfl Tryz.underlying22 HI.out.1 HI.out.2.1 HI.out.2.2.1 HI.out.2.2.2.1 HI.out.2.2.2.2 h06 (.slice none 0 0) 0 [] rfl _ (n1 + 1) (nodesC (Css.setAfter a1 e false)) rfl (Src.slice Tryz.underlying22 HSA.out HNA.out) HO0.out (Nat.le_refl _) h63 h47 ?_; intro v8 w8 hown hgr hat; have HG8 : Hid (W2.grownBy w8 none) := Lib.hid hgr; simp only [Nat.zero_add, List.nil_append] at hown; have HO8 := Lib.hid hown; have HSB8 := Lib.hid (Sl.free HSB.out HG8.out (Nat.le_refl _)); clear hown hgr hat)
                      | (at_builtin; refine wpList_append_src rfl W2.heap.size (.tmp 80) (.tmp 81) 22 22 45 i0 z0 6 48 rfl Tryz.underlying22 HI.out.1 HI.out.2.1 HI.out.2.2.1 HI.out.2.2.2.1 HI.out.2.2.2.2 h06 v8 (n1 + 1) (nodesC (Css.setAfter a1 e false)) rfl _ nb (nodesC (Css.setBefore b1)) rfl (Src.slice Tryz.underlying22 HSB8.out HNB.out) HO8.out HG8.out.size h63b h47b ?_; intro v9 w9 hown hgr hat; have HG9 := Lib.hid (grown_own (base := W2.heap.size) HG8.out hgr (own_base HO8.out)); obtain ⟨A9, c9, hv9⟩ := own_slice' hown; subst hv9; obtain ⟨gc, hA9, _⟩ := own_first hown (by omega) h06; subst hA9; have HO9 := Lib.hid hown; clear hown hgr hat))
                    have hea2 : e < (Css.setAfter a1 e false ++ Css.setBefore b1).length := by rw [List.length_append, setAfter_len]; omega
                    have hl9 : (Css.setAfter a1 e false ++ Css.setBefore b1).length = n1 + 1 + nb := by rw [List.length_append, setAfter_len, setBefore_len, HLN.out.1, HLN.out.2]
                    have ho9 : w9.ownsRow W2.heap.size 45 6 (.slice (some ⟨gc, 0, none⟩) (n1 + 1 + nb) c9) (n1 + 1 + nb) (nodesC (Css.setAfter a1 e false ++ Css.setBefore b1)) := by rw [nodesC_append]; exact HO9.out
                    obtain ⟨r0, r1, r2, r3, r4, r5⟩ := own_nodeN ho9 hl9 hea2
                    generalize (Css.setAfter a1 e false ++ Css.setBefore b1)[e]'hea2 = nn at r0 r1 r2 r3 r4 r5
                    have hgc : W2.heap.size ≤ gc := own_base ho9 gc (by simp [Value.ownBlock])
                    have hc9 := own_cap ho9
                    have HN4 : Hid (∀ W4, W4 = w9.setCell ⟨gc, e * 6 + 5, none⟩ (.bool true) → w.grownBy W4 none ∧ Nd W4 W4.heap.size (some ⟨ga, 0, none⟩) (Css.setAfter a1 e false) ∧ Nd W4 W4.heap.size (some ⟨gb, 0, none⟩) (Css.setBefore b1) ∧ Nd W4 W4.heap.size (some ⟨gc, 0, none⟩) (Css.setAfter a1 e true ++ Css.setBefore b1)) := Lib.hid fun W4 hw4 => by
                      have s1 := ho9.stored (e * 6 + 5) (.bool true)
                      rw [nodesC_setAfter hea2, setAfter_append hea] at s1
                      have q1 := own_store (n := 0) (c := 0) (base := 0) (HG9.out) s1.2 hgc
                      have x1 := own_far (own_free H2.out.2.1 HG9.out) s1.2 (by have := HB2.out.1; omega)
                      have x2 := own_far (own_free H2.out.2.2 HG9.out) s1.2 (by have := HB2.out.2; omega)
                      rw [hw4]
                      refine ⟨grown_trans H2.out.1 q1, ?_, ?_, ?_⟩
                      · exact Sl.of_own (c := c') (by rw [setAfter_len, HLN.out.1]; exact x1)
                      · exact Sl.of_own (c := d') (by rw [setBefore_len, HLN.out.2]; exact x2)
                      · refine Sl.of_own (base := W2.heap.size) (e := 45) (c := c9) ?_
                        rw [List.length_append, setAfter_len, setBefore_len, HLN.out.1, HLN.out.2]
                        exact s1.1
                    have z3 := ho9.frozenAt (e * 6 + 5)
                    have hec : (e : Int) < (n1 : Int) + 1 + nb := by omega
                    clear r0 r1 r2 r3 r4 HO9 ho9 HSB HSA HO0 HB2 H2
                    go_upto_region 13 with (fail)
                    generalize hW4 : w9.setCell ⟨gc, e * 6 + 5, none⟩ (.bool true) = W4
                    obtain ⟨hg4, hn1', hn2', hn3'⟩ := HN4.out W4 hW4.symm
                    have H4 := Lib.hid (And.intro hg4 (And.intro hn1' (And.intro hn2' hn3')))
                    clear hW4 hg4 hn1' hn2' hn3' HN4 r5 z3
                    obtain ⟨tsa, tsb, ts, hpa, hpb, hpc, hbare⟩ := HQ.out
                    have H23a : Hid (Calls Tryz.prog 23 #[.slice (some ⟨ga, 0, none⟩) (n1 + 1) c', .bool m, .bool asc] W4 fun e w' => ∃ s, e = .returned (.string s) ∧ W4.grownBy w' none ∧ s.size ≤ 600000000 ∧ ValTo asc tsa s) := Lib.hid (H23.out W4 _ _ _ _ tsa H4.out.1 hpa (by rw [setAfter_len]; exact HLN.out.1) hca H4.out.2.1)
                    have H23b : Hid (∀ W, W4.grownBy W none → Calls Tryz.prog 23 #[.slice (some ⟨gb, 0, none⟩) nb d', .bool m, .bool asc] W fun e w' => ∃ s, e = .returned (.string s) ∧ W.grownBy w' none ∧ s.size ≤ 600000000 ∧ ValTo asc tsb s) := Lib.hid fun W hgW => H23.out W _ _ _ _ tsb (grown_trans H4.out.1 hgW) hpb (by rw [setBefore_len]; exact HLN.out.2) hcb (Sl.more (Sl.free H4.out.2.2.1 hgW (Nat.le_refl _)) hgW.size)
                    have H23c : Hid (∀ W, W4.grownBy W none → Calls Tryz.prog 23 #[.slice (some ⟨gc, 0, none⟩) (n1 + 1 + nb) c9, .bool m, .bool asc] W fun e w' => ∃ s, e = .returned (.string s) ∧ W.grownBy w' none ∧ s.size ≤ 600000000 ∧ ValTo asc ts s) := Lib.hid fun W hgW => H23.out W _ _ _ _ ts (grown_trans H4.out.1 hgW) hpc (by rw [List.length_append, setAfter_len, setBefore_len, HLN.out.1, HLN.out.2]) hc9 (Sl.more (Sl.free H4.out.2.2.2 hgW (Nat.le_refl _)) hgW.size)
                    have H20 : Hid (∀ x y z W, ValTo asc tsa x → ValTo asc tsb y → ValTo asc ts z → Calls Tryz.prog 20 #[.string (oneTx z), .string (twoTx x y)] W (Yes W)) := Lib.hid fun x y z W hx hy hz => pieces_yes hx hy hz hpa hpb hpc hbare W
                    clear hpa hpb hpc hbare H23 HQ HE HL HZ HP HD
                    unfold oneTx twoTx at H20
                    go_wp2_with fail
                    refine H23a.out.mono ?_
                    rintro e w10 ⟨x, rfl, hg10, hx, hvx⟩
                    have H10c := Lib.hid (And.intro hg10 hvx)
                    clear hg10 hvx
                    go_wp2_with fail
                    refine (H23b.out _ H10c.out.1).mono ?_
                    rintro e w11 ⟨y, rfl, hg11, hy, hvy⟩
                    have H11c := Lib.hid (And.intro (grown_trans H10c.out.1 hg11) hvy)
                    clear hg11 hvy
                    go_wp2_with fail
                    refine (H23c.out _ H11c.out.1).mono ?_
                    rintro e w12 ⟨z, rfl, hg12, hz, hvz⟩
                    have H12c := Lib.hid (And.intro (grown_trans H11c.out.1 hg12) hvz)
                    clear hg12 hvz
                    have hxi : (x.size : Int) ≤ 600000000 := by omega
                    have hyi : (y.size : Int) ≤ 600000000 := by omega
                    have hzi : (z.size : Int) ≤ 600000000 := by omega
                    go_wp2_with fail
                    refine (H20.out x y z _ H10c.out.2 H11c.out.2 H12c.out.2).mono ?_
                    rintro e w13 ⟨rfl, hg13⟩
                    have G13 := Lib.hid (grown_trans H4.out.1 (grown_trans H12c.out.1 hg13))
                    clear hg13
                    go_wp2_with fail
                    refine (H13.out _ G13.out).mono ?_
                    rintro e w14 ⟨rfl, hg14⟩
                    have G14 := Lib.hid hg14
                    clear hg14
                    go_wp2_with fail
                    exact bodyPost_ret (v := .bool true) (by simp [results, Tryz.results9, go_sem]) rfl ⟨rfl, G14.out⟩
end Go.Proofs.YtkfdcbdlcipmfaaGreatFmt
