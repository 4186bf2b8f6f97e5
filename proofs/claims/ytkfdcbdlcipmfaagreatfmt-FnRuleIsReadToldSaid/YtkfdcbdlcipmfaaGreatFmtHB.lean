/- Nodes as the statements hand them on are trees that may be printed; a text that is read as items is told so. -/
import Derived.Test.YtkfdcbdlcipmfaaGreatFmtGA
import Derived.Test.YtkfdcbdlcipmfaaGreatFmtGO
import Derived.Test.YtkfdcbdlcipmfaaGreatFmtGQ
import Derived.Test.YtkfdcbdlcipmfaaGreatFmtGR
import Derived.Test.YtkfdcbdlcipmfaaGreatFmtGZ
set_option linter.unusedVariables false
set_option linter.unusedSimpArgs false
namespace Go.Proofs.YtkfdcbdlcipmfaaGreatFmt
open Go.RowKit Go.Extern.Stop Go.Stop Go.Extern

theorem textSum_cons (n : Css.Node) (l : List Css.Node) : textSum (n :: l) = n.text.length + textSum l := by simp [textSum]
theorem textSum_append (a b : List Css.Node) : textSum (a ++ b) = textSum a + textSum b := by simp [textSum]
theorem cost_parses {d : Int} {l r : List Css.Node} {ts : List Css.Tree} (p : Css.Parses d l ts r) : costL ts + (500001 * r.length + 8 * textSum r) ≤ 500001 * l.length + 8 * textSum l + 1 ∧ cntL ts + r.length = l.length := by
  induction p with
  | nil => simp [costL, cntL, textSum]
  | stop h => simp only [costL, cntL]; omega
  | leaf h ho p ih => simp only [costL, costT, cntL, cntT, List.length_cons, textSum_cons]; omega
  | node h ho p q ih1 ih2 => simp only [costL, costT, cntL, cntT, List.length_cons, textSum_cons]; omega
theorem textSum_set (all : Bool) : ∀ l : List Css.Node, textSum (Css.setL all l) = textSum l
  | [] => rfl
  | n :: r => by simp only [Css.setL, textSum_cons, textSum_set all r]
theorem textSum_sim : ∀ {l l' : List Css.Node}, Css.Sim l l' → textSum l = textSum l' ∧ l.length = l'.length
  | [], [], _ => ⟨rfl, rfl⟩
  | n :: l, m :: l', h => by
    have h2 := textSum_sim (show Css.Sim l l' from h.2)
    have h1 : n.text = m.text := h.1.2.2.2
    rw [textSum_cons, textSum_cons, List.length_cons, List.length_cons, h1]
    omega
  | [], _ :: _, h => absurd h (by simp [Css.Sim])
  | _ :: _, [], h => absurd h (by simp [Css.Sim])
structure Prep (asc : Bool) (l : List Css.Node) (ts : List Css.Tree) : Prop where
  tr : Css.IsTrees asc l ts
  chain : Css.chain 0 l = true
  len : l.length ≤ 1000
  deep : ∀ n ∈ l, n.depth ≤ 64
  sum : textSum l ≤ 2097152
theorem Prep.cost {asc : Bool} {l : List Css.Node} {ts : List Css.Tree} (h : Prep asc l ts) : costL ts ≤ 520000000 ∧ cntL ts ≤ 1000 := by
  have := cost_parses h.tr.parses
  have := h.len
  have := h.sum
  simp [textSum] at *
  omega
theorem Prep.isDeep {asc : Bool} {l : List Css.Node} {ts : List Css.Tree} (h : Prep asc l ts) : Deep l := ⟨h.chain, h.len, h.deep⟩
theorem Prep.items {asc : Bool} {l : List Css.Node} {ts : List Css.Tree} (h : Prep asc l ts) : itemsN l = Css.itemsL none ts := h.tr.items
theorem lowA_low {asc : Bool} {t : List UInt8} (h : lowA asc t = true) : asc = true → Css.low t = true := by
  rintro rfl
  simpa [lowA] using h
theorem Good.prep {l : List Css.Node} {asc : Bool} (h : Good l asc) (all : Bool) : ∃ ts, Prep asc (Css.setL all l) ts := by
  obtain ⟨ts, p, w, i⟩ := Css.set_trees (all := all) (ascii := asc) h.chain (fun ha n hn => lowA_low (h.low n hn) ha)
  have hd := h.set all
  exact ⟨ts, ⟨p, w, i⟩, hd.chain, hd.len, hd.deep, by rw [textSum_set]; have := h.sum; omega⟩
theorem Prep.after {asc : Bool} {l : List Css.Node} {ts : List Css.Tree} (h : Prep asc (Css.setL true l) ts) : ts = [] ∨ Css.lastAfter (Css.headBefore ts) ts = true :=
  Css.parses_after h.tr.parses (Css.set_after l) _
theorem named_of {asc : Bool} {t : List UInt8} (h : namedB asc t = true) : t.length ≤ 1048576 ∧ Css.isName t = true ∧ (asc = true → Css.low t = true) := by
  simp only [namedB, Bool.and_eq_true, decide_eq_true_eq] at h
  exact ⟨h.1, h.2.1, lowA_low h.2.2⟩

theorem c17_told {s : ByteArray} {its : List Css.Item} (h : Css.Told s.data.toList its) (hs : s.size ≤ 2147483648) (hne : 0 < its.length) {w : World} {base : Nat} {A : Option Addr} {c : Nat} (HI : w.ownsRow base 34 4 (.slice A its.length c) its.length (itemsC its)) (sp : Bool) :
    Calls Tryz.prog 17 #[.string s, .slice A its.length c, .bool sp] w (Yes w) :=
  c17 s its sp w base A c HI hne hs h.plain h.shut h.bare _ rfl h.items h.sfx
theorem c20_told {s1 s2 : ByteArray} {its : List Css.Item} (h1 : Css.Told s1.data.toList its) (h2 : Css.Told s2.data.toList its) (hk : ∀ x ∈ its, x.kind ≠ 37) (hs1 : s1.size ≤ 2147483648) (hs2 : s2.size ≤ 2147483648) (hne : 0 < its.length) (w : World) :
    Calls Tryz.prog 20 #[.string s1, .string s2] w (Yes w) := by
  have l1 := Css.areIt_length h1.items
  have l2 := Css.areIt_length h2.items
  refine c20 s1 s2 its.length hne w hs1 h1.plain h1.shut h1.bare hs2 h2.plain h2.shut h2.bare _ _ rfl rfl l1 l2 fun k k1 k2 => ?_
  have hi : k < its.length := by omega
  exact twin_of h1.plain h2.plain (h1.sfx _ (List.getElem_mem _)) (h2.sfx _ (List.getElem_mem _)) (Css.areIt_get h1.items k k1 hi) (Css.areIt_get h2.items k k2 hi) (hk _ (List.getElem_mem _)) hs1 hs2
def AtTo (asc m : Bool) (name : List UInt8) (ts : List Css.Tree) (s : ByteArray) : Prop :=
  s.size ≤ 600000000 ∧ ∃ body, Css.PL asc (Css.headBefore ts) ts body ∧ Css.Asc asc body ∧ s.data.toList = Css.enc (Css.atText asc name ts body (Css.nl m))
def DeclTo (asc m : Bool) (key : List UInt8) (ts : List Css.Tree) (s : ByteArray) : Prop :=
  s.size ≤ 600000000 ∧ ∃ body, Css.PL asc (Css.headBefore ts) ts body ∧ Css.Asc asc body ∧ s.data.toList = Css.enc (Css.declText asc key body (59 :: Css.nl m))
def ImpTo (asc m : Bool) (key : List UInt8) (ts : List Css.Tree) (s : ByteArray) : Prop :=
  s.size ≤ 600000000 ∧ ∃ body, Css.PL asc (Css.headBefore ts) ts body ∧ Css.Asc asc body ∧ s.data.toList = Css.enc (Css.declText asc key body (33 :: (Css.impCodes ++ 59 :: Css.nl m)))
def RuleTo (asc m : Bool) (key : List UInt8) (ts1 ts2 : List Css.Tree) (s : ByteArray) : Prop :=
  s.size ≤ 1200000000 ∧ ∃ body1 body2, Css.PL asc (Css.headBefore ts1) ts1 body1 ∧ Css.Asc asc body1 ∧ Css.PL asc (Css.headBefore ts2) ts2 body2 ∧ Css.Asc asc body2 ∧ s.data.toList = Css.enc (Css.ruleText asc (Css.gapOf m ts1) (Css.nlOf m) (Css.endOf m) key body1 body2)
theorem AtTo.told {asc m : Bool} {name : List UInt8} {l : List Css.Node} {ts : List Css.Tree} {s : ByteArray} (h : AtTo asc m name ts s) (hp : Prep asc l ts) (hn : namedB asc name = true) : Css.Told s.data.toList (atI name l) := by
  obtain ⟨_, body, hb, _, he⟩ := h
  obtain ⟨_, h1, h2⟩ := named_of hn
  have := Css.at_told (m := m) h1 h2 hp.tr.wl hb
  rw [he]
  unfold atI
  rw [hp.items]
  simpa [Css.atItems] using this
theorem DeclTo.told {asc m : Bool} {key : List UInt8} {l : List Css.Node} {ts : List Css.Tree} {s : ByteArray} (h : DeclTo asc m key ts s) (hp : Prep asc l ts) (hn : namedB asc key = true) : Css.Told s.data.toList (declI key l) := by
  obtain ⟨_, body, hb, _, he⟩ := h
  obtain ⟨_, h1, h2⟩ := named_of hn
  have := Css.decl_told (m := m) h1 h2 hp.tr.wl hb
  rw [he]
  unfold declI
  rw [hp.items]
  simpa [Css.declItems] using this
def impI (key : List UInt8) (l : List Css.Node) : List Css.Item := [⟨29, 0, key, -1⟩, Css.colon] ++ itemsN l ++ [Css.bang, ⟨29, 0, Css.impText, -1⟩, Css.semi]
theorem ImpTo.told {asc m : Bool} {key : List UInt8} {l : List Css.Node} {ts : List Css.Tree} {s : ByteArray} (h : ImpTo asc m key ts s) (hp : Prep asc l ts) (hn : namedB asc key = true) (ha : ts = [] ∨ Css.lastAfter (Css.headBefore ts) ts = true) : Css.Told s.data.toList (impI key l) := by
  obtain ⟨_, body, hb, _, he⟩ := h
  obtain ⟨_, h1, h2⟩ := named_of hn
  have := Css.imp_told (m := m) h1 h2 hp.tr.wl hb ha
  rw [he]
  unfold impI
  rw [hp.items]
  simpa [Css.declItems] using this
def ruleI (m : Bool) (key : List UInt8) (l1 l2 : List Css.Node) : List Css.Item := itemsN l1 ++ [Css.brace] ++ ([⟨29, 0, key, -1⟩, Css.colon] ++ itemsN l2 ++ (if m then [] else [Css.semi])) ++ [Css.unbrace]
theorem RuleTo.told {asc m : Bool} {key : List UInt8} {l1 l2 : List Css.Node} {ts1 ts2 : List Css.Tree} {s : ByteArray} (h : RuleTo asc m key ts1 ts2 s) (hp1 : Prep asc l1 ts1) (hp2 : Prep asc l2 ts2) (hn : namedB asc key = true) (ha : ts1 = [] ∨ Css.lastAfter (Css.headBefore ts1) ts1 = true) : Css.Told s.data.toList (ruleI m key l1 l2) := by
  obtain ⟨_, body1, body2, hb1, _, hb2, _, he⟩ := h
  obtain ⟨_, h1, h2⟩ := named_of hn
  have := Css.rule_told (m := m) h1 h2 hp1.tr.wl hb1 hp2.tr.wl hb2 ha
  rw [he]
  unfold ruleI
  rw [hp1.items, hp2.items]
  cases m <;> simpa [Css.declItems, Css.endIts] using this
end Go.Proofs.YtkfdcbdlcipmfaaGreatFmt
