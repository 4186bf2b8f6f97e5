/- What the thin package makes of nodes: trees of tokens. At most 1000 nodes, at most 64 deep. -/
import Derived.Test.YtkfdcbdlcipmfaaGreatFmtGA
import Derived.Test.YtkfdcbdlcipmfaaGreatFmtGO
import Derived.Test.YtkfdcbdlcipmfaaGreatFmtGP
import Derived.Test.YtkfdcbdlcipmfaaGreatFmtGJ
set_option linter.unusedVariables false
set_option linter.unusedSimpArgs false
namespace Go.Proofs.YtkfdcbdlcipmfaaGreatFmt
open Go.RowKit

theorem info105 : ∃ i z, Tryz.prog.info? 105 = some i ∧ i.zero = some z ∧ i.size = 7 ∧ i.bytes = 40 ∧ z.cells.size = 7 := by
  have h : (Tryz.prog.info? 105).map (fun i => (i.zero.map (·.cells.size), i.size, i.bytes)) = some (some 7, 7, 40) := by kernel_rfl
  obtain ⟨i, hi, hh⟩ := Option.map_eq_some_iff.1 h
  simp only [Prod.mk.injEq] at hh
  obtain ⟨z, hz, hzs⟩ := Option.map_eq_some_iff.1 hh.1
  exact ⟨i, z, hi, hz, hh.2.1, hh.2.2, hzs⟩
theorem sl_cut {w : World} {B size n : Nat} {A : Option Addr} {xs : List Value} (h : Sl w B size A n xs) {k cap : Nat} (hk : k ≤ n) (hc : n ≤ cap) :
    Sl w B size (if cap = k then A else A.map (·.add (k * size))) (n - k) (xs.drop (k * size)) := by
  refine ⟨by rw [List.length_drop, h.1, Nat.sub_mul], fun hn => ?_⟩
  obtain ⟨ad, rfl, hb, hcell⟩ := h.2 (by omega)
  rw [if_neg (by omega)]
  refine ⟨ad.add (k * size), rfl, by rw [block_of_add]; exact hb, fun j u hu => ?_⟩
  rw [add_of_add]
  exact hcell _ u (by rw [← hu, List.getElem?_drop])
theorem nodesC_drop (l : List Css.Node) (k : Nat) (hk : k ≤ l.length) : nodesC (l.drop k) = (nodesC l).drop (k * 6) := by
  have h : l = l.take k ++ l.drop k := (List.take_append_drop k l).symm
  have h2 : nodesC l = nodesC (l.take k) ++ nodesC (l.drop k) := by
    unfold nodesC
    rw [← List.flatMap_append, List.take_append_drop]
  have h3 : (nodesC (l.take k)).length = k * 6 := by
    have := flat_length nodeCells 6 nodeCells_length (l.take k)
    rw [List.length_take, Nat.min_eq_left hk] at this
    exact this
  rw [h2, ← h3, List.drop_left]
theorem Nd.cut {w : World} {B : Nat} {A : Option Addr} {l : List Css.Node} (h : Nd w B A l) {k cap : Nat} (hk : k ≤ l.length) (hc : l.length ≤ cap) : Nd w B (if cap = k then A else A.map (·.add (k * 6))) (l.drop k) := by
  have := sl_cut h hk hc
  unfold Nd
  rw [nodesC_drop l k hk, List.length_drop]
  exact this
def Tokable (n : Css.Node) : Prop := 0 ≤ n.kind ∧ n.kind ≤ 255 ∧ 0 ≤ n.depth ∧ n.depth ≤ 64
theorem kind_ok {n : Css.Node} (h : Css.isNode n = true) : 0 ≤ n.kind ∧ n.kind ≤ 255 := by
  rcases Css.form h with ⟨k, _⟩ | ⟨k, _⟩ | ⟨k, _⟩ | ⟨k, _, _⟩ | ⟨k, _⟩ | ⟨k, _⟩ | ⟨k, _⟩ | ⟨k, _, _, _, _, _⟩ | ⟨k, _⟩
  case sign =>
    simp only [Css.isSign, List.contains_eq_mem, decide_eq_true_eq] at k
    simp at k
    omega
  all_goals omega
theorem chain_ok : ∀ {l : List Css.Node} {m : Int}, Css.chain m l = true → (∀ n ∈ l, n.depth ≤ 64) → ∀ n ∈ l, Tokable n
  | n :: r, m, h, hd, u, hu => by
    obtain ⟨c1, c2, c3, c4⟩ := Css.chain_cons h
    rcases List.mem_cons.1 hu with rfl | hu
    · exact ⟨(kind_ok c3).1, (kind_ok c3).2, c1, hd _ (by simp)⟩
    · exact chain_ok c4 (fun v hv => hd v (by simp [hv])) u hu
def Fresh (w w' : World) (v : Value) (b : Nat) : Prop := w.heap.size ≤ b ∧ b < w'.heap.size ∧ v.ownBlock ≠ some b
def TokR (l : List Css.Node) (d : Int) (w : World) (e : Ending) (w' : World) : Prop :=
  ∃ A' c' ts r, e = .returned (.tuple #[.slice A' ts.length c', .int .i64 ((l.length - r.length : Nat) : Int)]) ∧ w.grownBy w' none ∧ Css.Parses d l ts r ∧ TkL w' (fun b => w.heap.size ≤ b ∧ b < w'.heap.size) A' ts
def TokC (N : Nat) : Prop := ∀ (w : World) (A : Option Addr) (c : Nat) (l : List Css.Node) (d : Int), Nd w w.heap.size A l → l.length ≤ c → l.length < N → l.length ≤ 1000 → (∀ n ∈ l, Tokable n) → 0 ≤ d → d ≤ 100 →
  Calls Tryz.prog 33 #[.slice A l.length c, .int .i64 d] w (TokR l d w)
structure TokW (w wr : World) (l : List Css.Node) (d : Int) (k : Nat) (v : Value) (ts : List Css.Tree) (cs : List (List Value)) : Prop where
  grown : w.grownBy wr none
  own : wr.ownsRow w.heap.size 105 7 v ts.length cs.flatten
  forest : TkF wr (Fresh w wr v) ts cs
  len : ts.length ≤ k
  cont : ∀ ts' r, Css.Parses d (l.drop k) ts' r → Css.Parses d l (ts ++ ts') r
theorem Fresh.more {w wr w' : World} {v : Value} {b : Nat} (h : Fresh w wr v b) (hg : wr.grownBy w' none) : Fresh w w' v b ∧ w'.heap[b]? = wr.heap[b]? :=
  ⟨⟨h.1, Nat.lt_of_lt_of_le h.2.1 hg.size, h.2.2⟩, hg.block b h.2.1 (by simp)⟩
theorem TokW.free {w wr w' : World} {l : List Css.Node} {d : Int} {k : Nat} {v : Value} {ts : List Css.Tree} {cs : List (List Value)} (h : TokW w wr l d k v ts cs) (hg : wr.grownBy w' none) : TokW w w' l d k v ts cs :=
  ⟨grown_trans h.grown hg, own_free h.own hg, TkF.keep (fun b hb => Fresh.more hb hg) _ _ h.forest, h.len, h.cont⟩
theorem TokW.add {w wr w' : World} {l : List Css.Node} {d : Int} {k k' : Nat} {v v' : Value} {ts : List Css.Tree} {cs : List (List Value)} {t : Css.Tree} {c : List Value} (h : TokW w wr l d k v ts cs) (hkk : k < k')
    (hc : ∀ ts' r, Css.Parses d (l.drop k') ts' r → Css.Parses d (l.drop k) (t :: ts') r) (ht : TkT wr (Fresh w wr v) t c)
    (hown : w'.ownsRow w.heap.size 105 7 v' (ts.length + 1) (cs.flatten ++ c)) (hgr : wr.grownBy w' v.ownBlock) (hat : v'.ownBlock = v.ownBlock ∨ ∃ b, v'.ownBlock = some b ∧ wr.heap.size ≤ b) :
    TokW w w' l d k' v' (ts ++ [t]) (cs ++ [c]) := by
  have hp : ∀ b, Fresh w wr v b → Fresh w w' v' b ∧ w'.heap[b]? = wr.heap[b]? := fun b hb => by
    refine ⟨⟨hb.1, Nat.lt_of_lt_of_le hb.2.1 hgr.size, ?_⟩, hgr.block b hb.2.1 (fun e => hb.2.2 e.symm)⟩
    rcases hat with e | ⟨b', e, hb'⟩
    · rw [e]; exact hb.2.2
    · rw [e]
      intro he
      have := hb.2.1
      simp only [Option.some.injEq] at he
      omega
  refine ⟨grown_own (base := w.heap.size) h.grown hgr (own_base h.own), ?_, ?_, ?_, ?_⟩
  · rw [List.length_append, List.flatten_append]
    simpa using hown
  · exact TkF.snoc (TkF.keep hp _ _ h.forest) (TkT.keep hp _ _ ht)
  · have := h.len
    simp
    omega
  · intro ts' r p
    rw [List.append_assoc]
    exact h.cont _ _ (hc ts' r p)
theorem TokW.done {w wr : World} {l : List Css.Node} {d : Int} {k : Nat} {A : Option Addr} {n c : Nat} {ts : List Css.Tree} {cs : List (List Value)} (h : TokW w wr l d k (.slice A n c) ts cs) (hn : n = ts.length) : TkL wr (fun b => w.heap.size ≤ b ∧ b < wr.heap.size) A ts := by
  subst hn
  exact ⟨cs, (SlP.of_own h.own).keep fun b hb => ⟨⟨hb.1, hb.2.1⟩, rfl⟩, TkF.keep (fun b hb => ⟨⟨hb.1, hb.2.1⟩, rfl⟩) _ _ h.forest⟩
theorem grown_new {a b : World} (h : a.grownBy b none) {g : Nat} (hg : a.heap.size ≤ g) (i : Nat) (u : Value) : a.grownBy (b.setCell ⟨g, i, none⟩ u) none := map_free h (grown_setCell (grown_refl _ _) i u) hg
theorem tkC_one (p : Option Addr) (n : Css.Node) : ∀ u ∈ tkC p n, u.oneCell' = true := by
  intro u hu
  simp [tkC] at hu
  rcases hu with rfl | rfl | rfl | rfl | rfl | rfl | rfl <;> rfl
def TokS (l : List Css.Node) (k : Nat) (d : Int) (w : World) (e : Ending) (w' : World) : Prop :=
  ∃ A' c' ts m, e = .returned (.tuple #[.slice A' ts.length c', .int .i64 ((m : Nat) : Int)]) ∧ k + m ≤ l.length ∧ w.grownBy w' none ∧ Css.Parses d (l.drop k) ts (l.drop (k + m)) ∧ TkL w' (fun b => w.heap.size ≤ b ∧ b < w'.heap.size) A' ts
theorem TokR.step {l : List Css.Node} {k : Nat} {d : Int} {w : World} {e : Ending} {w' : World} (h : TokR (l.drop k) d w e w') (hk : k ≤ l.length) : TokS l k d w e w' := by
  obtain ⟨A', c', ts, r, e1, hg, hp, hL⟩ := h
  have hs := hp.sfx
  have hr := List.suffix_iff_eq_drop.1 hs
  have hl := hs.length_le
  rw [List.length_drop] at hl
  refine ⟨A', c', ts, (l.drop k).length - r.length, e1, by rw [List.length_drop]; omega, hg, ?_, hL⟩
  rw [← List.drop_drop, ← hr]
  exact hp
def ndO (n : Css.Node) (bf af : Bool) : Obj := .cells #[.int .i64 n.kind, .int .i64 n.unit, .int .i64 n.depth, .string (str n.text), .bool bf, .bool af] 45 (0, 0)
def tkO (p : Option Addr) (n : Css.Node) (x : Int) : Obj := .cells #[.pointer p, .string (str n.text), .int .i32 0, .int .u32 0, .int .u16 (n.unit % 65536), .int .u8 n.kind, .int .u8 x] 105 (0, 0)

structure KidW (wc wf : World) (bi : Nat) (A : Option Addr) (c : Nat) (kids : List Css.Tree) : Prop where
  grown : wc.grownBy wf none
  new : wc.heap.size ≤ bi
  blk : wf.heap[bi]? = some (.cells #[.slice A kids.length c] 66 (0, 0))
  toks : TkL wf (fun b => wc.heap.size ≤ b ∧ b < wf.heap.size ∧ b ≠ bi) A kids
theorem kid_after {wc w' : World} {A : Option Addr} {c : Nat} {kids : List Css.Tree} (hg : wc.grownBy w' none) (hL : TkL w' (fun b => wc.heap.size ≤ b ∧ b < w'.heap.size) A kids) :
    KidW wc (w'.alloc (.cells #[.slice A kids.length c] 66 (0, 0))) w'.heap.size A c kids := by
  have h1 := grown_alloc (grown_refl w' none) (.cells #[.slice A kids.length c] 66 (0, 0))
  refine ⟨grown_trans hg h1, hg.size, new_blk w' _, hL.keep fun b hb => ⟨⟨hb.1, Nat.lt_of_lt_of_le hb.2 h1.size, by omega⟩, h1.block b hb.2 (by simp)⟩⟩
theorem kid_before {wc w' : World} {A : Option Addr} {c : Nat} {kids : List Css.Tree} (hg : (wc.alloc (.cells #[.slice none 0 0] 66 (0, 0))).grownBy w' none) (hL : TkL w' (fun b => (wc.alloc (.cells #[.slice none 0 0] 66 (0, 0))).heap.size ≤ b ∧ b < w'.heap.size) A kids) :
    KidW wc (w'.setCell ⟨wc.heap.size, 0, none⟩ (.slice A kids.length c)) wc.heap.size A c kids := by
  have h0 := grown_trans (grown_alloc (grown_refl wc none) _) hg
  have hs : (wc.alloc (.cells #[.slice none 0 0] 66 (0, 0))).heap.size = wc.heap.size + 1 := by simp
  have h1 : w'.grownBy (w'.setCell ⟨wc.heap.size, 0, none⟩ (.slice A kids.length c)) (some wc.heap.size) := grown_setCell (grown_refl _ _) 0 _
  refine ⟨grown_new h0 (Nat.le_refl _) 0 _, Nat.le_refl _, set_blk (free_keep hg (new_blk wc _)) 0 _, hL.keep fun b hb => ⟨⟨by omega, Nat.lt_of_lt_of_le hb.2 h1.size, by omega⟩, h1.block b hb.2 (by simp; omega)⟩⟩
theorem KidW.rel {w wr wc wf wx : World} {bi : Nat} {A : Option Addr} {c : Nat} {kids : List Css.Tree} {n : Css.Node} {x : Int} {v : Value} (h : KidW wc wf bi A c kids) (hg : wr.grownBy wc none) (hb : wc.heap[wr.heap.size + 1]? = some (tkO none n x)) (hw : w.heap.size ≤ wr.heap.size) (hv : ∀ g, v.ownBlock = some g → g < wr.heap.size)
    (e : wx = wf.setCell ⟨wr.heap.size + 1, 0, none⟩ (.pointer (some ⟨bi, 0, none⟩))) :
    wr.grownBy wx none ∧ wx.heap[wr.heap.size + 1]? = some (tkO (some ⟨bi, 0, none⟩) n x) ∧ Fresh w wx v bi ∧ wx.heap[bi]? = some (.cells #[.slice A kids.length c] 66 (0, 0)) ∧ TkL wx (Fresh w wx v) A kids := by
  subst e
  have hlt := lt_of_block hb
  have hn := h.new
  have h1 : wf.grownBy (wf.setCell ⟨wr.heap.size + 1, 0, none⟩ (.pointer (some ⟨bi, 0, none⟩))) (some (wr.heap.size + 1)) := grown_setCell (grown_refl _ _) 0 _
  have hbi := lt_of_block h.blk
  have hs := hg.size
  refine ⟨grown_new (grown_trans hg h.grown) (by omega) 0 _, set_blk (free_keep h.grown hb) 0 _, ⟨by omega, Nat.lt_of_lt_of_le hbi h1.size, fun e => by have := hv _ e; omega⟩, (h1.block bi hbi (by simp; omega)).trans h.blk, h.toks.keep fun b hb => ⟨⟨by omega, Nat.lt_of_lt_of_le hb.2.1 h1.size, fun e => by have := hv _ e; omega⟩, h1.block b hb.2.1 (by simp; omega)⟩⟩

set_option maxRecDepth 100000 in
set_option maxHeartbeats 4000000 in
theorem c33_step (N : Nat) (ih : TokC N) : TokC (N + 1) := by
  intro w A c l d h hc hN hl hok hd0 hd1
  have H := Lib.hid h
  have HIH := Lib.hid ih
  have HOK := Lib.hid hok
  have HN := Lib.hid hN
  obtain ⟨i0, z0, hi0, hz0, hz1, hz2, hz3⟩ := info105
  have HI := Lib.hid (And.intro hi0 (And.intro hz0 (And.intro hz1 (And.intro hz2 hz3))))
  have hown0 := World.ownsRow_nil w w.heap.size 105 7
  have HS : Hid (TokW w w l d 0 (.slice none 0 0) [] []) := Lib.hid ⟨grown_refl _ _, hown0, rfl, Nat.le_refl _, fun ts' r p => p⟩
  clear hi0 hz0 hz1 hz2 hz3 h ih hok hown0 hN
  go_enter Tryz.func33, Tryz.ntmps33
  go_wp2_with fail
  go_loopg [6, 7] l.length (fun gk s6 s7 wr => ∃ (k : Nat) (v : Value) (ts : List Css.Tree) (cs : List (List Value)), s6 = v ∧ s7 = .int .i64 k ∧ k ≤ l.length ∧ gk = l.length - k ∧ Hid (TokW w wr l d k v ts cs))
  case atStart => exact ⟨0, _, [], [], rfl, rfl, by omega, rfl, HS⟩
  case round =>
    clear HS
    obtain ⟨k, v6, ts, cs, e6, rfl, hk, rfl, HW⟩ := hrel
    replace e6 := e6.symm
    subst e6
    by_cases hlt : k < l.length
    · obtain ⟨ad, hA, hb, hc0, hc1, hc2, hc3, hc4, hc5⟩ := Nd.elem (Sl.free H.out HW.out.grown (Nat.le_refl _)) hlt
      subst hA
      have hdrop := List.drop_eq_getElem_cons hlt
      have hnok := HOK.out l[k] (List.getElem_mem hlt)
      generalize hn : l[k] = n at hc0 hc1 hc2 hc3 hc4 hc5 hdrop hnok
      obtain ⟨n1, n2, n3, n4⟩ := hnok
      have HDR := Lib.hid hdrop
      obtain ⟨bf, hbf⟩ : ∃ b, b = n.before := ⟨_, rfl⟩
      obtain ⟨af, haf⟩ : ∃ b, b = n.after := ⟨_, rfl⟩
      rw [← hbf] at hc4
      rw [← haf] at hc5
      have HBA := Lib.hid (And.intro hbf haf)
      clear hn hdrop hbf haf
      by_cases hd : d ≤ n.depth
      · have hw8 : IntKind.u8.wrap n.kind = n.kind := by
          exact IntWalk.u8_in _ ⟨n1, n2⟩
        have hw16 : IntKind.u16.wrap n.unit = n.unit % 65536 := IntKind.wrap_u16 _
        have HB : Hid (∀ wn, wn = (wr.alloc (ndO n bf af)).alloc (tkO none n 0) → wr.grownBy wn none ∧ wn.heap[wr.heap.size]? = some (ndO n bf af) ∧ wn.heap[wr.heap.size + 1]? = some (tkO none n 0)) := Lib.hid fun wn e => by
          subst e
          exact ⟨grown_alloc (grown_alloc (grown_refl _ _) _) _, two_blk _ _ _, new_blk' (by simp)⟩
        unfold ndO tkO at HB
        go_upto_region 6 with (fail)
        generalize hwn : (wr.alloc (.cells #[.int .i64 n.kind, .int .i64 n.unit, .int .i64 n.depth, .string (str n.text), .bool bf, .bool af] 45 (0, 0))).alloc (.cells #[.pointer none, .string (str n.text), .int .i32 0, .int .u32 0, .int .u16 (n.unit % 65536), .int .u8 n.kind, .int .u8 0] 105 (0, 0)) = wn
        have HN0 := Lib.hid (HB.out wn hwn.symm)
        clear HB hwn hc0 hc1 hc2 hc3 hc4 hc5 hw8 hw16
        have b4 := cell_blk HN0.out.2.1 (i := 4) rfl
        go_upto_if 39 with (fail)
        clear b4
        go_cut [7] from 39 to 43 (fun v7 wc => v7 = .int .i64 k ∧ Hid (wr.grownBy wc none ∧ wc.heap[wr.heap.size]? = some (ndO n bf af) ∧ wc.heap[wr.heap.size + 1]? = some (tkO none n (if bf then 1 else 0))))
        case first =>
          as_aux_lemma =>
            cases bf with
            | false =>
              go_wp2_with fail
              go_meet
              exact ⟨rfl, HN0⟩
            | true =>
              have HX : Hid (∀ wx, wx = wn.setCell ⟨wr.heap.size + 1, 6, none⟩ (.int .u8 1) → wr.grownBy wx none ∧ wx.heap[wr.heap.size]? = some (ndO n true af) ∧ wx.heap[wr.heap.size + 1]? = some (tkO none n 1)) := Lib.hid fun wx e => by
                subst e
                exact ⟨map_free HN0.out.1 (grown_setCell (grown_refl _ _) _ _) (by omega), ((grown_setCell (grown_refl wn _) 6 _).block _ (lt_of_block HN0.out.2.1) (by simp)).trans HN0.out.2.1, set_blk HN0.out.2.2 6 _⟩
              have fz := free_blk HN0.out.2.2 6
              have b6 := cell_blk HN0.out.2.2 (i := 6) rfl
              go_wp2_with fail
              go_meet
              exact ⟨rfl, Lib.hid (HX.out _ rfl)⟩
        case rest =>
          obtain ⟨rfl, HN1⟩ := hcut
          clear HN0
          have b5 := cell_blk HN1.out.2.1 (i := 5) rfl
          go_upto_if 45 with (fail)
          clear b5
          go_cut [7] from 45 to 49 (fun v7 wd => v7 = .int .i64 k ∧ Hid (wr.grownBy wd none ∧ wd.heap[wr.heap.size]? = some (ndO n bf af) ∧ wd.heap[wr.heap.size + 1]? = some (tkO none n (tokWs n))))
          case first =>
            as_aux_lemma =>
              have HTW : Hid (tokWs n = (if bf then 1 else 0) + (if af then 2 else 0)) := Lib.hid (by rw [HBA.out.1, HBA.out.2]; rfl)
              clear HBA
              cases af with
              | false =>
                have HX : Hid (tokWs n = (if bf then 1 else 0)) := Lib.hid (by rw [HTW.out]; cases bf <;> rfl)
                go_wp2_with fail
                go_meet
                exact ⟨rfl, Lib.hid (by rw [HX.out]; exact HN1.out)⟩
              | true =>
                cases bf
                all_goals
                  have HX : Hid (∀ wx, wx = wc.setCell ⟨wr.heap.size + 1, 6, none⟩ (.int .u8 (tokWs n)) → wr.grownBy wx none ∧ wx.heap[wr.heap.size]? = some (ndO n _ true) ∧ wx.heap[wr.heap.size + 1]? = some (tkO none n (tokWs n))) := Lib.hid fun wx e => by
                    subst e
                    exact ⟨map_free HN1.out.1 (grown_setCell (grown_refl _ _) _ _) (by omega), ((grown_setCell (grown_refl wc _) 6 _).block _ (lt_of_block HN1.out.2.1) (by simp)).trans HN1.out.2.1, set_blk HN1.out.2.2 6 _⟩
                  have fz := free_blk HN1.out.2.2 6
                  have b6 := cell_blk HN1.out.2.2 (i := 6) rfl
                  go_wp2_with fail
                  go_meet
                  exact ⟨rfl, Lib.hid (HX.out _ (by rw [HTW.out]; rfl))⟩
          case rest =>
            obtain ⟨rfl, HN2⟩ := hcut
            clear HN1 HBA
            have b5 := cell_blk HN2.out.2.2 (i := 5) rfl
            have h63 : ts.length + 1 ≤ maxLen := by have := HW.out.len; unfold maxLen; omega
            have h47 : (ts.length + 1) * 40 ≤ 140737488355328 := by have := HW.out.len; omega
            have h07 : 0 < 7 := by omega
            cases ho : Css.opens n.kind with
            | none =>
              have s27 : (n.kind == 27) = false := by
                unfold Css.opens at ho
                cases h : (n.kind == 27) with
                | false => rfl
                | true => rw [h] at ho; simp at ho
              have s33 : (n.kind == 33) = false := by
                unfold Css.opens at ho
                cases h : (n.kind == 33) with
                | false => rfl
                | true => rw [h] at ho; simp at ho
              have s32 : (n.kind == 32) = false := by
                unfold Css.opens at ho
                rw [s27, s33] at ho
                cases h : (n.kind == 32) with
                | false => rfl
                | true => rw [h] at ho; simp at ho
              have s31 : (n.kind == 31) = false := by
                unfold Css.opens at ho
                rw [s27, s33, s32] at ho
                cases h : (n.kind == 31) with
                | false => rfl
                | true => rw [h] at ho; simp at ho
              have d0 := cell_blk HN2.out.2.2 (i := 0) rfl
              have d1 := cell_blk HN2.out.2.2 (i := 1) rfl
              have d2 := cell_blk HN2.out.2.2 (i := 2) rfl
              have d3 := cell_blk HN2.out.2.2 (i := 3) rfl
              have d4 := cell_blk HN2.out.2.2 (i := 4) rfl
              have d6 := cell_blk HN2.out.2.2 (i := 6) rfl
              have HBX : Hid (∀ o, wr.grownBy (wc.alloc o) none ∧ (wc.alloc o).ownsRow w.heap.size 105 7 v6 ts.length cs.flatten ∧ w.heap.size ≤ (wc.alloc o).heap.size) := Lib.hid fun o => ⟨grown_alloc HN2.out.1 o, own_free HW.out.own (grown_alloc HN2.out.1 o), by have := (HW.out.grown).size; have := (grown_alloc HN2.out.1 o).size; omega⟩
              have HCT : Hid (∀ ts' r, Css.Parses d (l.drop (k + 1)) ts' r → Css.Parses d (l.drop k) (.mk n [] :: ts') r) := Lib.hid fun ts' r p => by rw [HDR.out]; exact .leaf hd ho p
              have HTT : Hid (∀ W, TkT W (Fresh w W v6) (.mk n []) (tkC none n)) := Lib.hid fun W => (show ∃ p, tkC none n = tkC p n ∧ _ from ⟨none, rfl, by rw [ho]⟩)
              clear HN2 ho
              go_wp2_with ((at_builtin; refine wpList_append_src rfl w.heap.size (.tmp 73) (.tmp 75) 66 66 105 i0 z0 7 40 rfl Tryz.underlying66 HI.out.1 HI.out.2.1 HI.out.2.2.1 HI.out.2.2.2.1 HI.out.2.2.2.2 h07 v6 ts.length cs.flatten rfl _ 1 (tkC none n) rfl (Src.block Tryz.underlying66 _ (tkC none n) 105 (new_blk _ _) rfl (tkC_one _ _)) (HBX.out _).2.1 (HBX.out _).2.2 h63 h47 ?_; intro v1 w1 hown hgr hat; have HW2 := Lib.hid (TokW.add (HW.out.free (HBX.out _).1) (Nat.lt_succ_self k) HCT.out (HTT.out _) hown hgr hat); clear hown hgr hat))
              go_roundg (l.length - (k + 1))
              case measure => omega
              case rel => exact ⟨k + 1, _, _, _, rfl, by go_num, by omega, rfl, HW2⟩
            | some cc =>
              have d2 := cell_blk HN2.out.2.1 (i := 2) rfl
              have hdd : IntKind.i64.wrap (n.depth + 1) = n.depth + 1 := IntWalk.i64_in _ (by omega)
              have H33 : Hid (∀ W, wc.grownBy W none → ∀ A2, Nd W W.heap.size A2 (l.drop (k + 1)) → Calls Tryz.prog 33 #[.slice A2 (l.length - (k + 1)) (c - (k + 1)), .int .i64 (n.depth + 1)] W (TokR (l.drop (k + 1)) (n.depth + 1) W)) := Lib.hid fun W hW A2 hA2 => by
                have := HIH.out W A2 (c - (k + 1)) (l.drop (k + 1)) (n.depth + 1) hA2 (by rw [List.length_drop]; omega) (by have := HN.out; rw [List.length_drop]; omega) (by rw [List.length_drop]; omega) (fun u hu => HOK.out u (List.mem_of_mem_drop hu)) (by omega) (by omega)
                rw [List.length_drop] at this
                exact this
              have HC : Hid (∀ W, wc.grownBy W none → Nd W W.heap.size (if c = k + 1 then some ad else (some ad).map (·.add ((k + 1) * 6))) (l.drop (k + 1))) := Lib.hid fun W hW => by
                have h1 : Nd W w.heap.size (some ad) l := Sl.free H.out (grown_trans (grown_trans HW.out.grown HN2.out.1) hW) (Nat.le_refl _)
                exact (Nd.cut h1 (by omega) hc).more (grown_trans (grown_trans HW.out.grown HN2.out.1) hW).size
              clear HIH HN
              go_upto_block 2 with (fail)
              go_cut [7, 10, 11] from 54 to 72 (fun v7 v10 v11 wx => ∃ (k2 bi : Nat) (A1 : Option Addr) (c1 : Nat) (kids : List Css.Tree), v7 = .int .i64 k2 ∧ k + 1 ≤ k2 ∧ k2 ≤ l.length ∧ Hid (wr.grownBy wx none ∧ wx.heap[wr.heap.size + 1]? = some (tkO (some ⟨bi, 0, none⟩) n (tokWs n)) ∧ Fresh w wx v6 bi ∧ wx.heap[bi]? = some (.cells #[.slice A1 kids.length c1] 66 (0, 0)) ∧ TkL wx (Fresh w wx v6) A1 kids ∧ Css.Parses (n.depth + 1) (l.drop (k + 1)) kids (l.drop k2)))
              case first =>
                have hk4 : (n.kind = 27 ∨ n.kind = 31) ∨ (n.kind = 32 ∨ n.kind = 33) := by
                  unfold Css.opens at ho
                  simp only [Bool.or_eq_true, beq_iff_eq] at ho
                  split at ho
                  · omega
                  · split at ho
                    · omega
                    · split at ho
                      · omega
                      · cases ho
                clear ho
                rcases hk4 with (kk | kk) | (kk | kk)
                · have s27 : (n.kind == 27) = true := by rw [kk]; rfl
                  clear kk
                  go_upto_region 16 with (fail)
                  have FACTS : Hid (∀ W, wc.grownBy W none → wc.grownBy W none ∧ W.cell? ⟨wr.heap.size, 2, none⟩ = some (.int .i64 n.depth)) := Lib.hid fun W hW => ⟨hW, cell_blk (free_keep hW HN2.out.2.1) (i := 2) rfl⟩
                  have hgW := grown_refl wc none
                  have hk3 : (k : Int) + 1 ≤ l.length := by omega
                  have hk5 : (l.length : Int) ≤ c := by omega
                  have hk6 : (0 : Int) ≤ (k : Int) + 1 := by omega
                  have hk7 : IntKind.i64.wrap ((k : Int) + 1) = (k : Int) + 1 := IntWalk.i64_in _ (by omega)
                  obtain ⟨A2, hA2⟩ : ∃ A2, A2 = (if c = k + 1 then some ad else (some ad).map (·.add ((k + 1) * 6))) := ⟨_, rfl⟩
                  rw [← hA2] at HC
                  have H33b : Hid (∀ W, wc.grownBy W none → Calls Tryz.prog 33 #[.slice A2 (l.length - (k + 1)) (c - (k + 1)), .int .i64 (n.depth + 1)] W (TokS l (k + 1) (n.depth + 1) W)) := Lib.hid fun W hW => (H33.out W hW A2 (HC.out W hW)).mono fun e w' h => h.step (by omega)
                  clear H33 HC
                  by_cases hck : c = k + 1
                  · rw [if_pos hck] at hA2
                    subst hA2
                    subst hck
                    rw [Nat.sub_self, show l.length - (k + 1) = 0 by omega] at H33b
                    go_region_held3 (fun w' => wc.grownBy w' none ∧ w'.cell? ⟨wr.heap.size, 2, none⟩ = some (.int .i64 n.depth)) (first | (refine FACTS.out _ ?_; (repeat (first | exact hgx | exact hgW | refine grown_drew ?_ | refine grown_alloc ?_ _ | refine grown_new ?_ (by first | exact Nat.le_refl _ | exact hgx.size) _ _)); done) | go_keep)
                      (first | (go_at_call 33; (with_reducible refine (H33b.out _ (by first | assumption | exact grown_drew hgW | exact grown_alloc hgW _ | exact grown_drew (grown_alloc hgW _))).mono ?_); rintro e w' ⟨A1, c1, kids, m, rfl, hm, hg, hp, hL⟩; have hgx := grown_trans (a := wc) (by first | assumption | exact grown_drew hgW | exact grown_alloc hgW _ | exact grown_drew (grown_alloc hgW _)) hg; first | (have hnb : w'.heap[wc.heap.size]? = some (.cells #[.slice none 0 0] 66 (0, 0)) := free_keep hg (new_blk wc _); have hcb := cell_blk hnb (i := 0) rfl; have hfb := free_blk hnb 0) | skip))
                    all_goals
                      have hsum : IntKind.i64.wrap ((k : Int) + 1 + (m : Int)) = (k : Int) + 1 + (m : Int) := IntWalk.i64_in _ (by omega)
                      first
                        | (have HK := Lib.hid (kid_after (wc := wc) (w' := w') (c := c1) hgx hL)
                           generalize w'.alloc (.cells #[.slice A1 kids.length c1] 66 (0, 0)) = wf at HK ⊢)
                        | (have HK := Lib.hid (kid_before (wc := wc) (w' := w') (c := c1) ⟨hg.os, hg.tape, hg.output, hg.size, hg.block⟩ hL)
                           generalize w'.setCell ⟨wc.heap.size, 0, none⟩ (.slice A1 kids.length c1) = wf at HK ⊢)
                      have HX := Lib.hid (fun wx => HK.out.rel (w := w) (wx := wx) (v := v6) HN2.out.1 HN2.out.2.2 HW.out.grown.size (fun g e => (HW.out.own.lt g e).2))
                      have HP := Lib.hid hp
                      have fz := free_blk (free_keep HK.out.grown HN2.out.2.2) 0
                      have b0 := cell_blk (free_keep HK.out.grown HN2.out.2.2) (i := 0) rfl
                      clear hg hL hgx hp HK
                      go_wp2_with fail
                      go_meet
                      exact ⟨k + 1 + m, _, A1, c1, kids, by go_num, by omega, hm, Lib.hid ⟨(HX.out _ rfl).1, (HX.out _ rfl).2.1, (HX.out _ rfl).2.2.1, (HX.out _ rfl).2.2.2.1, (HX.out _ rfl).2.2.2.2, HP.out⟩⟩
                  · rw [if_neg hck, Option.map_some] at hA2
                    subst hA2
                    go_region_held3 (fun w' => wc.grownBy w' none ∧ w'.cell? ⟨wr.heap.size, 2, none⟩ = some (.int .i64 n.depth)) (first | (refine FACTS.out _ ?_; (repeat (first | exact hgx | exact hgW | refine grown_drew ?_ | refine grown_alloc ?_ _ | refine grown_new ?_ (by first | exact Nat.le_refl _ | exact hgx.size) _ _)); done) | go_keep)
                      (first | (go_at_call 33; (with_reducible refine (H33b.out _ (by first | assumption | exact grown_drew hgW | exact grown_alloc hgW _ | exact grown_drew (grown_alloc hgW _))).mono ?_); rintro e w' ⟨A1, c1, kids, m, rfl, hm, hg, hp, hL⟩; have hgx := grown_trans (a := wc) (by first | assumption | exact grown_drew hgW | exact grown_alloc hgW _ | exact grown_drew (grown_alloc hgW _)) hg; first | (have hnb : w'.heap[wc.heap.size]? = some (.cells #[.slice none 0 0] 66 (0, 0)) := free_keep hg (new_blk wc _); have hcb := cell_blk hnb (i := 0) rfl; have hfb := free_blk hnb 0) | skip))
                    all_goals
                      have hsum : IntKind.i64.wrap ((k : Int) + 1 + (m : Int)) = (k : Int) + 1 + (m : Int) := IntWalk.i64_in _ (by omega)
                      first
                        | (have HK := Lib.hid (kid_after (wc := wc) (w' := w') (c := c1) hgx hL)
                           generalize w'.alloc (.cells #[.slice A1 kids.length c1] 66 (0, 0)) = wf at HK ⊢)
                        | (have HK := Lib.hid (kid_before (wc := wc) (w' := w') (c := c1) ⟨hg.os, hg.tape, hg.output, hg.size, hg.block⟩ hL)
                           generalize w'.setCell ⟨wc.heap.size, 0, none⟩ (.slice A1 kids.length c1) = wf at HK ⊢)
                      have HX := Lib.hid (fun wx => HK.out.rel (w := w) (wx := wx) (v := v6) HN2.out.1 HN2.out.2.2 HW.out.grown.size (fun g e => (HW.out.own.lt g e).2))
                      have HP := Lib.hid hp
                      have fz := free_blk (free_keep HK.out.grown HN2.out.2.2) 0
                      have b0 := cell_blk (free_keep HK.out.grown HN2.out.2.2) (i := 0) rfl
                      clear hg hL hgx hp HK
                      go_wp2_with fail
                      go_meet
                      exact ⟨k + 1 + m, _, A1, c1, kids, by go_num, by omega, hm, Lib.hid ⟨(HX.out _ rfl).1, (HX.out _ rfl).2.1, (HX.out _ rfl).2.2.1, (HX.out _ rfl).2.2.2.1, (HX.out _ rfl).2.2.2.2, HP.out⟩⟩
                · have s27 : (n.kind == 27) = false := by rw [kk]; rfl
                  have s31 : (n.kind == 31) = true := by rw [kk]; rfl
                  clear kk
                  go_upto_region 16 with (fail)
                  have FACTS : Hid (∀ W, wc.grownBy W none → wc.grownBy W none ∧ W.cell? ⟨wr.heap.size, 2, none⟩ = some (.int .i64 n.depth)) := Lib.hid fun W hW => ⟨hW, cell_blk (free_keep hW HN2.out.2.1) (i := 2) rfl⟩
                  have hgW := grown_refl wc none
                  have hk3 : (k : Int) + 1 ≤ l.length := by omega
                  have hk5 : (l.length : Int) ≤ c := by omega
                  have hk6 : (0 : Int) ≤ (k : Int) + 1 := by omega
                  have hk7 : IntKind.i64.wrap ((k : Int) + 1) = (k : Int) + 1 := IntWalk.i64_in _ (by omega)
                  obtain ⟨A2, hA2⟩ : ∃ A2, A2 = (if c = k + 1 then some ad else (some ad).map (·.add ((k + 1) * 6))) := ⟨_, rfl⟩
                  rw [← hA2] at HC
                  have H33b : Hid (∀ W, wc.grownBy W none → Calls Tryz.prog 33 #[.slice A2 (l.length - (k + 1)) (c - (k + 1)), .int .i64 (n.depth + 1)] W (TokS l (k + 1) (n.depth + 1) W)) := Lib.hid fun W hW => (H33.out W hW A2 (HC.out W hW)).mono fun e w' h => h.step (by omega)
                  clear H33 HC
                  by_cases hck : c = k + 1
                  · rw [if_pos hck] at hA2
                    subst hA2
                    subst hck
                    rw [Nat.sub_self, show l.length - (k + 1) = 0 by omega] at H33b
                    go_region_held3 (fun w' => wc.grownBy w' none ∧ w'.cell? ⟨wr.heap.size, 2, none⟩ = some (.int .i64 n.depth)) (first | (refine FACTS.out _ ?_; (repeat (first | exact hgx | exact hgW | refine grown_drew ?_ | refine grown_alloc ?_ _ | refine grown_new ?_ (by first | exact Nat.le_refl _ | exact hgx.size) _ _)); done) | go_keep)
                      (first | (go_at_call 33; (with_reducible refine (H33b.out _ (by first | assumption | exact grown_drew hgW | exact grown_alloc hgW _ | exact grown_drew (grown_alloc hgW _))).mono ?_); rintro e w' ⟨A1, c1, kids, m, rfl, hm, hg, hp, hL⟩; have hgx := grown_trans (a := wc) (by first | assumption | exact grown_drew hgW | exact grown_alloc hgW _ | exact grown_drew (grown_alloc hgW _)) hg; first | (have hnb : w'.heap[wc.heap.size]? = some (.cells #[.slice none 0 0] 66 (0, 0)) := free_keep hg (new_blk wc _); have hcb := cell_blk hnb (i := 0) rfl; have hfb := free_blk hnb 0) | skip))
                    all_goals
                      have hsum : IntKind.i64.wrap ((k : Int) + 1 + (m : Int)) = (k : Int) + 1 + (m : Int) := IntWalk.i64_in _ (by omega)
                      first
                        | (have HK := Lib.hid (kid_after (wc := wc) (w' := w') (c := c1) hgx hL)
                           generalize w'.alloc (.cells #[.slice A1 kids.length c1] 66 (0, 0)) = wf at HK ⊢)
                        | (have HK := Lib.hid (kid_before (wc := wc) (w' := w') (c := c1) ⟨hg.os, hg.tape, hg.output, hg.size, hg.block⟩ hL)
                           generalize w'.setCell ⟨wc.heap.size, 0, none⟩ (.slice A1 kids.length c1) = wf at HK ⊢)
                      have HX := Lib.hid (fun wx => HK.out.rel (w := w) (wx := wx) (v := v6) HN2.out.1 HN2.out.2.2 HW.out.grown.size (fun g e => (HW.out.own.lt g e).2))
                      have HP := Lib.hid hp
                      have fz := free_blk (free_keep HK.out.grown HN2.out.2.2) 0
                      have b0 := cell_blk (free_keep HK.out.grown HN2.out.2.2) (i := 0) rfl
                      clear hg hL hgx hp HK
                      go_wp2_with fail
                      go_meet
                      exact ⟨k + 1 + m, _, A1, c1, kids, by go_num, by omega, hm, Lib.hid ⟨(HX.out _ rfl).1, (HX.out _ rfl).2.1, (HX.out _ rfl).2.2.1, (HX.out _ rfl).2.2.2.1, (HX.out _ rfl).2.2.2.2, HP.out⟩⟩
                  · rw [if_neg hck, Option.map_some] at hA2
                    subst hA2
                    go_region_held3 (fun w' => wc.grownBy w' none ∧ w'.cell? ⟨wr.heap.size, 2, none⟩ = some (.int .i64 n.depth)) (first | (refine FACTS.out _ ?_; (repeat (first | exact hgx | exact hgW | refine grown_drew ?_ | refine grown_alloc ?_ _ | refine grown_new ?_ (by first | exact Nat.le_refl _ | exact hgx.size) _ _)); done) | go_keep)
                      (first | (go_at_call 33; (with_reducible refine (H33b.out _ (by first | assumption | exact grown_drew hgW | exact grown_alloc hgW _ | exact grown_drew (grown_alloc hgW _))).mono ?_); rintro e w' ⟨A1, c1, kids, m, rfl, hm, hg, hp, hL⟩; have hgx := grown_trans (a := wc) (by first | assumption | exact grown_drew hgW | exact grown_alloc hgW _ | exact grown_drew (grown_alloc hgW _)) hg; first | (have hnb : w'.heap[wc.heap.size]? = some (.cells #[.slice none 0 0] 66 (0, 0)) := free_keep hg (new_blk wc _); have hcb := cell_blk hnb (i := 0) rfl; have hfb := free_blk hnb 0) | skip))
                    all_goals
                      have hsum : IntKind.i64.wrap ((k : Int) + 1 + (m : Int)) = (k : Int) + 1 + (m : Int) := IntWalk.i64_in _ (by omega)
                      first
                        | (have HK := Lib.hid (kid_after (wc := wc) (w' := w') (c := c1) hgx hL)
                           generalize w'.alloc (.cells #[.slice A1 kids.length c1] 66 (0, 0)) = wf at HK ⊢)
                        | (have HK := Lib.hid (kid_before (wc := wc) (w' := w') (c := c1) ⟨hg.os, hg.tape, hg.output, hg.size, hg.block⟩ hL)
                           generalize w'.setCell ⟨wc.heap.size, 0, none⟩ (.slice A1 kids.length c1) = wf at HK ⊢)
                      have HX := Lib.hid (fun wx => HK.out.rel (w := w) (wx := wx) (v := v6) HN2.out.1 HN2.out.2.2 HW.out.grown.size (fun g e => (HW.out.own.lt g e).2))
                      have HP := Lib.hid hp
                      have fz := free_blk (free_keep HK.out.grown HN2.out.2.2) 0
                      have b0 := cell_blk (free_keep HK.out.grown HN2.out.2.2) (i := 0) rfl
                      clear hg hL hgx hp HK
                      go_wp2_with fail
                      go_meet
                      exact ⟨k + 1 + m, _, A1, c1, kids, by go_num, by omega, hm, Lib.hid ⟨(HX.out _ rfl).1, (HX.out _ rfl).2.1, (HX.out _ rfl).2.2.1, (HX.out _ rfl).2.2.2.1, (HX.out _ rfl).2.2.2.2, HP.out⟩⟩
                · have s27 : (n.kind == 27) = false := by rw [kk]; rfl
                  have s31 : (n.kind == 31) = false := by rw [kk]; rfl
                  have s32 : (n.kind == 32) = true := by rw [kk]; rfl
                  clear kk
                  go_upto_region 16 with (fail)
                  have FACTS : Hid (∀ W, wc.grownBy W none → wc.grownBy W none ∧ W.cell? ⟨wr.heap.size, 2, none⟩ = some (.int .i64 n.depth)) := Lib.hid fun W hW => ⟨hW, cell_blk (free_keep hW HN2.out.2.1) (i := 2) rfl⟩
                  have hgW := grown_refl wc none
                  have hk3 : (k : Int) + 1 ≤ l.length := by omega
                  have hk5 : (l.length : Int) ≤ c := by omega
                  have hk6 : (0 : Int) ≤ (k : Int) + 1 := by omega
                  have hk7 : IntKind.i64.wrap ((k : Int) + 1) = (k : Int) + 1 := IntWalk.i64_in _ (by omega)
                  obtain ⟨A2, hA2⟩ : ∃ A2, A2 = (if c = k + 1 then some ad else (some ad).map (·.add ((k + 1) * 6))) := ⟨_, rfl⟩
                  rw [← hA2] at HC
                  have H33b : Hid (∀ W, wc.grownBy W none → Calls Tryz.prog 33 #[.slice A2 (l.length - (k + 1)) (c - (k + 1)), .int .i64 (n.depth + 1)] W (TokS l (k + 1) (n.depth + 1) W)) := Lib.hid fun W hW => (H33.out W hW A2 (HC.out W hW)).mono fun e w' h => h.step (by omega)
                  clear H33 HC
                  by_cases hck : c = k + 1
                  · rw [if_pos hck] at hA2
                    subst hA2
                    subst hck
                    rw [Nat.sub_self, show l.length - (k + 1) = 0 by omega] at H33b
                    go_region_held3 (fun w' => wc.grownBy w' none ∧ w'.cell? ⟨wr.heap.size, 2, none⟩ = some (.int .i64 n.depth)) (first | (refine FACTS.out _ ?_; (repeat (first | exact hgx | exact hgW | refine grown_drew ?_ | refine grown_alloc ?_ _ | refine grown_new ?_ (by first | exact Nat.le_refl _ | exact hgx.size) _ _)); done) | go_keep)
                      (first | (go_at_call 33; (with_reducible refine (H33b.out _ (by first | assumption | exact grown_drew hgW | exact grown_alloc hgW _ | exact grown_drew (grown_alloc hgW _))).mono ?_); rintro e w' ⟨A1, c1, kids, m, rfl, hm, hg, hp, hL⟩; have hgx := grown_trans (a := wc) (by first | assumption | exact grown_drew hgW | exact grown_alloc hgW _ | exact grown_drew (grown_alloc hgW _)) hg; first | (have hnb : w'.heap[wc.heap.size]? = some (.cells #[.slice none 0 0] 66 (0, 0)) := free_keep hg (new_blk wc _); have hcb := cell_blk hnb (i := 0) rfl; have hfb := free_blk hnb 0) | skip))
                    all_goals
                      have hsum : IntKind.i64.wrap ((k : Int) + 1 + (m : Int)) = (k : Int) + 1 + (m : Int) := IntWalk.i64_in _ (by omega)
                      first
                        | (have HK := Lib.hid (kid_after (wc := wc) (w' := w') (c := c1) hgx hL)
                           generalize w'.alloc (.cells #[.slice A1 kids.length c1] 66 (0, 0)) = wf at HK ⊢)
                        | (have HK := Lib.hid (kid_before (wc := wc) (w' := w') (c := c1) ⟨hg.os, hg.tape, hg.output, hg.size, hg.block⟩ hL)
                           generalize w'.setCell ⟨wc.heap.size, 0, none⟩ (.slice A1 kids.length c1) = wf at HK ⊢)
                      have HX := Lib.hid (fun wx => HK.out.rel (w := w) (wx := wx) (v := v6) HN2.out.1 HN2.out.2.2 HW.out.grown.size (fun g e => (HW.out.own.lt g e).2))
                      have HP := Lib.hid hp
                      have fz := free_blk (free_keep HK.out.grown HN2.out.2.2) 0
                      have b0 := cell_blk (free_keep HK.out.grown HN2.out.2.2) (i := 0) rfl
                      clear hg hL hgx hp HK
                      go_wp2_with fail
                      go_meet
                      exact ⟨k + 1 + m, _, A1, c1, kids, by go_num, by omega, hm, Lib.hid ⟨(HX.out _ rfl).1, (HX.out _ rfl).2.1, (HX.out _ rfl).2.2.1, (HX.out _ rfl).2.2.2.1, (HX.out _ rfl).2.2.2.2, HP.out⟩⟩
                  · rw [if_neg hck, Option.map_some] at hA2
                    subst hA2
                    go_region_held3 (fun w' => wc.grownBy w' none ∧ w'.cell? ⟨wr.heap.size, 2, none⟩ = some (.int .i64 n.depth)) (first | (refine FACTS.out _ ?_; (repeat (first | exact hgx | exact hgW | refine grown_drew ?_ | refine grown_alloc ?_ _ | refine grown_new ?_ (by first | exact Nat.le_refl _ | exact hgx.size) _ _)); done) | go_keep)
                      (first | (go_at_call 33; (with_reducible refine (H33b.out _ (by first | assumption | exact grown_drew hgW | exact grown_alloc hgW _ | exact grown_drew (grown_alloc hgW _))).mono ?_); rintro e w' ⟨A1, c1, kids, m, rfl, hm, hg, hp, hL⟩; have hgx := grown_trans (a := wc) (by first | assumption | exact grown_drew hgW | exact grown_alloc hgW _ | exact grown_drew (grown_alloc hgW _)) hg; first | (have hnb : w'.heap[wc.heap.size]? = some (.cells #[.slice none 0 0] 66 (0, 0)) := free_keep hg (new_blk wc _); have hcb := cell_blk hnb (i := 0) rfl; have hfb := free_blk hnb 0) | skip))
                    all_goals
                      have hsum : IntKind.i64.wrap ((k : Int) + 1 + (m : Int)) = (k : Int) + 1 + (m : Int) := IntWalk.i64_in _ (by omega)
                      first
                        | (have HK := Lib.hid (kid_after (wc := wc) (w' := w') (c := c1) hgx hL)
                           generalize w'.alloc (.cells #[.slice A1 kids.length c1] 66 (0, 0)) = wf at HK ⊢)
                        | (have HK := Lib.hid (kid_before (wc := wc) (w' := w') (c := c1) ⟨hg.os, hg.tape, hg.output, hg.size, hg.block⟩ hL)
                           generalize w'.setCell ⟨wc.heap.size, 0, none⟩ (.slice A1 kids.length c1) = wf at HK ⊢)
                      have HX := Lib.hid (fun wx => HK.out.rel (w := w) (wx := wx) (v := v6) HN2.out.1 HN2.out.2.2 HW.out.grown.size (fun g e => (HW.out.own.lt g e).2))
                      have HP := Lib.hid hp
                      have fz := free_blk (free_keep HK.out.grown HN2.out.2.2) 0
                      have b0 := cell_blk (free_keep HK.out.grown HN2.out.2.2) (i := 0) rfl
                      clear hg hL hgx hp HK
                      go_wp2_with fail
                      go_meet
                      exact ⟨k + 1 + m, _, A1, c1, kids, by go_num, by omega, hm, Lib.hid ⟨(HX.out _ rfl).1, (HX.out _ rfl).2.1, (HX.out _ rfl).2.2.1, (HX.out _ rfl).2.2.2.1, (HX.out _ rfl).2.2.2.2, HP.out⟩⟩
                · have s27 : (n.kind == 27) = false := by rw [kk]; rfl
                  have s31 : (n.kind == 31) = false := by rw [kk]; rfl
                  have s32 : (n.kind == 32) = false := by rw [kk]; rfl
                  have s33 : (n.kind == 33) = true := by rw [kk]; rfl
                  clear kk
                  go_upto_region 16 with (fail)
                  have FACTS : Hid (∀ W, wc.grownBy W none → wc.grownBy W none ∧ W.cell? ⟨wr.heap.size, 2, none⟩ = some (.int .i64 n.depth)) := Lib.hid fun W hW => ⟨hW, cell_blk (free_keep hW HN2.out.2.1) (i := 2) rfl⟩
                  have hgW := grown_refl wc none
                  have hk3 : (k : Int) + 1 ≤ l.length := by omega
                  have hk5 : (l.length : Int) ≤ c := by omega
                  have hk6 : (0 : Int) ≤ (k : Int) + 1 := by omega
                  have hk7 : IntKind.i64.wrap ((k : Int) + 1) = (k : Int) + 1 := IntWalk.i64_in _ (by omega)
                  obtain ⟨A2, hA2⟩ : ∃ A2, A2 = (if c = k + 1 then some ad else (some ad).map (·.add ((k + 1) * 6))) := ⟨_, rfl⟩
                  rw [← hA2] at HC
                  have H33b : Hid (∀ W, wc.grownBy W none → Calls Tryz.prog 33 #[.slice A2 (l.length - (k + 1)) (c - (k + 1)), .int .i64 (n.depth + 1)] W (TokS l (k + 1) (n.depth + 1) W)) := Lib.hid fun W hW => (H33.out W hW A2 (HC.out W hW)).mono fun e w' h => h.step (by omega)
                  clear H33 HC
                  by_cases hck : c = k + 1
                  · rw [if_pos hck] at hA2
                    subst hA2
                    subst hck
                    rw [Nat.sub_self, show l.length - (k + 1) = 0 by omega] at H33b
                    go_region_held3 (fun w' => wc.grownBy w' none ∧ w'.cell? ⟨wr.heap.size, 2, none⟩ = some (.int .i64 n.depth)) (first | (refine FACTS.out _ ?_; (repeat (first | exact hgx | exact hgW | refine grown_drew ?_ | refine grown_alloc ?_ _ | refine grown_new ?_ (by first | exact Nat.le_refl _ | exact hgx.size) _ _)); done) | go_keep)
                      (first | (go_at_call 33; (with_reducible refine (H33b.out _ (by first | assumption | exact grown_drew hgW | exact grown_alloc hgW _ | exact grown_drew (grown_alloc hgW _))).mono ?_); rintro e w' ⟨A1, c1, kids, m, rfl, hm, hg, hp, hL⟩; have hgx := grown_trans (a := wc) (by first | assumption | exact grown_drew hgW | exact grown_alloc hgW _ | exact grown_drew (grown_alloc hgW _)) hg; first | (have hnb : w'.heap[wc.heap.size]? = some (.cells #[.slice none 0 0] 66 (0, 0)) := free_keep hg (new_blk wc _); have hcb := cell_blk hnb (i := 0) rfl; have hfb := free_blk hnb 0) | skip))
                    all_goals
                      have hsum : IntKind.i64.wrap ((k : Int) + 1 + (m : Int)) = (k : Int) + 1 + (m : Int) := IntWalk.i64_in _ (by omega)
                      first
                        | (have HK := Lib.hid (kid_after (wc := wc) (w' := w') (c := c1) hgx hL)
                           generalize w'.alloc (.cells #[.slice A1 kids.length c1] 66 (0, 0)) = wf at HK ⊢)
                        | (have HK := Lib.hid (kid_before (wc := wc) (w' := w') (c := c1) ⟨hg.os, hg.tape, hg.output, hg.size, hg.block⟩ hL)
                           generalize w'.setCell ⟨wc.heap.size, 0, none⟩ (.slice A1 kids.length c1) = wf at HK ⊢)
                      have HX := Lib.hid (fun wx => HK.out.rel (w := w) (wx := wx) (v := v6) HN2.out.1 HN2.out.2.2 HW.out.grown.size (fun g e => (HW.out.own.lt g e).2))
                      have HP := Lib.hid hp
                      have fz := free_blk (free_keep HK.out.grown HN2.out.2.2) 0
                      have b0 := cell_blk (free_keep HK.out.grown HN2.out.2.2) (i := 0) rfl
                      clear hg hL hgx hp HK
                      go_wp2_with fail
                      go_meet
                      exact ⟨k + 1 + m, _, A1, c1, kids, by go_num, by omega, hm, Lib.hid ⟨(HX.out _ rfl).1, (HX.out _ rfl).2.1, (HX.out _ rfl).2.2.1, (HX.out _ rfl).2.2.2.1, (HX.out _ rfl).2.2.2.2, HP.out⟩⟩
                  · rw [if_neg hck, Option.map_some] at hA2
                    subst hA2
                    go_region_held3 (fun w' => wc.grownBy w' none ∧ w'.cell? ⟨wr.heap.size, 2, none⟩ = some (.int .i64 n.depth)) (first | (refine FACTS.out _ ?_; (repeat (first | exact hgx | exact hgW | refine grown_drew ?_ | refine grown_alloc ?_ _ | refine grown_new ?_ (by first | exact Nat.le_refl _ | exact hgx.size) _ _)); done) | go_keep)
                      (first | (go_at_call 33; (with_reducible refine (H33b.out _ (by first | assumption | exact grown_drew hgW | exact grown_alloc hgW _ | exact grown_drew (grown_alloc hgW _))).mono ?_); rintro e w' ⟨A1, c1, kids, m, rfl, hm, hg, hp, hL⟩; have hgx := grown_trans (a := wc) (by first | assumption | exact grown_drew hgW | exact grown_alloc hgW _ | exact grown_drew (grown_alloc hgW _)) hg; first | (have hnb : w'.heap[wc.heap.size]? = some (.cells #[.slice none 0 0] 66 (0, 0)) := free_keep hg (new_blk wc _); have hcb := cell_blk hnb (i := 0) rfl; have hfb := free_blk hnb 0) | skip))
                    all_goals
                      have hsum : IntKind.i64.wrap ((k : Int) + 1 + (m : Int)) = (k : Int) + 1 + (m : Int) := IntWalk.i64_in _ (by omega)
                      first
                        | (have HK := Lib.hid (kid_after (wc := wc) (w' := w') (c := c1) hgx hL)
                           generalize w'.alloc (.cells #[.slice A1 kids.length c1] 66 (0, 0)) = wf at HK ⊢)
                        | (have HK := Lib.hid (kid_before (wc := wc) (w' := w') (c := c1) ⟨hg.os, hg.tape, hg.output, hg.size, hg.block⟩ hL)
                           generalize w'.setCell ⟨wc.heap.size, 0, none⟩ (.slice A1 kids.length c1) = wf at HK ⊢)
                      have HX := Lib.hid (fun wx => HK.out.rel (w := w) (wx := wx) (v := v6) HN2.out.1 HN2.out.2.2 HW.out.grown.size (fun g e => (HW.out.own.lt g e).2))
                      have HP := Lib.hid hp
                      have fz := free_blk (free_keep HK.out.grown HN2.out.2.2) 0
                      have b0 := cell_blk (free_keep HK.out.grown HN2.out.2.2) (i := 0) rfl
                      clear hg hL hgx hp HK
                      go_wp2_with fail
                      go_meet
                      exact ⟨k + 1 + m, _, A1, c1, kids, by go_num, by omega, hm, Lib.hid ⟨(HX.out _ rfl).1, (HX.out _ rfl).2.1, (HX.out _ rfl).2.2.1, (HX.out _ rfl).2.2.2.1, (HX.out _ rfl).2.2.2.2, HP.out⟩⟩
              case rest =>
                obtain ⟨k2, bi, A1, c1, kids, rfl, hk21, hk22, HR⟩ := hcut
                clear HN2 H33 HC
                have d0 := cell_blk HR.out.2.1 (i := 0) rfl
                have d1 := cell_blk HR.out.2.1 (i := 1) rfl
                have d2 := cell_blk HR.out.2.1 (i := 2) rfl
                have d3 := cell_blk HR.out.2.1 (i := 3) rfl
                have d4 := cell_blk HR.out.2.1 (i := 4) rfl
                have d5 := cell_blk HR.out.2.1 (i := 5) rfl
                have d6 := cell_blk HR.out.2.1 (i := 6) rfl
                have HBX : Hid (∀ o, wr.grownBy (wc.alloc o) none ∧ (wc.alloc o).ownsRow w.heap.size 105 7 v6 ts.length cs.flatten ∧ w.heap.size ≤ (wc.alloc o).heap.size) := Lib.hid fun o => ⟨grown_alloc HR.out.1 o, own_free HW.out.own (grown_alloc HR.out.1 o), by have := (HW.out.grown).size; have := (grown_alloc HR.out.1 o).size; omega⟩
                have HCT : Hid (∀ ts' r, Css.Parses d (l.drop k2) ts' r → Css.Parses d (l.drop k) (.mk n kids :: ts') r) := Lib.hid fun ts' r p => by rw [HDR.out]; exact .node hd ho HR.out.2.2.2.2.2 p
                have HTT : Hid (∀ o, TkT (wc.alloc o) (Fresh w (wc.alloc o) v6) (.mk n kids) (tkC (some ⟨bi, 0, none⟩) n)) := Lib.hid fun o => by
                  have hg := grown_alloc (grown_refl wc none) o
                  obtain ⟨cs2, h1, h2⟩ := HR.out.2.2.2.2.1
                  refine (show ∃ p, tkC (some ⟨bi, 0, none⟩) n = tkC p n ∧ _ from ⟨some ⟨bi, 0, none⟩, rfl, ?_⟩)
                  rw [ho]
                  exact ⟨bi, A1, c1, cs2, rfl, (Fresh.more HR.out.2.2.1 hg).1, free_keep hg HR.out.2.2.2.1, h1.keep fun b hb => Fresh.more hb hg, TkF.keep (fun b hb => Fresh.more hb hg) _ _ h2⟩
                clear HR ho
                go_wp2_with ((at_builtin; refine wpList_append_src rfl w.heap.size (.tmp 73) (.tmp 75) 66 66 105 i0 z0 7 40 rfl Tryz.underlying66 HI.out.1 HI.out.2.1 HI.out.2.2.1 HI.out.2.2.2.1 HI.out.2.2.2.2 h07 v6 ts.length cs.flatten rfl _ 1 (tkC (some ⟨bi, 0, none⟩) n) rfl (Src.block Tryz.underlying66 _ (tkC (some ⟨bi, 0, none⟩) n) 105 (new_blk _ _) rfl (tkC_one _ _)) (HBX.out _).2.1 (HBX.out _).2.2 h63 h47 ?_; intro v1 w1 hown hgr hat; have HW2 := Lib.hid (TokW.add (HW.out.free (HBX.out _).1) (Nat.lt_of_succ_le hk21) HCT.out (HTT.out _) hown hgr hat); clear hown hgr hat))
                go_roundg (l.length - k2)
                case measure => omega
                case rel => exact ⟨k2, _, _, _, rfl, by go_num, hk22, rfl, HW2⟩

      · obtain ⟨A', c', hv⟩ := own_slice' HW.out.own
        subst hv
        have HR : Hid (Css.Parses d l ts (l.drop k)) := Lib.hid (by
          have := HW.out.cont [] (l.drop k) (by rw [HDR.out]; exact .stop (by omega))
          simpa using this)
        have hd' : n.depth < d := by omega
        clear hd
        go_wp2_with fail
        go_ret2
        exact ⟨A', c', ts, l.drop k, by rw [List.length_drop, show l.length - (l.length - k) = k by omega]; rfl, HW.out.grown, HR.out, HW.out.done rfl⟩
    · obtain ⟨A', c', hv⟩ := own_slice' HW.out.own
      subst hv
      have hk' : k = l.length := by omega
      have HR : Hid (Css.Parses d l ts []) := Lib.hid (by
        have := HW.out.cont [] [] (by rw [hk', List.drop_length]; exact .nil d)
        simpa using this)
      go_wp2_with fail
      go_ret2
      exact ⟨A', c', ts, [], by rw [List.length_nil, Nat.sub_zero, ← hk']; rfl, HW.out.grown, HR.out, HW.out.done rfl⟩
theorem c33 : ∀ N, TokC N
  | 0 => fun w A c l d h hc hN => absurd hN (Nat.not_lt_zero _)
  | N + 1 => c33_step N (c33 N)
end Go.Proofs.YtkfdcbdlcipmfaaGreatFmt
