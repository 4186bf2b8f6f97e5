/- The tokens that the statements read of a text. The text has at most 2^31 bytes. -/
import Derived.Test.YtkfdcbdlcipmfaaGreatFmtProg
import Derived.WalkKit
import Derived.WalkLawsBesides
import Derived.WalkSpells
import Derived.BigQuiet
import Derived.Deep.QuietTactic
import Derived.Outline
import Derived.Laws.BitsLemmas
import Derived.Lib.Hide
import Derived.OneCell
import Derived.Deep.Draws
import Derived.Deep.LoopGhost
import Derived.Laws.BytesArg
import Derived.Laws.ResultCell
import Derived.Deep.DeepCutAuto
import Derived.Deep.CutBlock
import Derived.Deep.RegionLaw
import Derived.Maps.AppendAt
import Derived.Deep.AppendLies
import Derived.KernelRfl
import Derived.Laws.OwnMore
import Derived.Deep.RegionHeld3
import Derived.Deep.AppendSrc
import Derived.Maps.OwnOps
import Derived.Maps.Views
import Derived.Test.YtkfdcbdlcipmfaaGreatFmtGA
import Derived.Test.YtkfdcbdlcipmfaaGreatFmtGL
import Derived.Test.YtkfdcbdlcipmfaaGreatFmtGH
import Derived.Test.YtkfdcbdlcipmfaaGreatFmtGJ
import Derived.Test.YtkfdcbdlcipmfaaGreatFmtGM
set_option linter.unusedVariables false
set_option linter.unusedSimpArgs false
namespace Go.Proofs.YtkfdcbdlcipmfaaGreatFmt
open Go.RowKit
theorem info64 : ∃ i z, Tryz.prog.info? 64 = some i ∧ i.zero = some z ∧ i.size = 7 ∧ i.bytes = 64 ∧ z.cells.size = 7 := by
 have h : (Tryz.prog.info? 64).map (fun i => (i.zero.map (·.cells.size), i.size, i.bytes)) = some (some 7, 7, 64) := by kernel_rfl
 obtain ⟨i, hi, hh⟩ := Option.map_eq_some_iff.1 h
 simp only [Prod.mk.injEq] at hh
 obtain ⟨z, hz, hzs⟩ := Option.map_eq_some_iff.1 hh.1
 exact ⟨i, z, hi, hz, hh.2.1, hh.2.2, hzs⟩
def readC (s : ByteArray) (q : Css.Tok × Bool) : List Value := [.int .i64 q.1.tk.kind, .int .i64 ((s.size - Css.wd q.1.from' : Nat) : Int), .int .i64 ((s.size - Css.wd q.1.upto : Nat) : Int), .int .i64 q.1.tk.unit, .bool q.1.tk.id, .string (str q.1.tk.text), .bool q.2]
theorem readC_length (s : ByteArray) (q : Css.Tok × Bool) : (readC s q).length = 7 := rfl
theorem readC_one (s : ByteArray) (q : Css.Tok × Bool) : ∀ u ∈ readC s q, u.oneCell' = true := by
 intro u hu
 simp [readC] at hu
 rcases hu with rfl | rfl | rfl | rfl | rfl | rfl | rfl <;> rfl
theorem rds_ws {sp : Bool} {t : Css.Tok} {l : List Css.Tok} (h : (t.tk.kind == 38) = true) : Css.rds sp (t :: l) = Css.rds true l := by
 rw [Css.rds, if_pos (by simpa using h)]
theorem rds_tok {sp : Bool} {t : Css.Tok} {l : List Css.Tok} (h : (t.tk.kind == 38) = false) : Css.rds sp (t :: l) = (t, sp) :: Css.rds false l := by
 rw [Css.rds, if_neg (by simpa using h)]
theorem rds_length : ∀ (l : List Css.Tok) (sp : Bool), (Css.rds sp l).length ≤ l.length
 | [], sp => Nat.le_refl _
 | t :: l, sp => by
  rw [Css.rds]
  have h1 := rds_length l true
  have h2 := rds_length l false
  split <;> simp <;> omega
theorem tokens_length (U : List Int) : (Css.tokens U).1.length ≤ U.length := by
 induction hn : U.length using Nat.strongRecOn generalizing U with
 | _ n ih =>
  subst hn
  by_cases h : Css.pk 0 (Css.comment U).1 = -1
  ·rw [tok_end h]; simp
  ·rw [tok_go h]
   have h1 := Css.next_lt h
   have h2 := Css.comment_le U
   have := ih (Css.next (Css.comment U).1).2.1.length (by omega) _ rfl
   simp only [List.length_cons]
   omega
theorem own_tok {w : World} {base g n cap : Nat} {s : ByteArray} {l : List Css.Tok} (h : w.ownsRow base 62 6 (.slice (some ⟨g, 0, none⟩) n cap) n (l.flatMap (tokC s))) (hl : l.length = n) {k : Nat} (hk : k < l.length) :
  w.cell? ⟨g, k * 6, none⟩ = some (.int .i64 (l[k]).tk.kind) ∧ w.cell? ⟨g, k * 6 + 1, none⟩ = some (.int .i64 ((s.size - Css.wd (l[k]).from' : Nat) : Int)) ∧ w.cell? ⟨g, k * 6 + 2, none⟩ = some (.int .i64 ((s.size - Css.wd (l[k]).upto : Nat) : Int)) ∧
   w.cell? ⟨g, k * 6 + 3, none⟩ = some (.int .i64 (l[k]).tk.unit) ∧ w.cell? ⟨g, k * 6 + 4, none⟩ = some (.bool (l[k]).tk.id) ∧ w.cell? ⟨g, k * 6 + 5, none⟩ = some (.string (str (l[k]).tk.text)) := by
 have hj : ∀ j, j < 6 → w.cell? ⟨g, k * 6 + j, none⟩ = (tokC s l[k])[j]? := fun j h6 => by
  rw [h.cellAt (k * 6 + j) (by omega)]
  exact flat_get (tokC s) 6 (tokC_length s) l k j hk h6
 exact ⟨hj 0 (by omega), hj 1 (by omega), hj 2 (by omega), hj 3 (by omega), hj 4 (by omega), hj 5 (by omega)⟩
theorem new_keep {wr w1 w3 : World} {o : Obj} {v : Value} {base size n : Nat} {e : TypeId} {xs : List Value} (ho : wr.ownsRow base e size v n xs) (hgr : w1.grownBy w3 v.ownBlock) (h : w1.heap[wr.heap.size]? = some o) : w3.heap[wr.heap.size]? = some o :=
 (hgr.block _ (lt_of_block h) (fun hx => by have := (ho.lt _ hx.symm).2; omega)).trans h
theorem two_blk (wr : World) (o o' : Obj) : ((wr.alloc o).alloc o').heap[wr.heap.size]? = some o := by
 show ((wr.heap.push o).push o')[wr.heap.size]? = _
 rw [Array.getElem?_push_lt (by simp)]
 simp
set_option maxRecDepth 100000 in
set_option maxHeartbeats 2000000 in
theorem c31 (s : ByteArray) (w : World) (hs : s.size ≤ 2147483648) (hp : Css.plain s.data.toList = true) (ho : (Css.tokens (Css.codes s.data.toList)).2.2 = false) (hc : (Css.tokens (Css.codes s.data.toList)).2.1 = 0) (R : List (Css.Tok × Bool)) (hR : Css.rds false (Css.tokens (Css.codes s.data.toList)).1 = R) :
  Calls Tryz.prog 31 #[.string s] w fun e w' => ∃ A c, e = .returned (.tuple #[.slice A R.length c, .bool true]) ∧ w.grownBy w' none ∧ w'.ownsRow w.heap.size 64 7 (.slice A R.length c) R.length (R.flatMap (readC s)) := by
 have hlen : (Css.tokens (Css.codes s.data.toList)).1.length ≤ 2147483648 := by
  have h1 := tokens_length (Css.codes s.data.toList)
  have h2 := length_wd (Css.codes s.data.toList)
  have h3 : Css.wd (Css.codes s.data.toList) = s.size := (Css.codes_wd _).trans (bytes_len s)
  omega
 have H44 := Lib.hid (c44 s · hs)
 have H43 := Lib.hid fun W => c43 s W (show s.size ≤ 1152921504606846976 by omega)
 generalize hT : Css.tokens (Css.codes s.data.toList) = T at ho hc hR H44 hlen
 obtain ⟨l, nc, op⟩ := T
 simp only at ho hc hR hlen
 subst ho
 subst hc
 clear hT
 have HR := Lib.hid hR
 clear hR
 obtain ⟨i0, z0, hi0, hz0, hz1, hz2, hz3⟩ := info64
 have HI := Lib.hid (And.intro hi0 (And.intro hz0 (And.intro hz1 (And.intro hz2 hz3))))
 clear hi0 hz0 hz1 hz2 hz3
 go_enter Tryz.func31, Tryz.ntmps31
 go_wp2_with fail
 refine (H43.out _).mono ?_
 rintro e w' ⟨rfl, rfl⟩
 rw [hp]
 go_wp2_with fail
 refine (H44.out _).mono ?_
 rintro e w1 ⟨A, c, A2, c2, rfl, hG, hO⟩
 have HG1 := Lib.hid hG
 have HO1 := Lib.hid hO
 have hown0 := Lib.hid (World.ownsRow_nil w1 w.heap.size 64 7)
 clear hG hO
 go_wp2_with fail
 go_loopg [7, 8, 22] l.length (fun gk s7 s8 s22 wr => ∃ (k : Nat) (v : Value) (sp : Bool) (out : List (Css.Tok × Bool)), s7 = v ∧ s8 = .bool sp ∧ s22 = .int .i64 k ∧ k ≤ l.length ∧ gk = l.length - k ∧ out.length ≤ k ∧ Hid (w.grownBy wr none) ∧ Hid (wr.ownsRow w.heap.size 62 6 (.slice A l.length c) l.length (l.flatMap (tokC s))) ∧ Hid (wr.ownsRow w.heap.size 64 7 v out.length (out.flatMap (readC s))) ∧ Hid (out ++ Css.rds sp (l.drop k) = R))
 case atStart => exact ⟨0, _, false, [], rfl, rfl, rfl, by omega, rfl, Nat.le_refl _, HG1, HO1, hown0, by simpa using HR⟩
 case round =>
  clear hown0 HR HG1 HO1
  obtain ⟨k, v, sp, out, e7, rfl, rfl, hk, rfl, hout, HG, HL, HO, HE⟩ := hrel
  replace e7 := e7.symm
  subst e7
  by_cases hlt : k < l.length
  ·obtain ⟨g, hA, hcl⟩ := own_first HL.out (by omega) (by omega)
   clear hcl
   subst hA
   obtain ⟨n0, n1, n2, n3, n4, n5⟩ := own_tok HL.out rfl hlt
   have hdr := List.drop_eq_getElem_cons hlt
   generalize hx : l[k] = t at n0 n1 n2 n3 n4 n5 hdr
   have HX := Lib.hid hdr
   clear hx hdr
   have HB : Hid (∀ o, w.grownBy (wr.alloc o) none ∧ ∀ o', w.grownBy ((wr.alloc o).alloc o') none ∧ ((wr.alloc o).alloc o').ownsRow w.heap.size 64 7 v out.length (out.flatMap (readC s)) ∧ ((wr.alloc o).alloc o').heap[wr.heap.size + 1]? = some o' ∧ w.heap.size ≤ ((wr.alloc o).alloc o').heap.size ∧
     ((wr.alloc o).alloc o').ownsRow w.heap.size 62 6 (.slice (some ⟨g, 0, none⟩) l.length c) l.length (l.flatMap (tokC s))) := Lib.hid fun o =>
    ⟨grown_alloc HG.out o, fun o' => ⟨grown_alloc (grown_alloc HG.out o) o', (HO.out.alloc o).alloc o', new_blk' (by simp), by have := HG.out.size; simp; omega, (HL.out.alloc o).alloc o'⟩⟩
   cases hk38 : (t.tk.kind == 38) with
   | true =>
    have HE2 : Hid (out ++ Css.rds true (l.drop (k + 1)) = R) := Lib.hid (by rw [← HE.out, HX.out, rds_ws hk38])
    have hkn : (t.tk.kind != 38) = false := by simp only [bne, hk38]; rfl
    go_wp2_with fail
    go_roundg (l.length - (k + 1))
    case measure => omega
    case rel => exact ⟨k + 1, v, true, out, rfl, rfl, by go_num, hlt, rfl, by omega, Lib.hid (HB.out _).1, Lib.hid (HL.out.alloc _), Lib.hid (HO.out.alloc _), HE2⟩
   | false =>
    have HE2 : Hid (out ++ [(t, sp)] ++ Css.rds false (l.drop (k + 1)) = R) := Lib.hid (by rw [List.append_assoc, ← HE.out, HX.out, rds_tok hk38]; rfl)
    have hkn : (t.tk.kind != 38) = true := by simp only [bne, hk38]; rfl
    have h63 : out.length + 1 ≤ maxLen := by unfold maxLen; omega
    have h47 : (out.length + 1) * 64 ≤ 140737488355328 := by omega
    have h07 : 0 < 7 := by omega
    go_wp2_with ((at_builtin; refine wpList_append_src rfl w.heap.size (.tmp 29) (.tmp 33) 58 58 64 i0 z0 7 64 rfl Tryz.underlying58 HI.out.1 HI.out.2.1 HI.out.2.2.1 HI.out.2.2.2.1 HI.out.2.2.2.2 h07 v out.length (out.flatMap (readC s)) rfl _ 1 (readC s (t, sp)) rfl (Src.block Tryz.underlying58 _ (readC s (t, sp)) 64 ((HB.out _).2 _).2.2.1 rfl (readC_one _ _)) ((HB.out _).2 _).2.1 ((HB.out _).2 _).2.2.2.1 h63 h47 ?_; intro v3 w3 hown hgr hat; have HG3 := Lib.hid (grown_own (base := w.heap.size) ((HB.out _).2 _).1 hgr (own_base HO.out)); have HL3 := Lib.hid (((HB.out _).2 _).2.2.2.2.kept hgr (own_apart HL.out HO.out (by decide))); have HO3 := Lib.hid hown; have HCL : w3.cell? ⟨wr.heap.size, 0, none⟩ = some (.int .i64 t.tk.kind) := cell_blk (new_keep HO.out hgr (two_blk _ _ _)) rfl; clear hown hgr hat))
    go_roundg (l.length - (k + 1))
    case measure => omega
    case rel => exact ⟨k + 1, v3, false, out ++ [(t, sp)], rfl, rfl, by go_num, hlt, rfl, by simp; omega, HG3, HL3, by rw [List.length_append, List.flatMap_append, List.flatMap_cons, List.flatMap_nil, List.append_nil]; exact HO3, HE2⟩
  ·have hk' : k = l.length := by omega
   have HT : Hid (out = R) := Lib.hid (by
    have := HE.out
    rw [hk', List.drop_length] at this
    simpa [Css.rds] using this)
   clear hk' HE
   obtain ⟨A3, c3, hv⟩ := own_slice' HO.out
   subst hv
   go_wp2_with fail
   go_ret2
   rw [← HT.out]
   exact ⟨A3, c3, rfl, HG.out, HO.out⟩
end Go.Proofs.YtkfdcbdlcipmfaaGreatFmt
/- What kinds of tokens have a text, a unit; where the tokens that were read stand in the text. No program in sight. -/
namespace Go.Proofs.YtkfdcbdlcipmfaaGreatFmt.Css
theorem quoted_facts (q : Int) : ∀ (k : Nat) (out : List UInt8) (U : List Int), U.length ≤ k → (quoted q out U).1.kind = 36 ∧ (quoted q out U).1.unit = 0 ∨ (quoted q out U).1 = ⟨2, 0, false, []⟩ := by
 intro k
 induction k with
 | zero =>
  intro out U h
  have : U = [] := List.eq_nil_of_length_eq_zero (by omega)
  subst this
  rw [quoted]; exact .inl ⟨rfl, rfl⟩
 | succ k ih =>
  intro out U h
  cases U with
  | nil => rw [quoted]; exact .inl ⟨rfl, rfl⟩
  | cons c V =>
   simp only [List.length_cons] at h
   rw [quoted]
   split
   ·exact .inl ⟨rfl, rfl⟩
   split
   ·exact .inr rfl
   split
   ·split
    ·exact ih _ _ (by omega)
    split
    ·exact ih _ _ (by have := newline_le V; omega)
    ·exact ih _ _ (by have := esc_le V; omega)
   ·exact ih _ _ (by omega)
theorem badURL_facts : ∀ (k : Nat) (U : List Int), U.length ≤ k → (badURL U).1 = ⟨3, 0, false, []⟩ := by
 intro k
 induction k with
 | zero =>
  intro U h
  have : U = [] := List.eq_nil_of_length_eq_zero (by omega)
  subst this
  rw [badURL]
 | succ k ih =>
  intro U h
  cases U with
  | nil => rw [badURL]
  | cons c V =>
   simp only [List.length_cons] at h
   rw [badURL]
   split
   ·rfl
   split
   ·exact ih _ (by have := esc_le V; omega)
   ·exact ih _ (by omega)
theorem url_facts : ∀ (k : Nat) (out : List UInt8) (U : List Int), U.length ≤ k → (url out U).1.kind = 37 ∧ (url out U).1.unit = 0 ∨ (url out U).1 = ⟨3, 0, false, []⟩ := by
 intro k
 induction k with
 | zero =>
  intro out U h
  have : U = [] := List.eq_nil_of_length_eq_zero (by omega)
  subst this
  rw [url]; exact .inl ⟨rfl, rfl⟩
 | succ k ih =>
  intro out U h
  cases U with
  | nil => rw [url]; exact .inl ⟨rfl, rfl⟩
  | cons c V =>
   simp only [List.length_cons] at h
   rw [url]
   split
   ·exact .inl ⟨rfl, rfl⟩
   split
   ·dsimp only
    split
    ·exact .inr (badURL_facts _ _ (Nat.le_refl _))
    ·exact ih _ _ (by have := spaces_le V; omega)
   split
   ·exact .inr (badURL_facts _ _ (Nat.le_refl _))
   split
   ·exact ih _ _ (by have := esc_le V; omega)
   ·exact ih _ _ (by omega)
structure Facts (U : List Int) (r : Tk × List Int × Bool) : Prop where
 dim : r.1.kind = 26 → r.1.unit = wd U - wd (numHead U).1 ∧ r.2.1 = (name (numHead U).1).2.1
 unit : r.1.kind ≠ 26 → r.1.unit = 0
 text : r.1.kind ≠ 29 → r.1.kind ≠ 27 → r.1.kind ≠ 1 → r.1.kind ≠ 28 → r.1.kind ≠ 36 → r.1.kind ≠ 37 → r.1.text = []
 close : r.1.kind = 8 ∨ r.1.kind = 7 ∨ r.1.kind = 6 → ∃ c, U = c :: r.2.1 ∧ (r.1.kind = 8 → c = 41) ∧ (r.1.kind = 7 → c = 93) ∧ (r.1.kind = 6 → c = 125)
theorem facts_of {U : List Int} {r : Tk × List Int × Bool} (h : r.1.kind = 29 ∨ r.1.kind = 27 ∨ r.1.kind = 1 ∨ r.1.kind = 28 ∨ r.1.kind = 36 ∨ r.1.kind = 37) (hu : r.1.unit = 0) : Facts U r :=
 ⟨fun e => by omega, fun _ => hu, fun _ _ _ _ _ _ => by omega, fun e => by omega⟩
theorem facts_plain {U : List Int} {r : Tk × List Int × Bool} {k : Int} (h : r.1 = ⟨k, 0, false, []⟩) (h26 : k ≠ 26) (hc : k ≠ 8 ∧ k ≠ 7 ∧ k ≠ 6) : Facts U r :=
 ⟨fun e => absurd (by rw [h] at e; exact e) h26, fun _ => by rw [h], fun _ _ _ _ _ _ => by rw [h], fun e => by rw [h] at e; simp only at e; omega⟩
theorem signKind_close {c : Int} : (signKind c = 8 → c = 41) ∧ (signKind c = 7 → c = 93) ∧ (signKind c = 6 → c = 125) ∧ signKind c ≠ 26 := by
 unfold signKind
 simp only [beq_iff_eq]
 repeat' split
 all_goals omega
theorem next_facts (U : List Int) : Facts U (next U) := by
 unfold next
 dsimp only
 split
 ·exact facts_plain rfl (by decide) (by decide)
 rename_i h0
 split
 ·exact facts_plain rfl (by decide) (by decide)
 split
 ·rcases quoted_facts (pk 0 U) _ [] U.tail (Nat.le_refl _) with h | h
  ·exact facts_of (by omega) h.2
  ·exact facts_plain h (by decide) (by decide)
 split
 ·exact facts_of (by simp) rfl
 split
 ·unfold numeric
  dsimp only
  split
  ·exact ⟨fun _ => ⟨rfl, rfl⟩, fun h => absurd rfl h, fun _ _ _ _ _ _ => rfl, fun e => by simp at e⟩
  split
  ·exact facts_plain rfl (by decide) (by decide)
  ·exact facts_plain rfl (by decide) (by decide)
 split
 ·exact facts_plain rfl (by decide) (by decide)
 split
 ·unfold named
  dsimp only
  split
  ·exact facts_of (by simp) rfl
  split
  ·rcases url_facts _ [] (spaces (name U).2.1.tail) (Nat.le_refl _) with h | h
   ·exact facts_of (by simp [h.1]) h.2
   ·exact facts_plain h (by decide) (by decide)
  ·exact facts_of (by simp) rfl
 split
 ·exact facts_plain rfl (by decide) (by decide)
 split
 ·exact facts_of (by simp) rfl
 ·have hc := @signKind_close (pk 0 U)
  refine ⟨fun e => absurd e hc.2.2.2, fun _ => rfl, fun _ _ _ _ _ _ => rfl, fun e => ⟨pk 0 U, ?_, hc.1, hc.2.1, hc.2.2.1⟩⟩
  cases U with
  | nil => simp [pk_nil] at h0
  | cons c V => simp [pk_cons_zero]
theorem wd_sfx {X U : List Int} (h : X <:+ U) : wd X ≤ wd U := by
 obtain ⟨P, rfl⟩ := h
 rw [wd_append]; omega
theorem unit_le {U X U' : List Int} {tk : Tk} {b : Bool} (h : next U = (tk, U', b)) (hX : U = X ++ U') (h26 : tk.kind = 26) : tk.unit ≤ wd X := by
 have hf := next_facts U
 rw [h] at hf
 obtain ⟨h1, h2⟩ := hf.dim h26
 simp only at h1 h2
 have h3 := wd_sfx (name_sfx (numHead U).1)
 have h4 : wd U = wd X + wd U' := by rw [hX, wd_append]
 rw [h2] at h4
 omega
theorem tok_bytes {s : List UInt8} {F U X : List Int} (hp : plain s = true) (hF : F <:+ codes s) (hX : F = X ++ U) :
  wd F ≤ s.length ∧ wd U ≤ wd F ∧ (s.drop (s.length - wd F)).take (wd X) = enc X ∧ wd F = wd X + wd U := by
 obtain ⟨P, hP⟩ := hF
 have hv := plainX_valid (plain_parts hp).1
 have he := enc_codes hv
 have hw := codes_wd s
 have h1 : wd F = wd X + wd U := by rw [hX, wd_append]
 have h2 : s.length = wd P + wd F := by rw [← hw, ← hP, wd_append]
 refine ⟨by omega, by omega, ?_, h1⟩
 have h3 : s = enc P ++ (enc X ++ enc U) := by
  conv => lhs; rw [← he, ← hP, hX]
  rw [enc_append, enc_append]
 have h4 : s.length - wd F = (enc P).length := by rw [enc_length]; omega
 rw [h4, h3, List.drop_left, ← enc_length X, List.take_left]
end Go.Proofs.YtkfdcbdlcipmfaaGreatFmt.Css
/- A token of a text that is an item: the statements say so. The text has at most 2^31 bytes. -/
namespace Go.Proofs.YtkfdcbdlcipmfaaGreatFmt
open Go.RowKit
def Yes (w : World) (e : Ending) (w' : World) : Prop := e = .returned (.bool true) ∧ w.grownBy w' none
def readV (k : Int) (a b u : Nat) (id : Bool) (t : List UInt8) (sp : Bool) : Value := .agg #[.int .i64 k, .int .i64 (a : Int), .int .i64 (b : Int), .int .i64 (u : Int), .bool id, .string (str t), .bool sp]
set_option maxRecDepth 400000 in
set_option maxHeartbeats 1000000 in
theorem c32_text (s : ByteArray) (k : Int) (a b u : Nat) (id sp : Bool) (t : List UInt8) (xu xs : Int) (w : World) (hab : (a : Int) ≤ b) (hb : b ≤ s.size) (hk : k = 29 ∨ k = 27 ∨ k = 1 ∨ k = 28 ∨ k = 36) :
  Calls Tryz.prog 32 #[.string s, readV k a b u id t sp, itemVal ⟨k, xu, t, xs⟩] w (Yes w) := by
 have HG : Hid (∀ o o', w.grownBy ((w.alloc o).alloc o') none) := Lib.hid fun o o' => grown_alloc (grown_alloc (grown_refl _ _) o) o'
 unfold readV itemVal
 rcases hk with rfl | rfl | rfl | rfl | rfl
 all_goals
  go_enter Tryz.func32, Tryz.ntmps32
  go_wp2_with fail
  go_ret
  exact ⟨rfl, HG.out _ _⟩
set_option maxRecDepth 400000 in
set_option maxHeartbeats 1000000 in
theorem c32_close (s : ByteArray) (k : Int) (a b u : Nat) (id sp : Bool) (t xt : List UInt8) (xu xs : Int) (w : World) (hab : (a : Int) ≤ b) (hb : b ≤ s.size) (hk : k = 8 ∨ k = 7 ∨ k = 6) :
  Calls Tryz.prog 32 #[.string s, readV k a b u id t sp, itemVal ⟨k, xu, xt, xs⟩] w (Yes w) := by
 have HG : Hid (∀ o o', w.grownBy ((w.alloc o).alloc o') none) := Lib.hid fun o o' => grown_alloc (grown_alloc (grown_refl _ _) o) o'
 unfold readV itemVal
 rcases hk with rfl | rfl | rfl
 all_goals
  go_enter Tryz.func32, Tryz.ntmps32
  go_wp2_with fail
  go_ret
  exact ⟨rfl, HG.out _ _⟩
set_option maxRecDepth 400000 in
set_option maxHeartbeats 1000000 in
theorem c32_other (s : ByteArray) (k : Int) (a b u : Nat) (id sp : Bool) (t xt : List UInt8) (xu xs : Int) (w : World) (hab : (a : Int) ≤ b) (hb : b ≤ s.size) (hS : s.extract a b = str xt)
  (h29 : (k == 29) = false) (h27 : (k == 27) = false) (h1 : (k == 1) = false) (h28 : (k == 28) = false) (h36 : (k == 36) = false) (h26 : (k == 26) = false) (h8 : (k == 8) = false) (h7 : (k == 7) = false) (h6 : (k == 6) = false) :
  Calls Tryz.prog 32 #[.string s, readV k a b u id t sp, itemVal ⟨k, xu, xt, xs⟩] w (Yes w) := by
 have HG : Hid (∀ o o', w.grownBy ((w.alloc o).alloc o') none) := Lib.hid fun o o' => grown_alloc (grown_alloc (grown_refl _ _) o) o'
 unfold readV itemVal
 go_enter Tryz.func32, Tryz.ntmps32
 go_wp2_with fail
 go_ret
 exact ⟨rfl, HG.out _ _⟩
def IsW (w w' : World) (s : ByteArray) (a b u : Nat) (id sp : Bool) (t xt : List UInt8) (xs : Int) : Prop :=
 w.grownBy w' none ∧ w'.cell? ⟨w.heap.size, 0, none⟩ = some (.int .i64 26) ∧ w'.cell? ⟨w.heap.size, 3, none⟩ = some (.int .i64 (u : Int)) ∧ w'.cell? ⟨w.heap.size + 1, 1, none⟩ = some (.int .i64 (u : Int)) ∧ w'.cell? ⟨w.heap.size + 1, 2, none⟩ = some (.string (str xt))
set_option maxRecDepth 400000 in
set_option maxHeartbeats 1000000 in
theorem c32_dim (s : ByteArray) (a b u : Nat) (id sp : Bool) (t xt Y : List UInt8) (xs : Int) (w : World) (hab : (a : Int) ≤ b) (hb : b ≤ s.size) (hS : s.extract a b = str Y) (hs : Y.length ≤ 2147483648)
  (hu : u ≤ Y.length) (hux : u ≤ xt.length) (h1 : Y.take u = xt.take u) (h2 : (Css.name (Css.codes (Y.drop u))).1 = xt.drop u) :
  Calls Tryz.prog 32 #[.string s, readV 26 a b u id t sp, itemVal ⟨26, u, xt, xs⟩] w (Yes w) := by
 have FACTS : Hid (∀ wr, wr = (w.alloc (.cells #[.int .i64 26, .int .i64 (a : Int), .int .i64 (b : Int), .int .i64 (u : Int), .bool id, .string (str t), .bool sp] 64)).alloc (.cells #[.int .i64 26, .int .i64 (u : Int), .string (str xt), .int .i64 xs] 34) → w.grownBy wr none ∧ ∀ w', wr.grownBy w' none → wr.grownBy w' none ∧ w'.cell? ⟨w.heap.size, 3, none⟩ = some (.int .i64 (u : Int)) ∧ w'.cell? ⟨w.heap.size + 1, 1, none⟩ = some (.int .i64 (u : Int)) ∧ w'.cell? ⟨w.heap.size + 1, 2, none⟩ = some (.string (str xt))) := Lib.hid fun wr hwr => by
  subst hwr
  exact ⟨grown_alloc (grown_alloc (grown_refl _ _) _) _, fun w' hg => ⟨hg, cell_blk (free_keep hg (two_blk _ _ _)) (i := 3) rfl, cell_blk (free_keep hg (new_blk' (by simp))) (i := 1) rfl, cell_blk (free_keep hg (new_blk' (by simp))) (i := 2) rfl⟩⟩
 have H35 := fun W => c35 (str (Y.drop u)) W (by rw [str_size]; simp; omega)
 rw [str_data, h2] at H35
 have e1 : (str Y).extract 0 u = str (xt.take u) := by rw [str_take, h1]
 have e2 : (str Y).extract u (str Y).size = str (Y.drop u) := by rw [str_size]; exact str_drop Y u
 have e3 : (str xt).extract 0 u = str (xt.take u) := str_take xt u
 have e4 : (str xt).extract u (str xt).size = str (xt.drop u) := by rw [str_size]; exact str_drop xt u
 have hu1 : u ≤ (str Y).size := by rw [str_size]; exact hu
 have hu2 : u ≤ (str xt).size := by rw [str_size]; exact hux
 have H := Lib.hid H35
 clear H35 h1 h2 hs hu hux
 unfold readV itemVal
 go_enter Tryz.func32, Tryz.ntmps32
 go_wp2_with fail
 generalize hwr : (w.alloc (.cells #[.int .i64 26, .int .i64 (a : Int), .int .i64 (b : Int), .int .i64 (u : Int), .bool id, .string (str t), .bool sp] 64)).alloc (.cells #[.int .i64 26, .int .i64 (u : Int), .string (str xt), .int .i64 xs] 34) = wr
 have FACTS2 := Lib.hid (FACTS.out wr hwr.symm)
 have hgW := grown_refl wr none
 clear FACTS hwr
 obtain ⟨_, p3, q1, q2⟩ := FACTS2.out.2 _ hgW
 go_region_held3 (fun w' => wr.grownBy w' none ∧ w'.cell? ⟨w.heap.size, 3, none⟩ = some (.int .i64 (u : Int)) ∧ w'.cell? ⟨w.heap.size + 1, 1, none⟩ = some (.int .i64 (u : Int)) ∧ w'.cell? ⟨w.heap.size + 1, 2, none⟩ = some (.string (str xt))) (first | exact FACTS2.out.2 _ (grown_drew hgW) | exact FACTS2.out.2 _ hgx | go_keep)
  (first | (go_at_call 35; (with_reducible refine (H.out _).mono ?_); rintro e w' ⟨rfl, hg⟩; have hgx := grown_trans (a := wr) (by first | assumption | exact grown_drew hgW) hg))
 go_wp2_with fail
 go_ret
 exact ⟨rfl, grown_trans FACTS2.out.1 hgx⟩
end Go.Proofs.YtkfdcbdlcipmfaaGreatFmt
