/- Parts of tokens: the value and the unit of a dimension; is there an e in a number. -/
import Derived.Test.YtkfdcbdlcipmfaaGreatFmtGJ
import Derived.Test.YtkfdcbdlcipmfaaGreatFmtGV
import Derived.Test.YtkfdcbdlcipmfaaGreatFmtGM
import Derived.Test.YtkfdcbdlcipmfaaGreatFmtGS
import Derived.Test.YtkfdcbdlcipmfaaGreatFmtGY
set_option linter.unusedVariables false
set_option linter.unusedSimpArgs false
namespace Go.Proofs.YtkfdcbdlcipmfaaGreatFmt
open Go.RowKit Go.Extern.Stop Go.Stop Go.Extern

def tokV (p : Option Addr) (n : Css.Node) : Value := .agg #[.pointer p, .string (str n.text), .int .i32 0, .int .u32 0, .int .u16 (n.unit % 65536), .int .u8 n.kind, .int .u8 (tokWs n)]

set_option maxRecDepth 100000 in
theorem c110 (p : Option Addr) (n : Css.Node) (h0 : 0 ≤ n.unit) (h1 : n.unit < 60000) (h2 : n.unit ≤ n.text.length) (w : World) :
    Calls Tryz.prog 110 #[tokV p n] w fun e w' => e = .returned (.string (str (n.text.take n.unit.toNat))) ∧ w.grownBy w' none := by
  obtain ⟨k, u, d, t, b, a⟩ := n
  simp only at h0 h1 h2
  obtain ⟨j, rfl⟩ : ∃ j : Nat, u = j := ⟨u.toNat, by omega⟩
  have hu : ((j : Int) % 65536) = j := by omega
  have hs := str_size t
  have hz : (j : Int) ≤ (str t).size := by omega
  have ht := str_take t j
  unfold tokV
  simp only [hu, Int.toNat_natCast]
  have HT := Lib.hid ht
  clear ht hs hu
  go_enter Tryz.func110, Tryz.ntmps110
  go_wp2_with fail
  go_ret
  exact ⟨by rw [HT.out]; rfl, grown_alloc (grown_refl _ _) _⟩
set_option maxRecDepth 100000 in
theorem c112 (p : Option Addr) (n : Css.Node) (h0 : 0 ≤ n.unit) (h1 : n.unit < 60000) (h2 : n.unit ≤ n.text.length) (w : World) :
    Calls Tryz.prog 112 #[tokV p n] w fun e w' => e = .returned (.string (str (n.text.drop n.unit.toNat))) ∧ w.grownBy w' none := by
  obtain ⟨k, u, d, t, b, a⟩ := n
  simp only at h0 h1 h2
  obtain ⟨j, rfl⟩ : ∃ j : Nat, u = j := ⟨u.toNat, by omega⟩
  have hu : ((j : Int) % 65536) = j := by omega
  have hs := str_size t
  have hz : (j : Int) ≤ (str t).size := by omega
  have ht := str_drop t j
  rw [← hs] at ht
  unfold tokV
  simp only [hu, Int.toNat_natCast]
  have HT := Lib.hid ht
  clear ht hs hu
  go_enter Tryz.func112, Tryz.ntmps112
  go_wp2_with fail
  go_ret
  exact ⟨by rw [HT.out]; rfl, grown_alloc (grown_refl _ _) _⟩

structure ItR (w : World) (ib : Nat) (s : ByteArray) (p : Nat) (U : List Int) (wr : World) : Prop where
  at_ : At s p U
  iter : wr.heap[ib]? = some (.stringIter s p)
  grown : w.grownBy wr none
theorem ItR.step {w : World} {ib : Nat} {s : ByteArray} {p : Nat} {c : Int} {U : List Int} {wr : World} (h : ItR w ib s p (c :: U) wr) (hc : Css.Valid c) (hib : w.heap.size ≤ ib) :
    ∃ W1, (∀ ty, (Instr.next (.pointer (some ⟨ib, 0, none⟩)) true ty).run Tryz.prog wr = .ok (.tuple #[.bool true, .int .i64 p, .int .i32 c]) W1) ∧ p < s.size ∧ ItR w ib s (p + Css.width c) U W1 := by
  obtain ⟨h1, h2, h3⟩ := h.at_.step hc
  refine ⟨wr.iterAt ib s (p + Css.width c), fun ty => ?_, h1, h3, Lib.iterAt_heap _ _ _ _ _ h.iter, map_free h.grown (row_iter _ _ _ _) hib⟩
  rw [Lib.run_next_any_at wr ib s p ty h.iter h1, h2]
  have := hc.1
  simp only
  rw [show ((c.toNat : Nat) : Int) = c by omega]
theorem ItR.stop {w : World} {ib : Nat} {s : ByteArray} {p : Nat} {wr : World} (h : ItR w ib s p [] wr) : ∀ ty, (Instr.next (.pointer (some ⟨ib, 0, none⟩)) true ty).run Tryz.prog wr = .ok (.tuple #[.bool false]) wr :=
  fun ty => Lib.run_next_end_at (P := Tryz.prog) wr ib s p ty h.iter h.at_.done
theorem ItR.free {w : World} {ib : Nat} {s : ByteArray} {p : Nat} {U : List Int} {wr wr' : World} (h : ItR w ib s p U wr) (hg : wr.grownBy wr' none) : ItR w ib s p U wr' :=
  ⟨h.at_, free_keep hg h.iter, grown_trans h.grown hg⟩
theorem At.first {s : ByteArray} {V : List Int} (h : s.data.toList = Css.enc V) : At s 0 V :=
  ⟨by rw [← h]; rfl, by rw [Nat.zero_add, ← Css.enc_length, ← h, bytes_len]⟩
theorem ItR.first {w W : World} {s : ByteArray} {V : List Int} (h : s.data.toList = Css.enc V) (hg : w.grownBy W none) : ItR w W.heap.size s 0 V (W.iter s 0) :=
  ⟨At.first h, World.iter_heap W s 0, grown_trans hg (grown_iter W s 0)⟩

def IdxR (w : World) (V : List Int) (e : Ending) (w' : World) : Prop := ∃ i : Int, e = .returned (.int .i64 i) ∧ (0 ≤ i ↔ Css.hasE V = true) ∧ -1 ≤ i ∧ w.grownBy w' none
set_option maxRecDepth 100000 in
set_option maxHeartbeats 2000000 in
theorem c137 {w : World} {s ee : ByteArray} {V : List Int} (hs : s.data.toList = Css.enc V) (hV : ∀ c ∈ V, Css.Valid c) (hee : ee.data.toList = Css.enc [101, 69]) (hsz : s.size ≤ 2147483648) :
    Calls Tryz.prog 137 #[.string s, .string ee] w (IdxR w V) := by
  have HI : Hid (∃ wi ib, wi = w.iter s 0 ∧ ib = w.heap.size ∧ w.heap.size ≤ ib ∧ ItR w ib s 0 V wi) := Lib.hid ⟨_, _, rfl, rfl, Nat.le_refl _, ItR.first hs (grown_refl _ _)⟩
  obtain ⟨wi, ib, e1, e2, hib, hR⟩ := HI.out
  have HR := Lib.hid hR
  have H1 := Lib.hid e1
  have H2 := Lib.hid e2
  have HV := Lib.hid hV
  have HE := Lib.hid hee
  clear HI e1 e2 hR hs hV hee
  go_enter Tryz.func137, Tryz.ntmps137
  go_wp2_with fail
  rw [← H1.out, ← H2.out]
  clear H1 H2
  go_loopg [5, 6, 8] s.size (fun gk s5 s6 s8 wr => ∃ (p : Nat) (A U : List Int), gk = s.size - p ∧ Hid (ItR w ib s p U wr) ∧ Hid (V = A ++ U ∧ Css.hasE A = false))
  case atStart => exact ⟨0, [], V, rfl, HR, Lib.hid ⟨rfl, rfl⟩⟩
  case round =>
    clear HR
    obtain ⟨p, A, U, rfl, HR, HA⟩ := hrel
    cases U with
    | nil =>
      have hnx := HR.out.stop
      have HG := Lib.hid HR.out.grown
      have HN : Hid (Css.hasE V = false) := Lib.hid (by rw [HA.out.1, List.append_nil]; exact HA.out.2)
      go_wp2_with fail
      go_ret
      exact ⟨-1, rfl, by rw [HN.out]; simp, by omega, HG.out⟩
    | cons c U =>
      have hc : Css.Valid c := HV.out c (by rw [HA.out.1]; simp)
      obtain ⟨W1, hnx, hps, hR1⟩ := HR.out.step hc hib
      have HR1 := Lib.hid hR1
      have hwc := Css.width_pos c
      have HI : Hid (∃ wi jb, wi = W1.iter ee 0 ∧ jb = W1.heap.size ∧ w.heap.size ≤ jb ∧ W1.heap.size ≤ jb ∧ ItR W1 jb ee 0 [101, 69] wi) := Lib.hid ⟨_, _, rfl, rfl, hR1.grown.size, Nat.le_refl _, ItR.first HE.out (grown_refl _ _)⟩
      obtain ⟨wj, jb, e1, e2, hjb, hjb1, hR2⟩ := HI.out
      have HR2 := Lib.hid hR2
      have H1 := Lib.hid e1
      have H2 := Lib.hid e2
      have hpi : (p : Int) ≤ 2147483648 := by omega
      have hT : ∀ x : Int, x = c → (x == 101 || x == 69) = true → Css.hasE V = true := fun x hx h => by
        rw [HA.out.1]
        subst hx
        simp [Css.hasE]
        right
        left
        simpa using h
      have HT := Lib.hid hT
      clear HR hR1 hR2 e1 e2 HI hT
      go_wp2_with fail
      rw [← H1.out, ← H2.out]
      clear H1 H2
      go_loopg [8] 2 (fun gk s8 wr => (gk = 2 ∧ Hid (ItR W1 jb ee 0 [101, 69] wr)) ∨ (gk = 1 ∧ (c == 101) = false ∧ Hid (ItR W1 jb ee 1 [69] wr)) ∨ (gk = 0 ∧ (c == 101) = false ∧ (c == 69) = false ∧ Hid (ItR W1 jb ee 2 [] wr)))
      case atStart => exact .inl ⟨rfl, HR2⟩
      case round =>
        clear HR2 hnx
        rcases hrel with ⟨rfl, HR2⟩ | ⟨rfl, t1, HR2⟩ | ⟨rfl, t1, t2, HR2⟩
        · obtain ⟨W2, hnx, _, hR3⟩ := HR2.out.step (c := 101) ⟨by decide, by decide, by decide⟩ hjb1
          have HR3 := Lib.hid hR3
          clear hR3 HR2
          cases t1 : (c == 101) with
          | true =>
            have HY := Lib.hid (HT.out c rfl (by rw [t1]; rfl))
            have HG := Lib.hid (grown_trans HR1.out.grown HR3.out.grown)
            go_wp2_with fail
            go_ret
            exact ⟨_, rfl, ⟨fun _ => HY.out, fun _ => by omega⟩, by omega, HG.out⟩
          | false =>
            go_wp2_with fail
            go_roundg 1
            case measure => omega
            case rel => exact .inr (.inl ⟨rfl, t1, HR3⟩)
        · obtain ⟨W2, hnx, _, hR3⟩ := HR2.out.step (c := 69) ⟨by decide, by decide, by decide⟩ hjb1
          have HR3 := Lib.hid hR3
          clear hR3 HR2
          cases t2 : (c == 69) with
          | true =>
            have HY := Lib.hid (HT.out c rfl (by rw [t2]; simp))
            have HG := Lib.hid (grown_trans HR1.out.grown HR3.out.grown)
            go_wp2_with fail
            go_ret
            exact ⟨_, rfl, ⟨fun _ => HY.out, fun _ => by omega⟩, by omega, HG.out⟩
          | false =>
            go_wp2_with fail
            go_roundg 0
            case measure => omega
            case rel => exact .inr (.inr ⟨rfl, t1, t2, HR3⟩)
        · have hnx := HR2.out.stop
          have HR4 := Lib.hid (HR1.out.free HR2.out.grown)
          have HA2 : Hid (V = (A ++ [c]) ++ U ∧ Css.hasE (A ++ [c]) = false) := Lib.hid ⟨by rw [HA.out.1]; simp, by
            have := HA.out.2
            simp only [Css.hasE, List.any_append, this, List.any_cons, List.any_nil, t1, t2] at this ⊢
            simp [this]⟩
          go_wp2_with fail
          go_roundg (s.size - (p + Css.width c))
          case measure => omega
          case rel => exact ⟨p + Css.width c, A ++ [c], U, rfl, HR4, HA2⟩

set_option maxRecDepth 100000 in
theorem c111 {w : World} {s ee : ByteArray} {V : List Int} (hs : s.data.toList = Css.enc V) (hV : ∀ c ∈ V, Css.Valid c) (hee : ee.data.toList = Css.enc [101, 69]) (hsz : s.size ≤ 2147483648) :
    Calls Tryz.prog 111 #[.string s, .string ee] w fun e w' => e = .returned (.bool (Css.hasE V)) ∧ w.grownBy w' none := by
  have H := Lib.hid (c137 (w := w) hs hV hee hsz)
  clear hs hV hee
  go_enter Tryz.func111, Tryz.ntmps111
  go_wp2_with fail
  refine H.out.mono ?_
  rintro e w1 ⟨i, rfl, hi, hi1, hg⟩
  have HG := Lib.hid hg
  have HI := Lib.hid hi
  clear hi hg
  go_wp2_with fail
  go_ret
  exact ⟨ret_bool (by rw [Bool.eq_iff_iff, ← HI.out]; simp), HG.out⟩
end Go.Proofs.YtkfdcbdlcipmfaaGreatFmt
/- functionMultiLineCommaPeriod: that it ends, and answers 0, 1, 2 or 4. -/
namespace Go.Proofs.YtkfdcbdlcipmfaaGreatFmt
open Go.RowKit Go.Extern.Stop Go.Stop Go.Extern

def PerR (w : World) (e : Ending) (w' : World) : Prop := ∃ k : Int, e = .returned (.int .u8 k) ∧ (k = 0 ∨ k = 1 ∨ k = 2 ∨ k = 4) ∧ w.grownBy w' none
def tokO (p : Option Addr) (n : Css.Node) : Obj := .cells #[.pointer p, .string (str n.text), .int .i32 0, .int .u32 0, .int .u16 (n.unit % 65536), .int .u8 n.kind, .int .u8 (tokWs n)] 105 (0, 0)

set_option maxRecDepth 100000 in
set_option maxHeartbeats 4000000 in
theorem c109 {w : World} (ht : Tabs w) {P : Nat → Prop} {p : Option Addr} {n : Css.Node} {kids : List Css.Tree} (htk : TkT w P (.mk n kids) (tkC p n)) (hP : ∀ b, P b → b < w.heap.size) (hn : n.text.length ≤ 2147483648) (hk : kids.length ≤ 1000000) :
    Calls Tryz.prog 109 #[tokV p n] w (PerR w) := by
  cases t27 : (n.kind == 27) with
  | false =>
    have HG : Hid (∀ o, w.grownBy (w.alloc o) none) := Lib.hid fun o => grown_alloc (grown_refl _ _) o
    unfold tokV
    clear ht htk hP hn hk
    generalize tokWs n = tw
    generalize n.kind = k at t27 ⊢
    go_enter Tryz.func109, Tryz.ntmps109
    go_wp2_with fail
    go_ret
    exact ⟨0, rfl, .inl rfl, HG.out _⟩
  | true =>
    have h27 : n.kind = 27 := by simpa using t27
    obtain ⟨b, A, cap, rfl, hPb, hb, hTL⟩ := htk.kids (c := 8) (by rw [h27]; rfl)
    have HA : Hid (∀ wa, wa = w.alloc (tokO (some ⟨b, 0, none⟩) n) → w.grownBy wa none ∧ wa.heap[w.heap.size]? = some (tokO (some ⟨b, 0, none⟩) n) ∧ wa.heap[b]? = some (.cells #[.slice A kids.length cap] 66 (0, 0)) ∧ TkL wa P A kids ∧ Tabs wa) := Lib.hid fun wa e => by
      subst e
      have hg := grown_alloc (grown_refl w none) (tokO (some ⟨b, 0, none⟩) n)
      exact ⟨hg, new_blk w _, free_keep hg hb, hTL.keep fun x hx => ⟨hx, hg.block x (hP x hx) (by simp)⟩, ht.free hg⟩
    have hbw : w.heap.size ≠ b := by have := hP b hPb; omega
    have HP := Lib.hid hP
    have hsz := str_size n.text
    have hs2 : (str n.text).size < 35184372088832 := by omega
    have hki : (kids.length : Int) ≤ 1000000 := by omega
    unfold tokV
    clear ht htk hP hn hb hTL hPb hsz t27
    rw [h27]
    generalize hu : (n.unit % 65536) = un
    generalize htx : str n.text = tx at hs2
    generalize htw : tokWs n = tw
    have HA2 : Hid (tokO (some ⟨b, 0, none⟩) n = .cells #[.pointer (some ⟨b, 0, none⟩), .string tx, .int .i32 0, .int .u32 0, .int .u16 un, .int .u8 27, .int .u8 tw] 105 (0, 0)) := Lib.hid (by unfold tokO; rw [h27, hu, htx, htw])
    clear hu htx htw h27
    go_enter Tryz.func109, Tryz.ntmps109
    go_upto_region 1 with (fail)
    rw [← HA2.out]
    generalize hwa : w.alloc (tokO (some ⟨b, 0, none⟩) n) = wa
    obtain ⟨hg, h1, h2, h3, h4⟩ := HA.out wa hwa.symm
    rw [HA2.out] at h1
    have HQ := Lib.hid (And.intro hg (And.intro h1 (And.intro h3 h4)))
    have d0 := cell_blk h1 (i := 0) rfl
    have d1 := cell_blk h1 (i := 1) rfl
    have d5 := cell_blk h1 (i := 5) rfl
    have db := cell_blk h2 (i := 0) rfl
    clear HA HA2 hwa hg h1 h2 h3 h4
    go_wp2_with fail
    go_loopg [3, 5, 14] kids.length (fun gk s3 s5 s14 wr => ∃ k c : Nat, s3 = .int .i64 c ∧ s14 = .int .i64 k ∧ c ≤ k ∧ k ≤ kids.length ∧ gk = kids.length - k ∧ Hid (wa.grownBy wr none))
    case atStart => exact ⟨0, 0, rfl, rfl, Nat.le_refl _, by omega, rfl, Lib.hid (grown_refl _ _)⟩
    case round =>
      clear d0 d1 d5 db
      obtain ⟨k, c, rfl, rfl, hck, hkl, rfl, HG⟩ := hrel
      by_cases hlt : k < kids.length
      · have hTL : TkL wr (fun x => x < w.heap.size) A kids := HQ.out.2.2.1.keep fun x hx => ⟨HP.out x hx, HG.out.block x (Nat.lt_of_lt_of_le (HP.out x hx) HQ.out.1.size) (by simp)⟩
        obtain ⟨ad, q, rfl, _, _, e0, e1, e2, e3, e4, e5, e6⟩ := hTL.elem hlt
        generalize kids[k].n = m at e0 e1 e2 e3 e4 e5 e6
        have HG2 : Hid (∀ o, wa.grownBy (wr.alloc o) none) := Lib.hid fun o => grown_alloc HG.out o
        clear hTL
        cases t10 : (m.kind == 10)
        all_goals
          go_wp2_with fail
          go_roundg (kids.length - (k + 1))
          case measure => omega
          case rel => first
            | exact ⟨k + 1, c + 1, by go_num, by go_num, by omega, hlt, rfl, HG2.out _⟩
            | exact ⟨k + 1, c, by go_num, by go_num, by omega, hlt, rfl, HG2.out _⟩
      · have d1 := cell_blk (free_keep HG.out HQ.out.2.1) (i := 1) rfl
        have hT := HQ.out.2.2.2.free HG.out
        have H136 := Lib.hid (Tryz.strings_ToLower_any tx wr hs2 hT.case hT.utf8)
        have HG0 := Lib.hid (grown_trans HQ.out.1 HG.out)
        clear hT
        go_wp2_with fail
        refine H136.out.mono ?_
        rintro e w2 ⟨rfl, hb2⟩
        have HG2 := Lib.hid (grown_trans HG0.out (below_free hb2))
        generalize (⟨(Lib.toLowerD tx.data.toList).toArray⟩ : ByteArray) = l
        clear hb2 H136 HG0
        go_wp2_with fail
        all_goals
          go_ret
          exact ⟨_, rfl, by first | exact .inl rfl | exact .inr (.inl rfl) | exact .inr (.inr (.inl rfl)) | exact .inr (.inr (.inr rfl)), HG2.out⟩
end Go.Proofs.YtkfdcbdlcipmfaaGreatFmt
/- printTokens: how much is printed at most, what its loop keeps; printQuoted. -/
namespace Go.Proofs.YtkfdcbdlcipmfaaGreatFmt
open Go.RowKit Go.Extern.Stop Go.Stop Go.Extern

mutual
def costT : Css.Tree → Nat | .mk n kids => 500000 + 8 * n.text.length + costL kids
def costL : List Css.Tree → Nat | [] => 1 | t :: ts => costT t + costL ts
end
mutual
def cntT : Css.Tree → Nat | .mk _ kids => 1 + cntL kids
def cntL : List Css.Tree → Nat | [] => 0 | t :: ts => cntT t + cntL ts
end
theorem cntL_len : ∀ ts : List Css.Tree, ts.length ≤ cntL ts
  | [] => Nat.le_refl _
  | .mk n kids :: ts => by
    have := cntL_len ts
    simp only [List.length_cons, cntL, cntT]
    omega
theorem cntL_drop : ∀ (ts : List Css.Tree) (k : Nat) (h : k < ts.length), cntT ts[k] ≤ cntL ts
  | t :: ts, 0, _ => by simp [cntL]
  | t :: ts, k + 1, h => by
    have := cntL_drop ts k (by simpa using h)
    simp only [List.getElem_cons_succ, cntL]
    omega
theorem costL_drop : ∀ (ts : List Css.Tree) (k : Nat) (h : k < ts.length), costL (ts.drop k) = costT ts[k] + costL (ts.drop (k + 1))
  | t :: ts, 0, _ => by simp [costL]
  | t :: ts, k + 1, h => by
    simp only [List.drop_succ_cons, List.getElem_cons_succ]
    exact costL_drop ts k (by simpa using h)
theorem costL_le : ∀ (ts : List Css.Tree) (k : Nat), costL (ts.drop k) ≤ costL ts
  | [], k => by simp
  | t :: ts, 0 => by simp
  | t :: ts, k + 1 => by
    have := costL_le ts k
    simp only [List.drop_succ_cons, costL]
    omega
theorem WL_get {asc : Bool} : ∀ (ts : List Css.Tree), Css.WL asc ts → ∀ (k : Nat) (h : k < ts.length), Css.WT asc ts[k]
  | t :: ts, hw, 0, _ => (show Css.WT asc t ∧ Css.Tight t ts ∧ Css.WL asc ts from hw).1
  | t :: ts, hw, k + 1, h => WL_get ts (show Css.WT asc t ∧ Css.Tight t ts ∧ Css.WL asc ts from hw).2.2 k (by simpa using h)

def wsA (ts : List Css.Tree) : Nat → Bool
  | 0 => Css.headBefore ts
  | k + 1 => (match ts[k]? with | some t => t.n.after | none => false) || Css.headBefore (ts.drop (k + 1))
theorem wsA_succ {ts : List Css.Tree} {k : Nat} (h : k < ts.length) : wsA ts (k + 1) = (ts[k].n.after || Css.headBefore (ts.drop (k + 1))) := by
  simp only [wsA, List.getElem?_eq_getElem h]
theorem wsA_last : ∀ ts : List Css.Tree, wsA ts ts.length = Css.lastAfter (Css.headBefore ts) ts := by
  intro ts
  cases ts with
  | nil => rfl
  | cons t ts =>
    have : ∀ (ts : List Css.Tree) (t : Css.Tree) (b : Bool), (t :: ts)[ts.length].n.after = Css.lastAfter b (t :: ts) := by
      intro ts
      induction ts with
      | nil => intro t b; rfl
      | cons u us ih => intro t b; exact ih u false
    have hd : (t :: ts).drop (ts.length + 1) = [] := by simp
    rw [List.length_cons, wsA_succ (by simp), hd, this ts t (Css.headBefore (t :: ts))]
    simp [Css.headBefore]
structure TkR (asc : Bool) (ts : List Css.Tree) (k : Nat) (X : List Int) : Prop where
  cont : ∀ o, Css.PL asc (wsA ts k) (ts.drop k) o → Css.PL asc (Css.headBefore ts) ts (X ++ o)
  asc : Css.Asc asc X
  len : (Css.enc X).length + costL (ts.drop k) ≤ costL ts
theorem TkR.start (asc : Bool) (ts : List Css.Tree) : TkR asc ts 0 [] := ⟨fun o h => h, Css.Asc.nil, by simp [Css.enc]⟩
theorem TkR.step {asc : Bool} {ts : List Css.Tree} {k : Nat} {X pre body : List Int} (h : TkR asc ts k X) (hk : k < ts.length) (h1 : Css.isWs pre) (h2 : pre = [] ↔ wsA ts k = false) (h3 : Css.PT asc (wsA ts (k + 1)) ts[k] body) (h4 : Css.Asc asc body)
    (h5 : (Css.enc pre).length + (Css.enc body).length ≤ costT ts[k]) : TkR asc ts (k + 1) (X ++ pre ++ body) := by
  refine ⟨fun o ho => ?_, (h.asc.append (Css.Asc.ws h1)).append h4, ?_⟩
  · rw [List.append_assoc, List.append_assoc]
    refine h.cont _ ?_
    rw [List.drop_eq_getElem_cons hk]
    rw [wsA_succ hk] at h3 ho
    exact (show ∃ pre body rest, _ = pre ++ (body ++ rest) ∧ Css.isWs pre ∧ (pre = [] ↔ wsA ts k = false) ∧ Css.PT asc (ts[k].n.after || Css.headBefore (ts.drop (k + 1))) ts[k] body ∧ Css.PL asc (ts[k].n.after || Css.headBefore (ts.drop (k + 1))) (ts.drop (k + 1)) rest from ⟨pre, body, o, rfl, h1, h2, h3, ho⟩)
  · have := h.len
    rw [costL_drop ts k hk] at this
    rw [Css.enc_append, Css.enc_append, List.length_append, List.length_append]
    omega
theorem TkR.stop {asc : Bool} {ts : List Css.Tree} {X : List Int} (h : TkR asc ts ts.length X) : Css.PL asc (Css.headBefore ts) ts (X ++ (if Css.lastAfter (Css.headBefore ts) ts then [32] else [])) ∧ Css.Asc asc (X ++ (if Css.lastAfter (Css.headBefore ts) ts then [32] else [])) ∧ (Css.enc (X ++ (if Css.lastAfter (Css.headBefore ts) ts then [32] else []))).length ≤ costL ts := by
  have h1 := h.cont (if Css.lastAfter (Css.headBefore ts) ts then [32] else [])
  have hl := h.len
  rw [List.drop_length, wsA_last] at h1
  rw [List.drop_length] at hl
  refine ⟨h1 rfl, h.asc.append ?_, ?_⟩
  · split
    · exact Css.Asc.cons (by decide) Css.Asc.nil
    · exact Css.Asc.nil
  · rw [Css.enc_append, List.length_append]
    simp only [costL] at hl
    have : (Css.enc (if Css.lastAfter (Css.headBefore ts) ts then [32] else [])).length ≤ 1 := by split <;> decide
    omega

theorem TkL.at_ {w : World} {P : Nat → Prop} {ad : Addr} {ts : List Css.Tree} (h : TkL w P (some ad) ts) {k : Nat} (hk : k < ts.length) :
    ∃ p, P ad.block ∧ TkT w P ts[k] (tkC p ts[k].n) ∧ w.cell? (ad.add (k * 7)) = some (.pointer p) ∧ w.cell? ⟨(ad.add (k * 7)).block, (ad.add (k * 7)).off + 1, none⟩ = some (.string (str ts[k].n.text)) ∧
      w.cell? ⟨(ad.add (k * 7)).block, (ad.add (k * 7)).off + 2, none⟩ = some (.int .i32 0) ∧ w.cell? ⟨(ad.add (k * 7)).block, (ad.add (k * 7)).off + 3, none⟩ = some (.int .u32 0) ∧
      w.cell? ⟨(ad.add (k * 7)).block, (ad.add (k * 7)).off + 4, none⟩ = some (.int .u16 (ts[k].n.unit % 65536)) ∧ w.cell? ⟨(ad.add (k * 7)).block, (ad.add (k * 7)).off + 5, none⟩ = some (.int .u8 ts[k].n.kind) ∧
      w.cell? ⟨(ad.add (k * 7)).block, (ad.add (k * 7)).off + 6, none⟩ = some (.int .u8 (tokWs ts[k].n)) := by
  obtain ⟨ad', p, e, h1, h2, h3⟩ := h.elem hk
  obtain rfl : ad = ad' := by simpa using e
  exact ⟨p, h1, h2, h3⟩
theorem ws_before (n : Css.Node) : (bits BinOp.and IntKind.u8 (tokWs n) 1 != 0) = n.before := by
  unfold tokWs
  cases n.before <;> cases n.after <;> rfl
theorem ws_after (n : Css.Node) : (bits BinOp.and IntKind.u8 (tokWs n) 2 != 0) = n.after := by
  unfold tokWs
  cases n.before <;> cases n.after <;> rfl
theorem Kv.low {w w' : World} {base g B : Nat} {ws asc : Bool} {v v' : Value} {T : List UInt8} (k : Kv w w' g v v') (h : Px w base g ws asc v T) (hB : B ≤ g) (hle : B ≤ w.heap.size) : ∀ b, b < B → w'.heap[b]? = w.heap[b]? :=
  fun b hb => k.block b (Nat.lt_of_lt_of_le hb hle) (by omega) (fun e => by have := own_base h.own b e.symm; have := h.lt; omega)

set_option maxRecDepth 100000 in
theorem c78 {F : Interp} {B : Nat} {w : World} {base g : Nat} {ws asc : Bool} {v : Value} {T : List UInt8} (h : Px w base g ws asc v T) (hE : Env F B w) (hB : B ≤ g) {s : ByteArray} {V : List Int} (hs : s.data.toList = Css.enc V) (hV : ∀ c ∈ V, Css.Valid c)
    (hlow : asc = true → ∀ c ∈ V, c < 1048576) (hss : s.size ≤ 2147483648) (hT : T.length + 8 * s.size + 64 ≤ 35184372088832) :
    Calls Tryz.prog 78 #[.pointer (some ⟨g, 0, none⟩), .string s, .int .u8 0] w fun e' w' => e' = .returned (.tuple #[]) ∧ ∃ v' q o, (q = 34 ∨ q = 39) ∧ Css.QS q V o ∧ Css.Asc asc o ∧ Px w' base g ws asc v' (T ++ Css.enc (q :: (o ++ [q]))) ∧ Kv w w' g v v' := by
  have H76 : Hid (∀ w1, w.grownBy w1 none → ∀ q : Int, (q = 34 ∨ q = 39) → Calls Tryz.prog 76 #[.pointer (some ⟨g, 0, none⟩), .string s, .int .u8 q, .int .u8 0] w1 fun e' w' => e' = .returned (.tuple #[]) ∧ ∃ v' o, Css.QS q V o ∧ Css.Asc asc o ∧ Px w' base g ws asc v' (T ++ Css.enc (q :: (o ++ [q]))) ∧ Kv w1 w' g v v') :=
    Lib.hid fun w1 hg q hq => c76 (h.free hg) (hE.free hg) hB hs hV hlow q hq hss hT
  have H104 := Lib.hid (c104 s (by omega) w)
  clear h hE hs hV hlow
  go_enter Tryz.func78, Tryz.ntmps78
  go_wp2_with fail
  refine H104.out.mono ?_
  rintro e w1 ⟨q, rfl, hq, hg⟩
  have HQ := Lib.hid (And.intro hq hg)
  clear hq hg
  go_wp2_with fail
  refine (H76.out _ HQ.out.2 q HQ.out.1).mono ?_
  rintro e w2 ⟨rfl, v', o, h1, h2, h3, h4⟩
  have HR := Lib.hid (And.intro h1 (And.intro h2 (And.intro h3 (Kv.after HQ.out.2 h4))))
  clear h1 h2 h3 h4
  go_wp2_with fail
  go_end0
  exact ⟨rfl, _, q, o, HQ.out.1, HR.out⟩
end Go.Proofs.YtkfdcbdlcipmfaaGreatFmt
/- printTokens: how the world stands between its calls. -/
namespace Go.Proofs.YtkfdcbdlcipmfaaGreatFmt
open Go.RowKit Go.Extern.Stop Go.Stop Go.Extern

structure Tm (F : Interp) (B : Nat) (w : World) (base g : Nat) (ws asc : Bool) (v : Value) (T : List UInt8) (P : Nat → Prop) (A : Option Addr) (ts : List Css.Tree) (xo : Nat) (per : Nat) (dec : Bool) (ind : Nat) (m : Nat) (X : List Int) (vr : Value) (wr : World) : Prop where
  px : Px wr base g ws asc vr (T ++ Css.enc X)
  env : Env F B wr
  kv : Kv w wr g v vr
  box : wr.heap[xo]? = some (.cells #[.int .i32 ind, .int .u8 per, .bool dec] 213 (0, 0))
  toks : TkL wr P A ts
  low : ∀ b, P b → b < B
  hB : B ≤ g
  new : w.heap.size ≤ xo
  xg : xo ≠ g
  bx : B ≤ xo
  room : T.length + (Css.enc X).length + m ≤ 35184372088832
theorem pTail_le {asc need : Bool} : ∀ V : List Int, (∀ c ∈ V, Css.Valid c) → (Css.enc (Css.pTail asc need V)).length ≤ 8 * V.length
  | [], _ => by simp [Css.pTail, Css.enc]
  | c :: V, h => by
    have h1 := pTail_le (asc := asc) (need := need) V fun d hd => h d (by simp [hd])
    have h2 := enc_pEsc_le (h c (by simp)) (Css.escOf asc none c) V need
    simp only [Css.pTail, Css.enc_append, List.length_append, List.length_cons]
    omega
theorem enc_ge : ∀ V : List Int, V.length ≤ (Css.enc V).length
  | [] => by simp
  | c :: V => by
    have h1 := enc_ge V
    have h2 : (Css.enc (c :: V)).length = (Css.enc1 c).length + (Css.enc V).length := by simp [Css.enc]
    have h3 := Css.enc1_length c
    have h4 := Css.width_pos c
    rw [h2, List.length_cons]
    omega
theorem pIdent_le {asc need : Bool} {mode : Nat} {V : List Int} (h : ∀ c ∈ V, Css.Valid c) : (Css.enc (Css.pIdent mode asc need V)).length ≤ 8 * (Css.enc V).length := by
  refine Nat.le_trans ?_ (Nat.mul_le_mul_left 8 (enc_ge V))
  cases V with
  | nil => simp [Css.pIdent, Css.enc]
  | cons c V =>
    have h1 := pTail_le (asc := asc) (need := need) V fun d hd => h d (by simp [hd])
    have h2 := enc_pEsc_le (h c (by simp)) (Css.escOf asc (Css.firstEsc mode (c :: V)) c) V need
    simp only [Css.pIdent, Css.enc_append, List.length_append, List.length_cons]
    omega
theorem QS_le {q : Int} : ∀ {V o : List Int}, (∀ c ∈ V, Css.Valid c) → Css.QS q V o → (Css.enc o).length ≤ 8 * V.length
  | [], o, _, h => by
    have h : o = [] := h
    subst h
    simp [Css.enc]
  | c :: V, o, hV, h => by
    obtain ⟨e, o', _, rfl, h'⟩ := h
    have h1 := QS_le (fun d hd => hV d (by simp [hd])) h'
    have h2 := enc_pEsc_le (hV c (by simp)) e V false
    simp only [Css.enc_append, List.length_append, List.length_cons]
    omega
theorem node_kinds {n : Css.Node} (h : Css.isNode n = true) : (n.kind == 38) = false ∧ (n.kind == 39) = false ∧ (n.kind == 37) = false ∧ (n.kind == 2) = false := by
  rcases Css.form h with ⟨k, _⟩ | ⟨k, _⟩ | ⟨k, _⟩ | ⟨k, _, _⟩ | ⟨k, _⟩ | ⟨k, _⟩ | ⟨k, _⟩ | ⟨k, _, _, _, _, _⟩ | ⟨k, _⟩
  case sign =>
    simp only [Css.isSign, List.contains_eq_mem, decide_eq_true_eq] at k
    simp at k
    rcases k with k | k | k | k | k | k | k | k | k | k | k | k | k | k | k | k | k | k | k | k | k | k | k <;> rw [k] <;> decide
  all_goals rw [k]; decide
section
variable {F : Interp} {B : Nat} {w : World} {base g : Nat} {ws asc : Bool} {v : Value} {T : List UInt8} {P : Nat → Prop} {A : Option Addr} {ts : List Css.Tree} {xo : Nat} {per : Nat} {dec : Bool} {ind : Nat} {m : Nat} {X : List Int} {vr v' : Value} {wr w' : World}
theorem Tm.free (h : Tm F B w base g ws asc v T P A ts xo per dec ind m X vr wr) (hg : wr.grownBy w' none) : Tm F B w base g ws asc v T P A ts xo per dec ind m X vr w' :=
  ⟨h.px.free hg, h.env.free hg, h.kv.free hg, free_keep hg h.box, h.toks.keep fun b hb => ⟨hb, hg.block b (Nat.lt_of_lt_of_le (h.low b hb) h.env.le) (by simp)⟩, h.low, h.hB, h.new, h.xg, h.bx, h.room⟩
theorem Tm.less {m' : Nat} (h : Tm F B w base g ws asc v T P A ts xo per dec ind m X vr wr) (hm : m' ≤ m) : Tm F B w base g ws asc v T P A ts xo per dec ind m' X vr wr :=
  ⟨h.px, h.env, h.kv, h.box, h.toks, h.low, h.hB, h.new, h.xg, h.bx, by have := h.room; omega⟩
theorem Tm.put {m' : Nat} {Y : List Int} (h : Tm F B w base g ws asc v T P A ts xo per dec ind m X vr wr) (hP : Px w' base g ws asc v' (T ++ Css.enc X ++ Css.enc Y)) (hK : Kv wr w' g vr v') (hm : (Css.enc Y).length + m' ≤ m) :
    Tm F B w base g ws asc v T P A ts xo per dec ind m' (X ++ Y) v' w' :=
  ⟨by rw [Css.enc_append, ← List.append_assoc]; exact hP, h.env.step h.px h.hB hK, h.kv.trans hK, h.px.keep hK h.box h.xg (by decide), h.toks.keep fun b hb => ⟨hb, hK.low h.px h.hB h.env.le b (h.low b hb)⟩, h.low, h.hB, h.new, h.xg, h.bx, by
    have := h.room
    rw [Css.enc_append, List.length_append]; omega⟩
theorem Tm.opt {ind' : Nat} (h : Tm F B w base g ws asc v T P A ts xo per dec ind m X vr wr) (hr : wr.grownBy w' (some xo)) (hb : w'.heap[xo]? = some (.cells #[.int .i32 ind', .int .u8 per, .bool dec] 213 (0, 0))) :
    Tm F B w base g ws asc v T P A ts xo per dec ind' m X vr w' :=
  ⟨h.px.row h.box h.xg (by decide) hr, h.env.row hr h.bx, h.kv.row hr h.new, hb, h.toks.keep fun b hb => ⟨hb, hr.block b (Nat.lt_of_lt_of_le (h.low b hb) h.env.le) (by have := h.low b hb; have := h.bx; simp; omega)⟩, h.low, h.hB, h.new, h.xg, h.bx, h.room⟩

def Tn (F : Interp) (B : Nat) (w : World) (base g : Nat) (ws asc : Bool) (v : Value) (T : List UInt8) (P : Nat → Prop) (A : Option Addr) (ts : List Css.Tree) (xo : Nat) (per : Nat) (dec : Bool) (xt : Nat) (o : Array Value) (ind : Nat) (m : Nat) (X : List Int) (vr : Value) (wr : World) : Prop :=
  Tm F B w base g ws asc v T P A ts xo per dec ind m X vr wr ∧ wr.heap[xt]? = some (.cells o 105 (0, 0)) ∧ xt ≠ xo ∧ xt ≠ g
variable {xt : Nat} {o : Array Value}
theorem Tn.free (h : Tn F B w base g ws asc v T P A ts xo per dec xt o ind m X vr wr) (hg : wr.grownBy w' none) : Tn F B w base g ws asc v T P A ts xo per dec xt o ind m X vr w' :=
  ⟨h.1.free hg, free_keep hg h.2.1, h.2.2⟩
theorem Tn.less {m' : Nat} (h : Tn F B w base g ws asc v T P A ts xo per dec xt o ind m X vr wr) (hm : m' ≤ m) : Tn F B w base g ws asc v T P A ts xo per dec xt o ind m' X vr wr := ⟨h.1.less hm, h.2⟩
theorem Tn.put {m' : Nat} {Y : List Int} (h : Tn F B w base g ws asc v T P A ts xo per dec xt o ind m X vr wr) (hP : Px w' base g ws asc v' (T ++ Css.enc X ++ Css.enc Y)) (hK : Kv wr w' g vr v') (hm : (Css.enc Y).length + m' ≤ m) :
    Tn F B w base g ws asc v T P A ts xo per dec xt o ind m' (X ++ Y) v' w' :=
  ⟨h.1.put hP hK hm, h.1.px.keep hK h.2.1 h.2.2.2 (by decide), h.2.2⟩
theorem Tn.opt {ind' : Nat} (h : Tn F B w base g ws asc v T P A ts xo per dec xt o ind m X vr wr) (hr : wr.grownBy w' (some xo)) (hb : w'.heap[xo]? = some (.cells #[.int .i32 ind', .int .u8 per, .bool dec] 213 (0, 0))) :
    Tn F B w base g ws asc v T P A ts xo per dec xt o ind' m X vr w' :=
  ⟨h.1.opt hr hb, (hr.block xt (lt_of_block h.2.1) (by simpa using h.2.2.1)).trans h.2.1, h.2.2⟩
theorem Tm.say (h : Tm F B w base g ws asc v T P A ts xo per dec ind m X vr wr) (s : ByteArray) (Y : List Int) (hs : s.data.toList = Css.enc Y) (m' : Nat) (hm : s.size + m' ≤ m) :
    Calls Tryz.prog 75 #[.pointer (some ⟨g, 0, none⟩), .string s] wr fun e w' => e = .returned (.tuple #[]) ∧ ∃ v', Tm F B w base g ws asc v T P A ts xo per dec ind m' (X ++ Y) v' w' := by
  have hr := h.room
  refine (c75 h.px s (by rw [List.length_append]; omega)).mono ?_
  rintro e w' ⟨rfl, v', hP, hK⟩
  rw [hs] at hP
  have hl := bytes_len s
  rw [hs] at hl
  exact ⟨rfl, v', h.put hP hK (by omega)⟩
theorem Tn.say (h : Tn F B w base g ws asc v T P A ts xo per dec xt o ind m X vr wr) (s : ByteArray) (Y : List Int) (hs : s.data.toList = Css.enc Y) (m' : Nat) (hm : s.size + m' ≤ m) :
    Calls Tryz.prog 75 #[.pointer (some ⟨g, 0, none⟩), .string s] wr fun e w' => e = .returned (.tuple #[]) ∧ ∃ v', Tn F B w base g ws asc v T P A ts xo per dec xt o ind m' (X ++ Y) v' w' := by
  have hr := h.1.room
  refine (c75 h.1.px s (by rw [List.length_append]; omega)).mono ?_
  rintro e w' ⟨rfl, v', hP, hK⟩
  rw [hs] at hP
  have hl := bytes_len s
  rw [hs] at hl
  exact ⟨rfl, v', h.put hP hK (by omega)⟩
theorem enc_blanks (n : Nat) : Css.enc (List.replicate (2 * n) 32) = blanks n := by
  have he : ∀ k, Css.enc (List.replicate k 32) = List.replicate k (32 : UInt8) := by
    intro k
    induction k with
    | zero => rfl
    | succ k ih =>
      rw [List.replicate_succ, List.replicate_succ, ← ih]
      rfl
  rw [he]
  induction n with
  | zero => rfl
  | succ n ih =>
    have h2 : 2 * (n + 1) = 2 * n + 2 := by omega
    rw [h2, ← List.replicate_append_replicate, ih]
    rfl
theorem blanks_ws (n : Nat) : Css.isWs (List.replicate n 32) := fun c hc => .inl (List.eq_of_mem_replicate hc)
theorem Tn.dent (h : Tn F B w base g ws asc v T P A ts xo per dec xt o ind m X vr wr) (n : Nat) (hn : n ≤ 1000000) (m' : Nat) (hm : 2 * n + m' ≤ m) :
    Calls Tryz.prog 74 #[.pointer (some ⟨g, 0, none⟩), .int .i32 n] wr fun e w' => e = .returned (.tuple #[]) ∧ ∃ v', Tn F B w base g ws asc v T P A ts xo per dec xt o ind m' (X ++ List.replicate (2 * n) 32) v' w' := by
  have hr := h.1.room
  refine (c74 h.1.px n hn (by rw [List.length_append]; omega)).mono ?_
  rintro e w' ⟨rfl, v', hP, hK⟩
  have hl : (blanks n).length = 2 * n := blanks_length n
  exact ⟨rfl, v', h.put (by rw [enc_blanks]; exact hP) hK (by rw [enc_blanks, hl]; omega)⟩
theorem Tn.dent1 (h : Tn F B w base g ws asc v T P A ts xo per dec xt o ind m X vr wr) (n : Nat) (hn : n + 1 ≤ 1000000) (m' : Nat) (hm : 2 * (n + 1) + m' ≤ m) :
    Calls Tryz.prog 74 #[.pointer (some ⟨g, 0, none⟩), .int .i32 ((n : Int) + 1)] wr fun e w' => e = .returned (.tuple #[]) ∧ ∃ v', Tn F B w base g ws asc v T P A ts xo per dec xt o ind m' (X ++ List.replicate (2 * (n + 1)) 32) v' w' := by
  have := h.dent (n + 1) hn m' hm
  rw [Int.natCast_add] at this
  exact this
theorem Tn.ident (h : Tn F B w base g ws asc v T P A ts xo per dec xt o ind m X vr wr) {s : ByteArray} {V : List Int} (hs : s.data.toList = Css.enc V) (hV : ∀ c ∈ V, Css.Valid c) (hne : V ≠ []) (mode : Nat) (hm : mode ≤ 3) (need : Bool) (hss : s.size ≤ 2147483648) (m' : Nat) (hm' : 8 * s.size + 16 + m' ≤ m)
    (hY : (Css.enc (Css.pIdent mode asc need V)).length + m' ≤ m) :
    Calls Tryz.prog 82 #[.pointer (some ⟨g, 0, none⟩), .string s, .int .u8 (mode : Int), .int .u8 (if need then 0 else 1)] wr fun e w' => e = .returned (.tuple #[]) ∧ ∃ v', Tn F B w base g ws asc v T P A ts xo per dec xt o ind m' (X ++ Css.pIdent mode asc need V) v' w' := by
  have hr := h.1.room
  refine (c82 h.1.px h.1.env h.1.hB hs hV hne mode hm need hss (by rw [List.length_append]; omega)).mono ?_
  rintro e w' ⟨rfl, v', hP, hK⟩
  exact ⟨rfl, v', h.put hP hK hY⟩
theorem Tn.quoted (h : Tn F B w base g ws asc v T P A ts xo per dec xt o ind m X vr wr) {s : ByteArray} {V : List Int} (hs : s.data.toList = Css.enc V) (hV : ∀ c ∈ V, Css.Valid c) (hlow : asc = true → ∀ c ∈ V, c < 1048576) (hss : s.size ≤ 2147483648) (m' : Nat) (hm' : 8 * s.size + 64 + m' ≤ m) :
    Calls Tryz.prog 78 #[.pointer (some ⟨g, 0, none⟩), .string s, .int .u8 0] wr fun e w' => e = .returned (.tuple #[]) ∧ ∃ v' q o', (q = 34 ∨ q = 39) ∧ Css.QS q V o' ∧ Css.Asc asc o' ∧ (Css.enc (q :: (o' ++ [q]))).length ≤ 8 * s.size + 2 ∧ Tn F B w base g ws asc v T P A ts xo per dec xt o ind m' (X ++ (q :: (o' ++ [q]))) v' w' := by
  have hr := h.1.room
  refine (c78 h.1.px h.1.env h.1.hB hs hV hlow hss (by rw [List.length_append]; omega)).mono ?_
  rintro e w' ⟨rfl, v', q, o', hq, hQ, hA, hP, hK⟩
  have hle : (Css.enc (q :: (o' ++ [q]))).length ≤ 8 * s.size + 2 := by
    have h1 := QS_le hV hQ
    have h2 := enc_ge V
    have h3 := bytes_len s
    rw [hs] at h3
    have h4 : (Css.enc [q]).length = 1 := by rcases hq with rfl | rfl <;> decide
    rw [show q :: (o' ++ [q]) = [q] ++ (o' ++ [q]) from rfl, Css.enc_append, Css.enc_append, List.length_append, List.length_append]
    omega
  exact ⟨rfl, v', q, o', hq, hQ, hA, hle, h.put hP hK (by omega)⟩
end
end Go.Proofs.YtkfdcbdlcipmfaaGreatFmt
