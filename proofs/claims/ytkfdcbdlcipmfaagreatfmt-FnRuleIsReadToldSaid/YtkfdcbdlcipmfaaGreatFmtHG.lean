/- printed. -/
import Derived.Test.YtkfdcbdlcipmfaaGreatFmtHF
import Derived.Laws.IdiomStrings
import Derived.Laws.BytesArg
import Derived.Test.YtkfdcbdlcipmfaaGreatFmtHB
import Derived.Test.YtkfdcbdlcipmfaaGreatFmtHC
import Derived.Test.YtkfdcbdlcipmfaaGreatFmtHE
set_option linter.unusedVariables false
set_option linter.unusedSimpArgs false
namespace Go.Proofs.YtkfdcbdlcipmfaaGreatFmt
open Go.RowKit Go.Extern.Stop Go.Stop Go.Extern

theorem conv_own {W : World} {base : Nat} {A : Option Addr} {c : Nat} {T : List UInt8} (h : W.ownsRow base 5 1 (.slice A T.length c) T.length (bc T)) : (convert 117 9 (.slice A T.length c)).run Tryz.prog W = .ok (.string (str T)) W := by
  rcases h.2 with ⟨e, hl⟩ | ⟨g1, c1, cur1, e, _⟩
  · simp only [Value.slice.injEq] at e
    obtain ⟨rfl, h0, rfl⟩ := e
    have hT : T = [] := List.length_eq_zero_iff.1 (by omega)
    subst hT
    exact run_convert_bytes_nil W 117 5 Tryz.underlying117 Tryz.underlying5 _ _ 9 Tryz.underlying9
  · simp only [Value.slice.injEq] at e
    obtain ⟨rfl, _, rfl⟩ := e
    refine run_convert_bytes_back W 117 9 5 ⟨g1, 0, none⟩ _ T Tryz.underlying117 Tryz.underlying5 Tryz.underlying9 fun j hj => ?_
    refine h.cells (g := g1) rfl j _ ?_
    simp [bc, List.getElem?_eq_getElem hj]

set_option maxRecDepth 400000 in
set_option maxHeartbeats 40000000 in
theorem c34 {w : World} {ws asc : Bool} {t xr : Nat} {Q : List Int → Prop}
    (HR : ∀ (w1 : World) (g base : Nat) (v : Value), w.grownBy w1 none → Px w1 base g ws asc v [] → w.heap.size ≤ g → Calls Tryz.prog 56 #[.pointer (some ⟨g, 0, none⟩), .agg #[.iface t (.pointer (some ⟨xr, 0, none⟩)), .int .i32 0], .int .i32 0, .bool false] w1 fun e w' => e = .returned (.tuple #[]) ∧ ∃ X v', Q X ∧ Px w' base g ws asc v' (Css.enc X) ∧ Kv w1 w' g v v') :
    Calls Tryz.prog 34 #[.iface t (.pointer (some ⟨xr, 0, none⟩)), .bool ws, .bool asc] w fun e w' => ∃ X, e = .returned (.string (str (Css.enc X))) ∧ w.grownBy w' none ∧ Q X := by
  have H56 := Lib.hid HR
  clear HR
  have HNB : Hid (((w.alloc (.cells #[.iface t (.pointer (some ⟨xr, 0, none⟩)), .int .i32 0] 81 (0, 0))).alloc (.cells #[.slice none 0 0, .pointer none, .slice none 0 0, .slice none 0 0, .string ⟨#[]⟩, .int .i32 0, .int .i32 0, .int .i32 0, .slice none 0 0, .map none, .map none, .map none, .slice none 0 0, .slice none 0 0] 116 (0, 0))).heap[w.heap.size + 1]? = some (.cells #[.slice none 0 0, .pointer none, .slice none 0 0, .slice none 0 0, .string ⟨#[]⟩, .int .i32 0, .int .i32 0, .int .i32 0, .slice none 0 0, .map none, .map none, .map none, .slice none 0 0, .slice none 0 0] 116 (0, 0))) := Lib.hid (new_blk' (by simp))
  have HB : Hid (∀ wa, wa = ((w.alloc (.cells #[.iface t (.pointer (some ⟨xr, 0, none⟩)), .int .i32 0] 81 (0, 0))).alloc (.cells #[.slice none 0 0, .pointer none, .slice none 0 0, .slice none 0 0, .string ⟨#[]⟩, .int .i32 0, .int .i32 0, .int .i32 0, .slice none 0 0, .map none, .map none, .map none, .slice none 0 0, .slice none 0 0] 116 (0, 0))).setRow (w.heap.size + 1) #[.slice none 0 0, .pointer none, .slice none 0 0, .slice (some ⟨w.heap.size, 0, none⟩) 1 1, .string ⟨#[]⟩, .int .i32 0, .int .i32 0, .int .i32 0, .slice none 0 0, .map none, .map none, .map none, .slice none 0 0, .slice none 0 0] → w.grownBy wa none ∧ wa.heap[w.heap.size]? = some (.cells #[.iface t (.pointer (some ⟨xr, 0, none⟩)), .int .i32 0] 81 (0, 0)) ∧ wa.heap[w.heap.size + 1]? = some (.cells #[.slice none 0 0, .pointer none, .slice none 0 0, .slice (some ⟨w.heap.size, 0, none⟩) 1 1, .string ⟨#[]⟩, .int .i32 0, .int .i32 0, .int .i32 0, .slice none 0 0, .map none, .map none, .map none, .slice none 0 0, .slice none 0 0] 116 (0, 0))) := Lib.hid fun wa e => by
    subst e
    refine ⟨grown_setRow (grown_alloc (grown_alloc (grown_refl _ _) _) _) (by omega) _, ?_, setRow_heap _ _ _ _ _ _ HNB.out⟩
    exact free_keep (grown_setRow (grown_alloc (grown_refl (w.alloc (.cells #[.iface t (.pointer (some ⟨xr, 0, none⟩)), .int .i32 0] 81 (0, 0))) none) _) (by simp) _) (new_blk w _)
  go_enter Tryz.func34, Tryz.ntmps34
  go_upto_region 2 with (refine wpList_store_row rfl 116 (.tmp 7) (.tmp 11) rfl rfl (w.heap.size + 1) 116 _ _ rfl rfl HNB.out (by kernel_rfl) rfl (by kernel_rfl) ?_)
  generalize hwa : ((w.alloc (.cells #[.iface t (.pointer (some ⟨xr, 0, none⟩)), .int .i32 0] 81 (0, 0))).alloc (.cells #[.slice none 0 0, .pointer none, .slice none 0 0, .slice none 0 0, .string ⟨#[]⟩, .int .i32 0, .int .i32 0, .int .i32 0, .slice none 0 0, .map none, .map none, .map none, .slice none 0 0, .slice none 0 0] 116 (0, 0))).setRow (w.heap.size + 1) #[.slice none 0 0, .pointer none, .slice none 0 0, .slice (some ⟨w.heap.size, 0, none⟩) 1 1, .string ⟨#[]⟩, .int .i32 0, .int .i32 0, .int .i32 0, .slice none 0 0, .map none, .map none, .map none, .slice none 0 0, .slice none 0 0] = wa
  have HB := Lib.hid (HB.out wa hwa.symm)
  clear hwa HNB
  have FACTS : Hid (∀ W, wa.grownBy W none → wa.grownBy W none ∧ W.cell? ⟨w.heap.size + 1, 0, none⟩ = some (.slice none 0 0) ∧ W.cell? ⟨w.heap.size + 1, 1, none⟩ = some (.pointer none) ∧ W.cell? ⟨w.heap.size + 1, 2, none⟩ = some (.slice none 0 0) ∧ W.cell? ⟨w.heap.size + 1, 3, none⟩ = some (.slice (some ⟨w.heap.size, 0, none⟩) 1 1) ∧ W.cell? ⟨w.heap.size + 1, 4, none⟩ = some (.string ⟨#[]⟩) ∧ W.cell? ⟨w.heap.size + 1, 5, none⟩ = some (.int .i32 0) ∧ W.cell? ⟨w.heap.size + 1, 6, none⟩ = some (.int .i32 0) ∧ W.cell? ⟨w.heap.size + 1, 7, none⟩ = some (.int .i32 0) ∧ W.cell? ⟨w.heap.size + 1, 8, none⟩ = some (.slice none 0 0) ∧ W.cell? ⟨w.heap.size + 1, 9, none⟩ = some (.map none) ∧ W.cell? ⟨w.heap.size + 1, 10, none⟩ = some (.map none) ∧ W.cell? ⟨w.heap.size + 1, 11, none⟩ = some (.map none) ∧ W.cell? ⟨w.heap.size + 1, 12, none⟩ = some (.slice none 0 0) ∧ W.cell? ⟨w.heap.size + 1, 13, none⟩ = some (.slice none 0 0)) := Lib.hid fun W hW => ⟨hW, cell_blk (free_keep hW HB.out.2.2) (i := 0) rfl, cell_blk (free_keep hW HB.out.2.2) (i := 1) rfl, cell_blk (free_keep hW HB.out.2.2) (i := 2) rfl, cell_blk (free_keep hW HB.out.2.2) (i := 3) rfl, cell_blk (free_keep hW HB.out.2.2) (i := 4) rfl, cell_blk (free_keep hW HB.out.2.2) (i := 5) rfl, cell_blk (free_keep hW HB.out.2.2) (i := 6) rfl, cell_blk (free_keep hW HB.out.2.2) (i := 7) rfl, cell_blk (free_keep hW HB.out.2.2) (i := 8) rfl, cell_blk (free_keep hW HB.out.2.2) (i := 9) rfl, cell_blk (free_keep hW HB.out.2.2) (i := 10) rfl, cell_blk (free_keep hW HB.out.2.2) (i := 11) rfl, cell_blk (free_keep hW HB.out.2.2) (i := 12) rfl, cell_blk (free_keep hW HB.out.2.2) (i := 13) rfl⟩
  have H45 : Hid (∀ W, wa.grownBy W none → ∀ bs, Calls Tryz.prog 45 #[.agg #[.slice none 0 0, .pointer none, .slice none 0 0, .slice (some ⟨w.heap.size, 0, none⟩) 1 1, .string ⟨#[]⟩, .int .i32 0, .int .i32 0, .int .i32 0, .slice none 0 0, .map none, .map none, .map none, .slice none 0 0, .slice none 0 0], .agg #[.slice (some ⟨bs, 0, none⟩) 1 1], .agg #[.pointer none, .slice none 0 0, .map none, .int .i64 0, .int .u32 0, .int .u16 0, .bool ws, .bool asc, .int .u8 0, .bool false, .int .u8 0, .bool false, .int .u8 0]] W fun e w' => ∃ (X : List Int) (A' : Option Addr) (c' base : Nat), e = .returned (.agg (outC A' (Css.enc X).length c')) ∧ W.grownBy w' none ∧ Q X ∧ w'.ownsRow base 5 1 (.slice A' (Css.enc X).length c') (Css.enc X).length (bc (Css.enc X))) := Lib.hid fun W hW bs => c45 (free_keep hW HB.out.2.1) fun w1 g base v hg hp hs => H56.out w1 g base v (grown_trans HB.out.1 (grown_trans hW hg)) hp (Nat.le_trans (grown_trans HB.out.1 hW).size hs)
  unfold outC at H45
  have hfd : ∀ (A : Option Addr) (n c : Nat) (W : World), (Instr.field 129 (.agg #[.slice A n c, .slice none 0 0, .slice none 0 0, .slice none 0 0, .int .u32 0, .slice none 0 0, .int .i64 0, .int .i64 0, .int .i64 0, .int .i64 0, .int .i64 0, .int .i64 0, .bool false, .int .i64 0, .bool false]) 0).run Tryz.prog W = .ok (.slice A n c) W := fun _ _ _ _ => by kernel_rfl
  go_cut [6] from 12 to 19 (fun v6 wc => ∃ X, v6 = .string (str (Css.enc X)) ∧ Hid (w.grownBy wc none ∧ Q X))
  case first =>
    refine wp_region_held_drew (S := fun W => wa.grownBy W none ∧ W.cell? ⟨w.heap.size + 1, 0, none⟩ = some (.slice none 0 0) ∧ W.cell? ⟨w.heap.size + 1, 1, none⟩ = some (.pointer none) ∧ W.cell? ⟨w.heap.size + 1, 2, none⟩ = some (.slice none 0 0) ∧ W.cell? ⟨w.heap.size + 1, 3, none⟩ = some (.slice (some ⟨w.heap.size, 0, none⟩) 1 1) ∧ W.cell? ⟨w.heap.size + 1, 4, none⟩ = some (.string ⟨#[]⟩) ∧ W.cell? ⟨w.heap.size + 1, 5, none⟩ = some (.int .i32 0) ∧ W.cell? ⟨w.heap.size + 1, 6, none⟩ = some (.int .i32 0) ∧ W.cell? ⟨w.heap.size + 1, 7, none⟩ = some (.int .i32 0) ∧ W.cell? ⟨w.heap.size + 1, 8, none⟩ = some (.slice none 0 0) ∧ W.cell? ⟨w.heap.size + 1, 9, none⟩ = some (.map none) ∧ W.cell? ⟨w.heap.size + 1, 10, none⟩ = some (.map none) ∧ W.cell? ⟨w.heap.size + 1, 11, none⟩ = some (.map none) ∧ W.cell? ⟨w.heap.size + 1, 12, none⟩ = some (.slice none 0 0) ∧ W.cell? ⟨w.heap.size + 1, 13, none⟩ = some (.slice none 0 0)) (by kernel_rfl) (by exact FACTS.out _ (grown_drew (grown_refl wa none))) (fun hHeld => ?_)
    refine held_take (i := 0) (d := 12) (v := ?v1) rfl rfl (by kernel_rfl) (by kernel_rfl) (by kernel_rfl) (fun _ _ _ h => h) (Or.inl ⟨by kernel_rfl, ?hy1⟩) (by assumption) ?rest1
    case hy1 => (intro w hSw; (try dsimp only at hSw); go_simp; try with_reducible rfl)
    try simp only [Act.put, List.setIfInBounds_toArray, List.set_cons_zero, List.set_cons_succ]
    refine held_take (i := 2) (d := 14) (v := ?v2) rfl rfl (by kernel_rfl) (by kernel_rfl) (by kernel_rfl) (fun _ _ _ h => h) (Or.inl ⟨by kernel_rfl, ?hy2⟩) (by assumption) ?rest2
    case hy2 => (intro w hSw; (try dsimp only at hSw); go_simp; try with_reducible rfl)
    try simp only [Act.put, List.setIfInBounds_toArray, List.set_cons_zero, List.set_cons_succ]
    refine held_take (i := 3) (d := 15) (v := ?v3) rfl rfl (by kernel_rfl) (by kernel_rfl) (by kernel_rfl) (fun _ _ _ h => h) (Or.inl ⟨by kernel_rfl, ?hy3⟩) (by assumption) ?rest3
    case hy3 => (intro w hSw; (try dsimp only at hSw); go_simp; try with_reducible rfl)
    try simp only [Act.put, List.setIfInBounds_toArray, List.set_cons_zero, List.set_cons_succ]
    refine held_take (i := 4) (d := 16) (v := ?v4) rfl rfl (by kernel_rfl) (by kernel_rfl) (by kernel_rfl) (fun _ _ _ h => h) (Or.inl ⟨by kernel_rfl, ?hy4⟩) (by assumption) ?rest4
    case hy4 => (intro w hSw; (try dsimp only at hSw); go_simp; try with_reducible rfl)
    try simp only [Act.put, List.setIfInBounds_toArray, List.set_cons_zero, List.set_cons_succ]
    refine wpAnyH_ready (rs := [1]) (by kernel_rfl) (by simp) ?_
    refine AllReadyH.cons rfl (fun K hK => ?_) AllReadyH.nil
    go_simp
    refine (c46 _).mono ?_
    rintro e w5 ⟨bb, rfl, hg5⟩
    have hg6 := Lib.hid (grown_trans (grown_drew (grown_refl wa none)) hg5)
    go_wp2_with fail
    refine hK.out _ _ (FACTS.out _ hg6.out) (fun hHeld => ?_)
    clear hK K
    try simp only [Act.put, List.setIfInBounds_toArray, List.set_cons_zero, List.set_cons_succ]
    refine wpAnyH_ready (rs := [5]) (by kernel_rfl) (by simp) ?_
    refine AllReadyH.cons rfl (fun K hK => ?_) AllReadyH.nil
    go_simp
    refine (H45.out _ hg6.out bb).mono ?_
    rintro e w6 ⟨X, A', c', base, rfl, hg7, hq, hown⟩
    have hg8 := Lib.hid (grown_trans hg6.out hg7)
    have HQ := Lib.hid hq
    have hcv := conv_own hown
    clear hg7 hq hown
    go_wp2_with fail
    refine hK.out _ _ (FACTS.out _ hg8.out) (fun hHeld => ?_)
    clear hK K
    try simp only [Act.put, List.setIfInBounds_toArray, List.set_cons_zero, List.set_cons_succ]
    refine held_take (i := 6) (d := 18) (v := ?v5) rfl rfl (by kernel_rfl) (by kernel_rfl) (by kernel_rfl) (fun _ _ _ h => h) (Or.inl ⟨by kernel_rfl, ?hy5⟩) (by assumption) ?rest5
    case hy5 => (intro w hSw; (try dsimp only at hSw); go_simp; try with_reducible rfl)
    try simp only [Act.put, List.setIfInBounds_toArray, List.set_cons_zero, List.set_cons_succ]
    refine wpAnyH_ready (rs := [7]) (by kernel_rfl) (by simp) ?_
    refine AllReadyH.cons rfl (fun K hK => ?_) AllReadyH.nil
    go_simp
    refine hK.out _ _ (FACTS.out _ hg8.out) (fun hHeld => ?_)
    clear hK K
    try simp only [Act.put, List.setIfInBounds_toArray, List.set_cons_zero, List.set_cons_succ]
    refine held_take (i := 8) (d := 6) (v := ?v6) rfl rfl (by kernel_rfl) (by kernel_rfl) (by kernel_rfl) (fun _ _ _ h => h) (Or.inl ⟨by kernel_rfl, ?hy6⟩) (by assumption) ?rest6
    case hy6 => (intro w hSw; (try dsimp only at hSw); go_simp; try with_reducible rfl)
    try simp only [Act.put, List.setIfInBounds_toArray, List.set_cons_zero, List.set_cons_succ]
    refine wpAnyH_done (by kernel_rfl) ?_ _
    go_wp2_with fail
    go_meet
    exact ⟨X, rfl, Lib.hid ⟨grown_trans HB.out.1 hg8.out, HQ.out⟩⟩
  case rest =>
    obtain ⟨X, rfl, HZ⟩ := hcut
    go_wp2_with fail
    exact bodyPost_ret (v := .string (str (Css.enc X))) (by simp [results, Tryz.results34, go_sem]) rfl ⟨X, rfl, HZ.out.1, HZ.out.2⟩
end Go.Proofs.YtkfdcbdlcipmfaaGreatFmt
/- At. -/
namespace Go.Proofs.YtkfdcbdlcipmfaaGreatFmt
open Go.RowKit Go.Extern.Stop Go.Stop Go.Extern

theorem parses_det {d : Int} {l : List Css.Node} {ts : List Css.Tree} {r : List Css.Node} (h : Css.Parses d l ts r) : ∀ {ts' : List Css.Tree} {r' : List Css.Node}, Css.Parses d l ts' r' → ts' = ts ∧ r' = r := by
  induction h with
  | nil d => intro _ _ k; cases k; exact ⟨rfl, rfl⟩
  | stop h =>
    intro _ _ k
    cases k with
    | stop _ => exact ⟨rfl, rfl⟩
    | leaf h1 _ _ => omega
    | node h1 _ _ _ => omega
  | leaf h ho p ih =>
    intro _ _ k
    cases k with
    | stop h1 => omega
    | leaf _ _ q => obtain ⟨rfl, rfl⟩ := ih q; exact ⟨rfl, rfl⟩
    | node _ ho' _ _ => rw [ho] at ho'; cases ho'
  | node h ho p q ihp ihq =>
    intro _ _ k
    cases k with
    | stop h1 => omega
    | leaf _ ho' _ => rw [ho] at ho'; cases ho'
    | node _ ho' p' q' =>
      obtain ⟨rfl, rfl⟩ := ihp p'
      obtain ⟨rfl, rfl⟩ := ihq q'
      exact ⟨rfl, rfl⟩
theorem ident_len {asc need : Bool} {name : List UInt8} (hn : Css.isName name = true) (hss : name.length ≤ 1048576) : (Css.enc (Css.pIdent 0 asc need (Css.codes name))).length ≤ 8388608 := by
  obtain ⟨_, m2, m3, _⟩ := Css.name_codes hn
  have hpl := pIdent_le (asc := asc) (need := need) (mode := 0) m2
  rw [m3] at hpl
  omega
theorem nl_len (m : Bool) : (Css.enc (Css.nl m)).length ≤ 1 := by cases m <;> decide
theorem enc_cons_len {a : Int} (h : Css.width a = 1) (l : List Int) : (Css.enc (a :: l)).length = 1 + (Css.enc l).length := by
  have h2 : (Css.enc (a :: l)).length = (Css.enc1 a).length + (Css.enc l).length := by simp [Css.enc]
  rw [h2, Css.enc1_length, h]
theorem atText_len {asc m : Bool} {name : List UInt8} {ts : List Css.Tree} {body : List Int} (hn : Css.isName name = true) (hss : name.length ≤ 1048576) (hb : (Css.enc body).length ≤ 520000000) : (Css.enc (Css.atText asc name ts body (Css.nl m))).length ≤ 600000000 := by
  have h1 := ident_len (asc := asc) (need := !ts.isEmpty) hn hss
  have h2 := nl_len m
  have h3 : (Css.enc (if ts.isEmpty then [] else [32])).length ≤ 1 := by split <;> decide
  unfold Css.atText
  rw [Css.enc_append, List.length_append, enc_cons_len (by decide), Css.enc_append, List.length_append, Css.enc_append, List.length_append, enc_cons_len (by decide)]
  omega
def atQ (asc ws : Bool) (name : List UInt8) (ts : List Css.Tree) (X : List Int) : Prop := ∃ body, Css.PL asc (Css.headBefore ts) ts body ∧ Css.Asc asc body ∧ (Css.enc body).length ≤ costL ts ∧ X = Css.atText asc name ts body (Css.nl ws)

set_option maxRecDepth 400000 in
set_option maxHeartbeats 40000000 in
theorem c19 {F : Interp} {w : World} {ws asc : Bool} {name : List UInt8} {A : Option Addr} {c : Nat} {l : List Css.Node} {ts : List Css.Tree} (h1 : F.told.answers w.tape) (h2 : Tabs w) (hp : Prep asc l ts) (htok : ∀ n ∈ l, Tokable n) (hN : Nd w w.heap.size A l) (hc : l.length ≤ c) (hn : namedB asc name = true) :
    Calls Tryz.prog 19 #[.string (str name), .slice A l.length c, .bool ws, .bool asc] w fun e w' => ∃ s, e = .returned (.string s) ∧ w.grownBy w' none ∧ AtTo asc ws name ts s := by
  obtain ⟨hss, hnm, _⟩ := named_of hn
  have H33 : Hid (Calls Tryz.prog 33 #[.slice A l.length c, .int .i64 0] w (TokR l 0 w)) := Lib.hid (c33 (l.length + 1) w A c l 0 hN hc (by omega) hp.len htok (by omega) (by omega))
  have HP := Lib.hid (And.intro h1 (And.intro h2 (And.intro hp (And.intro hss hnm))))
  clear h1 h2 hp htok hN hn hss hnm
  go_enter Tryz.func19, Tryz.ntmps19
  go_wp2_with fail
  refine H33.out.mono ?_
  rintro e w1 ⟨A', c', ts', r, rfl, hg, hps, hL⟩
  obtain ⟨rfl, rfl⟩ := parses_det HP.out.2.2.1.tr.parses hps
  have H34 : Hid (∀ W, W = w1.alloc (.cells #[.string (str name), .slice A' ts'.length c', .slice none 0 0] 89 (0, 0)) → w.grownBy W none ∧ Calls Tryz.prog 34 #[.iface 87 (.pointer (some ⟨w1.heap.size, 0, none⟩)), .bool ws, .bool asc] W fun e w' => ∃ X, e = .returned (.string (str (Css.enc X))) ∧ W.grownBy w' none ∧ atQ asc ws name ts' X) := Lib.hid fun W e => by
    have hgW : w1.grownBy W none := by rw [e]; exact grown_alloc (grown_refl _ _) _
    have hbW : W.heap[w1.heap.size]? = some (.cells #[.string (str name), .slice A' ts'.length c', .slice none 0 0] 89 (0, 0)) := by rw [e]; exact new_blk _ _
    have hzW : W.heap.size = w1.heap.size + 1 := by rw [e]; simp
    clear e
    have hwW := grown_trans hg hgW
    refine ⟨hwW, c34 (xr := w1.heap.size) fun w3 g base v hg3 hP3 hge => ?_⟩
    have hE := (Env.start (F := F) (w := W) (by rw [hwW.tape]; exact HP.out.1) (HP.out.2.1.free hwW)).free hg3
    have hcc := HP.out.2.2.1.cost
    refine (c56_at hP3 hE hge (by simp) (xr := w1.heap.size) (free_keep hg3 hbW) (by omega) (hL.keep fun b hb => ⟨hb, ((grown_trans hgW hg3).block b hb.2 (by simp))⟩) (fun b hb => by have := hb.2; omega) HP.out.2.2.1.tr.wl hcc.2 hcc.1 HP.out.2.2.2.2 HP.out.2.2.2.1).mono ?_
    rintro e w4 ⟨rfl, body, v', b1, b2, b3, hPm⟩
    exact ⟨rfl, _, v', ⟨body, b1, b2, b3, rfl⟩, by simpa using hPm.px, hPm.kv⟩
  clear hps hL hg
  go_wp2_with fail
  obtain ⟨hw, h34⟩ := H34.out _ rfl
  refine h34.mono ?_
  rintro e w2 ⟨X, rfl, hg2, body, b1, b2, b3, rfl⟩
  have HZ : Hid (w.grownBy w2 none ∧ AtTo asc ws name ts' (str (Css.enc (Css.atText asc name ts' body (Css.nl ws))))) := Lib.hid ⟨grown_trans hw hg2, by rw [str_size]; exact atText_len HP.out.2.2.2.2 HP.out.2.2.2.1 (Nat.le_trans b3 HP.out.2.2.1.cost.1), body, b1, b2, str_data _⟩
  clear hw h34 hg2 b1 b2 b3
  go_wp2_with fail
  exact bodyPost_ret (v := .string (str (Css.enc (Css.atText asc name ts' body (Css.nl ws))))) (by simp [results, Tryz.results19, go_sem]) rfl ⟨_, rfl, HZ.out⟩
end Go.Proofs.YtkfdcbdlcipmfaaGreatFmt
