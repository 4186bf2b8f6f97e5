/- The tables of Go's library, out of what the rows list. -/
import Derived.Test.YtkfdcbdlcipmfaaGreatFmtRows
import Derived.Test.YtkfdcbdlcipmfaaGreatFmtGV
import Derived.Lib.LaidU8
import Derived.Lib.LaidCase
import Derived.PinnedBridge
import Derived.Lib.LaidCaseMet
import Derived.Lib.LaidIn
import Derived.LaidMore
import Derived.Deep.DeepWitnessRef
import Derived.Test.YtkfdcbdlcipmfaaGreatFmtGJ
import Derived.Test.YtkfdcbdlcipmfaaGreatFmtCards
import Derived.Test.YtkfdcbdlcipmfaaGreatFmtTie
import Derived.ProofKit
import Derived.Stop.JoinedAt
import Derived.Stop.JoinedTold
import Derived.SevenTiedAt
import Derived.Carry
import Derived.Deep.Slices
import Derived.Deep.Fields
import Derived.ChangeSame
set_option linter.unusedVariables false
set_option linter.unusedSimpArgs false
namespace Go.Proofs.YtkfdcbdlcipmfaaGreatFmt
open Go.RowKit Go.Extern.Stop Go.Stop Go.Extern Go.Lib Go.Proofs

def laidL : List (String × DataW Unit) := Rows.fnRuleIsReadRow.laid
def litZ : DataW Unit → Int
  | .lit (.int _ z) => z
  | _ => 0
def aggL : DataW Unit → List (DataW Unit)
  | .agg l => l
  | _ => []
def sliceL : DataW Unit → List (DataW Unit)
  | .slice l _ => l
  | _ => []
def foldZ : List Int := (aggL Rows.laid_unicode_asciiFold).map litZ
def orbitZ : List (List Int) := (sliceL Rows.laid_unicode_caseOrbit).map fun d => (aggL d).map litZ
theorem fold_eq : (Rows.laid_unicode_asciiFold : DataW Unit) = tabData .u16 foldZ := by kernel_rfl
theorem orbit_eq : (Rows.laid_unicode_caseOrbit : DataW Unit) = .slice (orbitZ.map fun p => .agg (p.map fun z => .lit (.int .u16 z))) [] := by kernel_rfl
theorem accept_eq : (Rows.laid_unicode_utf8_acceptRanges : DataW Unit) = acceptData := by kernel_rfl
theorem orbit_len : orbitZ.length = 94 := by kernel_rfl
theorem u74 : Tryz.prog.underlying 74 = some (.int .u16) := by kernel_rfl
theorem u381 : Tryz.prog.underlying 381 = some (.array 128 74) := by kernel_rfl
theorem u382 : Tryz.prog.underlying 382 = some (.slice 384) := by kernel_rfl
theorem cells74 : Tryz.prog.cellsOf 74 = 1 := by kernel_rfl
theorem cells381 : Tryz.prog.cellsOf 381 = 128 := by kernel_rfl
theorem cells384 : Tryz.prog.cellsOf 384 = 2 := by kernel_rfl
theorem struct384 : ∃ fs : Array Field, Tryz.prog.underlying 384 = some (.struct fs) ∧ fs.size = 2 ∧ ∀ (i : Nat) (f : Field), fs[i]? = some f → f.type = 74 ∧ f.offset = i := by
  have h : (Tryz.prog.underlying 384).map (fun d => match d with | .struct fs => some (fs.toList.map fun f => (f.type, f.offset)) | _ => none) = some (some [(74, 0), (74, 1)]) := by kernel_rfl
  obtain ⟨d, hd, hh⟩ := Option.map_eq_some_iff.1 h
  split at hh
  · rename_i fs
    simp only [Option.some.injEq] at hh
    refine ⟨fs, hd, ?_, fun i f hf => ?_⟩
    · have := congrArg List.length hh
      simpa using this
    · have h2 := congrArg (·[i]?) hh
      simp only [List.getElem?_map, Array.getElem?_toList, hf, Option.map_some] at h2
      match i, h2 with
      | 0, h2 => simpa using h2
      | 1, h2 => simpa using h2
      | i + 2, h2 => simp at h2
  · simp at hh

theorem tabs_utf8 {W : World} (h : laidMet Tryz.prog laidL W) : Lib.Utf8Tabs 1 2 W :=
  utf8Tabs_of_reads Tryz.lays260 { n3 := by kernel_rfl, n4 := by kernel_rfl, y3 := by kernel_rfl, y4 := by kernel_rfl, c5 := by kernel_rfl, c119 := by kernel_rfl, c138 := by kernel_rfl }
    (by rw [← Pinned.utf8First_eq]; exact Go.Lib.laidMet.reads h (by simp [laidL, Rows.fnRuleIsReadRow, Rows.laid_unicode_utf8_first]))
    (by rw [← accept_eq]; exact Go.Lib.laidMet.reads h (by simp [laidL, Rows.fnRuleIsReadRow]))
theorem tabs_case {W : World} (h : laidMet Tryz.prog laidL W) : Lib.CaseVar 5 Lib.caseA W :=
  caseVar_of_reads (ρ := Tryz.lays159_ren) { Tryz.lays159 with } Tryz.lays159.t206 { n13 := by kernel_rfl, y13 := by kernel_rfl, c21 := by kernel_rfl, c51 := by kernel_rfl, c206 := by kernel_rfl, c208 := by kernel_rfl }
    (by rw [← Pinned.caseRanges_eq]; exact Go.Lib.laidMet.reads h (by simp [laidL, Rows.fnRuleIsReadRow, Rows.laid_unicode_CaseRanges]))
theorem tabs_ascii {W : World} (h : laidMet Tryz.prog laidL W) (c : Nat) (z : Int) (hz : foldZ[c]? = some z) : W.cell? ⟨3, c, none⟩ = some (.int .u16 z) := by
  have hr : VarReads Tryz.prog W "unicode.asciiFold" (tabData .u16 foldZ) := by rw [← fold_eq]; exact Go.Lib.laidMet.reads h (by simp [laidL, Rows.fnRuleIsReadRow])
  obtain ⟨g, t, cs, fuel, p, hg, hty, hvar, hd⟩ := hr
  obtain rfl := Option.some.inj ((show Tryz.prog.globalNamed "unicode.asciiFold" = some 3 by kernel_rfl).symm.trans hg)
  obtain rfl := Option.some.inj ((show (Tryz.prog.globals[3]?).map (·.type) = some 381 by kernel_rfl).symm.trans hty)
  have hcs := cells_of_tab u381 u74 cells74 cells381 hd
  rw [World.var?_cell hg hvar c, ← Array.getElem?_toList, hcs, List.getElem?_map, hz]
  rfl
theorem tabs_orbit {W : World} (h : laidMet Tryz.prog laidL W) : ∃ R oR cap, W.cell? ⟨4, 0, none⟩ = some (.slice (some ⟨R, oR, none⟩) 94 cap) ∧ ∀ i j z, i < 94 → j < 2 → (orbitZ.getD i [])[j]? = some z → W.cell? ⟨R, oR + i * 2 + j, none⟩ = some (.int .u16 z) := by
  have hr : VarReads Tryz.prog W "unicode.caseOrbit" (.slice (orbitZ.map fun p => .agg (p.map fun z => .lit (.int .u16 z))) []) := by rw [← orbit_eq]; exact Go.Lib.laidMet.reads h (by simp [laidL, Rows.fnRuleIsReadRow])
  obtain ⟨g, t, cs, fuel, p, hg, hty, hvar, hd⟩ := hr
  obtain rfl := Option.some.inj ((show Tryz.prog.globalNamed "unicode.caseOrbit" = some 4 by kernel_rfl).symm.trans hg)
  obtain rfl := Option.some.inj ((show (Tryz.prog.globals[4]?).map (·.type) = some 382 by kernel_rfl).symm.trans hty)
  obtain ⟨fs, hfs, hf2, hff⟩ := struct384
  rcases DataW.trod_slice u382 hd with ⟨_, hx'⟩ | ⟨a', len, cap, el, rs, m, rfl, hc0, hx', _, hlc, _, hel, helem, hsp, _⟩
  · cases hx'
  have e0 := congrArg Prod.fst hx'
  simp only [DataW.slice.injEq] at e0
  obtain ⟨eE, eR⟩ := e0
  have hlen : len = 94 := by
    have := congrArg List.length eE
    simp [orbit_len] at this
    omega
  have hrow : ∀ i, i < 94 → ∀ j, j < 2 → W.cell? ((a'.add (i * 2)).add j) = ((orbitZ.getD i []).map fun z => Value.int .u16 z)[j]? := by
    intro i hi j hj
    have h1 := helem i (by omega)
    rw [cells384] at h1
    obtain ⟨b, hb⟩ : ∃ b, el[i]? = some b := ⟨el[i]'(by omega), List.getElem?_eq_getElem (by omega)⟩
    rw [hb] at h1
    obtain ⟨ce, hce, hte⟩ := Option.bind_eq_some_iff.1 h1
    have hb1 : b.1 = .agg ((orbitZ.getD i []).map fun z => .lit (.int .u16 z)) := by
      have := congrArg (·[i]?) eE
      simp only [List.getElem?_map, hb, Option.map_some] at this
      have hi' : i < orbitZ.length := by rw [orbit_len]; exact hi
      rw [List.getElem?_eq_getElem hi'] at this
      simp only [Option.map_some, Option.some.injEq] at this
      rw [← this]
      simp [List.getD, hi']
    have hcs := ints_of_struct (p := b.2) hfs (fun k f hk => by
      obtain ⟨e1, e2⟩ := hff k f hk
      exact ⟨by rw [e1]; exact u74, e2, by rw [e1]; exact cells74⟩) (by rw [cells384, hf2]) (by rw [← hb1]; exact hte)
    obtain ⟨_, _, hcc⟩ := World.cells?_some hce
    rw [hcc j hj, hcs]
  obtain ⟨R, oR, sR⟩ := a'
  have hpair : ∀ i, i < 94 → (orbitZ.getD i []).length = 2 := by
    have : (List.range 94).all (fun i => (orbitZ.getD i []).length == 2) = true := by kernel_rfl
    intro i hi
    simpa using List.all_eq_true.1 this i (List.mem_range.2 hi)
  obtain rfl : sR = none := by
    have h00 := hrow 0 (by omega) 0 (by omega)
    have : (Addr.add (Addr.add ⟨R, oR, sR⟩ (0 * 2)) 0) = ⟨R, oR, sR⟩ := by simp [Addr.add]
    rw [this, List.getElem?_map, List.getElem?_eq_getElem (by rw [hpair 0 (by omega)]; omega), Option.map_some] at h00
    exact cell_spot h00
  refine ⟨R, oR, cap, ?_, fun i j z hi hj hz => ?_⟩
  · rw [World.var?_cell hg hvar 0, ← Array.getElem?_toList, hc0, hlen]
    rfl
  · have := hrow i hi j hj
    rw [Addr.add_lit, Addr.add_lit, List.getElem?_map, hz] at this
    simpa using this
theorem tabs_of_laid {W : World} (h : laidMet Tryz.prog laidL W) : Tabs W := by
  refine ⟨tabs_utf8 h, tabs_case h, ⟨fun c f hm => tabs_ascii h c f ?_, ?_⟩⟩
  · simp only [List.mem_cons, Prod.mk.injEq, List.mem_nil_iff, or_false] at hm
    rcases hm with ⟨rfl, rfl⟩ | ⟨rfl, rfl⟩ | ⟨rfl, rfl⟩ | ⟨rfl, rfl⟩ | ⟨rfl, rfl⟩ | ⟨rfl, rfl⟩ | ⟨rfl, rfl⟩ | ⟨rfl, rfl⟩ | ⟨rfl, rfl⟩ | ⟨rfl, rfl⟩ <;> kernel_rfl
  · obtain ⟨R, oR, cap, h1, h2⟩ := tabs_orbit h
    refine ⟨R, oR, cap, h1, fun i a hm => ?_, ?_⟩
    · have k : ∀ i, i < 94 → (orbitZ.getD i [])[0]? = some a → W.cell? ⟨R, oR + i * 2, none⟩ = some (.int .u16 a) := fun i hi hz => h2 i 0 a hi (by omega) hz
      simp only [List.mem_cons, Prod.mk.injEq, List.mem_nil_iff, or_false] at hm
      rcases hm with ⟨rfl, rfl⟩ | ⟨rfl, rfl⟩ | ⟨rfl, rfl⟩ | ⟨rfl, rfl⟩ | ⟨rfl, rfl⟩ | ⟨rfl, rfl⟩ | ⟨rfl, rfl⟩
      all_goals exact k _ (by omega) (by kernel_rfl)
    · exact h2 10 1 83 (by omega) (by omega) (by kernel_rfl)
end Go.Proofs.YtkfdcbdlcipmfaaGreatFmt
/- A world that holds what the rows list. -/
namespace Go.Proofs.YtkfdcbdlcipmfaaGreatFmt
open Go.RowKit Go.Extern.Stop Go.Stop Go.Extern Go.Lib Go.Proofs

def putAt (h : Array Obj) (g : Nat) (cs : Array Value) : Array Obj := h.modify g fun
  | .cells _ t frozen => .cells cs t frozen
  | o => o
noncomputable def lastN : Nat := (World.doorLaid Tryz.prog 133 default).heap.size
noncomputable def laidWorld (os : Os) : World :=
  { World.doorLaid Tryz.prog 133 os with
    heap := putAt (putAt ((World.doorLaid Tryz.prog 133 os).heap.push (.cells Lib.caseCells5 397)) 1 (Lib.firstTab.map fun z => Value.int .u8 z).toArray) 5 #[.slice (some ⟨lastN, 0, none⟩) 336 336] }
def small5 : List (String × DataW Unit) := laidL.take 5
set_option maxRecDepth 1000000 in
theorem piece_a (os : Os) (args : Array Value) : LaidIn Tryz.prog ((laidWorld os).forCall (fun _ _ => 0) ⟨#[], args, []⟩).memory small5 ((List.range lastN).filter fun b => b != 1 && b != 5) :=
  LaidIn.of_run _ 8 (by kernel_rfl) (by kernel_rfl) (by kernel_rfl) (by kernel_rfl)
set_option maxRecDepth 1000000 in
theorem piece_c (os : Os) (args : Array Value) : LaidIn Tryz.prog ((laidWorld os).forCall (fun _ _ => 0) ⟨#[], args, []⟩).memory [("unicode/utf8.first", firstData)] [1] :=
  LaidIn.of_run _ 8 (by kernel_rfl) (by kernel_rfl) (by kernel_rfl) (by kernel_rfl)
def plainV : Value → Bool
  | .iface _ _ => false
  | _ => true
theorem fit_plain {w : World} {b : Nat} {cs : Array Value} {t : TypeId} (h : w.heap[b]? = some (.cells cs t (0, 0))) (hp : ∀ v ∈ cs.toList, plainV v = true) (off : Nat) : (∃ c t, w.heap[b]? = some (.cells c t (0, 0))) ∧ ∀ u v, w.cell? ⟨b, off, none⟩ = some (.iface u v) → Value.okWide Tryz.prog w .any 0 u v := by
  refine ⟨⟨_, _, h⟩, fun u v hc => ?_⟩
  rw [Lib.cell_of_heap h] at hc
  have := hp _ (Array.mem_toList_iff.2 (Array.mem_of_getElem? hc))
  simp [plainV] at this
theorem case_plain : ∀ v ∈ Lib.caseCells5.toList, plainV v = true := by
  intro v hv
  unfold Lib.caseCells5 at hv
  rw [List.toList_toArray] at hv
  obtain ⟨x, _, hv⟩ := List.mem_flatMap.1 hv
  simp only [Lib.cells5, List.mem_cons, List.mem_nil_iff, or_false] at hv
  rcases hv with rfl | rfl | rfl | rfl | rfl <;> rfl
theorem piece_b {w : World} {R : Nat} {t : TypeId} (hR : 5 ≠ R) (h5 : w.heap[5]? = some (.cells #[.slice (some ⟨R, 0, none⟩) caseA.size caseA.size] 387 (0, 0))) (hb : w.heap[R]? = some (.cells Lib.caseCells5 t (0, 0))) : LaidIn Tryz.prog w [("unicode.CaseRanges", caseData)] [5, R] := by
  have X : CaseExtra Tryz.prog Tryz.lays159_ren := { n13 := by kernel_rfl, y13 := by kernel_rfl, c21 := by kernel_rfl, c51 := by kernel_rfl, c206 := by kernel_rfl, c208 := by kernel_rfl }
  have hread := case_slice_reads (ρ := Tryz.lays159_ren) { Tryz.lays159 with } Tryz.lays159.t206 X (caseTab_of_block hb) caseA_wf (by rw [caseA_size]; unfold maxLen; omega) 0
  rw [case_rows_data] at hread
  have hv : w.var? Tryz.prog "unicode.CaseRanges" = some #[.slice (some ⟨R, 0, none⟩) caseA.size caseA.size] := by
    simp [World.var?, show Tryz.prog.globalNamed "unicode.CaseRanges" = some 5 by kernel_rfl, h5]
  refine LaidIn.one [5, R] (show Tryz.prog.globalNamed "unicode.CaseRanges" = some 5 by kernel_rfl) (show (Tryz.prog.globals[5]?).map (·.type) = some 387 by kernel_rfl) hv hread ?_ ?_ ?_
  · have := rows_nodup [((⟨5, 0, none⟩ : Addr), 1), (⟨R, 0, none⟩, caseA.size * 5)] (by simp [hR])
    simpa using this
  · intro b off hp
    rcases List.mem_append.1 hp with hp | hp
    · obtain ⟨i, hi, e⟩ := MemPlace.mem_row.1 hp
      cases e
      exact fit_plain h5 (by simp [plainV]) _
    · obtain ⟨i, hi, e⟩ := MemPlace.mem_row.1 hp
      cases e
      exact fit_plain hb case_plain _
  · intro x hx
    have := rows_block [((⟨5, 0, none⟩ : Addr), 1), (⟨R, 0, none⟩, caseA.size * 5)] x (by simpa using hx)
    simpa using this
set_option maxRecDepth 1000000 in
theorem laid_met (os : Os) (args : Array Value) : laidMet Tryz.prog laidL ((laidWorld os).forCall (fun _ _ => 0) ⟨#[], args, []⟩).memory := by
  have h := ((piece_a os args).append ((piece_b (R := lastN) (t := 397) (Nat.ne_of_beq_eq_false (by kernel_rfl)) (by rw [caseA_size]; kernel_rfl) (by kernel_rfl)).append (piece_c os args) (by kernel_rfl)) (by kernel_rfl)).met
  have e : small5 ++ ([("unicode.CaseRanges", caseData)] ++ [("unicode/utf8.first", firstData)]) = laidL := by
    rw [← Pinned.caseRanges_eq, ← Pinned.utf8First_eq]
    rfl
  rwa [e] at h
end Go.Proofs.YtkfdcbdlcipmfaaGreatFmt
/- The arguments of the laws, read; what the rows' builders ask. -/
namespace Go.Proofs.YtkfdcbdlcipmfaaGreatFmt
open Go.RowKit Go.Extern.Stop Go.Stop Go.Extern Go.ChangeShapes Go.WideShapes Go.ChangeAt Go.Kit Go.Deep
open Go.ChangeMaps (open_string shut_string)

theorem Tryz.own : ownKnob Tryz.prog.godebug = none := by kernel_rfl
theorem Tryz.laidOut : laidOutB Tryz.pinned.checked.prog = true := by kernel_rfl
theorem Tryz.stops : Tryz.pinned.checked.prog.stops = ["fmt.Sprintf"] := by kernel_rfl
theorem Tryz.stopKnobs : Tryz.pinned.checked.prog.stopKnobs = [] := by kernel_rfl
theorem Tryz.quiet (os : Os) : Stop.quiet Tryz.pinned.checked.prog os := by
  intro k hk
  rw [Tryz.stopKnobs] at hk
  cases hk
theorem cells45 : Tryz.prog.cellsOf 45 = 6 := by kernel_rfl
theorem struct45 : ∃ fs : Array Field, Tryz.prog.underlying 45 = some (.struct fs) ∧ oneCellFields Tryz.prog fs = true ∧ fs.toList.map (·.type) = [3, 3, 3, 9, 4, 4] := by
  have h : (Tryz.prog.underlying 45).map (fun d => match d with | .struct fs => some (oneCellFields Tryz.prog fs, fs.toList.map (·.type)) | _ => none) = some (some (true, [3, 3, 3, 9, 4, 4])) := by kernel_rfl
  obtain ⟨d, hd, hh⟩ := Option.map_eq_some_iff.1 h
  split at hh
  · rename_i fs
    simp only [Option.some.injEq, Prod.mk.injEq] at hh
    exact ⟨fs, hd, hh.1, hh.2⟩
  · simp at hh
theorem open_fields {H : Type} {enc : TypeId × Value → H} {P : Program} {w : World} {base : Nat} {spare : Nat → Bool} {held : Bool} {t e : TypeId} {fs : Array Field} {fuel : Nat} {cs : List Value} {x : DataW H × List MemPlace} (ht : P.underlying t = some (.slice e)) (he : P.underlying e = some (.struct fs))
    (hone : oneCellFields P fs = true) (hC : P.cellsOf e = fs.size) (h : DataW.trod enc P w base spare held fuel t cs = some x) :
    cs = [.slice none 0 0] ∨ ∃ (a : Addr) (len cap : Nat), cs = [.slice (some a) len cap] ∧ ∀ i, i < len → ∃ n, ∀ (j : Nat) (f : Field), fs[j]? = some f → ∃ (v : Value) (y : DataW H × List MemPlace), w.cell? (a.add (i * fs.size + j)) = some v ∧ DataW.trod enc P w base spare held n f.type [v] = some y := by
  rcases open_slice ht h with h0 | ⟨a, len, cap, m, n, D, Pl, hcs, hb, hl, hm, hmm, hx, hi⟩
  · exact .inl h0.1
  · refine .inr ⟨a, len, cap, hcs, fun i hil => ?_⟩
    have him : i < m := by rw [hmm]; split <;> omega
    obtain ⟨cs', hc, ht'⟩ := hi i him
    rw [hC] at hc
    obtain ⟨ys, n', hn', hy, hlen, hyl, hf⟩ := DataW.trod_struct he ht'
    obtain ⟨_, hcl, hat⟩ := World.cells?_some hc
    refine ⟨n', fun j f hj => ?_⟩
    obtain ⟨ho, hk⟩ := hone_of hone j f hj
    have hjl : j < fs.size := (Array.getElem?_eq_some_iff.1 hj).1
    have hcell := hat j hjl
    have hv : cs'[j]? = some (cs'[j]'(by omega)) := List.getElem?_eq_getElem (by omega)
    have h1 := hf j f hj
    rw [ho, hk] at h1
    have hone' : (cs'.drop j).take 1 = [cs'[j]'(by omega)] := by
      rw [List.drop_eq_getElem_cons (by omega)]
      rfl
    rw [hone'] at h1
    have hys : ys[j]? = some (ys[j]'(by omega)) := List.getElem?_eq_getElem (by omega)
    refine ⟨_, _, ?_, h1.trans hys⟩
    rw [← Go.Deep.add_add, hcell, hv]
section
variable {H : Type} {enc : TypeId × Value → H} {W : World}
theorem cell_int {n : Nat} {v : Value} {y : DataW H × List MemPlace} (h : DataW.trod enc Tryz.prog W 0 (fun _ => true) true n 3 [v] = some y) : ∃ z, v = .int .i64 z := by
  obtain ⟨z, hz, _⟩ := DataW.trod_int Tryz.underlying3 h
  exact ⟨z, by simpa using hz⟩
theorem cell_str {n : Nat} {v : Value} {y : DataW H × List MemPlace} (h : DataW.trod enc Tryz.prog W 0 (fun _ => true) true n 9 [v] = some y) : ∃ s, v = .string s := by
  obtain ⟨z, hz, _⟩ := DataW.trod_string Tryz.underlying9 h
  exact ⟨z, by simpa using hz⟩
theorem cell_bool {n : Nat} {v : Value} {y : DataW H × List MemPlace} (h : DataW.trod enc Tryz.prog W 0 (fun _ => true) true n 4 [v] = some y) : ∃ b, v = .bool b := by
  obtain ⟨z, hz, _⟩ := DataW.trod_bool Tryz.underlying4 h
  exact ⟨z, by simpa using hz⟩
theorem str_self (s : ByteArray) : str s.data.toList = s := by cases s; simp [str]
theorem nodesC_size : ∀ l : List Css.Node, (nodesC l).length = l.length * 6
  | [] => rfl
  | n :: l => by
    have := nodesC_size l
    simp only [nodesC, List.flatMap_cons, List.length_append, nodeCells_length, List.length_cons] at this ⊢
    omega
instance : Inhabited Css.Node := ⟨⟨0, 0, 0, [], false, false⟩⟩
set_option maxRecDepth 100000 in
theorem open_nodes {base : Nat} {v : Value} {d : DataW H} {p : List MemPlace} (hv : Value.okWide Tryz.prog W .any base 22 v) (h : DataW.Trod enc Tryz.prog W 0 (fun _ => true) true 22 v d p) :
    ∃ (A : Option Addr) (c : Nat) (l : List Css.Node), v = .slice A l.length c ∧ Nd W W.heap.size A l := by
  obtain ⟨a0, n, c, rfl⟩ := okWide_slice Tryz.underlying22 hv
  obtain ⟨fuel, hf⟩ := h
  obtain ⟨fs, hfs, hone, hty⟩ := struct45
  have hsz : fs.size = 6 := by
    have := congrArg List.length hty
    simpa using this
  rcases open_fields Tryz.underlying22 hfs hone (cells45.trans hsz.symm) hf with h0 | ⟨a, len, cap, h0, hel⟩
  · simp [Value.cells] at h0
    obtain ⟨rfl, rfl, rfl⟩ := h0
    exact ⟨none, 0, [], rfl, Sl.empty⟩
  · simp [Value.cells] at h0
    obtain ⟨rfl, rfl, rfl⟩ := h0
    have hfld : ∀ j t, ([3, 3, 3, 9, 4, 4] : List TypeId)[j]? = some t → ∃ f : Field, fs[j]? = some f ∧ f.type = t := fun j t hj => by
      rw [← hty, List.getElem?_map, Option.map_eq_some_iff] at hj
      obtain ⟨f, h1, h2⟩ := hj
      exact ⟨f, by simpa using h1, h2⟩
    obtain ⟨f0, g0, t0⟩ := hfld 0 3 rfl
    obtain ⟨f1, g1, t1⟩ := hfld 1 3 rfl
    obtain ⟨f2, g2, t2⟩ := hfld 2 3 rfl
    obtain ⟨f3, g3, t3⟩ := hfld 3 9 rfl
    obtain ⟨f4, g4, t4⟩ := hfld 4 4 rfl
    obtain ⟨f5, g5, t5⟩ := hfld 5 4 rfl
    have hn : ∀ i, i < n → ∃ nd : Css.Node, ∀ j u, (nodeCells nd)[j]? = some u → W.cell? (a.add (i * 6 + j)) = some u := fun i hi => by
      obtain ⟨m, hm⟩ := hel i hi
      rw [hsz] at hm
      obtain ⟨v0, y0, c0, r0⟩ := hm 0 f0 g0
      obtain ⟨v1, y1, c1, r1⟩ := hm 1 f1 g1
      obtain ⟨v2, y2, c2, r2⟩ := hm 2 f2 g2
      obtain ⟨v3, y3, c3, r3⟩ := hm 3 f3 g3
      obtain ⟨v4, y4, c4, r4⟩ := hm 4 f4 g4
      obtain ⟨v5, y5, c5, r5⟩ := hm 5 f5 g5
      rw [t0] at r0; rw [t1] at r1; rw [t2] at r2; rw [t3] at r3; rw [t4] at r4; rw [t5] at r5
      obtain ⟨z0, rfl⟩ := cell_int r0
      obtain ⟨z1, rfl⟩ := cell_int r1
      obtain ⟨z2, rfl⟩ := cell_int r2
      obtain ⟨s3, rfl⟩ := cell_str r3
      obtain ⟨b4, rfl⟩ := cell_bool r4
      obtain ⟨b5, rfl⟩ := cell_bool r5
      refine ⟨⟨z0, z1, z2, s3.data.toList, b4, b5⟩, fun j u hj => ?_⟩
      unfold nodeCells at hj
      rw [str_self] at hj
      match j, hj with
      | 0, hj => simp at hj; subst hj; exact c0
      | 1, hj => simp at hj; subst hj; exact c1
      | 2, hj => simp at hj; subst hj; exact c2
      | 3, hj => simp at hj; subst hj; exact c3
      | 4, hj => simp at hj; subst hj; exact c4
      | 5, hj => simp at hj; subst hj; exact c5
      | j + 6, hj => simp at hj
    obtain ⟨g, hg⟩ := choose_lt hn
    have hl : ((List.range n).map g).length = n := by simp
    refine ⟨some a, c, (List.range n).map g, by rw [hl], ?_⟩
    unfold Nd
    rw [hl]
    have hcl : (nodesC ((List.range n).map g)).length = n * 6 := by rw [nodesC_size, hl]
    have hat : ∀ j u, (nodesC ((List.range n).map g))[j]? = some u → W.cell? (a.add j) = some u := fun j u hj => by
      have hjl : j < n * 6 := by rw [← hcl]; exact (List.getElem?_eq_some_iff.1 hj).1
      have hi : j / 6 < n := by omega
      have hk : j % 6 < 6 := Nat.mod_lt _ (by omega)
      have he : j = j / 6 * 6 + j % 6 := by omega
      have h2 := flat_get nodeCells 6 nodeCells_length ((List.range n).map g) (j / 6) (j % 6) (by rw [hl]; exact hi) hk
      rw [he] at hj ⊢
      rw [show nodesC ((List.range n).map g) = ((List.range n).map g).flatMap nodeCells from rfl, h2] at hj
      refine hg (j / 6) hi (j % 6) u ?_
      simpa using hj
    refine ⟨hcl, fun hn0 => ⟨a, rfl, ?_, hat⟩⟩
    have h0 : (nodesC ((List.range n).map g))[0]? = some ((nodesC ((List.range n).map g))[0]'(by omega)) := List.getElem?_eq_getElem (by omega)
    have := World.block_lt_of_cell? _ _ (hat 0 _ h0)
    rwa [block_of_add] at this
theorem trodAll_five {P : Program} {w : World} {base : Nat} {spare : Nat → Bool} {held : Bool} {t t' t'' t3 t4 : TypeId} {args : Array Value} {ds : List (DataW H)} {ps : List MemPlace} (h : DataW.TrodAll enc P w base spare held [t, t', t'', t3, t4] args.toList ds ps) :
    ∃ v v' v'' v3 v4 d d' d'' d3 d4 p p' p'' p3 p4, args = #[v, v', v'', v3, v4] ∧ ds = [d, d', d'', d3, d4] ∧ ps = p ++ p' ++ p'' ++ p3 ++ p4 ∧ DataW.Trod enc P w base spare held t v d p ∧ DataW.Trod enc P w base spare held t' v' d' p' ∧ DataW.Trod enc P w base spare held t'' v'' d'' p'' ∧ DataW.Trod enc P w base spare held t3 v3 d3 p3 ∧ DataW.Trod enc P w base spare held t4 v4 d4 p4 := by
  obtain ⟨v, vs, d, ds', p, q, hargs, rfl, rfl, hd, hrest⟩ := trodAll_cons h
  obtain ⟨v', vs', d', ds'', p', q', rfl, rfl, rfl, hd', hrest'⟩ := trodAll_cons hrest
  obtain ⟨v'', vs'', d'', ds''', p'', q'', rfl, rfl, rfl, hd'', hrest''⟩ := trodAll_cons hrest'
  obtain ⟨v3, vs3, d3, ds3, p3, q3, rfl, rfl, rfl, hd3, hrest3⟩ := trodAll_cons hrest''
  obtain ⟨v4, vs4, d4, ds4, p4, q4, rfl, rfl, rfl, hd4, hrest4⟩ := trodAll_cons hrest3
  obtain ⟨rfl, rfl, rfl⟩ := trodAll_nil hrest4
  exact ⟨v, v', v'', v3, v4, d, d', d'', d3, d4, p, p', p'', p3, p4, by cases args; simp_all, rfl, by simp, hd, hd', hd'', hd3, hd4⟩
theorem trodAll_mk5 {P : Program} {w : World} {base : Nat} {spare : Nat → Bool} {held : Bool} {t t' t'' t3 t4 : TypeId} {v v' v'' v3 v4 : Value} {d d' d'' d3 d4 : DataW H} {p p' p'' p3 p4 : List MemPlace} (h : DataW.Trod enc P w base spare held t v d p) (h' : DataW.Trod enc P w base spare held t' v' d' p')
    (h'' : DataW.Trod enc P w base spare held t'' v'' d'' p'') (h3 : DataW.Trod enc P w base spare held t3 v3 d3 p3) (h4 : DataW.Trod enc P w base spare held t4 v4 d4 p4) : DataW.TrodAll enc P w base spare held [t, t', t'', t3, t4] [v, v', v'', v3, v4] [d, d', d'', d3, d4] (p ++ (p' ++ (p'' ++ (p3 ++ p4)))) := ⟨p, p' ++ (p'' ++ (p3 ++ p4)), h, trodAll_mk4 h' h'' h3 h4, rfl⟩
theorem below_of {w w' : World} (h : w.grownBy w' none) : Below w.heap.size w w' := ⟨h.os, h.tape, h.output, h.size, fun i hi => h.block i hi (by simp)⟩
theorem again {t : TypeId} {v : Value} {d : DataW H} {ps : List MemPlace} {w' : World} (hr : Tryz.prog.readableRec t = true) (hrow : t < Tryz.prog.types.size) (h : DataW.Trod enc Tryz.prog W 0 (fun _ => true) true t v d ps) (hg : W.grownBy w' none) (hlt : ∀ x ∈ ps, x.block < W.heap.size) :
    DataW.Trod enc Tryz.prog w' 0 (fun b => decide (b < W.heap.size)) true t v d ps := Below.trod Tryz.laidOut hr hrow h (below_of hg) hlt
end
theorem read22 : Tryz.prog.readableRec 22 = true ∧ 22 < Tryz.prog.types.size := ⟨by kernel_rfl, of_decide_eq_true (by kernel_rfl)⟩
theorem read9 : Tryz.prog.readableRec 9 = true ∧ 9 < Tryz.prog.types.size := ⟨by kernel_rfl, of_decide_eq_true (by kernel_rfl)⟩
theorem read4 : Tryz.prog.readableRec 4 = true ∧ 4 < Tryz.prog.types.size := ⟨by kernel_rfl, of_decide_eq_true (by kernel_rfl)⟩
end Go.Proofs.YtkfdcbdlcipmfaaGreatFmt
