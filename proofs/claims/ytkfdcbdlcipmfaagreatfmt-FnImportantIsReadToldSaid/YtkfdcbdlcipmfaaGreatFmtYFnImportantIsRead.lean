/- FnImportantIsRead, proved for every input: an important declaration is read as the same one, with an exclamation mark and the word important ahead of its end. The row lists package-level variables of the program with what its text lays in them (tied), and fmt's text is told. No other condition. -/
import Derived.Test.YtkfdcbdlcipmfaaGreatFmtHO
import Derived.Test.YtkfdcbdlcipmfaaGreatFmtHK
set_option linter.unusedVariables false
set_option linter.unusedSimpArgs false
namespace Go.Proofs.YtkfdcbdlcipmfaaGreatFmt
open Go.RowKit Go.Extern.Stop Go.Stop Go.Extern Go.ChangeShapes Go.WideShapes Go.ChangeAt Go.Kit Go.Deep
open Go.ChangeMaps (open_string shut_string)

set_option maxRecDepth 1000000 in
set_option maxHeartbeats 400000000 in
theorem fnImportantIsRead_witness (os : Os) {H : Type} (enc : TypeId × Value → H) :
    (OpenSpec.ofChange Rows.fnImportantIsReadSpec).preRow enc Tryz.prog Tryz.f8 [] false Rows.fnImportantIsReadRow.laid ((laidWorld os).forCall (fun _ _ => 0) ⟨#[], #[.string ⟨#[]⟩, .slice none 0 0, .bool false, .bool false], []⟩).memory #[.string ⟨#[]⟩, .slice none 0 0, .bool false, .bool false] := by
  have hw : (DataW.whole enc Tryz.prog ((laidWorld os).forCall (fun _ _ => 0) ⟨#[], #[.string ⟨#[]⟩, .slice none 0 0, .bool false, .bool false], []⟩).memory Tryz.f8.params.toList (OpenSpec.ofChange Rows.fnImportantIsReadSpec).vars false (#[.string ⟨#[]⟩, .slice none 0 0, .bool false, .bool false] : Array Value).toList 8).map (fun x => (x.1, x.2.1)) = some ([.lit (.string []), .nil, .lit (.bool false), .lit (.bool false)], []) := by as_aux_lemma => kernel_rfl
  obtain ⟨⟨x1, x2, x3⟩, hx, hx1⟩ := Option.map_eq_some_iff.1 hw
  simp only [Prod.mk.injEq] at hx1
  obtain ⟨rfl, rfl⟩ := hx1
  exact OpenSpec.preRow_of_cond 8 hx (by as_aux_lemma => kernel_rfl) (fun k hk => by cases hk) (by as_aux_lemma => kernel_rfl) (laid_met os _)

set_option maxRecDepth 1000000 in
set_option maxHeartbeats 400000000 in
theorem fnImportantIsRead_lifted (os : Os) (started : os.Started) (H : Type) (enc : TypeId × Value → H) :
    ReturnsInTold none {} Tryz.checked os 8 .any Input.okWide ((OpenSpec.ofChange Rows.fnImportantIsReadSpec).preRow enc Tryz.prog Tryz.f8 [] false Rows.fnImportantIsReadRow.laid) (fun F => ((OpenSpec.ofChange Rows.fnImportantIsReadSpec).at F).post enc Tryz.prog Tryz.f8 false true false false) (aloneAtReturn Tryz.prog) nothingAlways := by
  refine returnsInTold_of_row (C := Tryz.checked) (s := (OpenSpec.ofChange Rows.fnImportantIsReadSpec)) (by as_aux_lemma => kernel_rfl) Tryz.own started (by as_aux_lemma => kernel_rfl) Tryz.func8
    (OpenSpec.witness_stopped_atRef (enc := enc) (C := Tryz.checked) false (laidWorld os) #[.string ⟨#[]⟩, .slice none 0 0, .bool false, .bool false] rfl (by as_aux_lemma => kernel_rfl) (by as_aux_lemma => kernel_rfl) (by as_aux_lemma => kernel_rfl) (fnImportantIsRead_witness os enc)) ?_
  intro F W base args ds gs before _ hF hval0 hW _ _ _ hL0 _
  have hval : ∀ (j : Nat) t v, Tryz.f8.params[j]? = some t → args[j]? = some v → Value.okWide Tryz.prog W .any base t v := hval0
  have hL : laidMet Tryz.prog laidL W := hL0
  have hW' := hW
  obtain ⟨p, q, hA0, hV, rfl, _, _⟩ := hW
  have hA : DataW.TrodAll enc Tryz.prog W 0 (fun _ => true) true Tryz.f8.params.toList args.toList ds p := hA0
  rw [Tryz.params8] at hA hval
  obtain ⟨v0, v1, v2, v3, d0, d1, d2, d3, p0, p1, p2, p3, rfl, rfl, rfl, h0, h1, h2, h3⟩ := trodAll_four hA
  obtain ⟨rfl, rfl⟩ := trodVars_none hV
  clear hA0 hval0 hL0
  have hlt := hW'.lt
  obtain ⟨s0, rfl, _, _, _⟩ := open_string Tryz.underlying9 (hval 0 9 v0 rfl rfl) h0
  obtain ⟨A1, c1, l1, rfl, hN1⟩ := open_nodes (hval 1 22 v1 rfl rfl) h1
  obtain ⟨b2, rfl, _, _⟩ := open_bool Tryz.underlying4 (hval 2 4 v2 rfl rfl) h2
  obtain ⟨b3, rfl, _, _⟩ := open_bool Tryz.underlying4 (hval 3 4 v3 rfl rfl) h3
  have hc := c8 (F := F) (w := W) (A := A1) (c := c1) s0.data.toList b2 b3 hF (tabs_of_laid hL) hN1
  rw [str_self] at hc
  refine hc.mono fun e W' ⟨he, hg⟩ => ?_
  subst he
  refine ⟨_, rfl, _, _, _, [], _, [], hW', trodAll_mk1 (shut_bool Tryz.underlying4 true), trodAll_mk4 (again read9.1 read9.2 h0 hg (fun x hx => hlt x (by simp [hx]))) (again read22.1 read22.2 h1 hg (fun x hx => hlt x (by simp [hx]))) (again read4.1 read4.2 h2 hg (fun x hx => hlt x (by simp [hx]))) (again read4.1 read4.2 h3 hg (fun x hx => hlt x (by simp [hx]))), rfl, (below_of hg).frame _, fun h => by cases h⟩

set_option maxRecDepth 1000000 in
set_option maxHeartbeats 400000000 in
theorem fnImportantIsRead_holds : Rows.FnImportantIsReadToldSaid :=
  Claim7.holds_of_told_tied_any_at .later 8 Tryz.f8 "fmt.Sprintf" [] [] _ _ _ _ _ (by as_aux_lemma => kernel_rfl) rfl rfl rfl Tryz.laidOut (by as_aux_lemma => kernel_rfl) rfl ⟨rfl, rfl, rfl, rfl, rfl, rfl, rfl⟩ rfl rfl (by as_aux_lemma => kernel_rfl) (by as_aux_lemma => kernel_rfl) Tryz.func8 (by as_aux_lemma => kernel_rfl)
    (of_decide_eq_true (by as_aux_lemma => kernel_rfl)) (of_decide_eq_true (by as_aux_lemma => kernel_rfl)) Tryz.stops.symm rfl Tryz.stopKnobs.symm (by as_aux_lemma => kernel_rfl)
    (by as_aux_lemma => kernel_rfl) (by as_aux_lemma => kernel_rfl) (by as_aux_lemma => kernel_rfl) (by as_aux_lemma => kernel_rfl) (by as_aux_lemma => kernel_rfl) (by as_aux_lemma => kernel_rfl) (by as_aux_lemma => kernel_rfl) (by as_aux_lemma => kernel_rfl) (by as_aux_lemma => kernel_rfl) rfl (by as_aux_lemma => kernel_rfl) rfl rfl
    rfl rfl
    rfl (by as_aux_lemma => kernel_rfl) (by as_aux_lemma => kernel_rfl) (by as_aux_lemma => kernel_rfl) (by decide) (by as_aux_lemma => kernel_rfl) fnImportantIsRead_row_tie
    (OpenClaim.moreEntering_of (by as_aux_lemma => kernel_rfl) (by as_aux_lemma => kernel_rfl) (by as_aux_lemma => kernel_rfl) (by as_aux_lemma => kernel_rfl) (by as_aux_lemma => kernel_rfl) (by as_aux_lemma => kernel_rfl) (by as_aux_lemma => kernel_rfl) (by as_aux_lemma => kernel_rfl) (by as_aux_lemma => kernel_rfl) (by as_aux_lemma => kernel_rfl))
    ⟨_, WideRow.started_initial, Tryz.quiet _⟩
    (fun os started _ H enc _ => fnImportantIsRead_lifted os started H enc) (hvl := ⟨(by as_aux_lemma => kernel_rfl), (by as_aux_lemma => kernel_rfl)⟩)

#print axioms fnImportantIsRead_holds
end Go.Proofs.YtkfdcbdlcipmfaaGreatFmt
