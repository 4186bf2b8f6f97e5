/- FnMinifiedIsTheSame, proved for every input: minified and not, in ASCII and not, an at-rule has the same tokens by the standard; in ASCII it has bytes below 128 alone. The row lists package-level variables of the program with what its text lays in them (tied), and fmt's text is told. No other condition. -/
import Derived.Test.YtkfdcbdlcipmfaaGreatFmtHO
import Derived.Test.YtkfdcbdlcipmfaaGreatFmtHM
set_option linter.unusedVariables false
set_option linter.unusedSimpArgs false
namespace Go.Proofs.YtkfdcbdlcipmfaaGreatFmt
open Go.RowKit Go.Extern.Stop Go.Stop Go.Extern Go.ChangeShapes Go.WideShapes Go.ChangeAt Go.Kit Go.Deep
open Go.ChangeMaps (open_string shut_string)

set_option maxRecDepth 1000000 in
set_option maxHeartbeats 400000000 in
theorem fnMinifiedIsTheSame_witness (os : Os) {H : Type} (enc : TypeId × Value → H) :
    (OpenSpec.ofChange Rows.fnMinifiedIsTheSameSpec).preRow enc Tryz.prog Tryz.f4 [] false Rows.fnMinifiedIsTheSameRow.laid ((laidWorld os).forCall (fun _ _ => 0) ⟨#[], #[.string ⟨#[]⟩, .slice none 0 0], []⟩).memory #[.string ⟨#[]⟩, .slice none 0 0] := by
  have hw : (DataW.whole enc Tryz.prog ((laidWorld os).forCall (fun _ _ => 0) ⟨#[], #[.string ⟨#[]⟩, .slice none 0 0], []⟩).memory Tryz.f4.params.toList (OpenSpec.ofChange Rows.fnMinifiedIsTheSameSpec).vars false (#[.string ⟨#[]⟩, .slice none 0 0] : Array Value).toList 8).map (fun x => (x.1, x.2.1)) = some ([.lit (.string []), .nil], []) := by as_aux_lemma => kernel_rfl
  obtain ⟨⟨x1, x2, x3⟩, hx, hx1⟩ := Option.map_eq_some_iff.1 hw
  simp only [Prod.mk.injEq] at hx1
  obtain ⟨rfl, rfl⟩ := hx1
  exact OpenSpec.preRow_of_cond 8 hx (by as_aux_lemma => kernel_rfl) (fun k hk => by cases hk) (by as_aux_lemma => kernel_rfl) (laid_met os _)

set_option maxRecDepth 1000000 in
set_option maxHeartbeats 400000000 in
theorem fnMinifiedIsTheSame_lifted (os : Os) (started : os.Started) (H : Type) (enc : TypeId × Value → H) :
    ReturnsInTold none {} Tryz.checked os 4 .any Input.okWide ((OpenSpec.ofChange Rows.fnMinifiedIsTheSameSpec).preRow enc Tryz.prog Tryz.f4 [] false Rows.fnMinifiedIsTheSameRow.laid) (fun F => ((OpenSpec.ofChange Rows.fnMinifiedIsTheSameSpec).at F).post enc Tryz.prog Tryz.f4 false true false false) (aloneAtReturn Tryz.prog) nothingAlways := by
  refine returnsInTold_of_row (C := Tryz.checked) (s := (OpenSpec.ofChange Rows.fnMinifiedIsTheSameSpec)) (by as_aux_lemma => kernel_rfl) Tryz.own started (by as_aux_lemma => kernel_rfl) Tryz.func4
    (OpenSpec.witness_stopped_atRef (enc := enc) (C := Tryz.checked) false (laidWorld os) #[.string ⟨#[]⟩, .slice none 0 0] rfl (by as_aux_lemma => kernel_rfl) (by as_aux_lemma => kernel_rfl) (by as_aux_lemma => kernel_rfl) (fnMinifiedIsTheSame_witness os enc)) ?_
  intro F W base args ds gs before _ hF hval0 hW _ _ _ hL0 _
  have hval : ∀ (j : Nat) t v, Tryz.f4.params[j]? = some t → args[j]? = some v → Value.okWide Tryz.prog W .any base t v := hval0
  have hL : laidMet Tryz.prog laidL W := hL0
  have hW' := hW
  obtain ⟨p, q, hA0, hV, rfl, _, _⟩ := hW
  have hA : DataW.TrodAll enc Tryz.prog W 0 (fun _ => true) true Tryz.f4.params.toList args.toList ds p := hA0
  rw [Tryz.params4] at hA hval
  obtain ⟨v0, v1, d0, d1, p0, p1, rfl, rfl, rfl, h0, h1⟩ := trodAll_two hA
  obtain ⟨rfl, rfl⟩ := trodVars_none hV
  clear hA0 hval0 hL0
  have hlt := hW'.lt
  obtain ⟨s0, rfl, _, _, _⟩ := open_string Tryz.underlying9 (hval 0 9 v0 rfl rfl) h0
  obtain ⟨A1, c1, l1, rfl, hN1⟩ := open_nodes (hval 1 22 v1 rfl rfl) h1
  have hc := c4 (F := F) (w := W) (A := A1) (c := c1) s0.data.toList  hF (tabs_of_laid hL) hN1
  rw [str_self] at hc
  refine hc.mono fun e W' ⟨he, hg⟩ => ?_
  subst he
  refine ⟨_, rfl, _, _, _, [], _, [], hW', trodAll_mk1 (shut_bool Tryz.underlying4 true), trodAll_mk2 (again read9.1 read9.2 h0 hg (fun x hx => hlt x (by simp [hx]))) (again read22.1 read22.2 h1 hg (fun x hx => hlt x (by simp [hx]))), rfl, (below_of hg).frame _, fun h => by cases h⟩

set_option maxRecDepth 1000000 in
set_option maxHeartbeats 400000000 in
theorem fnMinifiedIsTheSame_holds : Rows.FnMinifiedIsTheSameToldSaid :=
  Claim7.holds_of_told_tied_any_at .later 4 Tryz.f4 "fmt.Sprintf" [] [] _ _ _ _ _ (by as_aux_lemma => kernel_rfl) rfl rfl rfl Tryz.laidOut (by as_aux_lemma => kernel_rfl) rfl ⟨rfl, rfl, rfl, rfl, rfl, rfl, rfl⟩ rfl rfl (by as_aux_lemma => kernel_rfl) (by as_aux_lemma => kernel_rfl) Tryz.func4 (by as_aux_lemma => kernel_rfl)
    (of_decide_eq_true (by as_aux_lemma => kernel_rfl)) (of_decide_eq_true (by as_aux_lemma => kernel_rfl)) Tryz.stops.symm rfl Tryz.stopKnobs.symm (by as_aux_lemma => kernel_rfl)
    (by as_aux_lemma => kernel_rfl) (by as_aux_lemma => kernel_rfl) (by as_aux_lemma => kernel_rfl) (by as_aux_lemma => kernel_rfl) (by as_aux_lemma => kernel_rfl) (by as_aux_lemma => kernel_rfl) (by as_aux_lemma => kernel_rfl) (by as_aux_lemma => kernel_rfl) (by as_aux_lemma => kernel_rfl) rfl (by as_aux_lemma => kernel_rfl) rfl rfl
    rfl rfl
    rfl (by as_aux_lemma => kernel_rfl) (by as_aux_lemma => kernel_rfl) (by as_aux_lemma => kernel_rfl) (by decide) (by as_aux_lemma => kernel_rfl) fnMinifiedIsTheSame_row_tie
    (OpenClaim.moreEntering_of (by as_aux_lemma => kernel_rfl) (by as_aux_lemma => kernel_rfl) (by as_aux_lemma => kernel_rfl) (by as_aux_lemma => kernel_rfl) (by as_aux_lemma => kernel_rfl) (by as_aux_lemma => kernel_rfl) (by as_aux_lemma => kernel_rfl) (by as_aux_lemma => kernel_rfl) (by as_aux_lemma => kernel_rfl) (by as_aux_lemma => kernel_rfl))
    ⟨_, WideRow.started_initial, Tryz.quiet _⟩
    (fun os started _ H enc _ => fnMinifiedIsTheSame_lifted os started H enc) (hvl := ⟨(by as_aux_lemma => kernel_rfl), (by as_aux_lemma => kernel_rfl)⟩)

#print axioms fnMinifiedIsTheSame_holds
end Go.Proofs.YtkfdcbdlcipmfaaGreatFmt
