/- FnRuleIsRead, proved for every input: a rule with a prelude and a declaration is read as the prelude, and the declaration in braces. The row lists package-level variables of the program with what its text lays in them (tied), and fmt's text is told. No other condition. -/
import Derived.Test.YtkfdcbdlcipmfaaGreatFmtHO
import Derived.Test.YtkfdcbdlcipmfaaGreatFmtHL
set_option linter.unusedVariables false
set_option linter.unusedSimpArgs false
namespace Go.Proofs.YtkfdcbdlcipmfaaGreatFmt
open Go.RowKit Go.Extern.Stop Go.Stop Go.Extern Go.ChangeShapes Go.WideShapes Go.ChangeAt Go.Kit Go.Deep
open Go.ChangeMaps (open_string shut_string)

set_option maxRecDepth 1000000 in
set_option maxHeartbeats 400000000 in
theorem fnRuleIsRead_witness (os : Os) {H : Type} (enc : TypeId × Value → H) :
    (OpenSpec.ofChange Rows.fnRuleIsReadSpec).preRow enc Tryz.prog Tryz.f3 [] false Rows.fnRuleIsReadRow.laid ((laidWorld os).forCall (fun _ _ => 0) ⟨#[], #[.slice none 0 0, .string ⟨#[]⟩, .slice none 0 0, .bool false, .bool false], []⟩).memory #[.slice none 0 0, .string ⟨#[]⟩, .slice none 0 0, .bool false, .bool false] := by
  have hw : (DataW.whole enc Tryz.prog ((laidWorld os).forCall (fun _ _ => 0) ⟨#[], #[.slice none 0 0, .string ⟨#[]⟩, .slice none 0 0, .bool false, .bool false], []⟩).memory Tryz.f3.params.toList (OpenSpec.ofChange Rows.fnRuleIsReadSpec).vars false (#[.slice none 0 0, .string ⟨#[]⟩, .slice none 0 0, .bool false, .bool false] : Array Value).toList 8).map (fun x => (x.1, x.2.1)) = some ([.nil, .lit (.string []), .nil, .lit (.bool false), .lit (.bool false)], []) := by as_aux_lemma => kernel_rfl
  obtain ⟨⟨x1, x2, x3⟩, hx, hx1⟩ := Option.map_eq_some_iff.1 hw
  simp only [Prod.mk.injEq] at hx1
  obtain ⟨rfl, rfl⟩ := hx1
  exact OpenSpec.preRow_of_cond 8 hx (by as_aux_lemma => kernel_rfl) (fun k hk => by cases hk) (by as_aux_lemma => kernel_rfl) (laid_met os _)

set_option maxRecDepth 1000000 in
set_option maxHeartbeats 400000000 in
theorem fnRuleIsRead_lifted (os : Os) (started : os.Started) (H : Type) (enc : TypeId × Value → H) :
    ReturnsInTold none {} Tryz.checked os 3 .any Input.okWide ((OpenSpec.ofChange Rows.fnRuleIsReadSpec).preRow enc Tryz.prog Tryz.f3 [] false Rows.fnRuleIsReadRow.laid) (fun F => ((OpenSpec.ofChange Rows.fnRuleIsReadSpec).at F).post enc Tryz.prog Tryz.f3 false true false false) (aloneAtReturn Tryz.prog) nothingAlways := by
  refine returnsInTold_of_row (C := Tryz.checked) (s := (OpenSpec.ofChange Rows.fnRuleIsReadSpec)) (by as_aux_lemma => kernel_rfl) Tryz.own started (by as_aux_lemma => kernel_rfl) Tryz.func3
    (OpenSpec.witness_stopped_atRef (enc := enc) (C := Tryz.checked) false (laidWorld os) #[.slice none 0 0, .string ⟨#[]⟩, .slice none 0 0, .bool false, .bool false] rfl (by as_aux_lemma => kernel_rfl) (by as_aux_lemma => kernel_rfl) (by as_aux_lemma => kernel_rfl) (fnRuleIsRead_witness os enc)) ?_
  intro F W base args ds gs before _ hF hval0 hW _ _ _ hL0 _
  have hval : ∀ (j : Nat) t v, Tryz.f3.params[j]? = some t → args[j]? = some v → Value.okWide Tryz.prog W .any base t v := hval0
  have hL : laidMet Tryz.prog laidL W := hL0
  have hW' := hW
  obtain ⟨p, q, hA0, hV, rfl, _, _⟩ := hW
  have hA : DataW.TrodAll enc Tryz.prog W 0 (fun _ => true) true Tryz.f3.params.toList args.toList ds p := hA0
  rw [Tryz.params3] at hA hval
  obtain ⟨v0, v1, v2, v3, v4, d0, d1, d2, d3, d4, p0, p1, p2, p3, p4, rfl, rfl, rfl, h0, h1, h2, h3, h4⟩ := trodAll_five hA
  obtain ⟨rfl, rfl⟩ := trodVars_none hV
  clear hA0 hval0 hL0
  have hlt := hW'.lt
  obtain ⟨A0, c0, l0, rfl, hN0⟩ := open_nodes (hval 0 22 v0 rfl rfl) h0
  obtain ⟨s1, rfl, _, _, _⟩ := open_string Tryz.underlying9 (hval 1 9 v1 rfl rfl) h1
  obtain ⟨A2, c2, l2, rfl, hN2⟩ := open_nodes (hval 2 22 v2 rfl rfl) h2
  obtain ⟨b3, rfl, _, _⟩ := open_bool Tryz.underlying4 (hval 3 4 v3 rfl rfl) h3
  obtain ⟨b4, rfl, _, _⟩ := open_bool Tryz.underlying4 (hval 4 4 v4 rfl rfl) h4
  have hc := c3 (F := F) (w := W) (A := A0) (B := A2) (c := c0) (d := c2) s1.data.toList b3 b4 hF (tabs_of_laid hL) hN0 hN2
  rw [str_self] at hc
  refine hc.mono fun e W' ⟨he, hg⟩ => ?_
  subst he
  refine ⟨_, rfl, _, _, _, [], _, [], hW', trodAll_mk1 (shut_bool Tryz.underlying4 true), trodAll_mk5 (again read22.1 read22.2 h0 hg (fun x hx => hlt x (by simp [hx]))) (again read9.1 read9.2 h1 hg (fun x hx => hlt x (by simp [hx]))) (again read22.1 read22.2 h2 hg (fun x hx => hlt x (by simp [hx]))) (again read4.1 read4.2 h3 hg (fun x hx => hlt x (by simp [hx]))) (again read4.1 read4.2 h4 hg (fun x hx => hlt x (by simp [hx]))), rfl, (below_of hg).frame _, fun h => by cases h⟩

set_option maxRecDepth 1000000 in
set_option maxHeartbeats 400000000 in
theorem fnRuleIsRead_holds : Rows.FnRuleIsReadToldSaid :=
  Claim7.holds_of_told_tied_any_at .later 3 Tryz.f3 "fmt.Sprintf" [] [] _ _ _ _ _ (by as_aux_lemma => kernel_rfl) rfl rfl rfl Tryz.laidOut (by as_aux_lemma => kernel_rfl) rfl ⟨rfl, rfl, rfl, rfl, rfl, rfl, rfl⟩ rfl rfl (by as_aux_lemma => kernel_rfl) (by as_aux_lemma => kernel_rfl) Tryz.func3 (by as_aux_lemma => kernel_rfl)
    (of_decide_eq_true (by as_aux_lemma => kernel_rfl)) (of_decide_eq_true (by as_aux_lemma => kernel_rfl)) Tryz.stops.symm rfl Tryz.stopKnobs.symm (by as_aux_lemma => kernel_rfl)
    (by as_aux_lemma => kernel_rfl) (by as_aux_lemma => kernel_rfl) (by as_aux_lemma => kernel_rfl) (by as_aux_lemma => kernel_rfl) (by as_aux_lemma => kernel_rfl) (by as_aux_lemma => kernel_rfl) (by as_aux_lemma => kernel_rfl) (by as_aux_lemma => kernel_rfl) (by as_aux_lemma => kernel_rfl) rfl (by as_aux_lemma => kernel_rfl) rfl rfl
    rfl rfl
    rfl (by as_aux_lemma => kernel_rfl) (by as_aux_lemma => kernel_rfl) (by as_aux_lemma => kernel_rfl) (by decide) (by as_aux_lemma => kernel_rfl) fnRuleIsRead_row_tie
    (OpenClaim.moreEntering_of (by as_aux_lemma => kernel_rfl) (by as_aux_lemma => kernel_rfl) (by as_aux_lemma => kernel_rfl) (by as_aux_lemma => kernel_rfl) (by as_aux_lemma => kernel_rfl) (by as_aux_lemma => kernel_rfl) (by as_aux_lemma => kernel_rfl) (by as_aux_lemma => kernel_rfl) (by as_aux_lemma => kernel_rfl) (by as_aux_lemma => kernel_rfl))
    ⟨_, WideRow.started_initial, Tryz.quiet _⟩
    (fun os started _ H enc _ => fnRuleIsRead_lifted os started H enc) (hvl := ⟨(by as_aux_lemma => kernel_rfl), (by as_aux_lemma => kernel_rfl)⟩)

#print axioms fnRuleIsRead_holds
end Go.Proofs.YtkfdcbdlcipmfaaGreatFmt
