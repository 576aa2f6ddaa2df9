/-
  THE ROW, LIFTED: what the told card's builder asks.
-/
import Derived.Test.YtmfbgoikekmdkaaGreatFmtWit
namespace Go.Proofs.YtmfbgoikekmdkaaGreatFmt
open Go.ChangeShapes Go.WideShapes Go.ChangeAt Go.RowKit Go.Lib Go.Shelf
open Go.ChangeMaps (open_string shut_string)
open Go.Extern.Stop Go.Stop Go.Extern

/-- The arguments of the start that is shown. -/
abbrev args0 : Array Value := #[.string ⟨#[]⟩, .bool false, .bool false, .bool false]

set_option maxRecDepth 1000000 in
theorem wit_row (os : Os) {H : Type} (enc : TypeId × Value → H) :
    (OpenSpec.ofChange Rows.fnQuotedSpec).preRow enc Tryz.prog Tryz.f3 Rows.fnQuotedRow.domain Rows.fnQuotedRow.apart Rows.fnQuotedRow.laid ((World.laidAll Tryz.prog os Rows.fnQuotedRow.laid).forCall (fun _ _ => 0) ⟨#[], args0, []⟩).memory args0 := by
  have hw : (DataW.whole enc Tryz.prog ((World.laidAll Tryz.prog os Rows.fnQuotedRow.laid).forCall (fun _ _ => 0) ⟨#[], args0, []⟩).memory Tryz.f3.params.toList (OpenSpec.ofChange Rows.fnQuotedSpec).vars false args0.toList 8).map (fun x => (x.1, x.2.1)) =
      some ([.lit (.string []), .lit (.bool false), .lit (.bool false), .lit (.bool false)], []) := by kernel_rfl
  obtain ⟨⟨x1, x2, x3⟩, hx, hx1⟩ := Option.map_eq_some_iff.1 hw
  simp only [Prod.mk.injEq] at hx1
  obtain ⟨rfl, rfl⟩ := hx1
  exact OpenSpec.preRow_of_cond 8 hx (by kernel_rfl) (fun k hk => by cases hk) (by kernel_rfl) (laid_met os _)

set_option maxRecDepth 1000000 in
theorem wit_ok (os : Os) : Input.okWideB Tryz.prog ((World.laidAll Tryz.prog os Rows.fnQuotedRow.laid).forCall (fun _ _ => 0) ⟨#[], args0, []⟩) 3 ⟨#[], args0, []⟩ = true := by kernel_rfl

theorem wit_of {H : Type} {enc : TypeId × Value → H} {C : Checked} {os : Os} {f : FuncId} {fn : Func} {s : OpenSpec} {conds : List PathCond} {apart : Bool} {laid : List (String × DataW Unit)} (w0 : World) (args : Array Value) (hos : w0.os = os)
    (hsh : (w0.forCall (fun _ _ => 0) ⟨#[], args, []⟩).Shaped C.prog) (hok : Input.okWideB C.prog (w0.forCall (fun _ _ => 0) ⟨#[], args, []⟩) f ⟨#[], args, []⟩ = true)
    (hrow : s.preRow enc C.prog fn conds apart laid (w0.forCall (fun _ _ => 0) ⟨#[], args, []⟩).memory args) (F : Stop.Interp) :
    ∃ (w : World) (tape : Tape) (i : Input), w.os = os ∧ (w.forCall tape i).Shaped C.prog ∧ i.vars = [] ∧ Input.okWide C.prog (w.forCall tape i) .any w.heap.size f i ∧
      s.preRow enc C.prog fn conds apart laid (w.forCall tape i).memory i.args ∧ ({} : Assume).holds C.prog (lone (Frame.enter C.prog f i.args .normal) [] (w.forCall tape i)) ∧ F.answers tape :=
  ⟨w0, F.over fun _ _ => 0, ⟨#[], args, []⟩, hos, hsh, (Input.okWide_of_okWideB (base := 0) hok).1, (Input.okWide_of_okWideB hok).2, hrow, by
    simp only [Assume.holds]
    exact ⟨by simp, by simp, fun _ => F.over_modest Modest.zero, by simp, by simp⟩, F.over_answers _⟩

set_option maxRecDepth 100000 in
theorem lifted (os : Os) (started : os.Started) (H : Type) (enc : TypeId × Value → H) :
    ReturnsInTold none {} Tryz.checked os 3 .any Input.okWide ((OpenSpec.ofChange Rows.fnQuotedSpec).preRow enc Tryz.prog Tryz.f3 Rows.fnQuotedRow.domain Rows.fnQuotedRow.apart Rows.fnQuotedRow.laid)
      (fun F => ((OpenSpec.ofChange Rows.fnQuotedSpec).at F).post enc Tryz.prog Tryz.f3 Rows.fnQuotedRow.apart Rows.fnQuotedRow.fresh Rows.fnQuotedRow.handsOn Rows.fnQuotedRow.again) (aloneAtReturn Tryz.prog) nothingAlways := by
  refine returnsInTold_of_row (C := Tryz.checked) (s := OpenSpec.ofChange Rows.fnQuotedSpec) (by kernel_rfl) own started (by kernel_rfl) Tryz.func3 (wit_of (C := Tryz.checked) (World.laidAll Tryz.prog os Rows.fnQuotedRow.laid) args0 (World.laidAll_os _ _ _) (shaped os) (wit_ok os) (wit_row os enc)) ?_
  intro F W base args ds gs before _ hF hval0 hW _ _ _ hL _
  have hval : ∀ (j : Nat) t v, Tryz.f3.params[j]? = some t → args[j]? = some v → Value.okWide Tryz.prog W .any base t v := hval0
  have hW' := hW
  obtain ⟨p, q, hA0, hV0, rfl, _, _⟩ := hW
  have hA : DataW.TrodAll enc Tryz.prog W 0 (fun _ => true) true Tryz.f3.params.toList args.toList ds p := hA0
  rw [Tryz.params3] at hA hval
  obtain ⟨v0, v1, v2, v3, d0, d1, d2, d3, p0, p1, p2, p3, rfl, rfl, rfl, h0, h1, h2, h3⟩ := trodAll_four hA
  obtain ⟨rfl, rfl⟩ := trodVars_none hV0
  obtain ⟨s, rfl, rfl, rfl, ws⟩ := open_string Tryz.underlying9 (hval 0 9 v0 rfl rfl) h0
  obtain ⟨b1, rfl, rfl, rfl⟩ := open_bool Tryz.underlying4 (hval 1 4 v1 rfl rfl) h1
  obtain ⟨b2, rfl, rfl, rfl⟩ := open_bool Tryz.underlying4 (hval 2 4 v2 rfl rfl) h2
  obtain ⟨b3, rfl, rfl, rfl⟩ := open_bool Tryz.underlying4 (hval 3 4 v3 rfl rfl) h3
  have hL' : laidMet Tryz.prog Rows.fnQuotedRow.laid W := hL
  refine (fnQuoted_any s b1 b2 b3 W (tabs_of_laid hL')).mono ?_
  rintro e W' ⟨rfl, bel⟩
  have e1 : ((OpenSpec.ofChange Rows.fnQuotedSpec).at F.told).fn H ([.lit (.string s.data.toList), .lit (.bool b1), .lit (.bool b2), .lit (.bool b3)] ++ []) = { results := [.lit (.bool true)], args := [.lit (.string s.data.toList), .lit (.bool b1), .lit (.bool b2), .lit (.bool b3)] } := rfl
  refine ⟨_, rfl, _, _, _, [], [], [], hW', ?_, ?_, ?_, bel.frame _, fun h => by cases h⟩
  · rw [e1]; exact trodAll_mk1 (shut_bool Tryz.underlying4 _)
  · rw [e1]; exact trodAll_mk4 (shut_string Tryz.underlying9 ws) (shut_bool Tryz.underlying4 _) (shut_bool Tryz.underlying4 _) (shut_bool Tryz.underlying4 _)
  · rw [e1]; rfl
end Go.Proofs.YtmfbgoikekmdkaaGreatFmt
