/- Proved: the law n010_119.FnDqTokenLongestMatch returns true at every dialect index and every string, and leaves its arguments as they were (the told and tied card). Conditions: the listed package-level variables (io.EOF, utf8.first, utf8.acceptRanges) as the program's text lays them; fmt's texts by the form's own function. -/
import Derived.Test.YtgcjaijakbejjaaFmtFrA
import Derived.Test.YtgcjaijakbejjaaFmtLwC
namespace Go.Proofs.YtgcjaijakbejjaaFmt
open Go.ChangeShapes Go.WideShapes Go.ChangeAt Go.RowKit Go.Kit Go.Lib Go.Shelf
open Go.ChangeMaps (open_string shut_string)
open Go.Extern.Stop Go.Stop Go.Extern

theorem fr_witness_row4 (os : Os) {H : Type} (enc : TypeId × Value → H) :
    (OpenSpec.ofChange Rows.fnDqTokenLongestMatchSpec).preRow enc Tryf.prog Tryf.f4 Rows.fnDqTokenLongestMatchRow.domain false Rows.fnDqTokenLongestMatchRow.laid ((World.laidAll Tryf.prog os lexLaid).forCall (fun _ _ => 0) ⟨#[], #[.int .i64 0, .string ⟨#[]⟩], []⟩).memory #[.int .i64 0, .string ⟨#[]⟩] := by
  have hw : (DataW.whole enc Tryf.prog ((World.laidAll Tryf.prog os lexLaid).forCall (fun _ _ => 0) ⟨#[], #[.int .i64 0, .string ⟨#[]⟩], []⟩).memory Tryf.f4.params.toList (OpenSpec.ofChange Rows.fnDqTokenLongestMatchSpec).vars false #[Value.int .i64 0, Value.string ⟨#[]⟩].toList 8).map (fun x => (x.1, x.2.1)) =
      some ([.lit (.int .i64 0), .lit (.string [])], []) := by kernel_rfl
  obtain ⟨⟨x1, x2, x3⟩, hx, hx1⟩ := Option.map_eq_some_iff.1 hw
  simp only [Prod.mk.injEq] at hx1
  obtain ⟨rfl, rfl⟩ := hx1
  exact OpenSpec.preRow_of_cond 8 hx (by kernel_rfl) (fun k hk => by cases hk) (by kernel_rfl) (lex_laid_met os _)

set_option maxRecDepth 100000 in
set_option maxHeartbeats 4000000 in
theorem fr_lifted4 (os : Os) (started : os.Started) (H : Type) (enc : TypeId × Value → H) :
    ReturnsInTold none {} Tryf.checked os 4 .any Input.okWide ((OpenSpec.ofChange Rows.fnDqTokenLongestMatchSpec).preRow enc Tryf.prog Tryf.f4 Rows.fnDqTokenLongestMatchRow.domain false Rows.fnDqTokenLongestMatchRow.laid) (fun F => ((OpenSpec.ofChange Rows.fnDqTokenLongestMatchSpec).at F).post enc Tryf.prog Tryf.f4 false true false false) (aloneAtReturn Tryf.prog) nothingAlways := by
  refine returnsInTold_of_row (C := Tryf.checked) (s := OpenSpec.ofChange Rows.fnDqTokenLongestMatchSpec) (by kernel_rfl) fr_own started (by kernel_rfl) Tryf.func4
    (fr_witness (enc := enc) (C := Tryf.checked) (World.laidAll Tryf.prog os lexLaid) #[.int .i64 0, .string ⟨#[]⟩] (World.laidAll_os _ _ _) (lex_shaped os) (by kernel_rfl) (fr_witness_row4 os enc)) ?_
  intro F W base args ds gs before _ hF hval0 hW hcnd0 _ _ hL _
  clear hcnd0
  have hval : ∀ (j : Nat) t v, Tryf.f4.params[j]? = some t → args[j]? = some v → Value.okWide Tryf.prog W .any base t v := hval0
  have hW' := hW
  obtain ⟨p, q, hA0, hV0, rfl, _, _⟩ := hW
  have hA : DataW.TrodAll enc Tryf.prog W 0 (fun _ => true) true Tryf.f4.params.toList args.toList ds p := hA0
  rw [Tryf.params4] at hA hval
  obtain ⟨v0, v1, d0, d1, p0, p1, rfl, rfl, rfl, h0, h1⟩ := trodAll_two hA
  obtain ⟨rfl, rfl⟩ := trodVars_none hV0
  obtain ⟨i, rfl, rfl, rfl, wi⟩ := open_int Tryf.underlying3 (hval 0 3 v0 rfl rfl) h0
  obtain ⟨s, rfl, rfl, rfl, ws⟩ := open_string Tryf.underlying9 (hval 1 9 v1 rfl rfl) h1
  clear hA0 hV0 hval0
  have hL' : laidMetH Tryf.prog lexLaid W := hL
  obtain ⟨ea, hB⟩ := lex_beg hL'
  refine (law4_any (Lib.hid hB)).mono ?_
  rintro e W' ⟨rfl, bel⟩
  refine ⟨_, rfl, _, _, _, [], [], [], hW', ?_, ?_, ?_, bel.frame _, fun h => by cases h⟩
  · exact trodAll_mk1 (shut_bool Tryf.underlying4 _)
  · exact trodAll_mk2 (shut_int Tryf.underlying3 wi) (shut_string Tryf.underlying9 ws)
  · rfl

theorem dq_holds : Rows.FnDqTokenLongestMatchToldSaid :=
  Claim7.holds_of_told_tied_any_at .later 4 Tryf.f4 "fmt.Sprintf, its operands' methods called" ["fmt.errorf"] [] _ _ _ _ _ (by kernel_rfl) rfl rfl rfl fr_laidOut (by kernel_rfl) rfl ⟨rfl, rfl, rfl, rfl, rfl, rfl, rfl⟩ rfl rfl (by kernel_rfl) (by kernel_rfl) Tryf.func4 (by kernel_rfl)
    (of_decide_eq_true (by kernel_rfl)) (of_decide_eq_true (by kernel_rfl)) fr_stops.symm rfl fr_stopKnobs.symm (by kernel_rfl)
    (by kernel_rfl) (by kernel_rfl) (by kernel_rfl) (by kernel_rfl) (by kernel_rfl) (by kernel_rfl) (by kernel_rfl) (by kernel_rfl) (by kernel_rfl) rfl (by kernel_rfl) rfl rfl
    rfl rfl
    rfl (by kernel_rfl) (by kernel_rfl) (by kernel_rfl) (by decide) (by kernel_rfl) fnDqTokenLongestMatch_row_tie
    (OpenClaim.moreEntering_of (by kernel_rfl) (by kernel_rfl) (by kernel_rfl) (by kernel_rfl) (by kernel_rfl) (by kernel_rfl) (by kernel_rfl) (by kernel_rfl) (by kernel_rfl) (by kernel_rfl))
    ⟨_, WideRow.started_initial, fr_quiet _⟩
    (fun os started _ H enc _ => fr_lifted4 os started H enc)
#print axioms dq_holds
end Go.Proofs.YtgcjaijakbejjaaFmt
