/- The token laws' frame: from the listed variables to what the walks ask of the world; the witness. Conditions: none. -/
import Derived.Test.YtgcjaijakbejjaaFmtCards
import Derived.Test.YtgcjaijakbejjaaFmtTie
import Derived.Test.YtgcjaijakbejjaaFmtGe
import Derived.Deep.DeepWitnessRef
import Derived.ProofKit
import Derived.OpenShut
import Derived.LaidMore
import Derived.Lay
import Derived.Lib.LaidU8
import Derived.Stop.LaidErr
import Derived.Stop.JoinedAt
import Derived.Stop.JoinedTold
import Derived.Stop.Joined
import Derived.MakeChecks
import Derived.SevenTiedAt
namespace Go.Proofs.YtgcjaijakbejjaaFmt
open Go.ChangeShapes Go.WideShapes Go.ChangeAt Go.RowKit Go.Kit Go.Lib Go.Shelf
open Go.ChangeMaps (open_string shut_string)
open Go.Extern.Stop Go.Stop Go.Extern

theorem fr_own : ownKnob Tryf.prog.godebug = none := by kernel_rfl
theorem fr_star : "*" ++ "errors.errorString" = "*errors.errorString" := by decide
theorem fr_row133 (u : TypeId) (h : Tryf.prog.typeName? 3 u = some "*errors.errorString") : u = 133 :=
  typeName_ptr_named (nm := "errors.errorString") (by rw [fr_star]; kernel_rfl) (by kernel_rfl) (by decide) u (by rw [fr_star]; exact h)

/-- What the four token laws list. -/
noncomputable def lexLaid : List (String × DataW Unit) := [("unicode/utf8.acceptRanges", Rows.laid_unicode_utf8_acceptRanges), ("io.EOF", Rows.laid_io_EOF), ("unicode/utf8.first", Rows.laid_unicode_utf8_first)]
theorem lex_first : Rows.laid_unicode_utf8_first = Lib.tabData .u8 Lib.firstTab := by kernel_rfl
theorem lex_accept : Rows.laid_unicode_utf8_acceptRanges = (.agg ((List.range 16).map fun i => .agg ([(Lib.accLo i : Int), (Lib.accHi i : Int)].map fun z => .lit (.int .u8 z))) : DataW Unit) := by kernel_rfl

theorem lex_tabs {W : World} (h : laidMet Tryf.prog lexLaid W) : Lib.Utf8Tabs 1 2 W := by
  refine ⟨fun c hc => ?_, fun i hi => ?_⟩
  · have h3 : VarReads Tryf.prog W "unicode/utf8.first" Rows.laid_unicode_utf8_first := Lib.laidMet.reads h (by simp [lexLaid])
    rw [lex_first] at h3
    obtain ⟨g, t, cs, fuel, p, hg, hty, hvar, hd⟩ := h3
    obtain rfl := Option.some.inj ((show Tryf.prog.globalNamed "unicode/utf8.first" = some 1 by kernel_rfl).symm.trans hg)
    obtain rfl := Option.some.inj ((show (Tryf.prog.globals[1]?).map (·.type) = some 117 by kernel_rfl).symm.trans hty)
    have hcs := cells_of_tab Tryf.underlying117 Tryf.underlying5 (by kernel_rfl) (by kernel_rfl) hd
    have := World.var?_cell hg hvar c
    rw [this, ← Array.getElem?_toList, hcs]
    simp [firstTab, hc]
  · have h4 : VarReads Tryf.prog W "unicode/utf8.acceptRanges" Rows.laid_unicode_utf8_acceptRanges := Lib.laidMet.reads h (by simp [lexLaid])
    rw [lex_accept] at h4
    obtain ⟨g, t, cs, fuel, p, hg, hty, hvar, hd⟩ := h4
    obtain rfl := Option.some.inj ((show Tryf.prog.globalNamed "unicode/utf8.acceptRanges" = some 2 by kernel_rfl).symm.trans hg)
    obtain rfl := Option.some.inj ((show (Tryf.prog.globals[2]?).map (·.type) = some 120 by kernel_rfl).symm.trans hty)
    have c119 : Tryf.prog.cellsOf 119 = 2 := by kernel_rfl
    have c5 : Tryf.prog.cellsOf 5 = 1 := by kernel_rfl
    obtain ⟨fuel', d, q, hdi, he⟩ := array_elem Tryf.underlying120 hd i hi
    simp only [List.getElem?_map, List.getElem?_range hi, Option.map_some, Option.some.injEq] at hdi
    subst hdi
    rw [c119] at he
    have hcs := ints_of_struct Tryf.underlying119 (fun j f hj => by
      match j, hj with
      | 0, hj => simp at hj; subst hj; exact ⟨Tryf.underlying5, rfl, c5⟩
      | 1, hj => simp at hj; subst hj; exact ⟨Tryf.underlying5, rfl, c5⟩
      | j + 2, hj => simp at hj) (by rw [c119]; rfl) he
    have e0 := congrArg (·[0]?) hcs
    have e1 := congrArg (·[1]?) hcs
    simp only [List.getElem?_take, List.getElem?_drop] at e0 e1
    constructor
    · rw [World.var?_cell hg hvar (2 * i), ← Array.getElem?_toList]
      simpa [Nat.mul_comm] using e0
    · rw [World.var?_cell hg hvar (2 * i + 1), ← Array.getElem?_toList]
      simpa [Nat.mul_comm] using e1

theorem lex_eof {W : World} (h : laidMet Tryf.prog lexLaid W) : ∃ ea, W.cell? ⟨0, 0, none⟩ = some (.iface 133 (.pointer (some ea))) := by
  have h' : laidMet Tryf.prog (("io.EOF", Rows.laid_io_EOF) :: [("unicode/utf8.first", Rows.laid_unicode_utf8_first)]) W := laidMet.tail h
  obtain ⟨a, t, hv, _⟩ := laid_sentinel (g := 0) h' (by kernel_rfl) (by kernel_rfl) Tryf.underlying38 fr_row133 Tryf.underlying133 Tryf.underlying135 rfl rfl Tryf.underlying9 (by kernel_rfl) (by kernel_rfl)
  refine ⟨a, ?_⟩
  have hg : Tryf.prog.globalNamed "io.EOF" = some 0 := by kernel_rfl
  have := World.var?_cell hg hv 0
  simpa using this

theorem lex_beg {W : World} (h : laidMetH Tryf.prog lexLaid W) : ∃ ea, Beg W ea := by
  rw [MakeChecks.laidMetH_plain _ _ _ (by kernel_rfl)] at h
  have hT := lex_tabs h
  obtain ⟨ea, he⟩ := lex_eof h
  refine ⟨ea, ?_, hT, he⟩
  have := (hT.2 0 (by omega)).1
  exact block_lt_of_cell this

/-- The witness, at a start that lays all the listed variables. -/
theorem fr_witness {H : Type} {enc : TypeId × Value → H} {C : Checked} {os : Os} {f : FuncId} {fn : Func} {s : OpenSpec} {conds : List PathCond} {apart : Bool} {laid : List (String × DataW Unit)} (w0 : World) (args : Array Value) (hos : w0.os = os)
    (hv : (w0.forCall (fun _ _ => 0) ⟨#[], args, []⟩).Shaped C.prog)
    (hok : Input.okWideB C.prog (w0.forCall (fun _ _ => 0) ⟨#[], args, []⟩) f ⟨#[], args, []⟩ = true)
    (hrow : s.preRow enc C.prog fn conds apart laid (w0.forCall (fun _ _ => 0) ⟨#[], args, []⟩).memory args) (F : Stop.Interp) :
    ∃ (w : World) (tape : Tape) (i : Input), w.os = os ∧ (w.forCall tape i).Shaped C.prog ∧ i.vars = [] ∧ Input.okWide C.prog (w.forCall tape i) .any w.heap.size f i ∧
      s.preRow enc C.prog fn conds apart laid (w.forCall tape i).memory i.args ∧ ({} : Assume).holds C.prog (lone (Frame.enter C.prog f i.args .normal) [] (w.forCall tape i)) ∧ F.answers tape :=
  ⟨w0, F.over fun _ _ => 0, ⟨#[], args, []⟩, hos, hv, (Input.okWide_of_okWideB (base := 0) hok).1, (Input.okWide_of_okWideB hok).2, hrow, by
    simp only [Assume.holds]
    exact ⟨by simp, by simp, by simp, by simp, by simp⟩, F.over_answers _⟩
theorem lex_laid_met (os : Os) (args : Array Value) : laidMetH Tryf.prog lexLaid ((World.laidAll Tryf.prog os lexLaid).forCall (fun _ _ => 0) ⟨#[], args, []⟩).memory := by
  rw [MakeChecks.laidMetH_plain _ _ _ (by kernel_rfl)]
  exact laidMet_laidAll _ (by kernel_rfl) (by kernel_rfl)
theorem lex_shaped (os : Os) : ((World.laidAll Tryf.prog os lexLaid).forCall (fun _ _ => 0) ⟨#[], #[.int .i64 0, .string ⟨#[]⟩], []⟩).Shaped Tryf.prog :=
  World.shaped_of_ZipB (by kernel_rfl) (by kernel_rfl)
theorem fr_laidOut : laidOutB Tryf.pinned.checked.prog = true := by kernel_rfl
theorem fr_stops : Tryf.pinned.checked.prog.stops = ["fmt.Sprintf, its operands' methods called", "fmt.errorf"] := by kernel_rfl
theorem fr_stopKnobs : Tryf.pinned.checked.prog.stopKnobs = [] := by kernel_rfl
theorem fr_quiet (os : Os) : Stop.quiet Tryf.pinned.checked.prog os := by
  intro k hk
  rw [fr_stopKnobs] at hk
  cases hk
end Go.Proofs.YtgcjaijakbejjaaFmt
