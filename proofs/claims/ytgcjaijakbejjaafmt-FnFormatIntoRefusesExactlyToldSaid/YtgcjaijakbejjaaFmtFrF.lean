/- Proved: the law n010_84.FnFormatIntoRefusesExactly returns true at every text, byte and argument list, and leaves its arguments as they were (the told and tied card). Conditions: the listed package-level variables (strconv.ErrSyntax, strconv.ErrRange and three tables) as the program's text lays them; fmt's texts by the form's own function. -/
import Derived.Test.YtgcjaijakbejjaaFmtCards
import Derived.Test.YtgcjaijakbejjaaFmtTie
import Derived.Test.YtgcjaijakbejjaaFmtHh
import Derived.Deep.DeepWitnessRef
import Derived.Deep.Strs
import Derived.ProofKit
import Derived.OpenShut
import Derived.LaidMore
import Derived.Lay
import Derived.SizedLaws
import Derived.Stop.LaidErr
import Derived.Stop.JoinedAt
import Derived.Stop.JoinedTold
import Derived.Stop.Joined
import Derived.MakeChecks
import Derived.SevenTiedAt
namespace Go.Proofs.YtgcjaijakbejjaaFmt
open Go.ChangeShapes Go.WideShapes Go.ChangeAt Go.RowKit Go.Kit Go.Lib Go.Shelf Go.Deep
open Go.ChangeMaps (open_string shut_string)
open Go.Extern.Stop Go.Stop Go.Extern
open Go.Proofs.YtgcjaijakbejjaaFmtW.PrintWords (Kd)

theorem fr_own : ownKnob Tryf.prog.godebug = none := by kernel_rfl
theorem fr_star : "*" ++ "errors.errorString" = "*errors.errorString" := by decide
theorem fr_row133 (u : TypeId) (h : Tryf.prog.typeName? 3 u = some "*errors.errorString") : u = 133 :=
  typeName_ptr_named (nm := "errors.errorString") (by rw [fr_star]; kernel_rfl) (by kernel_rfl) (by decide) u (by rw [fr_star]; exact h)

/-- What the law lists. -/
noncomputable def fxLaid : List (String × DataW Unit) := [("math/bits.deBruijn32tab", Rows.laid_math_bits_deBruijn32tab), ("math/bits.deBruijn64tab", Rows.laid_math_bits_deBruijn64tab), ("internal/strconv.uint64pow10", Rows.laid_internal_strconv_uint64pow10), ("strconv.ErrRange", Rows.laid_strconv_ErrRange), ("strconv.ErrSyntax", Rows.laid_strconv_ErrSyntax)]
theorem fx_evs {W : World} (h : laidMetH Tryf.prog fxLaid W) : Evs W := by
  rw [MakeChecks.laidMetH_plain _ _ _ (by kernel_rfl)] at h
  have h4 : laidMet Tryf.prog (("strconv.ErrRange", Rows.laid_strconv_ErrRange) :: [("strconv.ErrSyntax", Rows.laid_strconv_ErrSyntax)]) W := laidMet.tail (laidMet.tail (laidMet.tail h))
  have h3 : laidMet Tryf.prog (("strconv.ErrSyntax", Rows.laid_strconv_ErrSyntax) :: []) W := laidMet.tail h4
  obtain ⟨a4, t4, hv4, _⟩ := laid_sentinel (g := 4) h4 (by kernel_rfl) (by kernel_rfl) Tryf.underlying38 fr_row133 Tryf.underlying133 Tryf.underlying135 rfl rfl Tryf.underlying9 (by kernel_rfl) (by kernel_rfl)
  obtain ⟨a3, t3, hv3, _⟩ := laid_sentinel (g := 3) h3 (by kernel_rfl) (by kernel_rfl) Tryf.underlying38 fr_row133 Tryf.underlying133 Tryf.underlying135 rfl rfl Tryf.underlying9 (by kernel_rfl) (by kernel_rfl)
  have g4 : Tryf.prog.globalNamed "strconv.ErrRange" = some 4 := by kernel_rfl
  have g3 : Tryf.prog.globalNamed "strconv.ErrSyntax" = some 3 := by kernel_rfl
  have c4 : W.cell? ⟨4, 0, none⟩ = some (.iface 133 (.pointer (some a4))) := by
    have := World.var?_cell g4 hv4 0
    simpa using this
  have c3 : W.cell? ⟨3, 0, none⟩ = some (.iface 133 (.pointer (some a3))) := by
    have := World.var?_cell g3 hv3 0
    simpa using this
  have := World.block_lt_of_cell? _ _ c4
  exact ⟨this, ⟨_, _, c3⟩, ⟨_, _, c4⟩⟩

/-- The witness, at a start that lays all the listed variables. -/
theorem fr_witness {H : Type} {enc : TypeId × Value → H} {C : Checked} {os : Os} {f : FuncId} {fn : Func} {s : OpenSpec} {conds : List PathCond} {apart : Bool} {laid : List (String × DataW Unit)} (w0 : World) (args : Array Value) (hos : w0.os = os)
    (hv : (w0.forCall (fun _ _ => 0) ⟨#[], args, []⟩).Shaped C.prog)
    (hok : Input.okWideB C.prog (w0.forCall (fun _ _ => 0) ⟨#[], args, []⟩) f ⟨#[], args, []⟩ = true)
    (hrow : s.preRow enc C.prog fn conds apart laid (w0.forCall (fun _ _ => 0) ⟨#[], args, []⟩).memory args) (F : Stop.Interp) :
    ∃ (w : World) (tape : Tape) (i : Input), w.os = os ∧ (w.forCall tape i).Shaped C.prog ∧ i.vars = [] ∧ Input.okWide C.prog (w.forCall tape i) .any w.heap.size f i ∧
      s.preRow enc C.prog fn conds apart laid (w.forCall tape i).memory i.args ∧ ({} : Assume).holds C.prog (lone (Frame.enter C.prog f i.args .normal) [] (w.forCall tape i)) ∧ F.answers tape :=
  ⟨w0, F.over fun _ _ => 0, ⟨#[], args, []⟩, hos, hv, (Input.okWide_of_okWideB (base := 0) hok).1, (Input.okWide_of_okWideB hok).2, hrow, by
    simp only [Assume.holds]
    exact ⟨by simp, by simp, by simp, by simp, by simp⟩, F.over_answers _⟩
theorem fx_laid_met (os : Os) (args : Array Value) : laidMetH Tryf.prog fxLaid ((World.laidAll Tryf.prog os fxLaid).forCall (fun _ _ => 0) ⟨#[], args, []⟩).memory := by
  rw [MakeChecks.laidMetH_plain _ _ _ (by kernel_rfl)]
  exact laidMet_laidAll _ (by kernel_rfl) (by kernel_rfl)
theorem fx_shaped (os : Os) : ((World.laidAll Tryf.prog os fxLaid).forCall (fun _ _ => 0) ⟨#[], #[.string ⟨#[]⟩, .int .u8 0, .slice none 0 0], []⟩).Shaped Tryf.prog :=
  World.shaped_of_ZipB (by kernel_rfl) (by kernel_rfl)
theorem fr_laidOut : laidOutB Tryf.pinned.checked.prog = true := by kernel_rfl
theorem fr_stops : Tryf.pinned.checked.prog.stops = ["fmt.Sprintf, its operands' methods called", "fmt.errorf"] := by kernel_rfl
theorem fr_stopKnobs : Tryf.pinned.checked.prog.stopKnobs = [] := by kernel_rfl
theorem fr_quiet (os : Os) : Stop.quiet Tryf.pinned.checked.prog os := by
  intro k hk
  rw [fr_stopKnobs] at hk
  cases hk

theorem fr_witness_row7 (os : Os) {H : Type} (enc : TypeId × Value → H) :
    (OpenSpec.ofChange Rows.fnFormatIntoRefusesExactlySpec).preRow enc Tryf.prog Tryf.f7 Rows.fnFormatIntoRefusesExactlyRow.domain false Rows.fnFormatIntoRefusesExactlyRow.laid ((World.laidAll Tryf.prog os fxLaid).forCall (fun _ _ => 0) ⟨#[], #[.string ⟨#[]⟩, .int .u8 0, .slice none 0 0], []⟩).memory #[.string ⟨#[]⟩, .int .u8 0, .slice none 0 0] := by
  have hw : (DataW.whole enc Tryf.prog ((World.laidAll Tryf.prog os fxLaid).forCall (fun _ _ => 0) ⟨#[], #[.string ⟨#[]⟩, .int .u8 0, .slice none 0 0], []⟩).memory Tryf.f7.params.toList (OpenSpec.ofChange Rows.fnFormatIntoRefusesExactlySpec).vars false #[Value.string ⟨#[]⟩, Value.int .u8 0, Value.slice none 0 0].toList 8).map (fun x => (x.1, x.2.1)) =
      some ([.lit (.string []), .lit (.int .u8 0), .nil], []) := by kernel_rfl
  obtain ⟨⟨x1, x2, x3⟩, hx, hx1⟩ := Option.map_eq_some_iff.1 hw
  simp only [Prod.mk.injEq] at hx1
  obtain ⟨rfl, rfl⟩ := hx1
  exact OpenSpec.preRow_of_cond 8 hx (by kernel_rfl) (fun k hk => by cases hk) (by kernel_rfl) (fx_laid_met os _)

/-- The argument list, read as strings. -/
theorem args_read {W : World} {a : Addr} {n : Nat} {Sx : Nat → ByteArray} (hn : n ≤ maxLen) (h : ∀ i, i < n → W.cell? (a.add i) = some (.string (Sx i))) : ∃ l : List ByteArray, l.length = n ∧ Kd.C Kd.string W (some a) l.length l := by
  refine ⟨(List.range n).map Sx, by simp, ?_⟩
  refine Kd.C_of_reads (enc := Value.string) (d := ByteArray.empty) (h1 := fun _ => rfl) ⟨rfl, by simpa [maxLen] using hn, fun _ => ⟨a, rfl, fun j hj => ?_⟩⟩
  have hj' : j < n := by simpa using hj
  rw [h j hj']
  simp [List.getD_eq_getElem?_getD, hj']

set_option maxRecDepth 100000 in
set_option maxHeartbeats 4000000 in
theorem fr_lifted7 (os : Os) (started : os.Started) (H : Type) (enc : TypeId × Value → H) :
    ReturnsInTold none {} Tryf.checked os 7 .any Input.okWide ((OpenSpec.ofChange Rows.fnFormatIntoRefusesExactlySpec).preRow enc Tryf.prog Tryf.f7 Rows.fnFormatIntoRefusesExactlyRow.domain false Rows.fnFormatIntoRefusesExactlyRow.laid) (fun F => ((OpenSpec.ofChange Rows.fnFormatIntoRefusesExactlySpec).at F).post enc Tryf.prog Tryf.f7 false true false false) (aloneAtReturn Tryf.prog) nothingAlways := by
  refine returnsInTold_of_row (C := Tryf.checked) (s := OpenSpec.ofChange Rows.fnFormatIntoRefusesExactlySpec) (by kernel_rfl) fr_own started (by kernel_rfl) Tryf.func7
    (fr_witness (enc := enc) (C := Tryf.checked) (World.laidAll Tryf.prog os fxLaid) #[.string ⟨#[]⟩, .int .u8 0, .slice none 0 0] (World.laidAll_os _ _ _) (fx_shaped os) (by kernel_rfl) (fr_witness_row7 os enc)) ?_
  intro F W base args ds gs before _ hF hval0 hW hcnd0 _ hsz0 hL _
  clear hcnd0
  have hval : ∀ (j : Nat) t v, Tryf.f7.params[j]? = some t → args[j]? = some v → Value.okWide Tryf.prog W .any base t v := hval0
  have hsz : (DataW.weightsEach Tryf.prog (Tryf.f7.params.toList ++ (OpenSpec.ofChange Rows.fnFormatIntoRefusesExactlySpec).bare.plain.varTypes Tryf.prog) (ds ++ gs)).all (· ≤ reachBytes) = true := hsz0
  have hW' := hW
  obtain ⟨p, q, hA0, hV0, rfl, _, _⟩ := hW
  have hA : DataW.TrodAll enc Tryf.prog W 0 (fun _ => true) true Tryf.f7.params.toList args.toList ds p := hA0
  rw [Tryf.params7] at hA hval hsz
  obtain ⟨v0, vs0, d0, ds0, p0, q0, hargs, rfl, rfl, h0, r0⟩ := trodAll_cons hA
  obtain ⟨v1, vs1, d1, ds1, p1, q1, rfl, rfl, rfl, h1, r1⟩ := trodAll_cons r0
  obtain ⟨v2, vs2, d2, ds2, p2, q2, rfl, rfl, rfl, h2, r2⟩ := trodAll_cons r1
  obtain ⟨rfl, rfl, rfl⟩ := trodAll_nil r2
  obtain rfl : args = #[v0, v1, v2] := by cases args; simp_all
  obtain ⟨rfl, rfl⟩ := trodVars_none hV0
  obtain ⟨s, rfl, rfl, rfl, ws⟩ := open_string Tryf.underlying9 (hval 0 9 v0 rfl rfl) h0
  obtain ⟨x, rfl, rfl, rfl, wx⟩ := open_int Tryf.underlying5 (hval 1 5 v1 rfl rfl) h1
  obtain ⟨a2, len2, cap2, rfl⟩ := okWide_slice Tryf.underlying31 (hval 2 31 v2 rfl rfl)
  have k2 := h2
  have lt2 : ∀ y ∈ p2, y.block < W.heap.size := by
    obtain ⟨m, hm⟩ := k2
    exact DataW.trod_lt m _ _ _ hm
  have hr47 := reachBytes_lt
  have hls : s.data.toList.length ≤ reachBytes := sized_string hsz (j := 0) (t := 9) rfl rfl
  have hls' : s.size < 9223372036854775807 := by
    have e9 : s.data.toList.length = s.size := by simp
    omega
  have hx := FmtText.int_bounds64 wx
  have hL' : laidMetH Tryf.prog fxLaid W := hL
  have hE : Hid (Evs W) := Lib.hid (fx_evs hL')
  have hT : Hid (Tld W) := Lib.hid ⟨F, hF⟩
  have hxb : 0 ≤ x ∧ x < 256 := by
    have := FmtText.int_bounds wx
    simp [IntKind.min, IntKind.max, IntKind.signed, IntKind.bits] at this
    omega
  have fin : ∀ (e : Ending) (W' : World), LawRes W e W' → ∃ v, e = .returned v ∧ ((OpenSpec.ofChange Rows.fnFormatIntoRefusesExactlySpec).at F.told).post enc Tryf.prog Tryf.f7 false true false false W #[.string s, .int .u8 x, .slice a2 len2 cap2] v W' := by
    rintro e W' ⟨rfl, bel⟩
    exact ⟨_, rfl, _, _, _, [], _, [], hW', trodAll_mk1 (shut_bool Tryf.underlying4 _), trodAll_cons_mk (shut_string Tryf.underlying9 ws) (trodAll_cons_mk (shut_int Tryf.underlying5 wx) (trodAll_cons_mk (Below.trod fr_laidOut (by kernel_rfl) (of_decide_eq_true (by kernel_rfl)) k2 bel lt2) trodAll_mk0)), rfl, bel.frame _, fun h => by cases h⟩
  have hcalls : Calls Tryf.prog 7 #[.string s, .int .u8 x, .slice a2 len2 cap2] W (LawRes W) := by
    obtain ⟨fuel, hf⟩ := k2
    rcases open_strs Tryf.underlying31 Tryf.underlying9 (by kernel_rfl) hf with ⟨hcs, _⟩ | ⟨a, len, cap, m, Sx, hcs, _, hl, hm, hmm, hx2, hcell⟩
    · simp [Value.cells] at hcs
      obtain ⟨rfl, rfl, rfl⟩ := hcs
      exact law7_nil s x W hxb.1 hxb.2 hE hT hls'
    · simp [Value.cells] at hcs
      obtain ⟨rfl, rfl, rfl⟩ := hcs
      have hlm : len2 ≤ m := by rw [hmm]; split <;> omega
      obtain ⟨l, hll, hC⟩ := args_read (n := len2) (by omega) (fun i hi => (hcell i (by omega)).1)
      have hd : d2 = .slice ((List.range len2).map fun i => .lit (.string (Sx i).data.toList)) ((List.range (m - len2)).map fun j => .lit (.string (Sx (len2 + j)).data.toList)) := congrArg Prod.fst hx2
      have hw2 := sized_slice hsz (j := 2) (t := 31) (e := 9) rfl (by rw [hd]; rfl) Tryf.underlying31
      have hb9 : Tryf.prog.bytesOf 9 = 16 := by kernel_rfl
      rw [hb9] at hw2
      simp at hw2
      subst hll
      exact law7_args s x a cap2 l W hC hl hxb.1 hxb.2 hE hT hls' (by omega)
  exact hcalls.mono fun e W' h => fin e W' h

theorem format_holds : Rows.FnFormatIntoRefusesExactlyToldSaid :=
  Claim7.holds_of_told_tied_any_at .later 7 Tryf.f7 "fmt.Sprintf, its operands' methods called" ["fmt.errorf"] [] _ _ _ _ _ (by kernel_rfl) rfl rfl rfl fr_laidOut (by kernel_rfl) rfl ⟨rfl, rfl, rfl, rfl, rfl, rfl, rfl⟩ rfl rfl (by kernel_rfl) (by kernel_rfl) Tryf.func7 (by kernel_rfl)
    (of_decide_eq_true (by kernel_rfl)) (of_decide_eq_true (by kernel_rfl)) fr_stops.symm rfl fr_stopKnobs.symm (by kernel_rfl)
    (by kernel_rfl) (by kernel_rfl) (by kernel_rfl) (by kernel_rfl) (by kernel_rfl) (by kernel_rfl) (by kernel_rfl) (by kernel_rfl) (by kernel_rfl) rfl (by kernel_rfl) rfl rfl
    rfl rfl
    rfl (by kernel_rfl) (by kernel_rfl) (by kernel_rfl) (by decide) (by kernel_rfl) fnFormatIntoRefusesExactly_row_tie
    (OpenClaim.moreEntering_of (by kernel_rfl) (by kernel_rfl) (by kernel_rfl) (by kernel_rfl) (by kernel_rfl) (by kernel_rfl) (by kernel_rfl) (by kernel_rfl) (by kernel_rfl) (by kernel_rfl))
    ⟨_, WideRow.started_initial, fr_quiet _⟩
    (fun os started _ H enc _ => fr_lifted7 os started H enc)
#print axioms format_holds
end Go.Proofs.YtgcjaijakbejjaaFmt
