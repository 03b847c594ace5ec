/- Proved: contracts of fmt.Errorf and fmt.Sprintf at the calls of formatInto. Conditions: as each theorem says. -/
import Derived.Test.YtgcjaijakbejjaaFmtHc
import Derived.Stop.CallBack
import Derived.Stop.IfaceNil
import Derived.Stop.FmtTextBases
import Derived.Stop.FmtTextVerbs
import Derived.Stop.Told
import Derived.Stop.Texts
/- Proved: what formatInto's two calls of fmt.Errorf answer: an error that is not nil, one new block. Conditions: none but the variadic slice's cell. -/
namespace Go.Proofs.YtgcjaijakbejjaaFmt
open Go.RowKit Go.Extern.Stop Go.Stop Go.Extern

theorem call75 (args : Array Value) (w : World) : (callFunc 75 args).run Tryf.prog w = ((FmtStop.errorf #[9, 113] #[38] args).run Tryf.prog w).andThen fun v w' => .ok (.value v) w' :=
  run_callFunc_extern Tryf.func75 (by kernel_rfl) (by kernel_rfl) (by kernel_rfl) (by kernel_rfl) args w
theorem ef_miss (w : World) : (callFunc 75 #[.string ⟨#[109, 105, 115, 115, 105, 110, 103, 32, 102, 111, 114, 109, 97, 116, 32, 99, 104, 97, 114]⟩, .slice none 0 0]).run Tryf.prog w = .ok (.value .nilIface) w := by
  rw [call75]
  kernel_rfl

set_option maxHeartbeats 1000000 in
theorem errorf_miss (w : World) : Calls Tryf.prog 56 #[.string ⟨#[109, 105, 115, 115, 105, 110, 103, 32, 102, 111, 114, 109, 97, 116, 32, 99, 104, 97, 114]⟩, .slice none 0 0] w fun e w' =>
    e = .returned (.iface 133 (.pointer (some ⟨w.heap.size, 0, none⟩))) ∧ w' = w.alloc (.cells #[.string ⟨#[109, 105, 115, 115, 105, 110, 103, 32, 102, 111, 114, 109, 97, 116, 32, 99, 104, 97, 114]⟩] 135) := by
  have h := ef_miss
  go_enter Tryf.func56, Tryf.ntmps56
  go_wp2
  go_ret
  exact ⟨rfl, rfl⟩
theorem fguard (name : String) (w : World) : (FmtStop.guard name).run Tryf.prog w = .ok () w := by kernel_rfl
theorem fmtInv (w : World) : (FmtDoors.printed ⟨#[105, 110, 118, 97, 108, 105, 100, 32, 102, 111, 114, 109, 97, 116, 32, 99, 104, 97, 114, 58, 32, 37, 99]⟩ 1).run Tryf.prog w = .ok [(0, 99, false)] w := by kernel_rfl
theorem op5_99 (x : Int) (w : World) : (FmtStop.operand "fmt.errorf" true 99 false (.iface 5 (.int .u8 x))).run Tryf.prog w = .ok ([6, 5, 0, 0, 0, 0, 0, 0, 0, 117, 105, 110, 116, 56], Go.Extern.Stop.digits 8 (x % 2 ^ 64).toNat) w := by kernel_rfl
theorem ptrES (w : World) : (FmtStop.ptrTo "errors.errorString").run Tryf.prog w = .ok 133 w := by kernel_rfl
theorem elemES (w : World) : (elemOf 133).run Tryf.prog w = .ok 135 w := by kernel_rfl

set_option maxHeartbeats 1000000 in
theorem errorf_inv (w : World) (g : Nat) (c : Int) (hc : w.cell? ⟨g, 0, none⟩ = some (.iface 5 (.int .u8 c))) : Calls Tryf.prog 56 #[.string ⟨#[105, 110, 118, 97, 108, 105, 100, 32, 102, 111, 114, 109, 97, 116, 32, 99, 104, 97, 114, 58, 32, 37, 99]⟩, .slice (some ⟨g, 0, none⟩) 1 1] w fun e w' =>
    ∃ t, e = .returned (.iface 133 (.pointer (some ⟨w.heap.size, 0, none⟩))) ∧ w' = (w.alloc (.cells #[.string t] 135)).drew := by
  have h1 := fguard
  have h2 := fmtInv
  have h3 := op5_99
  have h4 := ptrES
  have h5 := elemES
  have h6 := call75
  go_enter Tryf.func56, Tryf.ntmps56
  go_wp2
  go_ret
  exact ⟨_, rfl, rfl⟩
end Go.Proofs.YtgcjaijakbejjaaFmt

/- Proved: what fmt.Sprintf (function 59) answers at one operand. Conditions: the operand's cell. -/
namespace Go.Proofs.YtgcjaijakbejjaaFmt
open Go.RowKit Go.Extern.Stop Go.Stop Go.Extern

theorem call59 (args : Array Value) (w : World) : (callFunc 59 args).run Tryf.prog w = (FmtCalls.sprintf #[9, 113] #[9] args).run Tryf.prog w :=
  run_callFunc_next Tryf.func59 (by kernel_rfl) (by kernel_rfl) (by kernel_rfl) args w
theorem nextTurns : Extern.next FmtCalls.turnsRow = some (FmtCalls.begun #[] #[]) := by kernel_rfl
theorem sp_s (g : Nat) (w : World) : (callFunc 59 #[.string ⟨#[37, 115]⟩, .slice (some ⟨g, 0, none⟩) 1 1]).run Tryf.prog w = .ok (.row FmtCalls.turnsRow (FmtCalls.save 0 0 (.slice (some ⟨g, 0, none⟩) 1 1) ⟨#[37, 115]⟩ [] [(0, 115, false)])) w := by
  rw [call59]
  kernel_rfl
theorem sp_d (g : Nat) (w : World) : (callFunc 59 #[.string ⟨#[37, 100]⟩, .slice (some ⟨g, 0, none⟩) 1 1]).run Tryf.prog w = .ok (.row FmtCalls.turnsRow (FmtCalls.save 0 0 (.slice (some ⟨g, 0, none⟩) 1 1) ⟨#[37, 100]⟩ [] [(0, 100, false)])) w := by
  rw [call59]
  kernel_rfl
theorem sp_o (g : Nat) (w : World) : (callFunc 59 #[.string ⟨#[37, 111]⟩, .slice (some ⟨g, 0, none⟩) 1 1]).run Tryf.prog w = .ok (.row FmtCalls.turnsRow (FmtCalls.save 0 0 (.slice (some ⟨g, 0, none⟩) 1 1) ⟨#[37, 111]⟩ [] [(0, 111, false)])) w := by
  rw [call59]
  kernel_rfl
theorem sp_x (g : Nat) (w : World) : (callFunc 59 #[.string ⟨#[37, 120]⟩, .slice (some ⟨g, 0, none⟩) 1 1]).run Tryf.prog w = .ok (.row FmtCalls.turnsRow (FmtCalls.save 0 0 (.slice (some ⟨g, 0, none⟩) 1 1) ⟨#[37, 120]⟩ [] [(0, 120, false)])) w := by
  rw [call59]
  kernel_rfl
def shape9 : List UInt8 := [12, 6, 0, 0, 0, 0, 0, 0, 0, 115, 116, 114, 105, 110, 103]
@[go_sem] theorem op9_115 (s : ByteArray) (w : World) : (FmtStop.operand "fmt.Sprintf" false 115 false (.iface 9 (.string s))).run Tryf.prog w = .ok (shape9, FmtStop.pack s.data.toList) w := by kernel_rfl
@[go_sem] theorem act9_115 (name : String) (x : Value) (w : World) : (FmtCalls.act name false 115 false (.iface 9 x)).run Tryf.prog w = .ok (.closed false) w := by kernel_rfl
theorem rows_s (g : Nat) (t : ByteArray) (W : World) (hc : W.cell? ⟨g, 0, none⟩ = some (.iface 9 (.string t))) (R : Value → World → Prop)
    (h : R (.string (FmtStop.textOf (W.tape W.drawn (.extern (word "fmt.Sprintf" [[37, 115], shape9, FmtStop.pack t.data.toList] 0) 0)))) W.drew) :
    Rows Tryf.prog FmtCalls.turnsRow (FmtCalls.save 0 0 (.slice (some ⟨g, 0, none⟩) 1 1) ⟨#[37, 115]⟩ [] [(0, 115, false)]) W R := by
  refine rows_value nextTurns (v := .string (FmtStop.textOf (W.tape W.drawn (.extern (word "fmt.Sprintf" [[37, 115], shape9, FmtStop.pack t.data.toList] 0) 0)))) (w' := W.drew) ?_ h
  go_simp
end Go.Proofs.YtgcjaijakbejjaaFmt

/- Proved: fmt.Sprintf (function 59) at "%s" of a string, "%d" of an int, "%d" "%o" "%x" of a uint answers with a text that is at most 70 bytes longer than the string. Conditions: the operand's cell; fmt's texts as told. -/
namespace Go.Proofs.YtgcjaijakbejjaaFmt
open Go.RowKit Go.Extern.Stop Go.Stop Go.Extern Go.Kit

def shape3 : List UInt8 := [5, 3, 0, 0, 0, 0, 0, 0, 0, 105, 110, 116]
def shape50 : List UInt8 := [9, 4, 0, 0, 0, 0, 0, 0, 0, 117, 105, 110, 116]
@[go_sem] theorem op3_100 (x : Int) (w : World) : (FmtStop.operand "fmt.Sprintf" false 100 false (.iface 3 (.int .i64 x))).run Tryf.prog w = .ok (shape3, Go.Extern.Stop.digits 8 (x % 2 ^ 64).toNat) w := by kernel_rfl
@[go_sem] theorem op50_100 (x : Int) (w : World) : (FmtStop.operand "fmt.Sprintf" false 100 false (.iface 50 (.int .u64 x))).run Tryf.prog w = .ok (shape50, Go.Extern.Stop.digits 8 (x % 2 ^ 64).toNat) w := by kernel_rfl
@[go_sem] theorem op50_111 (x : Int) (w : World) : (FmtStop.operand "fmt.Sprintf" false 111 false (.iface 50 (.int .u64 x))).run Tryf.prog w = .ok (shape50, Go.Extern.Stop.digits 8 (x % 2 ^ 64).toNat) w := by kernel_rfl
@[go_sem] theorem op50_120 (x : Int) (w : World) : (FmtStop.operand "fmt.Sprintf" false 120 false (.iface 50 (.int .u64 x))).run Tryf.prog w = .ok (shape50, Go.Extern.Stop.digits 8 (x % 2 ^ 64).toNat) w := by kernel_rfl
@[go_sem] theorem act3_100 (name : String) (x : Value) (w : World) : (FmtCalls.act name false 100 false (.iface 3 x)).run Tryf.prog w = .ok (.closed false) w := by kernel_rfl
@[go_sem] theorem act50_100 (name : String) (x : Value) (w : World) : (FmtCalls.act name false 100 false (.iface 50 x)).run Tryf.prog w = .ok (.closed false) w := by kernel_rfl
@[go_sem] theorem act50_111 (name : String) (x : Value) (w : World) : (FmtCalls.act name false 111 false (.iface 50 x)).run Tryf.prog w = .ok (.closed false) w := by kernel_rfl
@[go_sem] theorem act50_120 (name : String) (x : Value) (w : World) : (FmtCalls.act name false 120 false (.iface 50 x)).run Tryf.prog w = .ok (.closed false) w := by kernel_rfl

theorem ps_s : (FmtText.parse [37, 115]).map FmtText.glue = some [.verb {} 115] := by rfl
theorem ps_d : (FmtText.parse [37, 100]).map FmtText.glue = some [.verb {} 100] := by rfl
theorem ps_o : (FmtText.parse [37, 111]).map FmtText.glue = some [.verb {} 111] := by rfl
theorem ps_x : (FmtText.parse [37, 120]).map FmtText.glue = some [.verb {} 120] := by rfl
theorem tx_s (t : List UInt8) (h : t.length < 2 ^ 64) : FmtText.text "fmt.Sprintf" [[37, 115], shape9, FmtStop.pack t] = some t := by
  have hn := FmtText.operand_str_at (sh := shape9) rfl rfl t h
  rw [FmtText.text_sprintf_glued ps_s (FmtText.operands_cons hn FmtText.operands_nil)]
  simp [FmtText.render, FmtText.printArg_s_str]
theorem tx_d3 (x : Int) (h : (Lit.int .i64 x).wf = true) : FmtText.text "fmt.Sprintf" [[37, 100], shape3, Go.Extern.Stop.digits 8 (x % 18446744073709551616).toNat] = some (Lib.itoa x) := by
  have hn := FmtText.operand_int_at (sh := shape3) (k := .i64) rfl rfl x h
  rw [FmtText.text_sprintf_glued ps_d (FmtText.operands_cons hn FmtText.operands_nil)]
  simp [FmtText.render, FmtText.printArg_d _ _ h]
theorem tx_d50 (x : Int) (h : (Lit.int .u64 x).wf = true) : FmtText.text "fmt.Sprintf" [[37, 100], shape50, Go.Extern.Stop.digits 8 (x % 18446744073709551616).toNat] = some (Lib.itoa x) := by
  have hn := FmtText.operand_int_at (sh := shape50) (k := .u64) rfl rfl x h
  rw [FmtText.text_sprintf_glued ps_d (FmtText.operands_cons hn FmtText.operands_nil)]
  simp [FmtText.render, FmtText.printArg_d _ _ h]
theorem tx_o50 (x : Int) (h : (Lit.int .u64 x).wf = true) : FmtText.text "fmt.Sprintf" [[37, 111], shape50, Go.Extern.Stop.digits 8 (x % 18446744073709551616).toNat] = some (FmtText.inBase 8 false x) := by
  have hn := FmtText.operand_int_at (sh := shape50) (k := .u64) rfl rfl x h
  rw [FmtText.text_sprintf_glued ps_o (FmtText.operands_cons hn FmtText.operands_nil)]
  simp [FmtText.render, FmtText.printArg_o _ _ h]
theorem tx_x50 (x : Int) (h : (Lit.int .u64 x).wf = true) : FmtText.text "fmt.Sprintf" [[37, 120], shape50, Go.Extern.Stop.digits 8 (x % 18446744073709551616).toNat] = some (FmtText.inBase 16 false x) := by
  have hn := FmtText.operand_int_at (sh := shape50) (k := .u64) rfl rfl x h
  rw [FmtText.text_sprintf_glued ps_x (FmtText.operands_cons hn FmtText.operands_nil)]
  simp [FmtText.render, FmtText.printArg_x _ _ h]

/-- fmt's texts on this tape are the told ones. -/
def Tld (w : World) : Prop := ∃ F : Interp, F.told.answers w.tape
theorem Tld.of {w w' : World} (h : Tld w) (e : w'.tape = w.tape) : Tld w' := by
  obtain ⟨F, h⟩ := h
  exact ⟨F, by rw [e]; exact h⟩
/-- A told text's length. -/
theorem told_size {W : World} (hT : Tld W) {reading : List (List UInt8)} {s : List UInt8} (h : FmtText.text "fmt.Sprintf" reading = some s) {n : Nat} (hn : s.length ≤ n) (hl : n < 4000000000) (i : Nat) :
    (FmtStop.textOf (W.tape i (.extern (word "fmt.Sprintf" reading 0) 0))).size ≤ n := by
  obtain ⟨F, hF⟩ := hT
  have e0 : W.tape i (.extern (word "fmt.Sprintf" reading 0) 0) = F.told "fmt.Sprintf" reading 0 := hF i "fmt.Sprintf" reading 0 0
  rw [e0]
  have e := textOf_list F.told "fmt.Sprintf" reading
  rw [told_string F h (by omega)] at e
  have : (FmtStop.textOf (F.told "fmt.Sprintf" reading 0)).size = s.length := by rw [← e]; simp
  omega

theorem rt_s (g : Nat) (t : ByteArray) (ht : t.size ≤ 1048576) (W : World) (hT : Tld W) (hc : W.cell? ⟨g, 0, none⟩ = some (.iface 9 (.string t))) (R : Value → World → Prop)
    (h : ∀ t' : ByteArray, t'.size ≤ 1048676 → R (.string t') W.drew) :
    Rows Tryf.prog FmtCalls.turnsRow (FmtCalls.save 0 0 (.slice (some ⟨g, 0, none⟩) 1 1) ⟨#[37, 115]⟩ [] [(0, 115, false)]) W R := by
  have e9 : t.data.toList.length = t.size := by simp
  exact rows_s g t W hc R (h _ (told_size hT (tx_s t.data.toList (by omega)) (by omega) (by omega) _))
theorem rt_d3 (g : Nat) (x : Int) (hx : (Lit.int .i64 x).wf = true) (W : World) (hT : Tld W) (hc : W.cell? ⟨g, 0, none⟩ = some (.iface 3 (.int .i64 x))) (R : Value → World → Prop)
    (h : ∀ t' : ByteArray, t'.size ≤ 1048676 → R (.string t') W.drew) :
    Rows Tryf.prog FmtCalls.turnsRow (FmtCalls.save 0 0 (.slice (some ⟨g, 0, none⟩) 1 1) ⟨#[37, 100]⟩ [] [(0, 100, false)]) W R := by
  have hl := FmtText.itoa_length_le hx
  refine rows_value nextTurns (v := .string (FmtStop.textOf (W.tape W.drawn (.extern (word "fmt.Sprintf" [[37, 100], shape3, Go.Extern.Stop.digits 8 (x % 18446744073709551616).toNat] 0) 0)))) (w' := W.drew) ?_ (h _ (told_size hT (tx_d3 x hx) (by omega) (by omega) _))
  go_simp
theorem rt_d50 (g : Nat) (x : Int) (hx : (Lit.int .u64 x).wf = true) (W : World) (hT : Tld W) (hc : W.cell? ⟨g, 0, none⟩ = some (.iface 50 (.int .u64 x))) (R : Value → World → Prop)
    (h : ∀ t' : ByteArray, t'.size ≤ 1048676 → R (.string t') W.drew) :
    Rows Tryf.prog FmtCalls.turnsRow (FmtCalls.save 0 0 (.slice (some ⟨g, 0, none⟩) 1 1) ⟨#[37, 100]⟩ [] [(0, 100, false)]) W R := by
  have hl := FmtText.itoa_length_le hx
  refine rows_value nextTurns (v := .string (FmtStop.textOf (W.tape W.drawn (.extern (word "fmt.Sprintf" [[37, 100], shape50, Go.Extern.Stop.digits 8 (x % 18446744073709551616).toNat] 0) 0)))) (w' := W.drew) ?_ (h _ (told_size hT (tx_d50 x hx) (by omega) (by omega) _))
  go_simp
theorem rt_o50 (g : Nat) (x : Int) (hx : (Lit.int .u64 x).wf = true) (W : World) (hT : Tld W) (hc : W.cell? ⟨g, 0, none⟩ = some (.iface 50 (.int .u64 x))) (R : Value → World → Prop)
    (h : ∀ t' : ByteArray, t'.size ≤ 1048676 → R (.string t') W.drew) :
    Rows Tryf.prog FmtCalls.turnsRow (FmtCalls.save 0 0 (.slice (some ⟨g, 0, none⟩) 1 1) ⟨#[37, 111]⟩ [] [(0, 111, false)]) W R := by
  have hl := FmtText.inBase_length_le 8 false x
  refine rows_value nextTurns (v := .string (FmtStop.textOf (W.tape W.drawn (.extern (word "fmt.Sprintf" [[37, 111], shape50, Go.Extern.Stop.digits 8 (x % 18446744073709551616).toNat] 0) 0)))) (w' := W.drew) ?_ (h _ (told_size hT (tx_o50 x hx) (by omega) (by omega) _))
  go_simp
theorem rt_x50 (g : Nat) (x : Int) (hx : (Lit.int .u64 x).wf = true) (W : World) (hT : Tld W) (hc : W.cell? ⟨g, 0, none⟩ = some (.iface 50 (.int .u64 x))) (R : Value → World → Prop)
    (h : ∀ t' : ByteArray, t'.size ≤ 1048676 → R (.string t') W.drew) :
    Rows Tryf.prog FmtCalls.turnsRow (FmtCalls.save 0 0 (.slice (some ⟨g, 0, none⟩) 1 1) ⟨#[37, 120]⟩ [] [(0, 120, false)]) W R := by
  have hl := FmtText.inBase_length_le 16 false x
  refine rows_value nextTurns (v := .string (FmtStop.textOf (W.tape W.drawn (.extern (word "fmt.Sprintf" [[37, 120], shape50, Go.Extern.Stop.digits 8 (x % 18446744073709551616).toNat] 0) 0)))) (w' := W.drew) ?_ (h _ (told_size hT (tx_x50 x hx) (by omega) (by omega) _))
  go_simp

open Go.Proofs.YtgcjaijakbejjaaFmtW.PrintWords in
theorem new3 (W : World) (o1 o2 : Obj) (v : Value) (t : TypeId) : (((W.alloc o1).alloc o2).alloc (.cells #[v] t)).drew.cell? ⟨W.heap.size + 1 + 1, 0, none⟩ = some v := by
  have h := World.new_at ((W.alloc o1).alloc o2) (.cells #[v] t)
  have e : ((W.alloc o1).alloc o2).heap.size = W.heap.size + 1 + 1 := by simp
  rw [e] at h
  exact blk_cell h 0
theorem ws_c {B b n nf ia : Nat} {s : ByteArray} {w0 w : World} {x : Int} (h : Hid (Cs B b n nf ia s x w0 w)) (hn : n ≤ 2100000000) (t : ByteArray) (ht : t.size ≤ 1048676) : Calls Tryf.prog 58 #[.pointer (some ⟨b, 0, none⟩), .string t] w fun e w' => e = .returned (.tuple #[.int .i64 t.size, .nilIface]) ∧ Hid (Cs B b (n + 1048676) nf ia s x w0 w') :=
  (str_ws h.out t (by omega)).mono fun _ _ h => ⟨h.1, Lib.hid (h.2.le (by omega))⟩
theorem pi_c {B b n nf ia : Nat} {s : ByteArray} {w0 w : World} {x : Int} (h : Hid (Cs B b n nf ia s x w0 w)) (hE : Hid (Evs w0)) (h5 : 5 ≤ B) (d : ByteArray) (hd : d.size < 1000000000) : Calls Tryf.prog 57 #[.string d, .int .i64 0, .int .i64 0] w fun e w' => ∃ u ev, e = .returned (.tuple #[.int .i64 u, ev]) ∧ (Lit.int .i64 u).wf = true ∧ Below w.heap.size w w' ∧ Hid (Cs B b n nf ia s x w0 w') := by
  refine (spi_0_0 d hd w (hE.out.belowB h5 h.out.bel)).mono ?_
  rintro e w' ⟨u, ev, rfl, h1, h2, hb⟩
  refine ⟨u, ev, rfl, ?_, hb, Lib.hid (h.out.kept hb)⟩
  simp [Lit.wf, IntKind.min, IntKind.max, IntKind.signed, IntKind.bits]
  omega
theorem u64_wf (x : Int) : (Lit.int .u64 (IntKind.u64.wrap x)).wf = true := by
  rw [IntKind.wrap_u64]
  simp [Lit.wf, IntKind.min, IntKind.max, IntKind.signed, IntKind.bits]
  omega

open Go.Proofs.YtgcjaijakbejjaaFmtW.PrintWords in
/-- string(fmts): the percent byte and the verb. -/
theorem conv2 (W : World) (x : Int) (t : ByteArray) (ht : strOfNums [37, x] = t) (z : Array Value) (c : Nat) :
    (convert 36 9 (.slice (some ⟨W.heap.size + 1, 0, none⟩) 2 c)).run Tryf.prog ((W.alloc (.cells #[.int .u8 x] 5)).alloc (.cells (#[.int .u8 37, .int .u8 x] ++ z) 5)).drew = .ok (.string t) ((W.alloc (.cells #[.int .u8 x] 5)).alloc (.cells (#[.int .u8 37, .int .u8 x] ++ z) 5)).drew := by
  subst ht
  have hb : ((W.alloc (.cells #[.int .u8 x] 5)).alloc (.cells (#[.int .u8 37, .int .u8 x] ++ z) 5)).drew.heap[W.heap.size + 1]? = some (.cells (#[.int .u8 37, .int .u8 x] ++ z) 5 (0, 0)) := by
    have h := World.new_at (W.alloc (.cells #[.int .u8 x] 5)) (.cells (#[.int .u8 37, .int .u8 x] ++ z) 5)
    have e : (W.alloc (.cells #[.int .u8 x] 5)).heap.size = W.heap.size + 1 := by simp
    rw [e] at h
    exact h
  refine string_of_reads Tryf.underlying36 Tryf.underlying5 Tryf.underlying9 ⟨rfl, by decide, fun _ => ⟨_, rfl, fun j hj => ?_⟩⟩
  have hj2 : j < 2 := hj
  have e1 : (⟨W.heap.size + 1, 0, none⟩ : Addr).add j = ⟨W.heap.size + 1, j, none⟩ := by
    simp [Addr.add]
    try omega
  rw [e1, blk_cell hb, Array.getElem?_append_left (by simpa using hj2)]
  match j, hj2 with
  | 0, _ => rfl
  | 1, _ => rfl
end Go.Proofs.YtgcjaijakbejjaaFmt
