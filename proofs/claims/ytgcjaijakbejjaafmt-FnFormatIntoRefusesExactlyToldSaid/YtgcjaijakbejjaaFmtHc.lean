/- Proved: contracts of strconv.ParseUint, ParseInt, readDigits, ZZformatInto, and what formatInto's walk carries. Conditions: as each theorem says. -/
import Derived.Test.YtgcjaijakbejjaaFmtFxC
import Derived.Test.YtgcjaijakbejjaaFmtFxC8
import Derived.Test.YtgcjaijakbejjaaFmtFxC16
import Derived.Test.YtgcjaijakbejjaaFmtHb
import Derived.Lib.IfaceNeq
import Derived.Deep.CutBlock
import Derived.Laws.Strings2
import Derived.Deep.CutRange
import Derived.Lib.RuneBytes
import Derived.Deep.LoopGhost
import Derived.Lib.LazyBuf
import Derived.OwnWalk
/- Proved: internal/strconv.ParseInt at base 0 and size 0, strconv.ParseUint and ParseInt at the bases and sizes that formatInto asks, give some number and some error or none; what was there stands. Conditions: the string is shorter than 10^9; strconv's two error variables hold interface values. -/
namespace Go.Proofs.YtgcjaijakbejjaaFmt
open Go.RowKit Go.Proofs.YtgcjaijakbejjaaFmtW.PrintWords

/-- strconv's error variables hold interface values. -/
structure Evs (w : World) : Prop where
  size : 5 ≤ w.heap.size
  v3 : ∃ tp p, w.cell? ⟨3, 0, none⟩ = some (.iface tp p)
  v4 : ∃ tp p, w.cell? ⟨4, 0, none⟩ = some (.iface tp p)
theorem Evs.below {w w' : World} (h : Evs w) (hb : Below w.heap.size w w') : Evs w' := by
  have h0 := h.size
  obtain ⟨t3, p3, e3⟩ := h.v3
  obtain ⟨t4, p4, e4⟩ := h.v4
  exact ⟨Nat.le_trans h0 hb.size, ⟨t3, p3, (hb.cell (p := ⟨3, 0, none⟩) (by show 3 < _; omega)).trans e3⟩, ⟨t4, p4, (hb.cell (p := ⟨4, 0, none⟩) (by show 4 < _; omega)).trans e4⟩⟩

/-- Some number in its kind's bounds, some error or none; what was there stands. -/
def NumRes (k : IntKind) (lo hi : Int) (w : World) (e : Ending) (w' : World) : Prop := ∃ u ev, e = .returned (.tuple #[.int k u, ev]) ∧ lo ≤ u ∧ u ≤ hi ∧ Below w.heap.size w w'
theorem NumRes.mk {k : IntKind} {lo hi : Int} {w w' : World} {u : Int} {ev : Value} (h1 : lo ≤ u) (h2 : u ≤ hi) (hb : Below w.heap.size w w') : NumRes k lo hi w (.returned (.tuple #[.int k u, ev])) w' := ⟨u, ev, rfl, h1, h2, hb⟩
/-- Some number, some error or none; what was there stands. -/
def SpuRes (w : World) (e : Ending) (w' : World) : Prop := ∃ u ev, e = .returned (.tuple #[.int .u64 u, ev]) ∧ Below w.heap.size w w'
theorem SpuRes.mk {w w' : World} {u : Int} {ev : Value} (hb : Below w.heap.size w w') : SpuRes w (.returned (.tuple #[.int .u64 u, ev])) w' := ⟨u, ev, rfl, hb⟩
/-- .. the inner package's. -/
def PiRes (w : World) (e : Ending) (w' : World) : Prop := ∃ u ev, e = .returned (.tuple #[.int .i64 u, ev]) ∧ -9223372036854775808 ≤ u ∧ u ≤ 9223372036854775807 ∧ IsEv ev ∧ Below w.heap.size w w'
theorem PiRes.mk {w w' : World} {u : Int} {ev : Value} (h1 : -9223372036854775808 ≤ u) (h2 : u ≤ 9223372036854775807) (h : IsEv ev) (hb : Below w.heap.size w w') : PiRes w (.returned (.tuple #[.int .i64 u, ev])) w' := ⟨u, ev, rfl, h1, h2, h, hb⟩

theorem wrap64_lo (x : Int) : -9223372036854775808 ≤ wrap64 x := by unfold wrap64; omega
theorem wrap64_hi (x : Int) : wrap64 x ≤ 9223372036854775807 := by unfold wrap64; omega

set_option maxHeartbeats 4000000 in
set_option maxRecDepth 100000 in
theorem pi_0_0 (s : ByteArray) (hs : s.size < 1000000000) (w : World) : Calls Tryf.prog 77 #[.string s, .int .i64 0, .int .i64 0] w (PiRes w) := by
  by_cases hne : s.size = 0
  · obtain rfl : s = ⟨#[]⟩ := by
      obtain ⟨⟨l⟩⟩ := s
      cases l with
      | nil => rfl
      | cons _ _ => simp [ByteArray.size] at hne
    go_enter Tryf.func77, Tryf.ntmps77
    go_wp2
    go_ret2
    exact PiRes.mk (by omega) (by omega) IsEv.synt (Below.refl _ _)
  have hemp : s.toList.isEmpty = false := by
    rw [← decide_eq_emptyBytes]
    exact decide_eq_false (fun h => hne (by rw [h]; rfl))
  obtain ⟨c0, q0, hx0⟩ := byte_at s 0 (by omega)
  have e1 : (1 ≤ s.size) = True := eq_true (by omega)
  have z1 := cut_size s 1
  go_enter Tryf.func77, Tryf.ntmps77
  have hq2 : ∀ W, (binOp .neq 38 (.iface 128 (.int .i64 2)) (.iface 128 (.int .i64 1))).run Tryf.prog W = .ok (.bool true) W := fun W => Lib.run_neq_iface_int W 2 1 Tryf.underlying38 (by kernel_rfl) Tryf.underlying128
  have hq1 : ∀ W, (binOp .neq 38 (.iface 128 (.int .i64 1)) (.iface 128 (.int .i64 1))).run Tryf.prog W = .ok (.bool false) W := fun W => Lib.run_neq_iface_int W 1 1 Tryf.underlying38 (by kernel_rfl) Tryf.underlying128
  go_upto_block 0 with (fail)
  go_cut [0, 8] (fun v0 v8 wc => ∃ (t : ByteArray) (b : Bool), v0 = .string t ∧ v8 = .bool b ∧ t.size < 1000000000 ∧ wc = w)
  case first =>
    cases h43 : (c0 == 43)
    all_goals cases h45 : (c0 == 45)
    all_goals
      go_wp2
      go_meet
      case rel => exact ⟨_, _, rfl, rfl, by omega, rfl⟩
  case rest =>
    obtain ⟨t, b, rfl, rfl, ht, e⟩ := hcut
    have e' := e.symm
    subst e'
    clear e e1 z1 hx0 q0 hemp
    go_wp2_with (go_at_call 72; refine Calls.mono (pu_0_0 t ht w) ?_; rintro e w1 ⟨u, ev, rfl, hev, hb1⟩; rcases hev with rfl | rfl | rfl)
    all_goals
      go_ret2
      exact PiRes.mk (by first | omega | exact wrap64_lo _) (by first | omega | exact wrap64_hi _) (by first | exact IsEv.nil | exact IsEv.range | exact IsEv.synt) hb1


/-- Some error; what was there stands. -/
def ErRes (w : World) (e : Ending) (w' : World) : Prop := ∃ ev, e = .returned ev ∧ Below w.heap.size w w'
theorem toErr_range (fn s : ByteArray) (hs : s.size < 1000000000) (base bits : Int) (w : World) (hE : Hid (Evs w)) : Calls Tryf.prog 73 #[.string fn, .string s, .int .i64 base, .int .i64 bits, .iface 128 (.int .i64 1)] w (ErRes w) := by
  obtain ⟨tp, p, hv⟩ := hE.out.v4
  refine (Tryf.strconv_toError_range fn s base bits _ w (by omega) hv (Or.inr ⟨_, _, rfl⟩)).mono ?_
  rintro e w2 ⟨N, rfl, _, _, hb⟩
  exact ⟨_, rfl, hb⟩
theorem toErr_syntax (fn s : ByteArray) (hs : s.size < 1000000000) (base bits : Int) (w : World) (hE : Hid (Evs w)) : Calls Tryf.prog 73 #[.string fn, .string s, .int .i64 base, .int .i64 bits, .iface 128 (.int .i64 2)] w (ErRes w) := by
  obtain ⟨tp, p, hv⟩ := hE.out.v3
  refine (Tryf.strconv_toError_syntax fn s base bits _ w (by omega) hv (Or.inr ⟨_, _, rfl⟩)).mono ?_
  rintro e w2 ⟨N, rfl, _, _, hb⟩
  exact ⟨_, rfl, hb⟩

set_option maxHeartbeats 1000000 in
set_option maxRecDepth 100000 in
theorem spu_8_8 (s : ByteArray) (hs : s.size < 1000000000) (w : World) (hE : Evs w) : Calls Tryf.prog 54 #[.string s, .int .i64 8, .int .i64 8] w (SpuRes w) := by
  go_enter Tryf.func54, Tryf.ntmps54
  go_wp2_with (go_at_call 72; refine Calls.mono (pu_8_8 s hs w) ?_)
  rintro e w1 ⟨u, ev, rfl, hev, hb1⟩
  have hE1 := Lib.hid (hE.below hb1)
  clear hE
  rcases hev with rfl | rfl | rfl
  · go_wp2
    go_ret2
    exact SpuRes.mk hb1
  · go_wp2_with (go_at_call 73; refine Calls.mono (toErr_range ⟨#[80, 97, 114, 115, 101, 85, 105, 110, 116]⟩ s hs _ _ _ hE1) ?_)
    rintro e w2 ⟨ev2, rfl, hb2⟩
    go_wp2
    go_ret2
    exact SpuRes.mk (hb1.trans (hb2.mono hb1.size))
  · go_wp2_with (go_at_call 73; refine Calls.mono (toErr_syntax ⟨#[80, 97, 114, 115, 101, 85, 105, 110, 116]⟩ s hs _ _ _ hE1) ?_)
    rintro e w2 ⟨ev2, rfl, hb2⟩
    go_wp2
    go_ret2
    exact SpuRes.mk (hb1.trans (hb2.mono hb1.size))

set_option maxHeartbeats 1000000 in
set_option maxRecDepth 100000 in
theorem spu_16_32 (s : ByteArray) (hs : s.size < 1000000000) (w : World) (hE : Evs w) : Calls Tryf.prog 54 #[.string s, .int .i64 16, .int .i64 32] w (SpuRes w) := by
  go_enter Tryf.func54, Tryf.ntmps54
  go_wp2_with (go_at_call 72; refine Calls.mono (pu_16_32 s hs w) ?_)
  rintro e w1 ⟨u, ev, rfl, hev, hb1⟩
  have hE1 := Lib.hid (hE.below hb1)
  clear hE
  rcases hev with rfl | rfl | rfl
  · go_wp2
    go_ret2
    exact SpuRes.mk hb1
  · go_wp2_with (go_at_call 73; refine Calls.mono (toErr_range ⟨#[80, 97, 114, 115, 101, 85, 105, 110, 116]⟩ s hs _ _ _ hE1) ?_)
    rintro e w2 ⟨ev2, rfl, hb2⟩
    go_wp2
    go_ret2
    exact SpuRes.mk (hb1.trans (hb2.mono hb1.size))
  · go_wp2_with (go_at_call 73; refine Calls.mono (toErr_syntax ⟨#[80, 97, 114, 115, 101, 85, 105, 110, 116]⟩ s hs _ _ _ hE1) ?_)
    rintro e w2 ⟨ev2, rfl, hb2⟩
    go_wp2
    go_ret2
    exact SpuRes.mk (hb1.trans (hb2.mono hb1.size))

set_option maxHeartbeats 1000000 in
set_option maxRecDepth 100000 in
theorem spi_0_0 (s : ByteArray) (hs : s.size < 1000000000) (w : World) (hE : Evs w) : Calls Tryf.prog 57 #[.string s, .int .i64 0, .int .i64 0] w (NumRes .i64 (-9223372036854775808) 9223372036854775807 w) := by
  go_enter Tryf.func57, Tryf.ntmps57
  go_wp2_with (go_at_call 77; refine Calls.mono (pi_0_0 s hs w) ?_)
  rintro e w1 ⟨u, ev, rfl, hl, hh, hev, hb1⟩
  have hE1 := Lib.hid (hE.below hb1)
  clear hE
  rcases hev with rfl | rfl | rfl
  · go_wp2
    go_ret2
    exact NumRes.mk hl hh hb1
  · go_wp2_with (go_at_call 73; refine Calls.mono (toErr_range ⟨#[80, 97, 114, 115, 101, 73, 110, 116]⟩ s hs _ _ _ hE1) ?_)
    rintro e w2 ⟨ev2, rfl, hb2⟩
    go_wp2
    go_ret2
    exact NumRes.mk hl hh (hb1.trans (hb2.mono hb1.size))
  · go_wp2_with (go_at_call 73; refine Calls.mono (toErr_syntax ⟨#[80, 97, 114, 115, 101, 73, 110, 116]⟩ s hs _ _ _ hE1) ?_)
    rintro e w2 ⟨ev2, rfl, hb2⟩
    go_wp2
    go_ret2
    exact NumRes.mk hl hh (hb1.trans (hb2.mono hb1.size))
end Go.Proofs.YtgcjaijakbejjaaFmt

/- Proved: formatInto's readDigits reads some digits and leaves its index on the last. Conditions: the index lies in the string; the string is at most 2^20 bytes. -/
namespace Go.Proofs.YtgcjaijakbejjaaFmt
open Go.RowKit Go.Proofs.YtgcjaijakbejjaaFmtW.PrintWords

/-- Some digits; the index stands on the last of them. -/
def RdRes (i m : Nat) (s : ByteArray) (a1 : Addr) (w : World) (e : Ending) (w' : World) : Prop := ∃ (d : ByteArray) (j : Nat), e = .returned (.string d) ∧ d.size = j ∧ j ≤ m ∧ i + j ≤ s.size ∧ w' = w.setCell a1 (.int .i64 ((i : Int) + j - 1))
theorem RdRes.mk {i m j : Nat} {s d : ByteArray} {a1 : Addr} {w : World} {x : Int} (h1 : d.size = j) (h2 : j ≤ m) (h3 : i + j ≤ s.size) (hx : x = (i : Int) + j - 1) : RdRes i m s a1 w (.returned (.string d)) (w.setCell a1 (.int .i64 x)) := ⟨d, j, rfl, h1, h2, h3, by rw [hx]⟩

set_option maxHeartbeats 4000000 in
set_option maxRecDepth 100000 in
theorem rd_true (i m : Nat) (hm : m ≤ 8) (s : ByteArray) (hs : s.size ≤ 1048580) (hi : i ≤ s.size) (a1 a2 : Addr) (w : World) (h1 : w.cell? a1 = some (.int .i64 (i : Nat))) (h2 : w.cell? a2 = some (.string s)) (hf : w.frozen? a1 = false) : Calls Tryf.prog 52 #[.int .i64 (m : Nat), .bool true, .pointer (some a1), .pointer (some a2)] w (RdRes i m s a1 w) := by
  go_enter Tryf.func52, Tryf.ntmps52
  go_upto_region 2 with (fail)
  go_loop [7] (fun v7 => ∃ j : Nat, v7 = .int .i64 (j : Nat) ∧ j ≤ m ∧ i + j ≤ s.size) (fun v7 => m - (intOf v7).toNat)
  case atStart => exact ⟨0, rfl, by omega, by omega⟩
  case round =>
    obtain ⟨j, rfl, hj, hij⟩ := hrel
    have fin : (s.extract i (i + j)).size = j := by rw [ByteArray.size_extract]; omega
    have w1 : wrap64 ((i : Int) + (j : Int)) = (i : Int) + (j : Int) := by unfold wrap64; omega
    have w2 : wrap64 ((j : Int) - 1) = (j : Int) - 1 := by unfold wrap64; omega
    have w3 : wrap64 ((i : Int) + ((j : Int) - 1)) = (i : Int) + ((j : Int) - 1) := by unfold wrap64; omega
    have hsl : ∀ W, (Instr.slice 9 (.string s) (some (.int .i64 (i : Int))) (some (.int .i64 ((i : Int) + (j : Int)))) none).run Tryf.prog W = .ok (.string (s.extract i (i + j))) W := fun W => by
      have h := run_slice_string W 9 s .i64 .i64 (i : Int) ((i : Int) + (j : Int)) Tryf.underlying9 (by omega) (by omega) (by omega)
      rw [show ((i : Int)).toNat = i by omega, show ((i : Int) + (j : Int)).toNat = i + j by omega] at h
      exact h
    by_cases c1 : j < m
    · have c1b : decide ((j : Int) < (m : Int)) = true := decide_eq_true (by omega)
      by_cases c2 : i + j < s.size
      · have c2b : decide ((i : Int) + (j : Int) < (s.size : Int)) = true := decide_eq_true (by omega)
        obtain ⟨c, q, hc⟩ := byte_at s (i + j) c2
        go_upto_region 5 with (fail)
        go_cut [55] from 10 to 55 (fun v wc => ∃ q : Bool, v = .bool q ∧ wc = w)
        case first =>
          go_wp2
          all_goals
            go_meet
            case rel => exact ⟨_, rfl, rfl⟩
        case rest =>
        obtain ⟨q55, rfl, e⟩ := hcut
        have e' := e.symm
        subst e'
        clear e
        cases q55 with
        | true =>
          go_wp2
          exact ⟨⟨j + 1, rfl, by omega, by omega⟩, by simp [intOf]; omega⟩
        | false =>
          go_wp2
          go_ret
          exact RdRes.mk (by first | exact fin | (rw [ByteArray.size_extract]; omega)) (by omega) (by omega) (by omega)
      · have c2b : decide ((i : Int) + (j : Int) < (s.size : Int)) = false := decide_eq_false (by omega)
        go_wp2
        go_ret
        exact RdRes.mk (by first | exact fin | (rw [ByteArray.size_extract]; omega)) (by omega) (by omega) (by omega)
    · have c1b : decide ((j : Int) < (m : Int)) = false := decide_eq_false (by omega)
      go_wp2
      go_ret
      exact RdRes.mk (by first | exact fin | (rw [ByteArray.size_extract]; omega)) (by omega) (by omega) (by omega)
set_option maxHeartbeats 4000000 in
set_option maxRecDepth 100000 in
theorem rd_false (i m : Nat) (hm : m ≤ 8) (s : ByteArray) (hs : s.size ≤ 1048580) (hi : i ≤ s.size) (a1 a2 : Addr) (w : World) (h1 : w.cell? a1 = some (.int .i64 (i : Nat))) (h2 : w.cell? a2 = some (.string s)) (hf : w.frozen? a1 = false) : Calls Tryf.prog 52 #[.int .i64 (m : Nat), .bool false, .pointer (some a1), .pointer (some a2)] w (RdRes i m s a1 w) := by
  go_enter Tryf.func52, Tryf.ntmps52
  go_upto_region 2 with (fail)
  go_loop [7] (fun v7 => ∃ j : Nat, v7 = .int .i64 (j : Nat) ∧ j ≤ m ∧ i + j ≤ s.size) (fun v7 => m - (intOf v7).toNat)
  case atStart => exact ⟨0, rfl, by omega, by omega⟩
  case round =>
    obtain ⟨j, rfl, hj, hij⟩ := hrel
    have fin : (s.extract i (i + j)).size = j := by rw [ByteArray.size_extract]; omega
    have w1 : wrap64 ((i : Int) + (j : Int)) = (i : Int) + (j : Int) := by unfold wrap64; omega
    have w2 : wrap64 ((j : Int) - 1) = (j : Int) - 1 := by unfold wrap64; omega
    have w3 : wrap64 ((i : Int) + ((j : Int) - 1)) = (i : Int) + ((j : Int) - 1) := by unfold wrap64; omega
    have hsl : ∀ W, (Instr.slice 9 (.string s) (some (.int .i64 (i : Int))) (some (.int .i64 ((i : Int) + (j : Int)))) none).run Tryf.prog W = .ok (.string (s.extract i (i + j))) W := fun W => by
      have h := run_slice_string W 9 s .i64 .i64 (i : Int) ((i : Int) + (j : Int)) Tryf.underlying9 (by omega) (by omega) (by omega)
      rw [show ((i : Int)).toNat = i by omega, show ((i : Int) + (j : Int)).toNat = i + j by omega] at h
      exact h
    by_cases c1 : j < m
    · have c1b : decide ((j : Int) < (m : Int)) = true := decide_eq_true (by omega)
      by_cases c2 : i + j < s.size
      · have c2b : decide ((i : Int) + (j : Int) < (s.size : Int)) = true := decide_eq_true (by omega)
        obtain ⟨c, q, hc⟩ := byte_at s (i + j) c2
        go_upto_region 5 with (fail)
        go_cut [55] from 10 to 55 (fun v wc => ∃ q : Bool, v = .bool q ∧ wc = w)
        case first =>
          go_wp2
          all_goals
            go_meet
            case rel => exact ⟨_, rfl, rfl⟩
        case rest =>
        obtain ⟨q55, rfl, e⟩ := hcut
        have e' := e.symm
        subst e'
        clear e
        cases q55 with
        | true =>
          go_wp2
          exact ⟨⟨j + 1, rfl, by omega, by omega⟩, by simp [intOf]; omega⟩
        | false =>
          go_wp2
          go_ret
          exact RdRes.mk (by first | exact fin | (rw [ByteArray.size_extract]; omega)) (by omega) (by omega) (by omega)
      · have c2b : decide ((i : Int) + (j : Int) < (s.size : Int)) = false := decide_eq_false (by omega)
        go_wp2
        go_ret
        exact RdRes.mk (by first | exact fin | (rw [ByteArray.size_extract]; omega)) (by omega) (by omega) (by omega)
    · have c1b : decide ((j : Int) < (m : Int)) = false := decide_eq_false (by omega)
      go_wp2
      go_ret
      exact RdRes.mk (by first | exact fin | (rw [ByteArray.size_extract]; omega)) (by omega) (by omega) (by omega)
end Go.Proofs.YtgcjaijakbejjaaFmt

/- Proved: what formatInto's walk carries from step to step ('Cs': the builder, the index's cell, the format's box), and the builder's writers over it. Conditions: the builder's length stays below 2^47. -/
namespace Go.Proofs.YtgcjaijakbejjaaFmt
open Go.RowKit Go.Proofs.YtgcjaijakbejjaaFmtW.PrintWords

theorem World.new_at (w : World) (o : Obj) : (w.alloc o).heap[w.heap.size]? = some o := heap_alloc_new w o
theorem bc_len (l : List UInt8) : (Lib.byteCells l).length = l.length := Lib.byteCells_length l
/-- A builder of the call's own at block b that holds at most n bytes. -/
def Bd (B b n : Nat) (w : World) : Prop := ∃ l : List UInt8, Lib.IsBuilderF 54 5 B b (Lib.byteCells l) w ∧ l.length ≤ n

theorem row_set {w : World} {B : Nat} {v : Value} {n : Nat} {xs : List Value} (h : w.ownsRowF B 5 1 v n xs) {p : Addr} {cs : Array Value} {t : TypeId} (hp : w.heap[p.block]? = some (.cells cs t (0, 0))) (ht : t ≠ 5) (u : Value) : (w.setCell p u).ownsRowF B 5 1 v n xs := by
  obtain ⟨h1, h2⟩ := h
  refine ⟨h1, ?_⟩
  rcases h2 with h2 | ⟨g, cap, cur, fz, rfl, hg, hh, r⟩
  · exact .inl h2
  · refine .inr ⟨g, cap, cur, fz, rfl, hg, ?_, r⟩
    rw [Below.heap_setCell _ _ _ _ (fun e => by rw [e, hp] at hh; cases hh; exact ht rfl)]
    exact hh
theorem bd_set {B b n : Nat} {w : World} (h : Bd B b n w) {p : Addr} {cs : Array Value} {t : TypeId} (hp : w.heap[p.block]? = some (.cells cs t (0, 0))) (ht : t ≠ 5) (hb : p.block ≠ b) (u : Value) : Bd B b n (w.setCell p u) := by
  obtain ⟨l, h, hl⟩ := h
  refine ⟨l, ?_, hl⟩
  have go : ∀ q, Lib.BuilderAtF 54 5 B b q (Lib.byteCells l) w → Lib.BuilderAtF 54 5 B b q (Lib.byteCells l) (w.setCell p u) := by
    rintro q ⟨hB, v, hv, hown, hne⟩
    exact ⟨hB, v, by rw [Below.heap_setCell _ _ _ _ (fun e => hb e.symm)]; exact hv, row_set hown hp ht u, hne⟩
  exact h.elim (fun x => .inl (go _ x)) (fun x => .inr (go _ x))
theorem bd_alloc {B b n : Nat} {w : World} (h : Bd B b n w) (o : Obj) : Bd B b n (w.alloc o) := by
  obtain ⟨l, h, hl⟩ := h
  exact ⟨l, h.alloc o, hl⟩
theorem bd_le {B b n m : Nat} {w : World} (h : Bd B b n w) (hm : n ≤ m) : Bd B b m w := by
  obtain ⟨l, h, hl⟩ := h
  exact ⟨l, h, by omega⟩

/-- What formatInto's walk carries: w0 the world at its begin, nf the format's box, ia the index's cell, x the index. -/
structure Cs (B b n nf ia : Nat) (s : ByteArray) (x : Int) (w0 w : World) : Prop where
  bd : Bd B b n w
  bel : Below B w0 w
  oth : Lib.OthersKept 5 (some b) w0 w
  hf : w.heap[nf]? = some (.cells #[.string s] 9 (0, 0))
  hi : w.heap[ia]? = some (.cells #[.int .i64 x] 3 (0, 0))
  nia : w0.heap.size ≤ ia
  nnf : w0.heap.size ≤ nf
  hb : b < w0.heap.size
  hB : B ≤ b
  ne : nf ≠ ia

section
variable {B b n nf ia : Nat} {s : ByteArray} {x : Int} {w0 w : World}
theorem Cs.ci (h : Cs B b n nf ia s x w0 w) : w.cell? ⟨ia, 0, none⟩ = some (.int .i64 x) := (blk_cell h.hi 0).trans rfl
theorem Cs.cf (h : Cs B b n nf ia s x w0 w) : w.cell? ⟨nf, 0, none⟩ = some (.string s) := (blk_cell h.hf 0).trans rfl
theorem Cs.fi (h : Cs B b n nf ia s x w0 w) : w.frozen? ⟨ia, 0, none⟩ = false := Lib.frozen_of_heap h.hi 0
theorem oth_set {a : World} (h : Lib.OthersKept 5 (some b) a w) {p : Addr} (hp : a.heap.size ≤ p.block) (u : Value) : Lib.OthersKept 5 (some b) a (w.setCell p u) := by
  intro k o hk hb ho
  have h1 := h k o hk hb ho
  have : k < a.heap.size := blk_lt hk
  rw [Below.heap_setCell _ _ _ _ (by omega)]
  exact h1
theorem Cs.put (h : Cs B b n nf ia s x w0 w) (y : Int) : Cs B b n nf ia s y w0 (w.setCell ⟨ia, 0, none⟩ (.int .i64 y)) := by
  have hlt := h.nia
  have hb := h.hb
  refine ⟨bd_set h.bd (p := ⟨ia, 0, none⟩) h.hi (by decide) (by show ia ≠ b; omega) _, h.bel.setCell (p := ⟨ia, 0, none⟩) (by have := h.hB; show B ≤ ia; omega) _, oth_set h.oth (p := ⟨ia, 0, none⟩) hlt _, blk_far h.hf (p := ⟨ia, 0, none⟩) h.ne _, ?_, h.nia, h.nnf, h.hb, h.hB, h.ne⟩
  exact blk_set h.hi 0 (.int .i64 y)
theorem Cs.alloc (h : Cs B b n nf ia s x w0 w) (o : Obj) : Cs B b n nf ia s x w0 (w.alloc o) := by
  have e1 : (w.alloc o).heap[nf]? = w.heap[nf]? := Below.heap_alloc _ _ _ (blk_lt h.hf)
  have e2 : (w.alloc o).heap[ia]? = w.heap[ia]? := Below.heap_alloc _ _ _ (blk_lt h.hi)
  have hs := h.bel.size
  exact ⟨bd_alloc h.bd o, h.bel.alloc (by have := h.hb; have := h.hB; omega) o, h.oth.alloc o, e1.trans h.hf, e2.trans h.hi, h.nia, h.nnf, h.hb, h.hB, h.ne⟩
theorem Cs.fresh (h : Cs B b n nf ia s x w0 w) (y : Int) : Cs B b n nf w.heap.size s y w0 (w.alloc (.cells #[.int .i64 y] 3 (0, 0))) := by
  have h' := h.alloc (.cells #[.int .i64 y] 3 (0, 0))
  have hs := h.bel.size
  have hl := blk_lt h.hf
  exact ⟨h'.bd, h'.bel, h'.oth, h'.hf, World.new_at w _, by have := h.hb; omega, h.nnf, h.hb, h.hB, by omega⟩
theorem Cs.le (h : Cs B b n nf ia s x w0 w) {m : Nat} (hm : n ≤ m) : Cs B b m nf ia s x w0 w := { h with bd := bd_le h.bd hm }
theorem Cs.drewN (h : Cs B b n nf ia s x w0 w) : Cs B b n nf ia s x w0 w.drew := { h with bel := h.bel.drew, oth := h.oth.drew }
/-- Any call that keeps all that was there. -/
theorem Cs.kept (h : Cs B b n nf ia s x w0 w) {w' : World} (hb : Below w.heap.size w w') : Cs B b n nf ia s x w0 w' := by
  have keep : ∀ k : Nat, k < w.heap.size → w'.heap[k]? = w.heap[k]? := fun k hk => hb.block k hk
  have h1 := h.bel.size
  refine ⟨?_, h.bel.trans (hb.mono (by have := h.hb; have := h.hB; omega)), ?_, (keep _ (blk_lt h.hf)).trans h.hf, (keep _ (blk_lt h.hi)).trans h.hi, h.nia, h.nnf, h.hb, h.hB, h.ne⟩
  · obtain ⟨l, hB, hl⟩ := h.bd
    refine ⟨l, ?_, hl⟩
    have go : ∀ q, Lib.BuilderAtF 54 5 B b q (Lib.byteCells l) w → Lib.BuilderAtF 54 5 B b q (Lib.byteCells l) w' := by
      rintro q ⟨hB, v, hv, hown, hne⟩
      refine ⟨hB, v, (keep _ (blk_lt hv)).trans hv, ⟨hown.1, ?_⟩, hne⟩
      rcases hown.2 with h2 | ⟨g, cap, cur, fz, rfl, hg, hh, r⟩
      · exact .inl h2
      · exact .inr ⟨g, cap, cur, fz, rfl, hg, (keep _ (blk_lt hh)).trans hh, r⟩
    exact hB.elim (fun x => .inl (go _ x)) (fun x => .inr (go _ x))
  · intro k o hk hb' ho
    have h2 := h.oth k o hk hb' ho
    exact (keep _ (blk_lt h2)).trans h2

theorem Cs.step (h : Cs B b n nf ia s x w0 w) {w' : World} {m : Nat} (hbd : Bd B b m w') (hb : Below B w w') (ho : Lib.OthersKept 5 (some b) w w') : Cs B b m nf ia s x w0 w' := by
  have hB := h.hB
  have hb' := h.hb
  have n1 : nf ≠ b := by have := h.nnf; omega
  have n2 : ia ≠ b := by have := h.nia; omega
  refine ⟨hbd, h.bel.trans hb, h.oth.trans ho, ho nf _ h.hf (by simpa using n1) (fun c fz e => by cases e), ho ia _ h.hi (by simpa using n2) (fun c fz e => by cases e), h.nia, h.nnf, h.hb, h.hB, h.ne⟩

theorem byte_wb (h : Cs B b n nf ia s x w0 w) (hn : n < 4000000000) (c : Int) (h0 : 0 ≤ c) (h1 : c < 256) : Calls Tryf.prog 53 #[.pointer (some ⟨b, 0, none⟩), .int .u8 c] w fun e w' => e = .returned .nilIface ∧ Cs B b (n + 1) nf ia s x w0 w' := by
  obtain ⟨l, hl, hln⟩ := h.bd
  refine (writeByte_k B b _ c w hl (by rw [bc_len]; omega) (by have := h.bel.size; have := h.hb; have := h.hB; omega)).mono ?_
  rintro e w' ⟨rfl, h2, h3, h4⟩
  refine ⟨rfl, h.step ⟨l ++ [UInt8.ofNat c.toNat], .inr ?_, by simp; omega⟩ h3 h4⟩
  have e1 : Lib.byteCells (l ++ [UInt8.ofNat c.toNat]) = Lib.byteCells l ++ [.int .u8 c] := by
    have : ((UInt8.ofNat c.toNat).toNat : Int) = c := by
      rw [UInt8.toNat_ofNat']
      omega
    simp [Lib.byteCells]
    omega
  rw [e1]
  exact h2
theorem str_ws (h : Cs B b n nf ia s x w0 w) (t : ByteArray) (hn : n + t.size < 4000000000) : Calls Tryf.prog 58 #[.pointer (some ⟨b, 0, none⟩), .string t] w fun e w' => e = .returned (.tuple #[.int .i64 t.size, .nilIface]) ∧ Cs B b (n + t.size) nf ia s x w0 w' := by
  obtain ⟨l, hl, hln⟩ := h.bd
  refine (writeString_k B b _ t w hl (by rw [bc_len]; omega) (by have := h.bel.size; have := h.hb; have := h.hB; omega)).mono ?_
  rintro e w' ⟨rfl, h2, h3, h4⟩
  refine ⟨rfl, h.step ⟨l ++ t.data.toList, .inr ?_, by
    have e9 : t.data.toList.length = t.size := by simp
    rw [List.length_append]; omega⟩ h3 h4⟩
  have e1 : Lib.byteCells (l ++ t.data.toList) = Lib.byteCells l ++ Lib.strCells t := by simp [Lib.byteCells, Lib.strCells]
  rw [e1]
  exact h2
theorem rune_wr (h : Cs B b n nf ia s x w0 w) (hn : n < 4000000000) (r : Int) (h0 : -2147483648 ≤ r) (h1 : r ≤ 2147483647) : Calls Tryf.prog 55 #[.pointer (some ⟨b, 0, none⟩), .int .i32 r] w fun e w' => e = .returned (.tuple #[.int .i64 (Lib.runeCells r).length, .nilIface]) ∧ Cs B b (n + 4) nf ia s x w0 w' := by
  obtain ⟨l, hl, hln⟩ := h.bd
  have h4' := Lib.runeCells_le r
  refine (writeRune_k B b _ r h0 h1 w hl (by rw [bc_len]; omega) (by have := h.bel.size; have := h.hb; have := h.hB; omega)).mono ?_
  rintro e w' ⟨rfl, h2, h3, h4⟩
  refine ⟨rfl, h.step ⟨l ++ Lib.encodeRune r, .inr ?_, ?_⟩ h3 h4⟩
  · have e1 : Lib.byteCells (l ++ Lib.encodeRune r) = Lib.byteCells l ++ Lib.runeCells r := by rw [← Lib.byteCells_encodeRune]; simp [Lib.byteCells]
    rw [e1]
    exact h2
  · have e2 : (Lib.encodeRune r).length = (Lib.runeCells r).length := by rw [← Lib.byteCells_encodeRune]; simp [Lib.byteCells]
    simp only [List.length_append]
    omega
end
end Go.Proofs.YtgcjaijakbejjaaFmt

/- Proved: the callees of formatInto over what its walk carries. Conditions: strconv's error variables hold interface values; lengths small. -/
namespace Go.Proofs.YtgcjaijakbejjaaFmt
open Go.RowKit Go.Proofs.YtgcjaijakbejjaaFmtW.PrintWords

theorem Evs.belowB {B : Nat} {w w' : World} (h : Evs w) (h5 : 5 ≤ B) (hb : Below B w w') : Evs w' := by
  have h0 := h.size
  obtain ⟨t3, p3, e3⟩ := h.v3
  obtain ⟨t4, p4, e4⟩ := h.v4
  exact ⟨Nat.le_trans h0 hb.size, ⟨t3, p3, (hb.cell (p := ⟨3, 0, none⟩) (by show 3 < _; omega)).trans e3⟩, ⟨t4, p4, (hb.cell (p := ⟨4, 0, none⟩) (by show 4 < _; omega)).trans e4⟩⟩

/-- The number k, no error; the builder is one still; what was there stands. -/
def FiRes (B b m : Nat) (k : Int) (w : World) (e : Ending) (w' : World) : Prop := e = .returned (.tuple #[.int .i64 k, .nilIface]) ∧ Bd B b m w' ∧ Below B w w' ∧ Lib.OthersKept 5 (some b) w w'

theorem byte_at2 (t : ByteArray) (k : Nat) (hk : k < t.size) : ∃ c : Int, (k < t.size) = True ∧ (∀ h : k < t.size, ((t[k]'h).toNat : Int) = c) ∧ 0 ≤ c ∧ c < 256 :=
  ⟨(t[k]'hk).toNat, eq_true hk, fun _ => rfl, by omega, by have := (t[k]'hk).toNat_lt; omega⟩
section
variable {B b n nf ia : Nat} {s : ByteArray} {w0 w : World} {k : Nat}
theorem rd_false_c (h : Hid (Cs B b n nf ia s ((k : Int) + 1) w0 w)) (hs : s.size ≤ 1048580) (hk : k + 1 ≤ s.size) : Calls Tryf.prog 52 #[.int .i64 3, .bool false, .pointer (some ⟨ia, 0, none⟩), .pointer (some ⟨nf, 0, none⟩)] w fun e w' => ∃ (d : ByteArray) (j : Nat), e = .returned (.string d) ∧ d.size = j ∧ j ≤ 8 ∧ k + 1 + j ≤ s.size ∧ Hid (Cs B b n nf ia s ((k : Int) + j) w0 w') := by
  refine (rd_false (k + 1) 3 (by omega) s hs hk ⟨ia, 0, none⟩ ⟨nf, 0, none⟩ w (by rw [h.out.ci]; congr 2) h.out.cf h.out.fi).mono ?_
  rintro e w' ⟨d, j, rfl, h1, h2, h3, rfl⟩
  refine ⟨d, j, rfl, h1, by omega, by omega, Lib.hid ?_⟩
  have e : ((k + 1 : Nat) : Int) + (j : Int) - 1 = (k : Int) + j := by omega
  rw [e]
  exact h.out.put _
theorem rd_true_c {x : Int} (h : Hid (Cs B b n nf ia s x w0 w)) (hs : s.size ≤ 1048580) (hk : k + 2 ≤ s.size) (m : Nat) (hm : m ≤ 8) {M X : Int} (hM : (m : Int) = M) (hX : (k : Int) + 2 = X) : Calls Tryf.prog 52 #[.int .i64 M, .bool true, .pointer (some ⟨ia, 0, none⟩), .pointer (some ⟨nf, 0, none⟩)] (w.setCell ⟨ia, 0, none⟩ (.int .i64 X)) fun e w' => ∃ (d : ByteArray) (j : Nat), e = .returned (.string d) ∧ d.size = j ∧ j ≤ 8 ∧ k + 2 + j ≤ s.size ∧ Hid (Cs B b n nf ia s ((k : Int) + j + 1) w0 w') := by
  subst hM
  subst hX
  have h' := h.out.put ((k : Int) + 2)
  refine (rd_true (k + 2) m hm s hs hk ⟨ia, 0, none⟩ ⟨nf, 0, none⟩ _ (by rw [h'.ci]; congr 2) h'.cf h'.fi).mono ?_
  rintro e w' ⟨d, j, rfl, h1, h2, h3, rfl⟩
  refine ⟨d, j, rfl, h1, by omega, by omega, Lib.hid ?_⟩
  have e : ((k + 2 : Nat) : Int) + (j : Int) - 1 = (k : Int) + j + 1 := by omega
  rw [e]
  exact h'.put _
theorem i32_lo (x : Int) : -2147483648 ≤ IntKind.i32.wrap x := by rw [IntKind.wrap_i32]; omega
theorem i32_hi (x : Int) : IntKind.i32.wrap x ≤ 2147483647 := by rw [IntKind.wrap_i32]; omega
theorem w32_lo (x : Int) : -2147483648 ≤ wrap32 x := by unfold wrap32; omega
theorem w32_hi (x : Int) : wrap32 x ≤ 2147483647 := by unfold wrap32; omega
theorem spu8_c {x : Int} (h : Hid (Cs B b n nf ia s x w0 w)) (hE : Hid (Evs w0)) (h5 : 5 ≤ B) (d : ByteArray) (hd : d.size < 1000000000) : Calls Tryf.prog 54 #[.string d, .int .i64 8, .int .i64 8] w fun e w' => ∃ u ev, e = .returned (.tuple #[.int .u64 u, ev]) ∧ Hid (Cs B b n nf ia s x w0 w') := by
  refine (spu_8_8 d hd w (hE.out.belowB h5 h.out.bel)).mono ?_
  rintro e w' ⟨u, ev, rfl, hb⟩
  exact ⟨u, ev, rfl, Lib.hid (h.out.kept hb)⟩
theorem spu16_c {x : Int} (h : Hid (Cs B b n nf ia s x w0 w)) (hE : Hid (Evs w0)) (h5 : 5 ≤ B) (d : ByteArray) (hd : d.size < 1000000000) : Calls Tryf.prog 54 #[.string d, .int .i64 16, .int .i64 32] w fun e w' => ∃ u ev, e = .returned (.tuple #[.int .u64 u, ev]) ∧ Hid (Cs B b n nf ia s x w0 w') := by
  refine (spu_16_32 d hd w (hE.out.belowB h5 h.out.bel)).mono ?_
  rintro e w' ⟨u, ev, rfl, hb⟩
  exact ⟨u, ev, rfl, Lib.hid (h.out.kept hb)⟩
theorem wb_c {x : Int} (h : Hid (Cs B b n nf ia s x w0 w)) (hn : n < 4000000000) (c : Int) (h0 : 0 ≤ c) (h1 : c < 256) : Calls Tryf.prog 53 #[.pointer (some ⟨b, 0, none⟩), .int .u8 c] w fun e w' => e = .returned .nilIface ∧ Hid (Cs B b (n + 1) nf ia s x w0 w') :=
  (byte_wb h.out hn c h0 h1).mono fun _ _ h => ⟨h.1, Lib.hid h.2⟩
theorem wr_c {x : Int} (h : Hid (Cs B b n nf ia s x w0 w)) (hn : n < 4000000000) (r : Int) (h0 : -2147483648 ≤ r) (h1 : r ≤ 2147483647) : Calls Tryf.prog 55 #[.pointer (some ⟨b, 0, none⟩), .int .i32 r] w fun e w' => e = .returned (.tuple #[.int .i64 (Lib.runeCells r).length, .nilIface]) ∧ Hid (Cs B b (n + 4) nf ia s x w0 w') :=
  (rune_wr h.out hn r h0 h1).mono fun _ _ h => ⟨h.1, Lib.hid h.2⟩
end
/-- What a round's switch leaves. -/
def Sw (B b n nf ia : Nat) (s : ByteArray) (k : Nat) (w0 w : World) : Prop := ∃ k' : Nat, k ≤ k' ∧ k' ≤ s.size ∧ Cs B b (n + 4 * (k' + 1)) nf ia s (k' : Int) w0 w
theorem Sw.of {B b n m nf ia : Nat} {s : ByteArray} {k k' : Nat} {x : Int} {w0 w : World} (h : Hid (Cs B b m nf ia s x w0 w)) (h1 : k ≤ k') (h2 : k' ≤ s.size) (hx : x = (k' : Int)) (hm : m ≤ n + 4 * (k' + 1)) : Sw B b n nf ia s k w0 w := ⟨k', h1, h2, by rw [← hx]; exact h.out.le hm⟩

end Go.Proofs.YtgcjaijakbejjaaFmt

/- Proved: ZZformatInto (function 24) hands back some text and what formatInto (37) answers on a new builder; what was there stands. Conditions: formatInto's own contract at the new builder's world. -/
namespace Go.Proofs.YtgcjaijakbejjaaFmt
open Go.RowKit Go.Proofs.YtgcjaijakbejjaaFmtW.PrintWords

theorem bd_new (w : World) : Bd w.heap.size w.heap.size 0 (w.alloc (.cells #[.pointer none, .slice none 0 0] 54)) :=
  ⟨[], Lib.IsBuilderF.of (Lib.fresh_isBuilder 54 5 w), Nat.le_refl _⟩
/-- A number and an error or none, as R says; the builder is one still. -/
def NumErr (B b N : Nat) (R : Int → Value → Prop) (w : World) (e : Ending) (w' : World) : Prop := ∃ z ev, e = .returned (.tuple #[.int .i64 z, ev]) ∧ R z ev ∧ Bd B b N w' ∧ Below B w w'
/-- Some text, a number, an error or none; what was there stands. -/
def TextNumErr (R : Int → Value → Prop) (w : World) (e : Ending) (w' : World) : Prop := ∃ t z ev, e = .returned (.tuple #[.string t, .int .i64 z, ev]) ∧ R z ev ∧ Below w.heap.size w w'
set_option maxHeartbeats 1000000 in
set_option maxRecDepth 100000 in
theorem zz_any (s : ByteArray) (v : Value) (N : Nat) (R : Int → Value → Prop) (w : World)
    (hcall : Calls Tryf.prog 37 #[.pointer (some ⟨w.heap.size, 0, none⟩), .string s, v] (w.alloc (.cells #[.pointer none, .slice none 0 0] 54)) (NumErr w.heap.size w.heap.size N R (w.alloc (.cells #[.pointer none, .slice none 0 0] 54)))) :
    Calls Tryf.prog 24 #[.string s, v] w (TextNumErr R w) := by
  have H0 := (Below.refl w.heap.size w).alloc (Nat.le_refl _) (.cells #[.pointer none, .slice none 0 0] 54)
  go_enter Tryf.func24, Tryf.ntmps24
  go_wp2_with (first
    | (go_at_call 37; refine Calls.mono hcall ?_; rintro e w2 ⟨z, ev, rfl, hR, hbd, hbel⟩)
    | (go_at_call 38; obtain ⟨l, hl, hln⟩ := hbd; have hsz := (H0.trans hbel).size; refine Calls.mono (Tryf.Builder_String_any_k w.heap.size w.heap.size l w2 hl hsz) ?_; rintro e w3 ⟨rfl, h3, hb3, ho3⟩))
  go_ret3
  exact ⟨_, _, _, rfl, hR, (H0.trans hbel).trans hb3⟩
end Go.Proofs.YtgcjaijakbejjaaFmt
