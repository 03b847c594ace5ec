/- Proved: internal/strconv.ParseUint and ParseInt, strconv.ParseUint and ParseInt, at the bases and sizes that formatInto asks, give some number and an error or none; what was there stands. Conditions: the string is shorter than 10^9. -/
import Derived.Test.YtgcjaijakbejjaaFmtHa
import Derived.Lib.ConvBytes
import Derived.Lib.Strings
import Derived.Lib.Walk
import Derived.Laws.Strings3
import Derived.Laws.Closers25
import Derived.Laws.Closers25b
import Derived.Deep.CutBlock
import Derived.Deep.CutRange
namespace Go.Proofs.YtgcjaijakbejjaaFmt
open Go.RowKit Go.Proofs.YtgcjaijakbejjaaFmtW.PrintWords

/-- An error of the inner package, or none. -/
def IsEv (v : Value) : Prop := v = .nilIface ∨ v = .iface 128 (.int .i64 1) ∨ v = .iface 128 (.int .i64 2)
theorem IsEv.nil : IsEv .nilIface := Or.inl rfl
theorem IsEv.range : IsEv (.iface 128 (.int .i64 1)) := Or.inr (Or.inl rfl)
theorem IsEv.synt : IsEv (.iface 128 (.int .i64 2)) := Or.inr (Or.inr rfl)
/-- A number, an error or none; what was there stands. -/
def PuRes (k : IntKind) (w : World) (e : Ending) (w' : World) : Prop := ∃ u ev, e = .returned (.tuple #[.int k u, ev]) ∧ IsEv ev ∧ Below w.heap.size w w'
theorem PuRes.mk {k : IntKind} {w w' : World} {u : Int} {ev : Value} (h : IsEv ev) (hb : Below w.heap.size w w') : PuRes k w (.returned (.tuple #[.int k u, ev])) w' := ⟨u, ev, rfl, h, hb⟩

set_option maxHeartbeats 4000000 in
set_option maxRecDepth 100000 in
theorem pu_0_0 (s : ByteArray) (hs : s.size < 1000000000) (w : World) : Calls Tryf.prog 72 #[.string s, .int .i64 0, .int .i64 0] w (PuRes .u64 w) := by
  by_cases hne : s.size = 0
  · obtain rfl : s = ⟨#[]⟩ := by
      obtain ⟨⟨l⟩⟩ := s
      cases l with
      | nil => rfl
      | cons _ _ => simp [ByteArray.size] at hne
    go_enter Tryf.func72, Tryf.ntmps72
    go_wp2
    go_ret2
    exact PuRes.mk IsEv.synt (Below.refl _ _)
  have hemp : s.toList.isEmpty = false := by
    rw [← decide_eq_emptyBytes]
    exact decide_eq_false (fun h => hne (by rw [h]; rfl))
  obtain ⟨c0, q0, hx0⟩ := byte_at s 0 (by omega)
  go_enter Tryf.func72, Tryf.ntmps72
  go_upto_block 0 with (fail)
  go_cut [0, 1] (fun v0 v1 wc => ∃ (t : ByteArray) (b : Int), v0 = .string t ∧ v1 = .int .i64 b ∧ t.size < 1000000000 ∧ (b = 2 ∨ b = 8 ∨ b = 10 ∨ b = 16) ∧ wc = w)
  case first =>
    cases h48 : (c0 == 48) with
    | false =>
      go_wp2
      go_meet
      case rel => exact ⟨_, _, rfl, rfl, hs, (by decide), rfl⟩
    | true =>
      by_cases h3 : 3 ≤ s.size
      · have h3b : decide (3 ≤ (s.size : Int)) = true := decide_eq_true (by omega)
        obtain ⟨c1, q1, hx1⟩ := byte_at s 1 (by omega)
        have e1 : (1 ≤ s.size) = True := eq_true (by omega)
        have e2 : (2 ≤ s.size) = True := eq_true (by omega)
        have z1 := cut_size s 1
        have z2 := cut_size s 2
        go_wp2_with (go_at_call 83; refine Calls.mono (lower_any _ _) ?_; rintro e w1 ⟨rfl, rfl⟩)
        all_goals
          go_meet
          case rel => exact ⟨_, _, rfl, rfl, by omega, (by decide), rfl⟩
      · have h3b : decide (3 ≤ (s.size : Int)) = false := decide_eq_false (by omega)
        have e1 : (1 ≤ s.size) = True := eq_true (by omega)
        have z1 := cut_size s 1
        go_wp2
        all_goals
          go_meet
          case rel => exact ⟨_, _, rfl, rfl, by omega, (by decide), rfl⟩
  case rest =>
    obtain ⟨t, b, rfl, rfl, ht, hb, e⟩ := hcut
    have e' := e.symm
    subst e'
    clear e
    go_upto_block 2 with (fail)
    go_cut [10] (fun v10 wc => ∃ m : Int, v10 = .int .u64 m ∧ wc = w)
    case first =>
      rcases hb with rfl | rfl | rfl | rfl
      all_goals
        go_wp2
        go_meet
        case rel => exact ⟨_, rfl, rfl⟩
    case rest =>
      clear hb
      obtain ⟨m, rfl, e⟩ := hcut
      have e' := e.symm
      subst e'
      clear e
      go_upto_region 32 with (fail)
      go_cut [11] (fun v11 wc => ∃ mv : Int, v11 = .int .u64 mv ∧ wc = w)
      case first =>
        go_wp2
        go_meet
        case rel => exact ⟨_, rfl, rfl⟩
      case rest =>
      obtain ⟨mv, rfl, e⟩ := hcut
      have e' := e.symm
      subst e'
      clear e
      have hcv : (convert 9 36 (.string t)).run Tryf.prog w = .ok (.slice (some ⟨w.heap.size, 0, none⟩) t.size (grownCap w t.size 0 5)) (Lib.bytesWorld w 5 t) := Lib.run_convert_string_bytes w 9 36 5 t (u := .string) (by kernel_rfl) Tryf.underlying36 (by kernel_rfl)
      have hB : ∀ j, j < t.size → (Lib.bytesWorld w 5 t).cell? ⟨w.heap.size, j, none⟩ = some (.int .u8 (t.data.toList.getD j 0).toNat) := fun j hj => Lib.bytesWorld_cell w 5 t j hj
      have hbel : Below w.heap.size w (Lib.bytesWorld w 5 t) := ⟨by rfl, by rfl, by rfl, by rw [Lib.bytesWorld_size]; omega, fun k hk => Lib.bytesWorld_at_old w 5 t k hk⟩
      obtain ⟨W1, hW1⟩ : ∃ W1, W1 = Lib.bytesWorld w 5 t := ⟨_, rfl⟩
      rw [← hW1] at hcv hB hbel
      clear hW1
      go_wp2
      go_loop [12, 13, 101] (fun v12 v13 v101 => ∃ (u : Bool) (a : Int) (k : Nat), v12 = .bool u ∧ v13 = .int .u64 a ∧ v101 = .int .i64 (k : Nat) ∧ k ≤ t.size) (fun _ _ vi => t.size - (intOf vi).toNat)
      case atStart => exact ⟨false, 0, 0, rfl, rfl, rfl, by omega⟩
      case round =>
        obtain ⟨u, a, k, rfl, rfl, rfl, hk⟩ := hrel
        by_cases hkn : k < t.size
        · have hkb : decide ((k : Int) < (t.size : Int)) = true := decide_eq_true (by omega)
          have hc := hB k hkn
          obtain ⟨c, hcc⟩ : ∃ c : Int, c = ((t.data.toList.getD k 0).toNat : Int) := ⟨_, rfl⟩
          rw [← hcc] at hc
          clear hcc hB
          have hw : wrap64 ((k : Int) + 1) = ((k + 1 : Nat) : Int) := fx_wrap k (by omega)
          go_upto_block 5 with (fail)
          go_cut [12, 16] from 102 to 163 (fun v12 v16 wc => ∃ d : Int, v12 = .bool u ∧ v16 = .int .u8 d ∧ wc = W1)
          case first =>
            cases h95 : (c == 95) with
            | true =>
              go_wp2
              exact ⟨⟨true, a, k + 1, rfl, rfl, rfl, hkn⟩, by simp [intOf]; omega⟩
            | false =>
              cases h2 : decide (48 ≤ c)
              all_goals cases h3 : decide (c ≤ 57)
              all_goals cases h4 : decide (97 ≤ bits .or .u8 c 32)
              all_goals cases h5 : decide (bits .or .u8 c 32 ≤ 122)
              all_goals
                go_wp2_with (go_at_call 83; refine Calls.mono (lower_any _ _) ?_; rintro e w1 ⟨rfl, rfl⟩)
              all_goals first
                | (go_meet; case rel => exact ⟨_, rfl, rfl, rfl⟩)
                | (go_ret2; exact PuRes.mk IsEv.synt hbel)
          case rest =>
            obtain ⟨d, rfl, rfl, e⟩ := hcut
            have e' := e.symm
            subst e'
            clear e
            go_upto_region 46 with (fail)
            go_cut [137] from 102 to 163 (fun v wc => ∃ q : Bool, v = .bool q ∧ wc = W1)
            case first =>
              go_wp2
              all_goals
                go_meet
                case rel => exact ⟨_, rfl, rfl⟩
            case rest =>
            obtain ⟨q137, rfl, e⟩ := hcut
            have e' := e.symm
            subst e'
            clear e
            cases q137 with
            | true =>
              go_wp2
              go_ret2
              exact PuRes.mk IsEv.synt hbel
            | false =>
              go_upto_region 48 with (fail)
              go_cut [141] from 102 to 163 (fun v wc => ∃ q : Bool, v = .bool q ∧ wc = W1)
              case first =>
                go_wp2
                all_goals
                  go_meet
                  case rel => exact ⟨_, rfl, rfl⟩
              case rest =>
              obtain ⟨q141, rfl, e⟩ := hcut
              have e' := e.symm
              subst e'
              clear e
              cases q141 with
              | true =>
                go_wp2
                go_ret2
                exact PuRes.mk IsEv.range hbel
              | false =>
                go_upto_region 50 with (fail)
                go_cut [13] from 102 to 163 (fun v wc => ∃ q : Int, v = .int .u64 q ∧ wc = W1)
                case first =>
                  go_wp2
                  go_meet
                  case rel => exact ⟨_, rfl, rfl⟩
                case rest =>
                obtain ⟨n13, rfl, e⟩ := hcut
                have e' := e.symm
                subst e'
                clear e
                go_upto_region 51 with (fail)
                go_cut [17] from 102 to 163 (fun v wc => ∃ q : Int, v = .int .u64 q ∧ wc = W1)
                case first =>
                  go_wp2
                  go_meet
                  case rel => exact ⟨_, rfl, rfl⟩
                case rest =>
                obtain ⟨n17, rfl, e⟩ := hcut
                have e' := e.symm
                subst e'
                clear e
                go_upto_region 52 with (fail)
                go_cut [159] from 102 to 163 (fun v wc => ∃ q : Bool, v = .bool q ∧ wc = W1)
                case first =>
                  go_wp2
                  all_goals
                    go_meet
                    case rel => exact ⟨_, rfl, rfl⟩
                case rest =>
                obtain ⟨q159, rfl, e⟩ := hcut
                have e' := e.symm
                subst e'
                clear e
                cases q159 with
                | true =>
                  go_wp2
                  go_ret2
                  exact PuRes.mk IsEv.range hbel
                | false =>
                  go_wp2
                  exact ⟨⟨_, _, k + 1, rfl, rfl, rfl, hkn⟩, by simp [intOf]; omega⟩
        · have hkb : decide ((k : Int) < (t.size : Int)) = false := decide_eq_false (by omega)
          clear hB
          cases u with
          | false =>
            go_wp2
            go_ret2
            exact PuRes.mk IsEv.nil hbel
          | true =>
            go_upto_region 56 with (fail)
            go_cut [169] (fun v wc => ∃ q : Bool, v = .bool q ∧ wc = W1)
            case first =>
              go_wp2_with (go_at_call 84; refine Calls.mono (under_any s hs _) ?_; rintro e w1 ⟨q, rfl, rfl⟩)
              all_goals
                go_meet
                case rel => exact ⟨_, rfl, rfl⟩
            case rest =>
            obtain ⟨q, rfl, e⟩ := hcut
            have e' := e.symm
            subst e'
            clear e
            cases q with
            | true =>
              go_wp2
              go_ret2
              exact PuRes.mk IsEv.synt hbel
            | false =>
              go_wp2
              go_ret2
              exact PuRes.mk IsEv.nil hbel
end Go.Proofs.YtgcjaijakbejjaaFmt
