/- Proved: contracts of zzBytes, strsBytes, hasByte, lower, underscoreOK, cloneStrs, verbAccepted, and the text that the law builds. Conditions: as each theorem says. -/
import Derived.Test.YtgcjaijakbejjaaFmtProg
import Derived.Below
import Derived.Deep.Draws
import Derived.Deep.AppendLies
import Derived.Maps.AppendAt
import Derived.OwnWalk
import Derived.Laws.BytesArg
import Derived.Laws.MakeOwn
import Derived.Laws.OwnMore
import Derived.Deep.OwnRows
import Derived.Tactics
import Derived.Lib.ConvBytes
import Derived.Laws.Slices
import Derived.WalkKit
import Derived.KernelRfl
import Derived.RowKit3
import Derived.Deep.LoopGhost
import Derived.Deep.QuietTactic
import Derived.BigQuiet
import Derived.WideLaws
import Derived.Deep.DeepCutAuto
import Derived.Deep.CutBlock
import Derived.Deep.RegionHeld3
import Derived.Laws.Rows
import Derived.Lib.AppendStr
import Derived.ArgAppend
import Derived.Laws.IdiomCopy
import Derived.OrdersHeld
import Derived.Laws.BitsLemmas
import Derived.RowKit
import Derived.Lib.Hide
import Derived.Test.YtgcjaijakbejjaaFmtWWords
import Derived.BigCall
import Derived.BigGuard
import Derived.Deep.Cut
import Derived.Lib.LazyBuf
import Derived.Lib.Builder
/- Proved: zzBytes (function 20) says whether the lengths sum to at most 2^20, strsBytes (21) gives sixteen a string and the strings' lengths, hasByte (22) says whether the byte is there; the world stands as it was. Conditions: lengths below 2^63 - 1; for strsBytes and hasByte at most 2^20 and 10^9. -/
namespace Go.Proofs.YtgcjaijakbejjaaFmt
open Go.RowKit Go.Proofs.YtgcjaijakbejjaaFmtW.PrintWords

theorem fx_wrap (i : Nat) (h : i < 1000000000) : wrap64 ((i : Int) + 1) = ((i + 1 : Nat) : Int) := by unfold wrap64; omega
/-- The first k strings' lengths, summed. -/
def psum (l : List ByteArray) (k : Nat) : Nat := ((l.take k).map ByteArray.size).sum
theorem psum_zero (l : List ByteArray) : psum l 0 = 0 := by simp [psum]
theorem psum_succ (l : List ByteArray) (k : Nat) (h : k < l.length) : psum l (k + 1) = psum l k + (rdOf ByteArray.empty l (k : Int)).size := by
  unfold psum rdOf
  have e : l.take (k + 1) = l.take k ++ [l[k]] := List.take_succ_eq_append_getElem h
  rw [e, Int.toNat_natCast, List.getD_eq_getElem?_getD, List.getElem?_eq_getElem h, List.map_append, List.sum_append]
  rfl
theorem psum_le (l : List ByteArray) (k : Nat) : ∀ d, k + d ≤ l.length → psum l k ≤ psum l (k + d)
  | 0, _ => Nat.le_refl _
  | d + 1, h => by
    have := psum_le l k d (by omega)
    have := psum_succ l (k + d) (by omega)
    show psum l k ≤ psum l (k + d + 1)
    omega
theorem psum_top (l : List ByteArray) (k : Nat) (h : k ≤ l.length) : psum l k ≤ psum l l.length := by
  have := psum_le l k (l.length - k) (by omega)
  have e : k + (l.length - k) = l.length := by omega
  rwa [e] at this
/-- What zzBytes says. -/
def zzOk (s : ByteArray) (l : List ByteArray) : Bool := decide (s.size + l.length + psum l l.length ≤ 1048576)
theorem zzOk_true {s : ByteArray} {l : List ByteArray} (h : zzOk s l = true) : s.size ≤ 1048576 ∧ l.length ≤ 1048576 ∧ psum l l.length ≤ 1048576 ∧ ∀ j, j < l.length → (rdOf ByteArray.empty l (j : Int)).size ≤ 1048576 := by
  have h' := of_decide_eq_true h
  refine ⟨by omega, by omega, by omega, fun j hj => ?_⟩
  have h1 := psum_succ l j hj
  have h2 := psum_top l (j + 1) (by omega)
  omega
theorem zzOk_false {s : ByteArray} {l : List ByteArray} (h : 1048576 < s.size + l.length + psum l l.length) : zzOk s l = false := decide_eq_false (by omega)
/-- What hasByte says. -/
def hasB (s : ByteArray) (c : Int) : Bool := (List.range s.size).any fun j => bt s (j : Int) == c
theorem hasB_false {s : ByteArray} {c : Int} (h : hasB s c = false) (j : Nat) (hj : j < s.size) : bt s (j : Int) ≠ c := by
  intro e
  have : hasB s c = true := List.any_eq_true.2 ⟨j, List.mem_range.2 hj, by simp [e]⟩
  rw [h] at this
  cases this
theorem hasB_true {s : ByteArray} {c : Int} (k : Nat) (hk : k < s.size) (h : bt s (k : Int) = c) : hasB s c = true := List.any_eq_true.2 ⟨k, List.mem_range.2 hk, by simp [h]⟩
theorem hasB_none {s : ByteArray} {c : Int} (h : ∀ j, j < s.size → bt s (j : Int) ≠ c) : hasB s c = false := by
  cases e : hasB s c with
  | false => rfl
  | true =>
    obtain ⟨j, hj, hb⟩ := List.any_eq_true.1 e
    exact absurd (by simpa using hb) (h j (List.mem_range.1 hj))

set_option maxHeartbeats 1000000 in
set_option maxRecDepth 100000 in
theorem has_k (s : ByteArray) (c : Int) (r : Bool) (w : World) (hs : s.size < 1000000000) (hr : hasB s c = r) : Calls Tryf.prog 22 #[.string s, .int .u8 c] w fun e w' => e = .returned (.bool r) ∧ w' = w := by
  have HR := Lib.hid hr
  clear hr
  go_enter Tryf.func22, Tryf.ntmps22
  go_wp2
  go_loopw [5] (fun v5 wr => ∃ k : Nat, k ≤ s.size ∧ v5 = .int .i64 k ∧ wr = w ∧ Hid (∀ j, j < k → bt s (j : Int) ≠ c)) (fun v5 _ => s.size - (intOf v5).toNat)
  case atStart => exact ⟨0, by omega, rfl, rfl, Lib.hid (fun j hj => by omega)⟩
  case round =>
    obtain ⟨k, hk, rfl, e, HA⟩ := hrel
    have e' := e.symm
    subst e'
    clear e
    by_cases hkn : k < s.size
    · have hkb : decide ((k : Int) < (s.size : Int)) = true := decide_eq_true (by omega)
      have q : (k < s.size) = True := eq_true hkn
      obtain ⟨z, hz⟩ : ∃ z, z = bt s (k : Int) := ⟨_, rfl⟩
      have hx : ∀ h : k < s.size, ((s[k]'h).toNat : Int) = z := fun h => by
        rw [hz]
        unfold bt
        rw [dif_pos (by rw [Int.toNat_natCast]; exact h)]
        simp only [Int.toNat_natCast]
      by_cases hzc : z = c
      · have hb : (z == c) = true := by simp [hzc]
        have er : r = true := HR.out.symm.trans (hasB_true k hkn (hz.symm.trans hzc))
        clear hz hzc
        subst er
        go_wp2
        go_ret
        exact ⟨rfl, rfl⟩
      · have hb : (z == c) = false := by simp [hzc]
        have HA2 : Hid (∀ j, j < k + 1 → bt s (j : Int) ≠ c) := Lib.hid (fun j hj => by
          rcases Nat.lt_or_ge j k with h | h
          · exact HA.out j h
          · obtain rfl : j = k := by omega
            rw [← hz]; exact hzc)
        clear hz hzc
        go_wp2
        go_roundw
        case measure => simp [intOf]; omega
        case rel => exact ⟨k + 1, by omega, by simp, trivial, HA2⟩
    · have hkb : decide ((k : Int) < (s.size : Int)) = false := decide_eq_false (by omega)
      have er : r = false := HR.out.symm.trans (hasB_none fun j hj => HA.out j (by omega))
      subst er
      go_wp2
      go_ret
      exact ⟨rfl, rfl⟩

set_option maxHeartbeats 1000000 in
set_option maxRecDepth 100000 in
theorem strs_k (A : Option Addr) (c : Nat) (l : List ByteArray) (r : Int) (w : World) (hC : Kd.C Kd.string w A l.length l) (hl : l.length ≤ 1048576) (ht : psum l l.length ≤ 1048576) (hr : ((16 * l.length + psum l l.length : Nat) : Int) = r) :
    Calls Tryf.prog 21 #[.slice A l.length c] w fun e w' => e = .returned (.int .i64 r) ∧ w' = w := by
  have HR := Lib.hid hr
  have HC := Lib.hid hC
  clear hr hC
  go_enter Tryf.func21, Tryf.ntmps21
  go_wp2
  go_loopw [3, 4] (fun v3 v4 wr => ∃ (k : Nat) (n0 : Int), k ≤ l.length ∧ v3 = .int .i64 n0 ∧ v4 = .int .i64 k ∧ wr = w ∧ Hid (n0 = ((16 * k + psum l k : Nat) : Int))) (fun _ v4 _ => l.length - (intOf v4).toNat)
  case atStart => exact ⟨0, 0, by omega, rfl, rfl, rfl, Lib.hid (by rw [psum_zero]; rfl)⟩
  case round =>
    obtain ⟨k, n0, hk, rfl, rfl, e, HA⟩ := hrel
    have e' := e.symm
    subst e'
    clear e
    by_cases hkl : k < l.length
    · have q0 : decide ((k : Int) < (l.length : Int)) = true := decide_eq_true (by omega)
      have q1 : (k < l.length) = True := eq_true hkl
      obtain ⟨ad, e1, hx⟩ := Kd.at_string HC.out (k : Int) (by omega) (by omega)
      cases e1
      rw [Int.toNat_natCast] at hx
      have hps := psum_succ l k hkl
      have htop := psum_top l (k + 1) (by omega)
      have ha := HA.out
      have hsz : (rdOf ByteArray.empty l (k : Int)).size ≤ 1048576 := by omega
      have hn1 : 0 ≤ n0 := by omega
      have hn2 : n0 ≤ 20000000 := by omega
      have HA2 : Hid (n0 + (16 + ((rdOf ByteArray.empty l (k : Int)).size : Int)) = ((16 * (k + 1) + psum l (k + 1) : Nat) : Int)) := Lib.hid (by omega)
      clear hps htop ha ht
      go_wp2
      go_roundw
      case measure => simp [intOf]; omega
      case rel => exact ⟨k + 1, _, by omega, rfl, by simp, trivial, HA2⟩
    · have q0 : decide ((k : Int) < (l.length : Int)) = false := decide_eq_false (by omega)
      obtain rfl : k = l.length := by omega
      have er : n0 = r := HA.out.trans HR.out
      subst er
      go_wp2
      go_ret
      exact ⟨rfl, rfl⟩

set_option maxHeartbeats 2000000 in
set_option maxRecDepth 100000 in
theorem zz_k (s : ByteArray) (x : Int) (A : Option Addr) (c : Nat) (l : List ByteArray) (r : Bool) (w : World) (hC : Kd.C Kd.string w A l.length l) (hs : s.size < 9223372036854775807) (hl : l.length < 9223372036854775807) (hr : zzOk s l = r) :
    Calls Tryf.prog 20 #[.string s, .int .u8 x, .slice A l.length c] w fun e w' => e = .returned (.bool r) ∧ w' = w := by
  have HR := Lib.hid hr
  have HC := Lib.hid hC
  clear hr hC
  by_cases c1 : s.size ≤ 1048576
  · have b1 : decide ((1048576 : Int) < (s.size : Int)) = false := decide_eq_false (by omega)
    by_cases c2 : l.length ≤ 1048576
    · have b2 : decide ((1048576 : Int) < (l.length : Int)) = false := decide_eq_false (by omega)
      by_cases c3 : s.size + l.length ≤ 1048576
      · have b3 : decide ((1048576 : Int) < (s.size : Int) + (l.length : Int)) = false := decide_eq_false (by omega)
        go_enter Tryf.func20, Tryf.ntmps20
        go_wp2
        go_loopw [7, 8] (fun v7 v8 wr => ∃ (k : Nat) (n0 : Int), k ≤ l.length ∧ v7 = .int .i64 n0 ∧ v8 = .int .i64 k ∧ wr = w ∧ Hid (n0 = ((s.size + l.length + psum l k : Nat) : Int) ∧ n0 ≤ 1048576)) (fun _ v8 _ => l.length - (intOf v8).toNat)
        case atStart => exact ⟨0, _, by omega, rfl, rfl, rfl, Lib.hid ⟨by rw [psum_zero]; omega, by omega⟩⟩
        case round =>
          obtain ⟨k, n0, hk, rfl, rfl, e, HA⟩ := hrel
          have e' := e.symm
          subst e'
          clear e b1 b2 b3
          by_cases hkl : k < l.length
          · have q0 : decide ((k : Int) < (l.length : Int)) = true := decide_eq_true (by omega)
            have q1 : (k < l.length) = True := eq_true hkl
            obtain ⟨ad, e1, hx⟩ := Kd.at_string HC.out (k : Int) (by omega) (by omega)
            cases e1
            rw [Int.toNat_natCast] at hx
            have hps := psum_succ l k hkl
            have htop := psum_top l (k + 1) (by omega)
            have ha := HA.out
            have hn1 : 0 ≤ n0 := by omega
            have hn2 : n0 ≤ 1048576 := ha.2
            by_cases c4 : (rdOf ByteArray.empty l (k : Int)).size ≤ 1048576
            · have b4 : decide ((1048576 : Int) < ((rdOf ByteArray.empty l (k : Int)).size : Int)) = false := decide_eq_false (by omega)
              by_cases c5 : n0 + ((rdOf ByteArray.empty l (k : Int)).size : Int) ≤ 1048576
              · have b5 : decide ((1048576 : Int) < n0 + ((rdOf ByteArray.empty l (k : Int)).size : Int)) = false := decide_eq_false (by omega)
                have HA2 : Hid (n0 + ((rdOf ByteArray.empty l (k : Int)).size : Int) = ((s.size + l.length + psum l (k + 1) : Nat) : Int) ∧ n0 + ((rdOf ByteArray.empty l (k : Int)).size : Int) ≤ 1048576) := Lib.hid ⟨by omega, c5⟩
                clear hps htop ha
                go_wp2
                go_roundw
                case measure => simp [intOf]; omega
                case rel => exact ⟨k + 1, _, by omega, rfl, by simp, trivial, HA2⟩
              · have b5 : decide ((1048576 : Int) < n0 + ((rdOf ByteArray.empty l (k : Int)).size : Int)) = true := decide_eq_true (by omega)
                have er : r = false := HR.out.symm.trans (zzOk_false (by omega))
                clear hps htop ha
                subst er
                go_wp2
                go_ret
                exact ⟨rfl, rfl⟩
            · have b4 : decide ((1048576 : Int) < ((rdOf ByteArray.empty l (k : Int)).size : Int)) = true := decide_eq_true (by omega)
              have er : r = false := HR.out.symm.trans (zzOk_false (by omega))
              clear hps htop ha
              subst er
              go_wp2
              go_ret
              exact ⟨rfl, rfl⟩
          · have q0 : decide ((k : Int) < (l.length : Int)) = false := decide_eq_false (by omega)
            obtain rfl : k = l.length := by omega
            have er : r = true := HR.out.symm.trans (decide_eq_true (by have := HA.out; omega))
            subst er
            go_wp2
            go_ret
            exact ⟨rfl, rfl⟩
      · have b3 : decide ((1048576 : Int) < (s.size : Int) + (l.length : Int)) = true := decide_eq_true (by omega)
        have er : r = false := HR.out.symm.trans (zzOk_false (by omega))
        subst er
        go_enter Tryf.func20, Tryf.ntmps20
        go_wp2
        go_ret
        exact ⟨rfl, rfl⟩
    · have b2 : decide ((1048576 : Int) < (l.length : Int)) = true := decide_eq_true (by omega)
      have er : r = false := HR.out.symm.trans (zzOk_false (by omega))
      subst er
      go_enter Tryf.func20, Tryf.ntmps20
      go_wp2
      go_ret
      exact ⟨rfl, rfl⟩
  · have b1 : decide ((1048576 : Int) < (s.size : Int)) = true := decide_eq_true (by omega)
    have er : r = false := HR.out.symm.trans (zzOk_false (by omega))
    subst er
    go_enter Tryf.func20, Tryf.ntmps20
    go_wp2
    go_ret
    exact ⟨rfl, rfl⟩
end Go.Proofs.YtgcjaijakbejjaaFmt

/- Proved: internal/strconv's lower and underscoreOK give an answer and leave the world as it was. Conditions: none. -/
namespace Go.Proofs.YtgcjaijakbejjaaFmt
open Go.RowKit Go.Proofs.YtgcjaijakbejjaaFmtW.PrintWords

theorem lower_any (c : Int) (w : World) : Calls Tryf.prog 83 #[.int .u8 c] w fun e w' => e = .returned (.int .u8 (bits .or .u8 c 32)) ∧ w' = w := by
  go_enter Tryf.func83, Tryf.ntmps83
  go_wp2
  go_ret
  exact ⟨rfl, rfl⟩

/-- The byte at k, for the walk. -/
theorem byte_at (t : ByteArray) (k : Nat) (hk : k < t.size) : ∃ c : Int, (k < t.size) = True ∧ (∀ h : k < t.size, ((t[k]'h).toNat : Int) = c) :=
  ⟨(t[k]'hk).toNat, eq_true hk, fun _ => rfl⟩
/-- Some bool comes back, and the world is as it was. -/
def RetBool (w : World) (e : Ending) (w' : World) : Prop := ∃ b, e = .returned (.bool b) ∧ w' = w
theorem RetBool.mk {w : World} {b : Bool} : RetBool w (.returned (.bool b)) w := ⟨b, rfl, rfl⟩
theorem cut_size (s : ByteArray) (k : Nat) : (s.extract k s.size).size = s.size - k := by
  rw [ByteArray.size_extract]; omega

set_option maxHeartbeats 4000000 in
set_option maxRecDepth 100000 in
theorem under_any (s : ByteArray) (hs : s.size < 1000000000) (w : World) : Calls Tryf.prog 84 #[.string s] w (RetBool w) := by
  go_enter Tryf.func84, Tryf.ntmps84
  go_upto_region 3 with (fail)
  go_cut [18] (fun v18 wc => ∃ b : Bool, v18 = .bool b ∧ (b = true → 1 ≤ s.size) ∧ wc = w)
  case first =>
    by_cases h1 : 1 ≤ s.size
    · have h1b : decide (1 ≤ (s.size : Int)) = true := decide_eq_true (by omega)
      obtain ⟨c, q0, hx⟩ := byte_at s 0 (by omega)
      go_wp2
      all_goals
        go_meet
        case rel => exact ⟨_, rfl, fun _ => h1, rfl⟩
    · have h1b : decide (1 ≤ (s.size : Int)) = false := decide_eq_false (by omega)
      go_wp2
      all_goals
        go_meet
        case rel => exact ⟨_, rfl, (fun h => by cases h), rfl⟩
  case rest =>
    obtain ⟨b, rfl, hb, e⟩ := hcut
    have e' := e.symm
    subst e'
    clear e
    go_upto_if 18 with (fail)
    go_cut [0] (fun v0 wc => ∃ t : ByteArray, v0 = .string t ∧ t.size < 1000000000 ∧ wc = w)
    case first =>
      cases b with
      | true =>
        have h1 := hb rfl
        have h1t : (1 ≤ s.size) = True := eq_true h1
        have hz := cut_size s 1
        go_wp2
        go_meet
        case rel => exact ⟨_, rfl, by rw [hz]; omega, rfl⟩
      | false =>
        go_wp2
        go_meet
        case rel => exact ⟨_, rfl, hs, rfl⟩
    case rest =>
      clear hb
      obtain ⟨t, rfl, ht, e⟩ := hcut
      have e' := e.symm
      subst e'
      clear e
      go_upto_region 6 with (fail)
      go_cut [46] (fun v46 wc => ∃ b : Bool, v46 = .bool b ∧ (b = true → 2 ≤ t.size) ∧ wc = w)
      case first =>
        by_cases h2 : 2 ≤ t.size
        · have h2b : decide (2 ≤ (t.size : Int)) = true := decide_eq_true (by omega)
          obtain ⟨c, q0, hx⟩ := byte_at t 0 (by omega)
          obtain ⟨c1, q1, hx1⟩ := byte_at t 1 (by omega)
          go_wp2_with (go_at_call 83; refine Calls.mono (lower_any _ _) ?_; rintro e w1 ⟨rfl, rfl⟩)
          all_goals
            go_meet
            case rel => exact ⟨_, rfl, fun _ => h2, rfl⟩
        · have h2b : decide (2 ≤ (t.size : Int)) = false := decide_eq_false (by omega)
          go_wp2
          all_goals
            go_meet
            case rel => exact ⟨_, rfl, (fun h => by cases h), rfl⟩
      case rest =>
        obtain ⟨b2, rfl, hb2, e⟩ := hcut
        have e' := e.symm
        subst e'
        clear e
        go_upto_if 46 with (fail)
        go_cut [3, 4, 5] (fun v3 v4 v5 wc => ∃ (x3 : Int) (x4 : Nat) (x5 : Bool), v3 = .int .i32 x3 ∧ v4 = .int .i64 (x4 : Nat) ∧ v5 = .bool x5 ∧ x4 ≤ t.size ∧ wc = w)
        case first =>
          cases b2 with
          | true =>
            have h2 := hb2 rfl
            obtain ⟨c1, q1, hx1⟩ := byte_at t 1 (by omega)
            go_wp2_with (go_at_call 83; refine Calls.mono (lower_any _ _) ?_; rintro e w1 ⟨rfl, rfl⟩)
            go_meet
            case rel => exact ⟨_, 2, _, rfl, rfl, rfl, h2, rfl⟩
          | false =>
            go_wp2
            go_meet
            case rel => exact ⟨_, 0, _, rfl, rfl, rfl, Nat.zero_le _, rfl⟩
        case rest =>
          clear hb2
          obtain ⟨x3, x4, x5, rfl, rfl, rfl, hx4, e⟩ := hcut
          have e' := e.symm
          subst e'
          clear e
          go_wp2
          go_loop [3, 4] (fun v3 v4 => ∃ (y3 : Int) (k : Nat), v3 = .int .i32 y3 ∧ v4 = .int .i64 (k : Nat) ∧ k ≤ t.size) (fun _ v4 => t.size - (intOf v4).toNat)
          case atStart => exact ⟨x3, x4, rfl, rfl, hx4⟩
          case round =>
            obtain ⟨y3, k, rfl, rfl, hk⟩ := hrel
            by_cases hkn : k < t.size
            · have hkb : decide ((k : Int) < (t.size : Int)) = true := decide_eq_true (by omega)
              obtain ⟨c, q, hc⟩ := byte_at t k hkn
              have hw : wrap64 ((k : Int) + 1) = ((k + 1 : Nat) : Int) := fx_wrap k (by omega)
              have hrd : ((k + 1 : Nat) : Int) = ((k + 1 : Nat) : Int) := rfl
              cases x5
              all_goals
                go_upto_region 12 with (fail)
                go_cut [83] from 51 to 91 (fun v83 wc => ∃ b : Bool, v83 = .bool b ∧ wc = w)
                case first =>
                  go_wp2_with (go_at_call 83; refine Calls.mono (lower_any _ _) ?_; rintro e w1 ⟨rfl, rfl⟩)
                  all_goals
                    go_meet
                    case rel => exact ⟨_, rfl, rfl⟩
                case rest =>
                  obtain ⟨b, rfl, e⟩ := hcut
                  have e' := e.symm
                  subst e'
                  clear e
                  cases b with
                  | true =>
                    go_wp2
                    exact ⟨⟨_, k + 1, rfl, rfl, hkn⟩, by simp [intOf]; omega⟩
                  | false =>
                    cases h95 : (c == 95) with
                    | true =>
                      cases h48 : (y3 != 48) with
                      | true =>
                        go_wp2
                        go_ret
                        exact RetBool.mk
                      | false =>
                        go_wp2
                        exact ⟨⟨_, k + 1, rfl, rfl, hkn⟩, by simp [intOf]; omega⟩
                    | false =>
                      cases h96 : (y3 == 95) with
                      | true =>
                        go_wp2
                        go_ret
                        exact RetBool.mk
                      | false =>
                        go_wp2
                        exact ⟨⟨_, k + 1, rfl, rfl, hkn⟩, by simp [intOf]; omega⟩
            · have hkb : decide ((k : Int) < (t.size : Int)) = false := decide_eq_false (by omega)
              go_wp2
              go_ret
              exact RetBool.mk
end Go.Proofs.YtgcjaijakbejjaaFmt

/- Proved: cloneStrs (function 23) hands back nil for nil, else a new block that holds the same strings; verbAccepted (25) says just the nine bytes. Conditions: at most 2^20 strings. -/
namespace Go.Proofs.YtgcjaijakbejjaaFmt
open Go.RowKit Go.Proofs.YtgcjaijakbejjaaFmtW.PrintWords

/-- The nine verbs. -/
def vAcc (x : Int) : Bool := x == 37 || x == 99 || x == 115 || x == 98 || x == 100 || x == 105 || x == 117 || x == 111 || x == 120
/-- .. as nested tests. -/
theorem vAcc_t (x : Int) (c : Int) (hc : c = 37 ∨ c = 99 ∨ c = 115 ∨ c = 98 ∨ c = 100 ∨ c = 105 ∨ c = 117 ∨ c = 111 ∨ c = 120) (h : (x == c) = true) : vAcc x = true := by
  have : x = c := by simpa using h
  subst this
  unfold vAcc
  rcases hc with rfl | rfl | rfl | rfl | rfl | rfl | rfl | rfl | rfl <;> decide
set_option maxHeartbeats 1000000 in
set_option maxRecDepth 100000 in
theorem verb_k (x : Int) (w : World) : Calls Tryf.prog 25 #[.int .u8 x] w fun e w' => e = .returned (.bool (vAcc x)) ∧ w' = w := by
  by_cases hx : vAcc x = true
  · rw [hx]
    have : x = 37 ∨ x = 99 ∨ x = 115 ∨ x = 98 ∨ x = 100 ∨ x = 105 ∨ x = 117 ∨ x = 111 ∨ x = 120 := by
      unfold vAcc at hx
      simp only [Bool.or_eq_true, beq_iff_eq] at hx
      omega
    clear hx
    rcases this with rfl | rfl | rfl | rfl | rfl | rfl | rfl | rfl | rfl
    all_goals
      go_enter Tryf.func25, Tryf.ntmps25
      go_wp2
      go_ret
      exact ⟨rfl, rfl⟩
  · have e : vAcc x = false := by simpa using hx
    rw [e]
    unfold vAcc at e
    simp only [Bool.or_eq_false_iff] at e
    obtain ⟨⟨⟨⟨⟨⟨⟨⟨e1, e2⟩, e3⟩, e4⟩, e5⟩, e6⟩, e7⟩, e8⟩, e9⟩ := e
    clear hx
    go_enter Tryf.func25, Tryf.ntmps25
    go_wp2
    go_ret
    exact ⟨rfl, rfl⟩

set_option maxRecDepth 100000 in
theorem clone_nil (w : World) : Calls Tryf.prog 23 #[.slice none 0 0] w fun e w' => e = .returned (.slice none 0 0) ∧ w' = w := by
  have hneq : ∀ W, (binOp .eql 31 (.slice none 0 0) (.slice none 0 0)).run Tryf.prog W = .ok (.bool true) W := fun W => run_eql_slice_nil W 31 9 none 0 0 Tryf.underlying31
  go_enter Tryf.func23, Tryf.ntmps23
  go_wp2
  go_ret
  exact ⟨rfl, rfl⟩

/-- The copy's block, k strings copied. -/
structure Cpy (w : World) (l : List ByteArray) (k : Nat) (w' : World) : Prop where
  bel : Below w.heap.size w w'
  blk : ∃ cs : Array Value, w'.heap[w.heap.size]? = some (.cells cs 9 (0, 0)) ∧ cs.size = l.length ∧ (0 < k → cs[0]? = some (.string (rdOf ByteArray.empty l 0)))
theorem Cpy.put {w w' : World} {l : List ByteArray} {k : Nat} (h : Cpy w l k w') (hk : k < l.length) : Cpy w l (k + 1) (w'.setCell ⟨w.heap.size, k, none⟩ (.string (rdOf ByteArray.empty l (k : Int)))) := by
  obtain ⟨cs, h1, h2, h3⟩ := h.blk
  refine ⟨h.bel.setCell (p := ⟨w.heap.size, k, none⟩) (Nat.le_refl _) _, cs.setIfInBounds k (.string (rdOf ByteArray.empty l (k : Int))), blk_set h1 k _, by simp [h2], fun _ => ?_⟩
  rcases k with _ | k
  · rw [Array.getElem?_setIfInBounds_self_of_lt (by omega)]
    rfl
  · rw [Array.getElem?_setIfInBounds_ne (by omega)]
    exact h3 (by omega)
theorem Cpy.cell {w w' : World} {l : List ByteArray} {k : Nat} (h : Cpy w l k w') (j : Nat) (hj : j < l.length) : ∃ v, w'.cell? ⟨w.heap.size, j, none⟩ = some v := by
  obtain ⟨cs, h1, h2, h3⟩ := h.blk
  exact ⟨cs[j]'(by omega), by rw [blk_cell h1, Array.getElem?_eq_getElem (by omega)]⟩
theorem Cpy.fz {w w' : World} {l : List ByteArray} {k : Nat} (h : Cpy w l k w') (j : Nat) : w'.frozen? ⟨w.heap.size, j, none⟩ = false := by
  obtain ⟨cs, h1, h2, h3⟩ := h.blk
  exact Lib.frozen_of_heap h1 j

theorem info9 : (Tryf.prog.info? 9).map (fun i => (i.zero, i.size, i.bytes)) = some (some (.string ⟨#[]⟩), 1, 16) := by kernel_rfl
theorem mk31 (n : Nat) (hn : n ≤ 1048576) (w : World) : ∃ cs : Array Value, cs.size = n ∧ (Instr.makeSlice 31 (.int .i64 (n : Int)) (.int .i64 (n : Int))).run Tryf.prog w = .ok (.slice (some ⟨w.heap.size, 0, none⟩) n n) (w.alloc (.cells cs 9)) := by
  obtain ⟨i, hi, he⟩ := Option.map_eq_some_iff.1 info9
  simp only [Prod.mk.injEq] at he
  obtain ⟨hz, hs, hb⟩ := he
  have h := run_makeSlice w 31 9 i _ Tryf.underlying31 hi hz .i64 .i64 (n : Int) (n : Int) (by omega) (by omega) (by rw [hs]; simp; omega) (by rw [hb]; omega) (by omega)
  rw [hs] at h
  refine ⟨madeCells (Value.string ⟨#[]⟩).cells ((n : Int).toNat * 1), ?_, ?_⟩
  · rw [size_madeCells]; omega
  · exact h

set_option maxHeartbeats 1000000 in
set_option maxRecDepth 100000 in
theorem clone_k (a : Addr) (cap : Nat) (l : List ByteArray) (w : World) (hC : Kd.C Kd.string w (some a) l.length l) (hl : l.length ≤ 1048576) :
    Calls Tryf.prog 23 #[.slice (some a) l.length cap] w fun e w' => e = .returned (.slice (some ⟨w.heap.size, 0, none⟩) l.length l.length) ∧ Cpy w l l.length w' := by
  have hneq : ∀ W, (binOp .eql 31 (.slice (some a) l.length cap) (.slice none 0 0)).run Tryf.prog W = .ok (.bool false) W := fun W => run_eql_slice_nil W 31 9 (some a) l.length cap Tryf.underlying31
  obtain ⟨cs, hcs, hmk⟩ := mk31 l.length hl w
  have H0 : Hid (Cpy w l 0 (w.alloc (.cells cs 9))) := Lib.hid ⟨(Below.refl _ w).alloc (Nat.le_refl _) _, cs, heap_alloc_new w _, hcs, fun h => by omega⟩
  have HC := Lib.hid hC
  clear hC
  go_enter Tryf.func23, Tryf.ntmps23
  go_wp2
  go_loopw [4] (fun v4 wr => ∃ k : Nat, k ≤ l.length ∧ v4 = .int .i64 k ∧ Hid (Cpy w l k wr)) (fun v4 _ => l.length - (intOf v4).toNat)
  case atStart => exact ⟨0, by omega, rfl, H0⟩
  case round =>
    obtain ⟨k, hk, rfl, HK⟩ := hrel
    by_cases hkl : k < l.length
    · have q0 : decide ((k : Int) < (l.length : Int)) = true := decide_eq_true (by omega)
      have q1 : (k < l.length) = True := eq_true hkl
      obtain ⟨ad, e1, hx⟩ := Kd.at_string (Kd.C_below HC.out HK.out.bel) (k : Int) (by omega) (by omega)
      cases e1
      rw [Int.toNat_natCast] at hx
      obtain ⟨v, hv⟩ := HK.out.cell k hkl
      have fz := HK.out.fz k
      have HP := Lib.hid (HK.out.put hkl)
      go_wp2
      go_roundw
      case measure => simp [intOf]; omega
      case rel => exact ⟨k + 1, by omega, by simp, HP⟩
    · have q0 : decide ((k : Int) < (l.length : Int)) = false := decide_eq_false (by omega)
      obtain rfl : k = l.length := by omega
      go_wp2
      go_ret
      exact ⟨rfl, HK.out⟩
end Go.Proofs.YtgcjaijakbejjaaFmt

/- Proved: the text that the law builds: lit, the percent byte, x: its length, its bytes. Conditions: none. -/
namespace Go.Proofs.YtgcjaijakbejjaaFmt
open Go.RowKit Go.Proofs.YtgcjaijakbejjaaFmtW.PrintWords

/-- lit's bytes as numbers. -/
def litNums (s : ByteArray) : List Int := s.data.toList.map fun b => (b.toNat : Int)
/-- The law's format. -/
def fmtOf (lit : ByteArray) (x : Int) : ByteArray := strOfNums (litNums lit ++ [37, x])
theorem strCells_nums (s : ByteArray) : Lib.strCells s = nums .u8 (litNums s) := by
  simp [Lib.strCells, nums, litNums]
theorem litNums_len (s : ByteArray) : (litNums s).length = s.size := by
  unfold litNums
  rw [List.length_map, Array.length_toList]
  rfl
theorem sn_at (xs : List Int) (k : Nat) (h : k < (strOfNums xs).size) : (((strOfNums xs)[k]'h).toNat : Int) = (UInt8.ofNat (xs.getD k 0).toNat).toNat := by
  have hk : k < xs.length := by rw [strOfNums_size] at h; exact h
  rw [ByteArray.getElem_eq_getElem_data, List.getD_eq_getElem?_getD, List.getElem?_eq_getElem hk]
  simp only [strOfNums, List.getElem_toArray, List.getElem_map, Option.getD_some]
theorem fmtOf_size (lit : ByteArray) (x : Int) : (fmtOf lit x).size = lit.size + 2 := by
  unfold fmtOf
  rw [strOfNums_size, List.length_append, litNums_len]
  rfl
theorem fmtOf_lit (lit : ByteArray) (x : Int) (k : Nat) (h : k < (fmtOf lit x).size) (hk : k < lit.size) : (((fmtOf lit x)[k]'h).toNat : Int) = bt lit (k : Int) := by
  have e := sn_at (litNums lit ++ [37, x]) k h
  have hl : (litNums lit).length = lit.size := litNums_len lit
  have e2 : (litNums lit ++ [37, x]).getD k 0 = bt lit (k : Int) := by
    rw [List.getD_eq_getElem?_getD, List.getElem?_append_left (by omega)]
    rw [List.getElem?_eq_getElem (by omega)]
    unfold bt
    rw [dif_pos (by rw [Int.toNat_natCast]; exact hk)]
    simp only [litNums, List.getElem_map, Option.getD_some, Int.toNat_natCast, Array.getElem_toList, ByteArray.getElem_eq_getElem_data]
  rw [e2] at e
  have hb := bt_range lit (k : Int)
  rw [UInt8.toNat_ofNat'] at e
  unfold fmtOf
  omega
theorem fmtOf_pct (lit : ByteArray) (x : Int) (k : Nat) (h : k < (fmtOf lit x).size) (hk : k = lit.size) : (((fmtOf lit x)[k]'h).toNat : Int) = 37 := by
  have e := sn_at (litNums lit ++ [37, x]) k h
  have hl : (litNums lit).length = lit.size := litNums_len lit
  have e2 : (litNums lit ++ [37, x]).getD k 0 = 37 := by
    rw [List.getD_eq_getElem?_getD, List.getElem?_append_right (by omega)]
    have : k - (litNums lit).length = 0 := by omega
    rw [this]
    rfl
  rw [e2] at e
  exact e
theorem fmtOf_last (lit : ByteArray) (x : Int) (h0 : 0 ≤ x) (h1 : x < 256) (k : Nat) (h : k < (fmtOf lit x).size) (hk : k = lit.size + 1) : (((fmtOf lit x)[k]'h).toNat : Int) = x := by
  have e := sn_at (litNums lit ++ [37, x]) k h
  have hl : (litNums lit).length = lit.size := litNums_len lit
  have e2 : (litNums lit ++ [37, x]).getD k 0 = x := by
    rw [List.getD_eq_getElem?_getD, List.getElem?_append_right (by omega)]
    have : k - (litNums lit).length = 1 := by omega
    rw [this]
    rfl
  rw [e2, UInt8.toNat_ofNat'] at e
  unfold fmtOf
  omega
end Go.Proofs.YtgcjaijakbejjaaFmt
