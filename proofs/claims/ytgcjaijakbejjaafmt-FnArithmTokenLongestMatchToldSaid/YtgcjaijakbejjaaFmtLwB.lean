/- The law of arithmToken, walked: it returns true. Conditions: the listed variables as laid. PRINTED by lwa_print.py. -/
import Derived.Test.YtgcjaijakbejjaaFmtLwA
namespace Go.Proofs.YtgcjaijakbejjaaFmt
open Go.RowKit Go.Proofs.YtgcjaijakbejjaaFmtW.PrintWords Go.Proofs.YtgcjaijakbejjaaFmt.PFnDqTokenLongestMatch

set_option maxHeartbeats 8000000 in
set_option maxRecDepth 100000 in
theorem law3_any {s : ByteArray} {w : World} {ea : Addr} {i : Int} (h : Hid (Beg w ea)) : Calls Tryf.prog 3 #[.int .i64 i, .string s] w fun e w' => e = .returned (.bool true) ∧ Below w.heap.size w w' := by
  by_cases hs : s.size ≤ 1048576
  case neg =>
    go_enter Tryf.func3, Tryf.ntmps3
    go_wp2_with (go_at_call 8; refine Calls.mono (bytes_no8 s hs i _ _ rfl) ?_; rintro e w1 ⟨rfl, rfl⟩)
    go_ret
    exact ⟨rfl, Below.refl _ _⟩
  have a1 : decide ((1048576 : Int) < (s.size : Int)) = false := decide_eq_false (by omega)
  by_cases hi0 : i < 0
  · have a2 : decide (i < 0) = true := decide_eq_true hi0
    go_enter Tryf.func3, Tryf.ntmps3
    go_wp2_with (go_at_call 8; refine Calls.mono (bytes_yes8 s hs i _ _ rfl) ?_; rintro e w1 ⟨rfl, rfl⟩)
    go_ret
    exact ⟨rfl, Below.refl _ _⟩
  have a2 : decide (i < 0) = false := decide_eq_false hi0
  by_cases hi4 : 4 < i
  · have a3 : decide (4 < i) = true := decide_eq_true hi4
    go_enter Tryf.func3, Tryf.ntmps3
    go_wp2_with (go_at_call 8; refine Calls.mono (bytes_yes8 s hs i _ _ rfl) ?_; rintro e w1 ⟨rfl, rfl⟩)
    go_ret
    exact ⟨rfl, Below.refl _ _⟩
  have a3 : decide (4 < i) = false := decide_eq_false hi4
  by_cases hz : s.size = 0
  · have a4 : ((s.size : Int) == 0) = true := by simp [hz]
    go_enter Tryf.func3, Tryf.ntmps3
    go_wp2_with (go_at_call 8; refine Calls.mono (bytes_yes8 s hs i _ _ rfl) ?_; rintro e w1 ⟨rfl, rfl⟩)
    go_ret
    exact ⟨rfl, Below.refl _ _⟩
  have a4 : ((s.size : Int) == 0) = false := beq_eq_false_iff_ne.2 (by omega)
  have q0 : (0 < s.size) = True := eq_true (by omega)
  have hx : ∀ h : 0 < s.size, ((s[0]'h).toNat : Int) = sF s 0 := fun h => (bt_at s 0 h).trans (bt_sF s 0)
  cases hst : start9 (sF s 0) with
  | false =>
    go_enter Tryf.func3, Tryf.ntmps3
    go_wp2_with (first
      | (go_at_call 8; refine Calls.mono (bytes_yes8 s hs i _ _ rfl) ?_; rintro e w1 ⟨rfl, rfl⟩)
      | (go_at_call 9; refine Calls.mono (start9_is _ _ hst _) ?_; rintro e w2 ⟨rfl, rfl⟩))
    go_ret
    exact ⟨rfl, Below.refl _ _⟩
  | true =>
  have hR0 : Rn (sF s) s.size 0 = sF s 0 := Rn_ascii (by omega) (by
    simp only [start9, Bool.or_eq_true, beq_iff_eq] at hst
    omega)
  have hst0 : Hid (Rn (sF s) s.size 0 = 33 ∨ Rn (sF s) s.size 0 = 61 ∨ Rn (sF s) s.size 0 = 126 ∨ Rn (sF s) s.size 0 = 40 ∨ Rn (sF s) s.size 0 = 41 ∨ Rn (sF s) s.size 0 = 38 ∨ Rn (sF s) s.size 0 = 124 ∨ Rn (sF s) s.size 0 = 60 ∨ Rn (sF s) s.size 0 = 62 ∨ Rn (sF s) s.size 0 = 43 ∨ Rn (sF s) s.size 0 = 45 ∨ Rn (sF s) s.size 0 = 37 ∨ Rn (sF s) s.size 0 = 42 ∨ Rn (sF s) s.size 0 = 47 ∨ Rn (sF s) s.size 0 = 94 ∨ Rn (sF s) s.size 0 = 91 ∨ Rn (sF s) s.size 0 = 93 ∨ Rn (sF s) s.size 0 = 44 ∨ Rn (sF s) s.size 0 = 63 ∨ Rn (sF s) s.size 0 = 58 ∨ Rn (sF s) s.size 0 = 35 ∨ Rn (sF s) s.size 0 = 46) := Lib.hid (by
    rw [hR0]
    simp only [start9, Bool.or_eq_true, beq_iff_eq] at hst
    omega)
  obtain ⟨r, hr, hr'⟩ := clean_f s (by omega)
  cases r with
  | false =>
    go_enter Tryf.func3, Tryf.ntmps3
    go_wp2_with (first
      | (go_at_call 8; refine Calls.mono (bytes_yes8 s hs i _ _ rfl) ?_; rintro e w1 ⟨rfl, rfl⟩)
      | (go_at_call 9; refine Calls.mono (start9_is _ _ hst _) ?_; rintro e w2 ⟨rfl, rfl⟩)
      | (go_at_call 10; refine Calls.mono (n010_119_zzB1CleanHead.calls 20 s false _ hr) ?_; rintro e w3 ⟨rfl, hd3⟩))
    go_ret
    exact ⟨rfl, hd3.below⟩
  | true =>
  have hc := Lib.hid (hr' rfl)
  obtain ⟨tok, k, hF⟩ : ∃ tok k, arithmF (Rn (sF s) s.size) (langOf i) = (tok, k) := ⟨_, _, rfl⟩
  have hk : k ≤ 5 := by
    have hle := arithmF_le (Rn (sF s) s.size) (langOf i)
    rw [hF] at hle
    exact hle
  have hm := arithm_mod hs (by omega) (by omega) hst0.out hF
  go_enter Tryf.func3, Tryf.ntmps3
  go_wp2_with (first
    | (go_at_call 8; refine Calls.mono (bytes_yes8 s hs i _ _ rfl) ?_; rintro e w1 ⟨rfl, rfl⟩)
    | (go_at_call 9; refine Calls.mono (start9_is _ _ hst _) ?_; rintro e w2 ⟨rfl, rfl⟩)
    | (go_at_call 10; refine Calls.mono (n010_119_zzB1CleanHead.calls 20 s true _ hr) ?_; rintro e w3 ⟨rfl, hd3⟩; have HB3 := Lib.hid hd3.below; clear hd3)
    | (go_at_call 11; refine Calls.mono (run_arithm_is (Lib.hid (beg_below h.out HB3.out)) hs hc hst0 (Lib.hid hF) (Lib.hid rfl) (Lib.hid rfl)) ?_; rintro e w4 ⟨rfl, hb4⟩; have HB4 := Lib.hid hb4; clear hb4)
    | (go_at_call 12; refine Calls.mono (n010_119_zzB1Model.calls 200 3 i s _ _ _ _ hm) ?_; rintro e w5 ⟨rfl, hd5⟩; have HB5 := Lib.hid hd5.below; clear hd5)
    | (go_at_call 13; refine Calls.mono (nextok_any s k hk _) ?_; rintro e w6 ⟨rfl, hd6⟩; have HB6 := Lib.hid hd6.below; clear hd6))
  go_returns
  exact ⟨rfl, HB3.out.trans ((HB4.out.mono HB3.out.size).trans ((HB5.out.mono (Nat.le_trans HB3.out.size HB4.out.size)).trans (HB6.out.mono (Nat.le_trans HB3.out.size (Nat.le_trans HB4.out.size HB5.out.size)))))⟩
end Go.Proofs.YtgcjaijakbejjaaFmt
