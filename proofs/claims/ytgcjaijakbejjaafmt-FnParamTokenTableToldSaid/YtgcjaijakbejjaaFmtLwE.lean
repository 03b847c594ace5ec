/- The law of paramToken, walked: it returns true. Conditions: the listed variables as laid. PRINTED by lwa_print.py. -/
import Derived.Test.YtgcjaijakbejjaaFmtLwA
namespace Go.Proofs.YtgcjaijakbejjaaFmt
open Go.RowKit Go.Proofs.YtgcjaijakbejjaaFmtW.PrintWords Go.Proofs.YtgcjaijakbejjaaFmt.PFnDqTokenLongestMatch

set_option maxHeartbeats 8000000 in
set_option maxRecDepth 100000 in
theorem law6_any {s : ByteArray} {w : World} {ea : Addr} {i : Int} (h : Hid (Beg w ea)) : Calls Tryf.prog 6 #[.int .i64 i, .string s] w fun e w' => e = .returned (.bool true) ∧ Below w.heap.size w w' := by
  by_cases hs : s.size ≤ 1048576
  case neg =>
    go_enter Tryf.func6, Tryf.ntmps6
    go_wp2_with (go_at_call 18; refine Calls.mono (bytes_no18 s hs i _ _ rfl) ?_; rintro e w1 ⟨rfl, rfl⟩)
    go_ret
    exact ⟨rfl, Below.refl _ _⟩
  have a1 : decide ((1048576 : Int) < (s.size : Int)) = false := decide_eq_false (by omega)
  by_cases hi0 : i < 0
  · have a2 : decide (i < 0) = true := decide_eq_true hi0
    go_enter Tryf.func6, Tryf.ntmps6
    go_wp2_with (go_at_call 18; refine Calls.mono (bytes_yes18 s hs i _ _ rfl) ?_; rintro e w1 ⟨rfl, rfl⟩)
    go_ret
    exact ⟨rfl, Below.refl _ _⟩
  have a2 : decide (i < 0) = false := decide_eq_false hi0
  by_cases hi4 : 4 < i
  · have a3 : decide (4 < i) = true := decide_eq_true hi4
    go_enter Tryf.func6, Tryf.ntmps6
    go_wp2_with (go_at_call 18; refine Calls.mono (bytes_yes18 s hs i _ _ rfl) ?_; rintro e w1 ⟨rfl, rfl⟩)
    go_ret
    exact ⟨rfl, Below.refl _ _⟩
  have a3 : decide (4 < i) = false := decide_eq_false hi4
  obtain ⟨r, hr, hr'⟩ := clean_f s (by omega)
  cases r with
  | false =>
    go_enter Tryf.func6, Tryf.ntmps6
    go_wp2_with (first
      | (go_at_call 18; refine Calls.mono (bytes_yes18 s hs i _ _ rfl) ?_; rintro e w1 ⟨rfl, rfl⟩)
      | (go_at_call 10; refine Calls.mono (n010_119_zzB1CleanHead.calls 20 s false _ hr) ?_; rintro e w3 ⟨rfl, hd3⟩))
    go_ret
    exact ⟨rfl, hd3.below⟩
  | true =>
  have hc := Lib.hid (hr' rfl)
  by_cases hz : s.size = 0
  · have a4 : ((s.size : Int) == 0) = true := by simp [hz]
    have hR0 : Rn (sF s) s.size 0 = 1114112 := by unfold Rn; rw [if_pos (by omega)]
    have hF : Hid (paramF (Rn (sF s) s.size) (langOf i) = (1, 0)) := Lib.hid (by simp [paramF, hR0])
    have hN : Hid (Rn (sF s) s.size 0 = 1114112) := Lib.hid hR0
    clear hR0
    go_enter Tryf.func6, Tryf.ntmps6
    go_wp2_with (first
      | (go_at_call 18; refine Calls.mono (bytes_yes18 s hs i _ _ rfl) ?_; rintro e w1 ⟨rfl, rfl⟩)
      | (go_at_call 10; refine Calls.mono (n010_119_zzB1CleanHead.calls 20 s true _ hr) ?_; rintro e w3 ⟨rfl, hd3⟩; have HB3 := Lib.hid hd3.below; clear hd3)
      | (go_at_call 11; refine Calls.mono (run_param_is (Lib.hid (beg_below h.out HB3.out)) hs hc hF (K := 0) (Lib.hid rfl) hN) ?_; rintro e w4 ⟨rfl, hb4⟩; have HB4 := Lib.hid hb4; clear hb4))
    go_returns
    exact ⟨rfl, HB3.out.trans (HB4.out.mono HB3.out.size)⟩
  have a4 : ((s.size : Int) == 0) = false := beq_eq_false_iff_ne.2 (by omega)
  obtain ⟨r, hro, hro1, hro2⟩ := rok0 s (by omega)
  cases r with
  | false =>
    have hR0 := hro2 rfl
    have hF : Hid (paramF (Rn (sF s) s.size) (langOf i) = (1, 0)) := Lib.hid (by simp [paramF, hR0])
    have hN : Hid (Rn (sF s) s.size 0 = 1114112) := Lib.hid hR0
    clear hR0
    go_enter Tryf.func6, Tryf.ntmps6
    go_wp2_with (first
      | (go_at_call 18; refine Calls.mono (bytes_yes18 s hs i _ _ rfl) ?_; rintro e w1 ⟨rfl, rfl⟩)
      | (go_at_call 10; refine Calls.mono (n010_119_zzB1CleanHead.calls 20 s true _ hr) ?_; rintro e w3 ⟨rfl, hd3⟩; have HB3 := Lib.hid hd3.below; clear hd3)
      | (go_at_call 11; refine Calls.mono (run_param_is (Lib.hid (beg_below h.out HB3.out)) hs hc hF (K := 0) (Lib.hid rfl) hN) ?_; rintro e w4 ⟨rfl, hb4⟩; have HB4 := Lib.hid hb4; clear hb4)
      | (go_at_call 19; refine Calls.mono (n010_119_zzB1RuneOK.calls 20 s false _ hro) ?_; rintro e w5 ⟨rfl, hd5⟩; have HB5 := Lib.hid hd5.below; clear hd5))
    go_returns
    exact ⟨rfl, HB3.out.trans ((HB4.out.mono HB3.out.size).trans (HB5.out.mono (Nat.le_trans HB3.out.size HB4.out.size)))⟩
  | true =>
  have hR0 := hro1 rfl
  obtain ⟨tok, k, hF⟩ : ∃ tok k, paramF (Rn (sF s) s.size) (langOf i) = (tok, k) := ⟨_, _, rfl⟩
  have hk : k ≤ 5 := by
    have hle := paramF_le (Rn (sF s) s.size) (langOf i)
    rw [hF] at hle
    exact hle
  rcases param_mod hs (by omega) (by omega) hR0 hF with hm | ⟨hm, rfl, rfl⟩
  · clear hR0
    go_enter Tryf.func6, Tryf.ntmps6
    go_wp2_with (first
      | (go_at_call 18; refine Calls.mono (bytes_yes18 s hs i _ _ rfl) ?_; rintro e w1 ⟨rfl, rfl⟩)
      | (go_at_call 10; refine Calls.mono (n010_119_zzB1CleanHead.calls 20 s true _ hr) ?_; rintro e w3 ⟨rfl, hd3⟩; have HB3 := Lib.hid hd3.below; clear hd3)
      | (go_at_call 11; refine Calls.mono (run_param_is (Lib.hid (beg_below h.out HB3.out)) hs hc (Lib.hid hF) (Lib.hid rfl) (Lib.hid rfl)) ?_; rintro e w4 ⟨rfl, hb4⟩; have HB4 := Lib.hid hb4; clear hb4)
      | (go_at_call 19; refine Calls.mono (n010_119_zzB1RuneOK.calls 20 s true _ hro) ?_; rintro e w7 ⟨rfl, hd7⟩; have HB7 := Lib.hid hd7.below; clear hd7)
      | (go_at_call 12; refine Calls.mono (n010_119_zzB1Model.calls 200 2 i s _ _ _ _ hm) ?_; rintro e w5 ⟨rfl, hd5⟩; have HB5 := Lib.hid hd5.below; clear hd5)
      | (go_at_call 13; refine Calls.mono (nextok_any s k hk _) ?_; rintro e w6 ⟨rfl, hd6⟩; have HB6 := Lib.hid hd6.below; clear hd6))
    go_returns
    exact ⟨rfl, HB3.out.trans ((HB4.out.mono HB3.out.size).trans ((HB7.out.mono (Nat.le_trans HB3.out.size HB4.out.size)).trans ((HB5.out.mono (Nat.le_trans HB3.out.size (Nat.le_trans HB4.out.size HB7.out.size))).trans (HB6.out.mono (Nat.le_trans HB3.out.size (Nat.le_trans HB4.out.size (Nat.le_trans HB7.out.size HB5.out.size)))))))⟩
  · clear hR0
    go_enter Tryf.func6, Tryf.ntmps6
    go_wp2_with (first
      | (go_at_call 18; refine Calls.mono (bytes_yes18 s hs i _ _ rfl) ?_; rintro e w1 ⟨rfl, rfl⟩)
      | (go_at_call 10; refine Calls.mono (n010_119_zzB1CleanHead.calls 20 s true _ hr) ?_; rintro e w3 ⟨rfl, hd3⟩; have HB3 := Lib.hid hd3.below; clear hd3)
      | (go_at_call 11; refine Calls.mono (run_param_is (Lib.hid (beg_below h.out HB3.out)) hs hc (Lib.hid hF) (K := 0) (Lib.hid rfl) (Lib.hid rfl)) ?_; rintro e w4 ⟨rfl, hb4⟩; have HB4 := Lib.hid hb4; clear hb4)
      | (go_at_call 19; refine Calls.mono (n010_119_zzB1RuneOK.calls 20 s true _ hro) ?_; rintro e w7 ⟨rfl, hd7⟩; have HB7 := Lib.hid hd7.below; clear hd7)
      | (go_at_call 12; refine Calls.mono (n010_119_zzB1Model.calls 200 2 i s _ _ _ _ hm) ?_; rintro e w5 ⟨rfl, hd5⟩; have HB5 := Lib.hid hd5.below; clear hd5)
      | (go_at_call 13; refine Calls.mono (nextok_any s 0 hk _) ?_; rintro e w6 ⟨rfl, hd6⟩; have HB6 := Lib.hid hd6.below; clear hd6))
    go_returns
    exact ⟨rfl, HB3.out.trans ((HB4.out.mono HB3.out.size).trans ((HB7.out.mono (Nat.le_trans HB3.out.size HB4.out.size)).trans ((HB5.out.mono (Nat.le_trans HB3.out.size (Nat.le_trans HB4.out.size HB7.out.size))).trans (HB6.out.mono (Nat.le_trans HB3.out.size (Nat.le_trans HB4.out.size (Nat.le_trans HB7.out.size HB5.out.size)))))))⟩
end Go.Proofs.YtgcjaijakbejjaaFmt
