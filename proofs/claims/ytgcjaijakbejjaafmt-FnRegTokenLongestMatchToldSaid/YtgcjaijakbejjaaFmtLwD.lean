/- The law of regToken, walked: it returns true. Conditions: the listed variables as laid. PRINTED by lwa_print.py. -/
import Derived.Test.YtgcjaijakbejjaaFmtLwA
namespace Go.Proofs.YtgcjaijakbejjaaFmt
open Go.RowKit Go.Proofs.YtgcjaijakbejjaaFmtW.PrintWords Go.Proofs.YtgcjaijakbejjaaFmt.PFnDqTokenLongestMatch

set_option maxHeartbeats 2000000 in
set_option maxRecDepth 100000 in
theorem law5_96 {s : ByteArray} {w : World} {ea : Addr} {i : Int} (h : Hid (Beg w ea)) (hs : s.size ≤ 1048576) (a1 : decide ((1048576 : Int) < (s.size : Int)) = false) (a2 : decide (i < 0) = false) (a3 : decide (4 < i) = false) (a4 : ((s.size : Int) == 0) = false) (q0 : (0 < s.size) = True) (hx : ∀ h : 0 < s.size, ((s[0]'h).toNat : Int) = sF s 0) (hst : start17 (sF s 0) = true) (hst0 : Hid (Rn (sF s) s.size 0 = 96 ∨ Rn (sF s) s.size 0 = 39 ∨ Rn (sF s) s.size 0 = 34 ∨ Rn (sF s) s.size 0 = 38 ∨ Rn (sF s) s.size 0 = 124 ∨ Rn (sF s) s.size 0 = 36 ∨ Rn (sF s) s.size 0 = 40 ∨ Rn (sF s) s.size 0 = 41 ∨ Rn (sF s) s.size 0 = 59 ∨ Rn (sF s) s.size 0 = 60 ∨ Rn (sF s) s.size 0 = 62)) (hr : n010_119_zzB1CleanHead.f 20 s = some true) (hc : Hid (Clean (sF s) s.size)) (b96 : (sF s 0 == 96) = true) (hF : Hid (regF (Rn (sF s) s.size) (langOf i) = (9, 0))) (hN : Hid (Rn (sF s) s.size 0 = 96)) : Calls Tryf.prog 5 #[.int .i64 i, .string s] w fun e w' => e = .returned (.bool true) ∧ Below w.heap.size w w' := by
  go_enter Tryf.func5, Tryf.ntmps5
  go_wp2_with (first
    | (go_at_call 16; refine Calls.mono (bytes_yes16 s hs i _ _ rfl) ?_; rintro e w1 ⟨rfl, rfl⟩)
    | (go_at_call 17; refine Calls.mono (start17_is _ _ hst _) ?_; rintro e w2 ⟨rfl, rfl⟩)
    | (go_at_call 10; refine Calls.mono (n010_119_zzB1CleanHead.calls 20 s true _ hr) ?_; rintro e w3 ⟨rfl, hd3⟩; have HB3 := Lib.hid hd3.below; clear hd3)
    | (go_at_call 11; refine Calls.mono (run_reg_is (Lib.hid (beg_below h.out HB3.out)) hs hc hst0 hF (K := 0) (Lib.hid rfl) hN) ?_; rintro e w4 ⟨rfl, hb4⟩; have HB4 := Lib.hid hb4; clear hb4))
  go_returns
  exact ⟨rfl, HB3.out.trans (HB4.out.mono HB3.out.size)⟩

set_option maxHeartbeats 2000000 in
set_option maxRecDepth 100000 in
theorem law5_main {s : ByteArray} {w : World} {ea : Addr} {i : Int} (h : Hid (Beg w ea)) (hs : s.size ≤ 1048576) (a1 : decide ((1048576 : Int) < (s.size : Int)) = false) (a2 : decide (i < 0) = false) (a3 : decide (4 < i) = false) (a4 : ((s.size : Int) == 0) = false) (q0 : (0 < s.size) = True) (hx : ∀ h : 0 < s.size, ((s[0]'h).toNat : Int) = sF s 0) (hst : start17 (sF s 0) = true) (hst0 : Hid (Rn (sF s) s.size 0 = 96 ∨ Rn (sF s) s.size 0 = 39 ∨ Rn (sF s) s.size 0 = 34 ∨ Rn (sF s) s.size 0 = 38 ∨ Rn (sF s) s.size 0 = 124 ∨ Rn (sF s) s.size 0 = 36 ∨ Rn (sF s) s.size 0 = 40 ∨ Rn (sF s) s.size 0 = 41 ∨ Rn (sF s) s.size 0 = 59 ∨ Rn (sF s) s.size 0 = 60 ∨ Rn (sF s) s.size 0 = 62)) (hr : n010_119_zzB1CleanHead.f 20 s = some true) (hc : Hid (Clean (sF s) s.size)) (b96 : (sF s 0 == 96) = false) {tok : Int} {k : Nat} (hF : Hid (regF (Rn (sF s) s.size) (langOf i) = (tok, k))) (hk : k ≤ 5) (hm : n010_119_zzB1Model.f 200 0 i s = some (tok, (k : Int), true)) : Calls Tryf.prog 5 #[.int .i64 i, .string s] w fun e w' => e = .returned (.bool true) ∧ Below w.heap.size w w' := by
  go_enter Tryf.func5, Tryf.ntmps5
  go_wp2_with (first
    | (go_at_call 16; refine Calls.mono (bytes_yes16 s hs i _ _ rfl) ?_; rintro e w1 ⟨rfl, rfl⟩)
    | (go_at_call 17; refine Calls.mono (start17_is _ _ hst _) ?_; rintro e w2 ⟨rfl, rfl⟩)
    | (go_at_call 10; refine Calls.mono (n010_119_zzB1CleanHead.calls 20 s true _ hr) ?_; rintro e w3 ⟨rfl, hd3⟩; have HB3 := Lib.hid hd3.below; clear hd3)
    | (go_at_call 11; refine Calls.mono (run_reg_is (Lib.hid (beg_below h.out HB3.out)) hs hc hst0 hF (Lib.hid rfl) (Lib.hid rfl)) ?_; rintro e w4 ⟨rfl, hb4⟩; have HB4 := Lib.hid hb4; clear hb4)
    | (go_at_call 12; refine Calls.mono (n010_119_zzB1Model.calls 200 0 i s _ _ _ _ hm) ?_; rintro e w5 ⟨rfl, hd5⟩; have HB5 := Lib.hid hd5.below; clear hd5)
    | (go_at_call 13; refine Calls.mono (nextok_any s k hk _) ?_; rintro e w6 ⟨rfl, hd6⟩; have HB6 := Lib.hid hd6.below; clear hd6))
  go_returns
  exact ⟨rfl, HB3.out.trans ((HB4.out.mono HB3.out.size).trans ((HB5.out.mono (Nat.le_trans HB3.out.size HB4.out.size)).trans (HB6.out.mono (Nat.le_trans HB3.out.size (Nat.le_trans HB4.out.size HB5.out.size)))))⟩

set_option maxHeartbeats 8000000 in
set_option maxRecDepth 100000 in
theorem law5_any {s : ByteArray} {w : World} {ea : Addr} {i : Int} (h : Hid (Beg w ea)) : Calls Tryf.prog 5 #[.int .i64 i, .string s] w fun e w' => e = .returned (.bool true) ∧ Below w.heap.size w w' := by
  by_cases hs : s.size ≤ 1048576
  case neg =>
    go_enter Tryf.func5, Tryf.ntmps5
    go_wp2_with (go_at_call 16; refine Calls.mono (bytes_no16 s hs i _ _ rfl) ?_; rintro e w1 ⟨rfl, rfl⟩)
    go_ret
    exact ⟨rfl, Below.refl _ _⟩
  have a1 : decide ((1048576 : Int) < (s.size : Int)) = false := decide_eq_false (by omega)
  by_cases hi0 : i < 0
  · have a2 : decide (i < 0) = true := decide_eq_true hi0
    go_enter Tryf.func5, Tryf.ntmps5
    go_wp2_with (go_at_call 16; refine Calls.mono (bytes_yes16 s hs i _ _ rfl) ?_; rintro e w1 ⟨rfl, rfl⟩)
    go_ret
    exact ⟨rfl, Below.refl _ _⟩
  have a2 : decide (i < 0) = false := decide_eq_false hi0
  by_cases hi4 : 4 < i
  · have a3 : decide (4 < i) = true := decide_eq_true hi4
    go_enter Tryf.func5, Tryf.ntmps5
    go_wp2_with (go_at_call 16; refine Calls.mono (bytes_yes16 s hs i _ _ rfl) ?_; rintro e w1 ⟨rfl, rfl⟩)
    go_ret
    exact ⟨rfl, Below.refl _ _⟩
  have a3 : decide (4 < i) = false := decide_eq_false hi4
  by_cases hz : s.size = 0
  · have a4 : ((s.size : Int) == 0) = true := by simp [hz]
    go_enter Tryf.func5, Tryf.ntmps5
    go_wp2_with (go_at_call 16; refine Calls.mono (bytes_yes16 s hs i _ _ rfl) ?_; rintro e w1 ⟨rfl, rfl⟩)
    go_ret
    exact ⟨rfl, Below.refl _ _⟩
  have a4 : ((s.size : Int) == 0) = false := beq_eq_false_iff_ne.2 (by omega)
  have q0 : (0 < s.size) = True := eq_true (by omega)
  have hx : ∀ h : 0 < s.size, ((s[0]'h).toNat : Int) = sF s 0 := fun h => (bt_at s 0 h).trans (bt_sF s 0)
  cases hst : start17 (sF s 0) with
  | false =>
    go_enter Tryf.func5, Tryf.ntmps5
    go_wp2_with (first
      | (go_at_call 16; refine Calls.mono (bytes_yes16 s hs i _ _ rfl) ?_; rintro e w1 ⟨rfl, rfl⟩)
      | (go_at_call 17; refine Calls.mono (start17_is _ _ hst _) ?_; rintro e w2 ⟨rfl, rfl⟩))
    go_ret
    exact ⟨rfl, Below.refl _ _⟩
  | true =>
  have hR0 : Rn (sF s) s.size 0 = sF s 0 := Rn_ascii (by omega) (by
    simp only [start17, Bool.or_eq_true, beq_iff_eq] at hst
    omega)
  have hst0 : Hid (Rn (sF s) s.size 0 = 96 ∨ Rn (sF s) s.size 0 = 39 ∨ Rn (sF s) s.size 0 = 34 ∨ Rn (sF s) s.size 0 = 38 ∨ Rn (sF s) s.size 0 = 124 ∨ Rn (sF s) s.size 0 = 36 ∨ Rn (sF s) s.size 0 = 40 ∨ Rn (sF s) s.size 0 = 41 ∨ Rn (sF s) s.size 0 = 59 ∨ Rn (sF s) s.size 0 = 60 ∨ Rn (sF s) s.size 0 = 62) := Lib.hid (by
    rw [hR0]
    simp only [start17, Bool.or_eq_true, beq_iff_eq] at hst
    omega)
  obtain ⟨r, hr, hr'⟩ := clean_f s (by omega)
  cases r with
  | false =>
    go_enter Tryf.func5, Tryf.ntmps5
    go_wp2_with (first
      | (go_at_call 16; refine Calls.mono (bytes_yes16 s hs i _ _ rfl) ?_; rintro e w1 ⟨rfl, rfl⟩)
      | (go_at_call 17; refine Calls.mono (start17_is _ _ hst _) ?_; rintro e w2 ⟨rfl, rfl⟩)
      | (go_at_call 10; refine Calls.mono (n010_119_zzB1CleanHead.calls 20 s false _ hr) ?_; rintro e w3 ⟨rfl, hd3⟩))
    go_ret
    exact ⟨rfl, hd3.below⟩
  | true =>
  have hc := Lib.hid (hr' rfl)
  by_cases h96 : sF s 0 = 96
  · exact law5_96 h hs a1 a2 a3 a4 q0 hx hst hst0 hr hc (by simp [h96]) (Lib.hid (by simp [regF, hR0, h96])) (Lib.hid (hR0.trans h96))
  have hst1 : Rn (sF s) s.size 0 = 39 ∨ Rn (sF s) s.size 0 = 34 ∨ Rn (sF s) s.size 0 = 38 ∨ Rn (sF s) s.size 0 = 124 ∨ Rn (sF s) s.size 0 = 36 ∨ Rn (sF s) s.size 0 = 40 ∨ Rn (sF s) s.size 0 = 41 ∨ Rn (sF s) s.size 0 = 59 ∨ Rn (sF s) s.size 0 = 60 ∨ Rn (sF s) s.size 0 = 62 := by
    have := hst0.out
    have : Rn (sF s) s.size 0 ≠ 96 := by rw [hR0]; exact h96
    omega
  obtain ⟨tok, k, hF⟩ : ∃ tok k, regF (Rn (sF s) s.size) (langOf i) = (tok, k) := ⟨_, _, rfl⟩
  have hk : k ≤ 5 := by
    have hle := regF_le (Rn (sF s) s.size) (langOf i)
    rw [hF] at hle
    exact hle
  exact law5_main h hs a1 a2 a3 a4 q0 hx hst hst0 hr hc (beq_eq_false_iff_ne.2 h96) (Lib.hid hF) hk (reg_mod hs (by omega) (by omega) hst1 hF)
end Go.Proofs.YtgcjaijakbejjaaFmt
