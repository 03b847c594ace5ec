/- Proved: contracts of zzB1RuneOK, zzB1NextOK, zzB1CleanHead, zzB1Run. Conditions: as each theorem says. -/
import Derived.Test.YtgcjaijakbejjaaFmtGe
import Derived.Test.YtgcjaijakbejjaaFmtPFnDqTokenLongestMatchx6
import Derived.Test.YtgcjaijakbejjaaFmtPFnDqTokenLongestMatchx1
import Derived.Test.YtgcjaijakbejjaaFmtGf
import Derived.OwnWalk
import Derived.Handy
/- zzB1RuneOK is: the bytes do not decode to (U+FFFD, 1). Conditions: the first byte is at least 128. -/
namespace Go.Proofs.YtgcjaijakbejjaaFmt
open Go.RowKit Go.Proofs.YtgcjaijakbejjaaFmtW.PrintWords Go.Proofs.YtgcjaijakbejjaaFmt.PFnDqTokenLongestMatch

/-- The table of UTF-8, on four bytes and a length. -/
def RP (b0 b1 b2 b3 : Int) (n : Nat) : Prop :=
  (194 ≤ b0 ∧ b0 ≤ 223 ∧ 2 ≤ n ∧ 128 ≤ b1 ∧ b1 ≤ 191) ∨
  (224 ≤ b0 ∧ b0 ≤ 239 ∧ 3 ≤ n ∧ (b0 = 224 → 160 ≤ b1) ∧ 128 ≤ b1 ∧ (b0 = 237 → b1 ≤ 159) ∧ b1 ≤ 191 ∧ 128 ≤ b2 ∧ b2 ≤ 191) ∨
  (240 ≤ b0 ∧ b0 ≤ 244 ∧ 4 ≤ n ∧ (b0 = 240 → 144 ≤ b1) ∧ 128 ≤ b1 ∧ (b0 = 244 → b1 ≤ 143) ∧ b1 ≤ 191 ∧ 128 ≤ b2 ∧ b2 ≤ 191 ∧ 128 ≤ b3 ∧ b3 ≤ 191)

theorem bt_get (t : ByteArray) (j : Nat) : bt t (j : Int) = ((t.get! j).toNat : Int) := by
  unfold bt
  simp only [Int.toNat_natCast]
  by_cases h : j < t.size
  · rw [dif_pos h]
    have h' : j < t.data.size := h
    have e : t.get! j = t[j]'h := by
      simp only [ByteArray.get!, ByteArray.getElem_eq_getElem_data]
      exact getElem!_pos t.data j h'
    rw [e]
  · rw [dif_neg h]
    have h' : ¬ j < t.data.size := h
    have e : t.get! j = 0 := by
      simp only [ByteArray.get!]
      exact getElem!_neg t.data j h'
    rw [e]
    rfl
theorem bt_lt (t : ByteArray) (j : Int) : 0 ≤ bt t j ∧ bt t j < 256 := by
  unfold bt
  split
  · rename_i h; have := (t[j.toNat]'h).toNat_lt; omega
  · omega

set_option maxRecDepth 100000 in
theorem decode_RP (t : ByteArray) (h : 128 ≤ bt t 0) : Utf8.decode t 0 = (65533, 1) ↔ ¬ RP (bt t 0) (bt t 1) (bt t 2) (bt t 3) t.size := by
  have e0 : bt t 0 = ((t.get! 0).toNat : Int) := bt_get t 0
  have e1 : bt t 1 = ((t.get! 1).toNat : Int) := bt_get t 1
  have e2 : bt t 2 = ((t.get! 2).toNat : Int) := bt_get t 2
  have e3 : bt t 3 = ((t.get! 3).toNat : Int) := bt_get t 3
  have l0 := (t.get! 0).toNat_lt
  have l1 := (t.get! 1).toNat_lt
  have l2 := (t.get! 2).toNat_lt
  have l3 := (t.get! 3).toNat_lt
  rw [e0] at h
  rw [e0, e1, e2, e3]
  unfold Utf8.decode
  dsimp only
  simp only [Nat.zero_add, Nat.add_zero]
  clear e0 e1 e2 e3
  have h1 : ∀ (c n : Nat) (P : Prop), n ≠ 1 → (((c, n) = (65533, 1) ↔ ¬ P) ↔ P) := fun c n P hn => by
    have : ¬ (c, n) = (65533, 1) := fun e => hn (Prod.mk.inj e).2
    simp [this]
  have h2 : ∀ (P : Prop), (((Utf8.runeError, 1) = (65533, 1) ↔ ¬ P) ↔ ¬ P) := fun P => by simp [Utf8.runeError]
  rw [if_neg (by omega)]
  simp only [Utf8.valid, Bool.and_eq_true, Bool.or_eq_true, decide_eq_true_eq, beq_iff_eq, ge_iff_le]
  split
  · split
    · rw [h1 _ _ _ (by omega)]; unfold RP; omega
    · rw [h2]; unfold RP; omega
  · split
    · split
      · rw [h1 _ _ _ (by omega)]; unfold RP; omega
      · rw [h2]; unfold RP; omega
    · split
      · split
        · rw [h1 _ _ _ (by omega)]; unfold RP; omega
        · rw [h2]; unfold RP; omega
      · rw [h2]; unfold RP; omega

theorem decode_le (t : ByteArray) : (Utf8.decode t 0).1 ≤ 1114111 := by
  unfold Utf8.decode
  dsimp only
  simp only [Nat.zero_add, Nat.add_zero, Utf8.valid, Utf8.runeError, Bool.and_eq_true, Bool.or_eq_true, decide_eq_true_eq, beq_iff_eq, ge_iff_le]
  repeat' split
  all_goals (simp only; omega)

theorem rok_j4 (k : Nat) (x0 : ByteArray) (x4 : Int) (x5 : Int) (x6 : Int) : n010_119_zzB1RuneOK.j4 (k + 1) x0 x4 x5 x6 = (if (x0.size : Int) < (wrap64 (x4 + 1)) then (some false) else (if 1 < (x0.size : Int) then (if (bt x0 1) < x5 then (n010_119_zzB1RuneOK.j5 k x0 x4 true) else (n010_119_zzB1RuneOK.j5 k x0 x4 (decide ((bt x0 1) > x6)))) else (none))) := by
  conv => lhs; unfold n010_119_zzB1RuneOK.j4
theorem rok_j0 (k : Nat) (x0 : ByteArray) (x3 : Int) (x5 : Int) (x6 : Int) (x12 : Bool) : n010_119_zzB1RuneOK.j0 (k + 1) x0 x3 x5 x6 x12 = (if x12 = true then (n010_119_zzB1RuneOK.j4 k x0 1 x5 x6) else (if x3 = 224 then (n010_119_zzB1RuneOK.j4 k x0 2 160 x6) else (if x3 ≥ 225 then (n010_119_zzB1RuneOK.j1 k x0 x3 x5 x6 (decide (x3 ≤ 236))) else (n010_119_zzB1RuneOK.j1 k x0 x3 x5 x6 false)))) := by
  conv => lhs; unfold n010_119_zzB1RuneOK.j0
theorem rok_j1 (k : Nat) (x0 : ByteArray) (x3 : Int) (x5 : Int) (x6 : Int) (x22 : Bool) : n010_119_zzB1RuneOK.j1 (k + 1) x0 x3 x5 x6 x22 = (if x22 = true then (n010_119_zzB1RuneOK.j2 k x0 x3 x5 x6 x22) else (if x3 = 238 then (n010_119_zzB1RuneOK.j2 k x0 x3 x5 x6 (x3 == 238)) else (n010_119_zzB1RuneOK.j2 k x0 x3 x5 x6 (x3 == 239)))) := by
  conv => lhs; unfold n010_119_zzB1RuneOK.j1
theorem rok_j2 (k : Nat) (x0 : ByteArray) (x3 : Int) (x5 : Int) (x6 : Int) (x22 : Bool) : n010_119_zzB1RuneOK.j2 (k + 1) x0 x3 x5 x6 x22 = (if x22 = true then (n010_119_zzB1RuneOK.j4 k x0 2 x5 x6) else (if x3 = 237 then (n010_119_zzB1RuneOK.j4 k x0 2 x5 159) else (if x3 = 240 then (n010_119_zzB1RuneOK.j4 k x0 3 144 x6) else (if x3 ≥ 241 then (n010_119_zzB1RuneOK.j3 k x0 x3 x5 x6 (decide (x3 ≤ 243))) else (n010_119_zzB1RuneOK.j3 k x0 x3 x5 x6 false))))) := by
  conv => lhs; unfold n010_119_zzB1RuneOK.j2
theorem rok_j3 (k : Nat) (x0 : ByteArray) (x3 : Int) (x5 : Int) (x6 : Int) (x39 : Bool) : n010_119_zzB1RuneOK.j3 (k + 1) x0 x3 x5 x6 x39 = (if x39 = true then (n010_119_zzB1RuneOK.j4 k x0 3 x5 x6) else (if x3 = 244 then (n010_119_zzB1RuneOK.j4 k x0 3 x5 143) else (some false))) := by
  conv => lhs; unfold n010_119_zzB1RuneOK.j3
theorem rok_l0 (k : Nat) (x0 : ByteArray) (x4 x7 : Int) : n010_119_zzB1RuneOK.l0 (k + 1) x0 x4 x7 = (if x7 ≤ x4 then (if 0 ≤ x7 then (if x7 < (x0.size : Int) then (if (bt x0 x7) < 128 then (some false) else (if (bt x0 x7) > 191 then (some false) else (n010_119_zzB1RuneOK.l0 k x0 x4 (wrap64 (x7 + 1))))) else (none)) else (none)) else (some true)) := by
  conv => lhs; unfold n010_119_zzB1RuneOK.l0
theorem rok_l0_1 (t : ByteArray) (k : Nat) : n010_119_zzB1RuneOK.l0 (k + 1) t 1 2 = some true := by
  rw [rok_l0, if_neg (by omega)]
theorem rok_l0_ge (t : ByteArray) (k : Nat) (n i : Int) (h : n < i) : n010_119_zzB1RuneOK.l0 (k + 1) t n i = some true := by
  rw [rok_l0, if_neg (by omega)]
theorem rok_l0_2 (t : ByteArray) (k : Nat) (i : Int) (hi : 0 ≤ i) (hi' : i < 1000) (h : i < (t.size : Int)) : n010_119_zzB1RuneOK.l0 (k + 2) t i i = some (decide (128 ≤ bt t i ∧ bt t i ≤ 191)) := by
  rw [rok_l0]
  have hw : wrap64 (i + 1) = i + 1 := IntWalk.wrap64_in _ ⟨by omega, by omega⟩
  rw [if_pos (by omega), if_pos hi, if_pos h, hw, rok_l0_ge t k i (i + 1) (by omega)]
  by_cases h1 : bt t i < 128
  · rw [if_pos h1, decide_eq_false (by omega)]
  · by_cases h2 : bt t i > 191
    · rw [if_neg h1, if_pos h2, decide_eq_false (by omega)]
    · rw [if_neg h1, if_neg h2, decide_eq_true (by omega)]
theorem rok_l0_3 (t : ByteArray) (k : Nat) (h : 4 ≤ t.size) : n010_119_zzB1RuneOK.l0 (k + 3) t 3 2 = some (decide (128 ≤ bt t 2 ∧ bt t 2 ≤ 191 ∧ 128 ≤ bt t 3 ∧ bt t 3 ≤ 191)) := by
  have h3 := rok_l0_2 t k 3 (by omega) (by omega) (by omega)
  rw [rok_l0]
  have hw : wrap64 ((2 : Int) + 1) = 3 := by unfold wrap64; omega
  rw [if_pos (by omega), if_pos (by omega), if_pos (by omega), hw, h3]
  by_cases h1 : bt t 2 < 128
  · rw [if_pos h1, decide_eq_false (by omega)]
  · by_cases h2 : bt t 2 > 191
    · rw [if_neg h1, if_pos h2, decide_eq_false (by omega)]
    · rw [if_neg h1, if_neg h2]
      congr 1
      exact decide_eq_decide.2 (by omega)

theorem rok_j5 (t : ByteArray) (k : Nat) (n : Int) (x : Bool) : n010_119_zzB1RuneOK.j5 (k + 1) t n x = if x = true then some false else n010_119_zzB1RuneOK.l0 k t n 2 := by
  conv => lhs; unfold n010_119_zzB1RuneOK.j5
theorem rok_j4_1 (t : ByteArray) (k : Nat) (lo hi : Int) : n010_119_zzB1RuneOK.j4 (k + 3) t 1 lo hi = some (decide (2 ≤ t.size ∧ lo ≤ bt t 1 ∧ bt t 1 ≤ hi)) := by
  rw [rok_j4]
  have hw : wrap64 ((1 : Int) + 1) = 2 := by unfold wrap64; omega
  rw [hw, rok_j5, rok_j5, rok_l0_1]
  by_cases h : (t.size : Int) < 2
  · rw [if_pos h, decide_eq_false (by omega)]
  · rw [if_neg h, if_pos (by omega)]
    by_cases h1 : bt t 1 < lo
    · rw [if_pos h1, if_pos rfl, decide_eq_false (by omega)]
    · rw [if_neg h1]
      by_cases h2 : bt t 1 > hi
      · rw [if_pos (decide_eq_true h2), decide_eq_false (by omega)]
      · rw [if_neg (by simpa using h2), decide_eq_true (by omega)]
theorem rok_j4_2 (t : ByteArray) (k : Nat) (lo hi : Int) : n010_119_zzB1RuneOK.j4 (k + 4) t 2 lo hi = some (decide (3 ≤ t.size ∧ lo ≤ bt t 1 ∧ bt t 1 ≤ hi ∧ 128 ≤ bt t 2 ∧ bt t 2 ≤ 191)) := by
  rw [rok_j4]
  have hw : wrap64 ((2 : Int) + 1) = 3 := by unfold wrap64; omega
  rw [hw, rok_j5, rok_j5]
  by_cases h : (t.size : Int) < 3
  · rw [if_pos h, decide_eq_false (by omega)]
  · rw [if_neg h, if_pos (by omega), rok_l0_2 t k 2 (by omega) (by omega) (by omega)]
    by_cases h1 : bt t 1 < lo
    · rw [if_pos h1, if_pos rfl, decide_eq_false (by omega)]
    · rw [if_neg h1]
      by_cases h2 : bt t 1 > hi
      · rw [if_pos (decide_eq_true h2), decide_eq_false (by omega)]
      · rw [if_neg (by simpa using h2)]
        congr 1
        exact decide_eq_decide.2 (by omega)
theorem rok_j4_3 (t : ByteArray) (k : Nat) (lo hi : Int) : n010_119_zzB1RuneOK.j4 (k + 5) t 3 lo hi = some (decide (4 ≤ t.size ∧ lo ≤ bt t 1 ∧ bt t 1 ≤ hi ∧ 128 ≤ bt t 2 ∧ bt t 2 ≤ 191 ∧ 128 ≤ bt t 3 ∧ bt t 3 ≤ 191)) := by
  rw [rok_j4]
  have hw : wrap64 ((3 : Int) + 1) = 4 := by unfold wrap64; omega
  rw [hw, rok_j5, rok_j5]
  by_cases h : (t.size : Int) < 4
  · rw [if_pos h, decide_eq_false (by omega)]
  · rw [if_neg h, if_pos (by omega), rok_l0_3 t k (by omega)]
    by_cases h1 : bt t 1 < lo
    · rw [if_pos h1, if_pos rfl, decide_eq_false (by omega)]
    · rw [if_neg h1]
      by_cases h2 : bt t 1 > hi
      · rw [if_pos (decide_eq_true h2), decide_eq_false (by omega)]
      · rw [if_neg (by simpa using h2)]
        congr 1
        exact decide_eq_decide.2 (by omega)

/-- zzB1RuneOK, at a first byte that is no ASCII. -/
theorem rok_f (t : ByteArray) (h0 : 0 < t.size) (h : 128 ≤ bt t 0) : ∃ r, n010_119_zzB1RuneOK.f 20 t = some r ∧ (r = true ↔ RP (bt t 0) (bt t 1) (bt t 2) (bt t 3) t.size) := by
  have hb := bt_lt t 0
  unfold n010_119_zzB1RuneOK.f
  rw [if_pos (by omega), if_neg (by omega)]
  generalize bt t 0 = b0 at *
  by_cases c1 : b0 < 194
  · refine ⟨false, ?_, by unfold RP; simp only [Bool.false_eq_true, false_iff]; omega⟩
    rw [if_neg (by omega)]
    rw [rok_j0]
    rw [if_neg (by simp), if_neg (by omega), if_neg (by omega)]
    rw [rok_j1]
    rw [if_neg (by simp), if_neg (by omega)]
    rw [show (b0 == 239) = false from beq_eq_false_iff_ne.2 (by omega)]
    rw [rok_j2]
    rw [if_neg (by simp), if_neg (by omega), if_neg (by omega), if_neg (by omega)]
    rw [rok_j3]
    rw [if_neg (by simp), if_neg (by omega)]
  · rw [if_pos (by omega)]
    rw [rok_j0]
    by_cases c2 : b0 ≤ 223
    · rw [if_pos (by simpa using c2), rok_j4_1 t 16]
      refine ⟨_, rfl, ?_⟩
      rw [decide_eq_true_eq]; unfold RP; omega
    · rw [if_neg (by simpa using c2)]
      by_cases c3 : b0 = 224
      · rw [if_pos c3, rok_j4_2 t 15]
        refine ⟨_, rfl, ?_⟩
        rw [decide_eq_true_eq]; unfold RP; omega
      · rw [if_neg c3, if_pos (by omega)]
        rw [rok_j1]
        by_cases c4 : b0 ≤ 236
        · rw [if_pos (by simpa using c4)]
          rw [rok_j2]
          rw [if_pos (by simpa using c4), rok_j4_2 t 13]
          refine ⟨_, rfl, ?_⟩
          rw [decide_eq_true_eq]; unfold RP; omega
        · rw [if_neg (by simpa using c4)]
          by_cases c5 : b0 = 238
          · rw [if_pos c5]
            rw [rok_j2]
            rw [if_pos (by simpa using c5), rok_j4_2 t 13]
            refine ⟨_, rfl, ?_⟩
            rw [decide_eq_true_eq]; unfold RP; omega
          · rw [if_neg c5]
            rw [rok_j2]
            by_cases c6 : b0 = 239
            · rw [if_pos (by simpa using c6), rok_j4_2 t 13]
              refine ⟨_, rfl, ?_⟩
              rw [decide_eq_true_eq]; unfold RP; omega
            · rw [if_neg (by simpa using c6)]
              by_cases c7 : b0 = 237
              · rw [if_pos c7, rok_j4_2 t 13]
                refine ⟨_, rfl, ?_⟩
                rw [decide_eq_true_eq]; unfold RP; omega
              · rw [if_neg c7]
                by_cases c8 : b0 = 240
                · rw [if_pos c8, rok_j4_3 t 12]
                  refine ⟨_, rfl, ?_⟩
                  rw [decide_eq_true_eq]; unfold RP; omega
                · rw [if_neg c8, if_pos (by omega)]
                  rw [rok_j3]
                  by_cases c9 : b0 ≤ 243
                  · rw [if_pos (by simpa using c9), rok_j4_3 t 11]
                    refine ⟨_, rfl, ?_⟩
                    rw [decide_eq_true_eq]; unfold RP; omega
                  · rw [if_neg (by simpa using c9)]
                    by_cases c10 : b0 = 244
                    · rw [if_pos c10, rok_j4_3 t 11]
                      refine ⟨_, rfl, ?_⟩
                      rw [decide_eq_true_eq]; unfold RP; omega
                    · rw [if_neg c10]
                      refine ⟨_, rfl, ?_⟩
                      unfold RP; simp only [Bool.false_eq_true, false_iff]; omega
end Go.Proofs.YtgcjaijakbejjaaFmt

/- The laws' own small functions: zzBytes, the starts, zzB1CleanHead, zzB1NextOK. Conditions: as each says. -/
namespace Go.Proofs.YtgcjaijakbejjaaFmt
open Go.RowKit Go.Proofs.YtgcjaijakbejjaaFmtW.PrintWords Go.Proofs.YtgcjaijakbejjaaFmt.PFnDqTokenLongestMatch

theorem bt_sF (s : ByteArray) (j : Nat) : bt s (j : Int) = sF s j := by
  unfold bt sF
  simp only [Int.toNat_natCast]
  by_cases h : j < s.size
  · rw [dif_pos h]
    have h' : j < s.data.toList.length := by simpa using h
    rw [List.getD_eq_getElem?_getD, List.getElem?_eq_getElem h', Option.getD_some]
    have e : s[j]'h = s.data.toList[j]'h' := by simp [ByteArray.getElem_eq_getElem_data]
    rw [e]
  · rw [dif_neg h]
    have h' : s.data.toList.length ≤ j := by simpa using Nat.le_of_not_lt h
    rw [List.getD_eq_getElem?_getD, List.getElem?_eq_none h', Option.getD_none]
    rfl

theorem RP_congr {a0 a1 a2 a3 b0 b1 b2 b3 : Int} {n m : Nat} (h0 : a0 = b0) (h2 : 2 ≤ n ↔ 2 ≤ m) (h3 : 3 ≤ n ↔ 3 ≤ m) (h4 : 4 ≤ n ↔ 4 ≤ m) (e1 : 2 ≤ n → a1 = b1) (e2 : 3 ≤ n → a2 = b2) (e3 : 4 ≤ n → a3 = b3) : RP a0 a1 a2 a3 n ↔ RP b0 b1 b2 b3 m := by
  subst h0
  by_cases c2 : 2 ≤ n
  · obtain rfl := e1 c2
    by_cases c3 : 3 ≤ n
    · obtain rfl := e2 c3
      by_cases c4 : 4 ≤ n
      · obtain rfl := e3 c4
        have := h2.1 c2; have := h3.1 c3; have := h4.1 c4
        unfold RP; omega
      · have := h2.1 c2; have := h3.1 c3; have : ¬ 4 ≤ m := fun h => c4 (h4.2 h)
        unfold RP; omega
    · have := h2.1 c2; have : ¬ 3 ≤ m := fun h => c3 (h3.2 h)
      unfold RP; omega
  · have : ¬ 2 ≤ m := fun h => c2 (h2.2 h)
    unfold RP; omega

theorem sl_size (s : ByteArray) (k : Nat) : (s.extract k s.size).size = s.size - k := by
  rw [ByteArray.size_extract]; omega
theorem sl_bt (s : ByteArray) (k j : Nat) (h : k + j < s.size) : bt (s.extract k s.size) (j : Int) = sF s (k + j) := by
  rw [← bt_sF]
  unfold bt
  simp only [Int.toNat_natCast]
  have h1 : j < (s.extract k s.size).size := by rw [sl_size]; omega
  rw [dif_pos h1, dif_pos h, ByteArray.getElem_extract]
theorem tl_bt (f : Nat → Int) (p k j : Nat) (hj : j < k) (h0 : 0 ≤ f (p + j)) (h1 : f (p + j) < 256) : bt (tailOf f p k) (j : Int) = f (p + j) := by
  rw [bt_get, tailOf_get f p k j hj h0 h1]

theorem sF_byte (s : ByteArray) : ∀ j, j < s.size → 0 ≤ sF s j ∧ sF s j < 256 := by
  intro j _
  unfold sF
  have := (s.data.toList.getD j 0).toNat_lt
  omega

/-- The lookahead at a byte that is no ASCII, by zzB1RuneOK. -/
theorem Rn_ok (s : ByteArray) (k : Nat) (hk : k ≤ 5) (hs : k < s.size) (h : 128 ≤ sF s k) :
    ∃ r, n010_119_zzB1RuneOK.f 20 (s.extract k s.size) = some r ∧ (r = true → 128 ≤ Rn (sF s) s.size k ∧ Rn (sF s) s.size k ≤ 1114111) ∧ (r = false → Rn (sF s) s.size k = 1114112) := by
  have hF := sF_byte s
  have hn : (tailOf (sF s) k (min s.size 1024 - k)).size = min s.size 1024 - k := tailOf_size ..
  have z0 : bt (s.extract k s.size) 0 = sF s (k + 0) := sl_bt s k 0 (by omega)
  have y0 : bt (tailOf (sF s) k (min s.size 1024 - k)) 0 = sF s (k + 0) := tl_bt _ _ _ 0 (by omega) (hF _ (by omega)).1 (hF _ (by omega)).2
  rw [Nat.add_zero] at z0 y0
  obtain ⟨r, hr, hr'⟩ := rok_f (s.extract k s.size) (by rw [sl_size]; omega) (by rw [z0]; exact h)
  have hd := decode_RP (tailOf (sF s) k (min s.size 1024 - k)) (by rw [y0]; exact h)
  have hc : RP (bt (s.extract k s.size) 0) (bt (s.extract k s.size) 1) (bt (s.extract k s.size) 2) (bt (s.extract k s.size) 3) (s.extract k s.size).size ↔
      RP (bt (tailOf (sF s) k (min s.size 1024 - k)) 0) (bt (tailOf (sF s) k (min s.size 1024 - k)) 1) (bt (tailOf (sF s) k (min s.size 1024 - k)) 2) (bt (tailOf (sF s) k (min s.size 1024 - k)) 3) (tailOf (sF s) k (min s.size 1024 - k)).size := by
    rw [sl_size, hn]
    refine RP_congr (z0.trans y0.symm) (by omega) (by omega) (by omega) (fun q => ?_) (fun q => ?_) (fun q => ?_)
    · exact (sl_bt s k 1 (by omega)).trans (tl_bt _ _ _ 1 (by omega) (hF _ (by omega)).1 (hF _ (by omega)).2).symm
    · exact (sl_bt s k 2 (by omega)).trans (tl_bt _ _ _ 2 (by omega) (hF _ (by omega)).1 (hF _ (by omega)).2).symm
    · exact (sl_bt s k 3 (by omega)).trans (tl_bt _ _ _ 3 (by omega) (hF _ (by omega)).1 (hF _ (by omega)).2).symm
  have hda : decAt (sF s) s.size k = Utf8.decode (tailOf (sF s) k (min s.size 1024 - k)) 0 := by
    unfold decAt Lib.decodeGo
    rw [hn, if_neg (by omega)]
  have hR : Rn (sF s) s.size k = if (decAt (sF s) s.size k).1 = 65533 ∧ (decAt (sF s) s.size k).2 = 1 then 1114112 else ((decAt (sF s) s.size k).1 : Int) := by
    unfold Rn
    rw [if_neg (by omega), if_neg (by omega)]
  rw [hda] at hR
  refine ⟨r, hr, fun e => ?_, fun e => ?_⟩
  · have h1 := hc.1 (hr'.1 e)
    have h2 : ¬ Utf8.decode (tailOf (sF s) k (min s.size 1024 - k)) 0 = (65533, 1) := fun q => hd.1 q h1
    rw [hR, if_neg (fun q => h2 (Prod.ext q.1 q.2))]
    have h3 := decode_le (tailOf (sF s) k (min s.size 1024 - k))
    have h4 := decode_wide (tailOf (sF s) k (min s.size 1024 - k)) (by
      have := bt_get (tailOf (sF s) k (min s.size 1024 - k)) 0
      have y0' : bt (tailOf (sF s) k (min s.size 1024 - k)) ((0 : Nat) : Int) = sF s k := y0
      omega)
    omega
  · have h1 : ¬ RP (bt (s.extract k s.size) 0) (bt (s.extract k s.size) 1) (bt (s.extract k s.size) 2) (bt (s.extract k s.size) 3) (s.extract k s.size).size := fun q => by
      rw [hr'.2 q] at e; cases e
    have h2 := hd.2 (fun q => h1 (hc.2 q))
    rw [hR, if_pos ⟨by rw [h2], by rw [h2]⟩]

set_option maxHeartbeats 1000000 in
theorem nextok_any (s : ByteArray) (k : Nat) (hk : k ≤ 5) (w : World) :
    Calls Tryf.prog 13 #[.string s, .int .i64 (k : Nat), .int .i32 (Rn (sF s) s.size k)] w fun e w' => e = .returned (.bool true) ∧ Drawn0 w w' := by
  by_cases h1 : s.size ≤ k
  · have h1' : decide ((s.size : Int) ≤ (k : Int)) = true := decide_eq_true (by omega)
    have e : Rn (sF s) s.size k = 1114112 := by unfold Rn; rw [if_pos h1]
    rw [e]
    go_enter Tryf.func13, Tryf.ntmps13
    go_wp2
    go_ret
    exact ⟨rfl, Drawn0.refl _⟩
  · have h1' : decide ((s.size : Int) ≤ (k : Int)) = false := decide_eq_false (by omega)
    have p1 : 0 ≤ (k : Int) := by omega
    have q1 : (k < s.size) = True := eq_true (by omega)
    have hx : ∀ h : k < s.size, ((s[k]'h).toNat : Int) = sF s k := fun h => (bt_at s k h).trans (bt_sF s k)
    by_cases h2 : 128 ≤ sF s k
    · have h2' : decide (128 ≤ sF s k) = true := decide_eq_true h2
      obtain ⟨r, hr, hr1, hr2⟩ := Rn_ok s k hk (by omega) h2
      cases r with
      | true =>
        obtain ⟨g1, g2⟩ := hr1 rfl
        generalize Rn (sF s) s.size k = R at *
        have g1' : decide (128 ≤ R) = true := decide_eq_true g1
        have g2' : decide (R ≤ 1114111) = true := decide_eq_true g2
        go_enter Tryf.func13, Tryf.ntmps13
        go_wp2_with (first
          | (go_at_call 19; refine Calls.mono (n010_119_zzB1RuneOK.calls 20 _ true _ hr) ?_; rintro e w1 ⟨rfl, hd1⟩))
        go_ret
        exact ⟨rfl, hd1⟩
      | false =>
        rw [hr2 rfl]
        go_enter Tryf.func13, Tryf.ntmps13
        go_wp2_with (first
          | (go_at_call 19; refine Calls.mono (n010_119_zzB1RuneOK.calls 20 _ false _ hr) ?_; rintro e w1 ⟨rfl, hd1⟩))
        go_ret
        exact ⟨rfl, hd1⟩
    · have h2' : decide (128 ≤ sF s k) = false := decide_eq_false h2
      rw [Rn_ascii (by omega) (by omega)]
      have hv := sF_byte s k (by omega)
      have hw : IntKind.i32.wrap (sF s k) = sF s k := IntWalk.i32_in _ ⟨by omega, by omega⟩
      go_enter Tryf.func13, Tryf.ntmps13
      go_wp2
      go_ret
      exact ⟨rfl, Drawn0.refl _⟩

/-- zzB1CleanHead. -/
theorem clean_l0 (s : ByteArray) (hs : s.size < 1000000000) : ∀ (d i k : Nat), i + d = 6 → 2 * d + 2 ≤ k → ∃ r, n010_119_zzB1CleanHead.l0 k s i = some r ∧ (r = true → ∀ j, i ≤ j → j < s.size → j < 6 → bt s (j : Int) ≠ 0 ∧ bt s (j : Int) ≠ 13 ∧ bt s (j : Int) ≠ 92)
  | d, i, k, hi, hk => by
    obtain ⟨k, rfl⟩ : ∃ k', k = k' + 2 := ⟨k - 2, by omega⟩
    unfold n010_119_zzB1CleanHead.l0
    by_cases h1 : i < s.size
    · rw [if_pos (by omega)]
      unfold n010_119_zzB1CleanHead.j1
      cases d with
      | zero =>
        rw [if_neg (by simp; omega)]
        exact ⟨true, rfl, fun _ j hj _ hj6 => by omega⟩
      | succ d =>
        rw [if_pos (by simp; omega), if_pos (by omega), if_pos (by omega)]
        by_cases c1 : bt s (i : Int) = 0
        · rw [if_pos c1]; exact ⟨false, rfl, fun h => by cases h⟩
        · by_cases c2 : bt s (i : Int) = 13
          · rw [if_neg c1, if_pos c2]; exact ⟨false, rfl, fun h => by cases h⟩
          · by_cases c3 : bt s (i : Int) = 92
            · rw [if_neg c1, if_neg c2, if_pos c3]; exact ⟨false, rfl, fun h => by cases h⟩
            · rw [if_neg c1, if_neg c2, if_neg c3]
              have hw : wrap64 ((i : Int) + 1) = ((i + 1 : Nat) : Int) := by unfold wrap64; omega
              rw [hw]
              obtain ⟨r, hr, hr'⟩ := clean_l0 s hs d (i + 1) k (by omega) (by omega)
              refine ⟨r, hr, fun h j hj hj1 hj6 => ?_⟩
              by_cases e : i = j
              · subst e; exact ⟨c1, c2, c3⟩
              · exact hr' h j (by omega) hj1 hj6
    · rw [if_neg (by omega)]
      unfold n010_119_zzB1CleanHead.j1
      rw [if_neg (by simp)]
      exact ⟨true, rfl, fun _ j hj hj1 _ => by omega⟩
theorem clean_f (s : ByteArray) (hs : s.size < 1000000000) : ∃ r, n010_119_zzB1CleanHead.f 20 s = some r ∧ (r = true → Clean (sF s) s.size) := by
  obtain ⟨r, hr, hr'⟩ := clean_l0 s hs 6 0 20 rfl (by omega)
  refine ⟨r, hr, fun h j hj hj6 => ?_⟩
  have := hr' h j (by omega) hj hj6
  rwa [bt_sF] at this

theorem bytes_yes8 (s : ByteArray) (hs : s.size ≤ 1048576) (i : Int) (w W : World) (hW : W = w) : Calls Tryf.prog 8 #[.int .i64 i, .string s] W fun e w' => e = .returned (.bool true) ∧ w' = w := by
  subst hW
  have h1 : decide ((1048576 : Int) < (s.size : Int)) = false := decide_eq_false (by omega)
  have hw : wrap64 (0 + (s.size : Int)) = (s.size : Int) := by rw [Int.zero_add]; exact IntWalk.wrap64_in _ ⟨by omega, by omega⟩
  have hw' : wrap64 (s.size : Int) = (s.size : Int) := IntWalk.wrap64_in _ ⟨by omega, by omega⟩
  go_enter Tryf.func8, Tryf.ntmps8
  go_wp2
  go_ret
  exact ⟨rfl, rfl⟩
theorem bytes_no8 (s : ByteArray) (hs : ¬ s.size ≤ 1048576) (i : Int) (w W : World) (hW : W = w) : Calls Tryf.prog 8 #[.int .i64 i, .string s] W fun e w' => e = .returned (.bool false) ∧ w' = w := by
  subst hW
  have h1 : decide ((1048576 : Int) < (s.size : Int)) = true := decide_eq_true (by omega)
  go_enter Tryf.func8, Tryf.ntmps8
  go_wp2
  go_ret
  exact ⟨rfl, rfl⟩
theorem bytes_yes14 (s : ByteArray) (hs : s.size ≤ 1048576) (i : Int) (w W : World) (hW : W = w) : Calls Tryf.prog 14 #[.int .i64 i, .string s] W fun e w' => e = .returned (.bool true) ∧ w' = w := by
  subst hW
  have h1 : decide ((1048576 : Int) < (s.size : Int)) = false := decide_eq_false (by omega)
  have hw : wrap64 (0 + (s.size : Int)) = (s.size : Int) := by rw [Int.zero_add]; exact IntWalk.wrap64_in _ ⟨by omega, by omega⟩
  have hw' : wrap64 (s.size : Int) = (s.size : Int) := IntWalk.wrap64_in _ ⟨by omega, by omega⟩
  go_enter Tryf.func14, Tryf.ntmps14
  go_wp2
  go_ret
  exact ⟨rfl, rfl⟩
theorem bytes_no14 (s : ByteArray) (hs : ¬ s.size ≤ 1048576) (i : Int) (w W : World) (hW : W = w) : Calls Tryf.prog 14 #[.int .i64 i, .string s] W fun e w' => e = .returned (.bool false) ∧ w' = w := by
  subst hW
  have h1 : decide ((1048576 : Int) < (s.size : Int)) = true := decide_eq_true (by omega)
  go_enter Tryf.func14, Tryf.ntmps14
  go_wp2
  go_ret
  exact ⟨rfl, rfl⟩
theorem bytes_yes16 (s : ByteArray) (hs : s.size ≤ 1048576) (i : Int) (w W : World) (hW : W = w) : Calls Tryf.prog 16 #[.int .i64 i, .string s] W fun e w' => e = .returned (.bool true) ∧ w' = w := by
  subst hW
  have h1 : decide ((1048576 : Int) < (s.size : Int)) = false := decide_eq_false (by omega)
  have hw : wrap64 (0 + (s.size : Int)) = (s.size : Int) := by rw [Int.zero_add]; exact IntWalk.wrap64_in _ ⟨by omega, by omega⟩
  have hw' : wrap64 (s.size : Int) = (s.size : Int) := IntWalk.wrap64_in _ ⟨by omega, by omega⟩
  go_enter Tryf.func16, Tryf.ntmps16
  go_wp2
  go_ret
  exact ⟨rfl, rfl⟩
theorem bytes_no16 (s : ByteArray) (hs : ¬ s.size ≤ 1048576) (i : Int) (w W : World) (hW : W = w) : Calls Tryf.prog 16 #[.int .i64 i, .string s] W fun e w' => e = .returned (.bool false) ∧ w' = w := by
  subst hW
  have h1 : decide ((1048576 : Int) < (s.size : Int)) = true := decide_eq_true (by omega)
  go_enter Tryf.func16, Tryf.ntmps16
  go_wp2
  go_ret
  exact ⟨rfl, rfl⟩
theorem bytes_yes18 (s : ByteArray) (hs : s.size ≤ 1048576) (i : Int) (w W : World) (hW : W = w) : Calls Tryf.prog 18 #[.int .i64 i, .string s] W fun e w' => e = .returned (.bool true) ∧ w' = w := by
  subst hW
  have h1 : decide ((1048576 : Int) < (s.size : Int)) = false := decide_eq_false (by omega)
  have hw : wrap64 (0 + (s.size : Int)) = (s.size : Int) := by rw [Int.zero_add]; exact IntWalk.wrap64_in _ ⟨by omega, by omega⟩
  have hw' : wrap64 (s.size : Int) = (s.size : Int) := IntWalk.wrap64_in _ ⟨by omega, by omega⟩
  go_enter Tryf.func18, Tryf.ntmps18
  go_wp2
  go_ret
  exact ⟨rfl, rfl⟩
theorem bytes_no18 (s : ByteArray) (hs : ¬ s.size ≤ 1048576) (i : Int) (w W : World) (hW : W = w) : Calls Tryf.prog 18 #[.int .i64 i, .string s] W fun e w' => e = .returned (.bool false) ∧ w' = w := by
  subst hW
  have h1 : decide ((1048576 : Int) < (s.size : Int)) = true := decide_eq_true (by omega)
  go_enter Tryf.func18, Tryf.ntmps18
  go_wp2
  go_ret
  exact ⟨rfl, rfl⟩
def start9 (c : Int) : Bool := c == 43 || c == 45 || c == 33 || c == 126 || c == 42 || c == 47 || c == 37 || c == 40 || c == 41 || c == 94 || c == 60 || c == 62 || c == 58 || c == 61 || c == 44 || c == 63 || c == 124 || c == 38 || c == 91 || c == 93 || c == 35 || c == 46
set_option maxHeartbeats 1000000 in
set_option maxRecDepth 100000 in
theorem start9_any (c : Int) (w W : World) (hW : W = w) : Calls Tryf.prog 9 #[.int .u8 c] W fun e w' => e = .returned (.bool (start9 c)) ∧ w' = w := by
  subst hW
  unfold start9
  go_enter Tryf.func9, Tryf.ntmps9
  go_wp2
  all_goals
    go_ret
    exact ⟨by simp_all, rfl⟩
def start15 (c : Int) : Bool := c == 34 || c == 96 || c == 36
set_option maxHeartbeats 1000000 in
set_option maxRecDepth 100000 in
theorem start15_any (c : Int) (w W : World) (hW : W = w) : Calls Tryf.prog 15 #[.int .u8 c] W fun e w' => e = .returned (.bool (start15 c)) ∧ w' = w := by
  subst hW
  unfold start15
  go_enter Tryf.func15, Tryf.ntmps15
  go_wp2
  all_goals
    go_ret
    exact ⟨by simp_all, rfl⟩
def start17 (c : Int) : Bool := c == 39 || c == 34 || c == 96 || c == 38 || c == 124 || c == 36 || c == 40 || c == 41 || c == 59 || c == 60 || c == 62
set_option maxHeartbeats 1000000 in
set_option maxRecDepth 100000 in
theorem start17_any (c : Int) (w W : World) (hW : W = w) : Calls Tryf.prog 17 #[.int .u8 c] W fun e w' => e = .returned (.bool (start17 c)) ∧ w' = w := by
  subst hW
  unfold start17
  go_enter Tryf.func17, Tryf.ntmps17
  go_wp2
  all_goals
    go_ret
    exact ⟨by simp_all, rfl⟩
end Go.Proofs.YtgcjaijakbejjaaFmt

/- What zzB1Run gives, kind by kind. Conditions: the tables of unicode/utf8 and io.EOF as laid; the string's bytes as the laws' premises say. PRINTED by lxza_print.py. -/
namespace Go.Proofs.YtgcjaijakbejjaaFmt
open Go.RowKit

theorem zz_rune {v : Value} {w : World} {r : Int} {R : World → Prop} (h : Hid (Calls Tryf.prog 43 #[v] w fun e w' => e = .returned (.int .i32 r) ∧ R w')) : Calls Tryf.prog 28 #[v] w fun e w' => e = .returned (.int .i32 r) ∧ R w' := by
  go_enter Tryf.func28, Tryf.ntmps28
  go_wp2_with (go_at_call 43; refine Calls.mono h.out ?_; rintro e w1 ⟨rfl, h1⟩)
  go_ret
  exact ⟨rfl, h1⟩
theorem zz_col {b : Nat} {w : World} {c : Int} (h : w.cell? ⟨b, 14, none⟩ = some (.int .i64 c)) : Calls Tryf.prog 29 #[.pointer (some ⟨b, 0, none⟩)] w fun e w' => e = .returned (.int .i64 c) ∧ w' = w := by
  go_enter Tryf.func29, Tryf.ntmps29
  go_wp2
  go_ret
  exact ⟨rfl, rfl⟩
theorem zz_cur {b : Nat} {w : World} {c : Int} (h : w.cell? ⟨b, 3, none⟩ = some (.int .i32 c)) : Calls Tryf.prog 34 #[.pointer (some ⟨b, 0, none⟩)] w fun e w' => e = .returned (.int .i32 c) ∧ w' = w := by
  go_enter Tryf.func34, Tryf.ntmps34
  go_wp2
  go_ret
  exact ⟨rfl, rfl⟩
theorem wrap_col (k : Nat) (h : k ≤ 5) : wrap64 (1 + (k : Int) - 1) = k := by
  have e : (1 + (k : Int) - 1) = k := by omega
  rw [e]
  exact IntWalk.wrap64_in _ ⟨by omega, by omega⟩

theorem regToken_any {B b rb sb fb m cap : Nat} {f : Nat → Int} {l : Int} {ea : Addr} {w0 w : World} (h0 : Hid (Src0 B m f w0)) (h : Hid (Tk B b rb sb fb m cap f l ea w0 0 w)) (hs : Rn f m 0 = 96 ∨ Rn f m 0 = 39 ∨ Rn f m 0 = 34 ∨ Rn f m 0 = 38 ∨ Rn f m 0 = 124 ∨ Rn f m 0 = 36 ∨ Rn f m 0 = 40 ∨ Rn f m 0 = 41 ∨ Rn f m 0 = 59 ∨ Rn f m 0 = 60 ∨ Rn f m 0 = 62) :
    Calls Tryf.prog 44 #[.pointer (some ⟨b, 0, none⟩), .int .i32 (Rn f m 0)] w fun e w' => ∃ tok k, e = .returned (.int .u32 tok) ∧ Tk B b rb sb fb m cap f l ea w0 k w' ∧ Hid (regF (Rn f m) l = (tok, k)) := by
  rcases hs with hs | hs | hs | hs | hs | hs | hs | hs | hs | hs | hs
  · have e1 : regF (Rn f m) l = (9, 0) := by simp [regF, hs]
    rw [hs]
    refine regToken_96.mono ?_
    rintro e w' ⟨rfl, rfl⟩
    exact ⟨9, 0, rfl, h.out, Lib.hid e1⟩
  · have e1 : regF (Rn f m) l = regF39 (Rn f m) l := by simp [regF, hs]
    rw [e1]
    exact regToken_39 h0 h hs
  · have e1 : regF (Rn f m) l = regF34 (Rn f m) l := by simp [regF, hs]
    rw [e1]
    exact regToken_34 h0 h hs
  · have e1 : regF (Rn f m) l = regF38 (Rn f m) l := by simp [regF, hs]
    rw [e1]
    exact regToken_38 h0 h hs
  · have e1 : regF (Rn f m) l = regF124 (Rn f m) l := by simp [regF, hs]
    rw [e1]
    exact regToken_124 h0 h hs
  · have e1 : regF (Rn f m) l = regF36 (Rn f m) l := by simp [regF, hs]
    rw [e1]
    exact regToken_36 h0 h hs
  · have e1 : regF (Rn f m) l = regF40 (Rn f m) l := by simp [regF, hs]
    rw [e1]
    exact regToken_40 h0 h hs
  · have e1 : regF (Rn f m) l = regF41 (Rn f m) l := by simp [regF, hs]
    rw [e1]
    exact regToken_41 h0 h hs
  · have e1 : regF (Rn f m) l = regF59 (Rn f m) l := by simp [regF, hs]
    rw [e1]
    exact regToken_59 h0 h hs
  · have e1 : regF (Rn f m) l = regF60 (Rn f m) l := by simp [regF, hs]
    rw [e1]
    exact regToken_60 h0 h hs
  · have e1 : regF (Rn f m) l = regF62 (Rn f m) l := by simp [regF, hs]
    rw [e1]
    exact regToken_62 h0 h hs
theorem arithmToken_any {B b rb sb fb m cap : Nat} {f : Nat → Int} {l : Int} {ea : Addr} {w0 w : World} (h0 : Hid (Src0 B m f w0)) (h : Hid (Tk B b rb sb fb m cap f l ea w0 0 w)) (hs : Rn f m 0 = 33 ∨ Rn f m 0 = 61 ∨ Rn f m 0 = 126 ∨ Rn f m 0 = 40 ∨ Rn f m 0 = 41 ∨ Rn f m 0 = 38 ∨ Rn f m 0 = 124 ∨ Rn f m 0 = 60 ∨ Rn f m 0 = 62 ∨ Rn f m 0 = 43 ∨ Rn f m 0 = 45 ∨ Rn f m 0 = 37 ∨ Rn f m 0 = 42 ∨ Rn f m 0 = 47 ∨ Rn f m 0 = 94 ∨ Rn f m 0 = 91 ∨ Rn f m 0 = 93 ∨ Rn f m 0 = 44 ∨ Rn f m 0 = 63 ∨ Rn f m 0 = 58 ∨ Rn f m 0 = 35 ∨ Rn f m 0 = 46) :
    Calls Tryf.prog 47 #[.pointer (some ⟨b, 0, none⟩), .int .i32 (Rn f m 0)] w fun e w' => ∃ tok k, e = .returned (.int .u32 tok) ∧ Tk B b rb sb fb m cap f l ea w0 k w' ∧ Hid (arithmF (Rn f m) l = (tok, k)) := by
  rcases hs with hs | hs | hs | hs | hs | hs | hs | hs | hs | hs | hs | hs | hs | hs | hs | hs | hs | hs | hs | hs | hs | hs
  · have e1 : arithmF (Rn f m) l = arithmF33 (Rn f m) l := by simp [arithmF, hs]
    rw [e1]
    exact arithmToken_33 h0 h hs
  · have e1 : arithmF (Rn f m) l = arithmF61 (Rn f m) l := by simp [arithmF, hs]
    rw [e1]
    exact arithmToken_61 h0 h hs
  · have e1 : arithmF (Rn f m) l = arithmF126 (Rn f m) l := by simp [arithmF, hs]
    rw [e1]
    exact arithmToken_126 h0 h hs
  · have e1 : arithmF (Rn f m) l = arithmF40 (Rn f m) l := by simp [arithmF, hs]
    rw [e1]
    exact arithmToken_40 h0 h hs
  · have e1 : arithmF (Rn f m) l = arithmF41 (Rn f m) l := by simp [arithmF, hs]
    rw [e1]
    exact arithmToken_41 h0 h hs
  · have e1 : arithmF (Rn f m) l = arithmF38 (Rn f m) l := by simp [arithmF, hs]
    rw [e1]
    exact arithmToken_38 h0 h hs
  · have e1 : arithmF (Rn f m) l = arithmF124 (Rn f m) l := by simp [arithmF, hs]
    rw [e1]
    exact arithmToken_124 h0 h hs
  · have e1 : arithmF (Rn f m) l = arithmF60 (Rn f m) l := by simp [arithmF, hs]
    rw [e1]
    exact arithmToken_60 h0 h hs
  · have e1 : arithmF (Rn f m) l = arithmF62 (Rn f m) l := by simp [arithmF, hs]
    rw [e1]
    exact arithmToken_62 h0 h hs
  · have e1 : arithmF (Rn f m) l = arithmF43 (Rn f m) l := by simp [arithmF, hs]
    rw [e1]
    exact arithmToken_43 h0 h hs
  · have e1 : arithmF (Rn f m) l = arithmF45 (Rn f m) l := by simp [arithmF, hs]
    rw [e1]
    exact arithmToken_45 h0 h hs
  · have e1 : arithmF (Rn f m) l = arithmF37 (Rn f m) l := by simp [arithmF, hs]
    rw [e1]
    exact arithmToken_37 h0 h hs
  · have e1 : arithmF (Rn f m) l = arithmF42 (Rn f m) l := by simp [arithmF, hs]
    rw [e1]
    exact arithmToken_42 h0 h hs
  · have e1 : arithmF (Rn f m) l = arithmF47 (Rn f m) l := by simp [arithmF, hs]
    rw [e1]
    exact arithmToken_47 h0 h hs
  · have e1 : arithmF (Rn f m) l = arithmF94 (Rn f m) l := by simp [arithmF, hs]
    rw [e1]
    exact arithmToken_94 h0 h hs
  · have e1 : arithmF (Rn f m) l = arithmF91 (Rn f m) l := by simp [arithmF, hs]
    rw [e1]
    exact arithmToken_91 h0 h hs
  · have e1 : arithmF (Rn f m) l = arithmF93 (Rn f m) l := by simp [arithmF, hs]
    rw [e1]
    exact arithmToken_93 h0 h hs
  · have e1 : arithmF (Rn f m) l = arithmF44 (Rn f m) l := by simp [arithmF, hs]
    rw [e1]
    exact arithmToken_44 h0 h hs
  · have e1 : arithmF (Rn f m) l = arithmF63 (Rn f m) l := by simp [arithmF, hs]
    rw [e1]
    exact arithmToken_63 h0 h hs
  · have e1 : arithmF (Rn f m) l = arithmF58 (Rn f m) l := by simp [arithmF, hs]
    rw [e1]
    exact arithmToken_58 h0 h hs
  · have e1 : arithmF (Rn f m) l = arithmF35 (Rn f m) l := by simp [arithmF, hs]
    rw [e1]
    exact arithmToken_35 h0 h hs
  · have e1 : arithmF (Rn f m) l = arithmF46 (Rn f m) l := by simp [arithmF, hs]
    rw [e1]
    exact arithmToken_46 h0 h hs
theorem paramToken_any {B b rb sb fb m cap : Nat} {f : Nat → Int} {l : Int} {ea : Addr} {w0 w : World} (h0 : Hid (Src0 B m f w0)) (h : Hid (Tk B b rb sb fb m cap f l ea w0 0 w)) :
    Calls Tryf.prog 46 #[.pointer (some ⟨b, 0, none⟩), .int .i32 (Rn f m 0)] w fun e w' => ∃ tok k, e = .returned (.int .u32 tok) ∧ Tk B b rb sb fb m cap f l ea w0 k w' ∧ Hid (paramF (Rn f m) l = (tok, k)) := by
  by_cases h125 : Rn f m 0 = 125
  · have e1 : paramF (Rn f m) l = paramF125 (Rn f m) l := by simp [paramF, h125]
    rw [e1]
    exact paramToken_125 h0 h h125
  by_cases h58 : Rn f m 0 = 58
  · have e1 : paramF (Rn f m) l = paramF58 (Rn f m) l := by simp [paramF, h58]
    rw [e1]
    exact paramToken_58 h0 h h58
  by_cases h43 : Rn f m 0 = 43
  · have e1 : paramF (Rn f m) l = paramF43 (Rn f m) l := by simp [paramF, h43]
    rw [e1]
    exact paramToken_43 h0 h h43
  by_cases h45 : Rn f m 0 = 45
  · have e1 : paramF (Rn f m) l = paramF45 (Rn f m) l := by simp [paramF, h45]
    rw [e1]
    exact paramToken_45 h0 h h45
  by_cases h63 : Rn f m 0 = 63
  · have e1 : paramF (Rn f m) l = paramF63 (Rn f m) l := by simp [paramF, h63]
    rw [e1]
    exact paramToken_63 h0 h h63
  by_cases h61 : Rn f m 0 = 61
  · have e1 : paramF (Rn f m) l = paramF61 (Rn f m) l := by simp [paramF, h61]
    rw [e1]
    exact paramToken_61 h0 h h61
  by_cases h37 : Rn f m 0 = 37
  · have e1 : paramF (Rn f m) l = paramF37 (Rn f m) l := by simp [paramF, h37]
    rw [e1]
    exact paramToken_37 h0 h h37
  by_cases h35 : Rn f m 0 = 35
  · have e1 : paramF (Rn f m) l = paramF35 (Rn f m) l := by simp [paramF, h35]
    rw [e1]
    exact paramToken_35 h0 h h35
  by_cases h33 : Rn f m 0 = 33
  · have e1 : paramF (Rn f m) l = paramF33 (Rn f m) l := by simp [paramF, h33]
    rw [e1]
    exact paramToken_33 h0 h h33
  by_cases h93 : Rn f m 0 = 93
  · have e1 : paramF (Rn f m) l = paramF93 (Rn f m) l := by simp [paramF, h93]
    rw [e1]
    exact paramToken_93 h0 h h93
  by_cases h47 : Rn f m 0 = 47
  · have e1 : paramF (Rn f m) l = paramF47 (Rn f m) l := by simp [paramF, h47]
    rw [e1]
    exact paramToken_47 h0 h h47
  by_cases h94 : Rn f m 0 = 94
  · have e1 : paramF (Rn f m) l = paramF94 (Rn f m) l := by simp [paramF, h94]
    rw [e1]
    exact paramToken_94 h0 h h94
  by_cases h44 : Rn f m 0 = 44
  · have e1 : paramF (Rn f m) l = paramF44 (Rn f m) l := by simp [paramF, h44]
    rw [e1]
    exact paramToken_44 h0 h h44
  by_cases h64 : Rn f m 0 = 64
  · have e1 : paramF (Rn f m) l = paramF64 (Rn f m) l := by simp [paramF, h64]
    rw [e1]
    exact paramToken_64 h0 h h64
  by_cases h42 : Rn f m 0 = 42
  · have e1 : paramF (Rn f m) l = paramF42 (Rn f m) l := by simp [paramF, h42]
    rw [e1]
    exact paramToken_42 h0 h h42
  by_cases h1114112 : Rn f m 0 = 1114112
  · have e1 : paramF (Rn f m) l = (1, 0) := by simp [paramF, h1114112]
    rw [h1114112]
    refine paramToken_eof.mono ?_
    rintro e w' ⟨rfl, rfl⟩
    exact ⟨1, 0, rfl, h.out, Lib.hid e1⟩
  have e1 : paramF (Rn f m) l = (0, 0) := by simp [paramF, h125, h58, h43, h45, h63, h61, h37, h35, h33, h93, h47, h94, h44, h64, h42, h1114112]
  refine (paramToken_none (Rn f m 0) (beq_eq_false_iff_ne.2 h125) (beq_eq_false_iff_ne.2 h58) (beq_eq_false_iff_ne.2 h43) (beq_eq_false_iff_ne.2 h45) (beq_eq_false_iff_ne.2 h63) (beq_eq_false_iff_ne.2 h61) (beq_eq_false_iff_ne.2 h37) (beq_eq_false_iff_ne.2 h35) (beq_eq_false_iff_ne.2 h33) (beq_eq_false_iff_ne.2 h93) (beq_eq_false_iff_ne.2 h47) (beq_eq_false_iff_ne.2 h94) (beq_eq_false_iff_ne.2 h44) (beq_eq_false_iff_ne.2 h64) (beq_eq_false_iff_ne.2 h42) (beq_eq_false_iff_ne.2 h1114112)).mono ?_
  rintro e w' ⟨rfl, rfl⟩
  exact ⟨0, 0, rfl, h.out, Lib.hid e1⟩

theorem ite_le {c : Prop} [Decidable c] {a b : Int × Nat} (ha : a.2 ≤ 5) (hb : b.2 ≤ 5) : (if c then a else b).2 ≤ 5 := by
  split
  · exact ha
  · exact hb
theorem dqF_le (R : Nat → Int) (l : Int) : (dqF R l).2 ≤ 5 := by
  unfold dqF
  repeat' split
  all_goals simp
theorem regF39_le (R : Nat → Int) (l : Int) : (regF39 R l).2 ≤ 5 := by
  unfold regF39
  repeat' split
  all_goals simp
theorem regF34_le (R : Nat → Int) (l : Int) : (regF34 R l).2 ≤ 5 := by
  unfold regF34
  repeat' split
  all_goals simp
theorem regF38_le (R : Nat → Int) (l : Int) : (regF38 R l).2 ≤ 5 := by
  unfold regF38
  repeat' split
  all_goals simp
theorem regF124_le (R : Nat → Int) (l : Int) : (regF124 R l).2 ≤ 5 := by
  unfold regF124
  repeat' split
  all_goals simp
theorem regF36_le (R : Nat → Int) (l : Int) : (regF36 R l).2 ≤ 5 := by
  unfold regF36
  repeat' split
  all_goals simp
theorem regF40_le (R : Nat → Int) (l : Int) : (regF40 R l).2 ≤ 5 := by
  unfold regF40
  repeat' split
  all_goals simp
theorem regF41_le (R : Nat → Int) (l : Int) : (regF41 R l).2 ≤ 5 := by
  unfold regF41
  repeat' split
  all_goals simp
theorem regF59_le (R : Nat → Int) (l : Int) : (regF59 R l).2 ≤ 5 := by
  unfold regF59
  repeat' split
  all_goals simp
theorem regF60_le (R : Nat → Int) (l : Int) : (regF60 R l).2 ≤ 5 := by
  unfold regF60
  repeat' split
  all_goals simp
theorem regF62_le (R : Nat → Int) (l : Int) : (regF62 R l).2 ≤ 5 := by
  unfold regF62
  repeat' split
  all_goals simp
theorem regF_le (R : Nat → Int) (l : Int) : (regF R l).2 ≤ 5 := by
  have c : ∀ (x : Int), ((x, 0) : Int × Nat).2 ≤ 5 := fun _ => Nat.zero_le _
  exact ite_le (c _) (ite_le (regF39_le R l) (ite_le (regF34_le R l) (ite_le (regF38_le R l) (ite_le (regF124_le R l) (ite_le (regF36_le R l) (ite_le (regF40_le R l) (ite_le (regF41_le R l) (ite_le (regF59_le R l) (ite_le (regF60_le R l) (ite_le (regF62_le R l) (c _)))))))))))
theorem arithmF33_le (R : Nat → Int) (l : Int) : (arithmF33 R l).2 ≤ 5 := by
  unfold arithmF33
  repeat' split
  all_goals simp
theorem arithmF61_le (R : Nat → Int) (l : Int) : (arithmF61 R l).2 ≤ 5 := by
  unfold arithmF61
  repeat' split
  all_goals simp
theorem arithmF126_le (R : Nat → Int) (l : Int) : (arithmF126 R l).2 ≤ 5 := by
  unfold arithmF126
  repeat' split
  all_goals simp
theorem arithmF40_le (R : Nat → Int) (l : Int) : (arithmF40 R l).2 ≤ 5 := by
  unfold arithmF40
  repeat' split
  all_goals simp
theorem arithmF41_le (R : Nat → Int) (l : Int) : (arithmF41 R l).2 ≤ 5 := by
  unfold arithmF41
  repeat' split
  all_goals simp
theorem arithmF38_le (R : Nat → Int) (l : Int) : (arithmF38 R l).2 ≤ 5 := by
  unfold arithmF38
  repeat' split
  all_goals simp
theorem arithmF124_le (R : Nat → Int) (l : Int) : (arithmF124 R l).2 ≤ 5 := by
  unfold arithmF124
  repeat' split
  all_goals simp
theorem arithmF60_le (R : Nat → Int) (l : Int) : (arithmF60 R l).2 ≤ 5 := by
  unfold arithmF60
  repeat' split
  all_goals simp
theorem arithmF62_le (R : Nat → Int) (l : Int) : (arithmF62 R l).2 ≤ 5 := by
  unfold arithmF62
  repeat' split
  all_goals simp
theorem arithmF43_le (R : Nat → Int) (l : Int) : (arithmF43 R l).2 ≤ 5 := by
  unfold arithmF43
  repeat' split
  all_goals simp
theorem arithmF45_le (R : Nat → Int) (l : Int) : (arithmF45 R l).2 ≤ 5 := by
  unfold arithmF45
  repeat' split
  all_goals simp
theorem arithmF37_le (R : Nat → Int) (l : Int) : (arithmF37 R l).2 ≤ 5 := by
  unfold arithmF37
  repeat' split
  all_goals simp
theorem arithmF42_le (R : Nat → Int) (l : Int) : (arithmF42 R l).2 ≤ 5 := by
  unfold arithmF42
  repeat' split
  all_goals simp
theorem arithmF47_le (R : Nat → Int) (l : Int) : (arithmF47 R l).2 ≤ 5 := by
  unfold arithmF47
  repeat' split
  all_goals simp
theorem arithmF94_le (R : Nat → Int) (l : Int) : (arithmF94 R l).2 ≤ 5 := by
  unfold arithmF94
  repeat' split
  all_goals simp
theorem arithmF91_le (R : Nat → Int) (l : Int) : (arithmF91 R l).2 ≤ 5 := by
  unfold arithmF91
  repeat' split
  all_goals simp
theorem arithmF93_le (R : Nat → Int) (l : Int) : (arithmF93 R l).2 ≤ 5 := by
  unfold arithmF93
  repeat' split
  all_goals simp
theorem arithmF44_le (R : Nat → Int) (l : Int) : (arithmF44 R l).2 ≤ 5 := by
  unfold arithmF44
  repeat' split
  all_goals simp
theorem arithmF63_le (R : Nat → Int) (l : Int) : (arithmF63 R l).2 ≤ 5 := by
  unfold arithmF63
  repeat' split
  all_goals simp
theorem arithmF58_le (R : Nat → Int) (l : Int) : (arithmF58 R l).2 ≤ 5 := by
  unfold arithmF58
  repeat' split
  all_goals simp
theorem arithmF35_le (R : Nat → Int) (l : Int) : (arithmF35 R l).2 ≤ 5 := by
  unfold arithmF35
  repeat' split
  all_goals simp
theorem arithmF46_le (R : Nat → Int) (l : Int) : (arithmF46 R l).2 ≤ 5 := by
  unfold arithmF46
  repeat' split
  all_goals simp
theorem arithmF_le (R : Nat → Int) (l : Int) : (arithmF R l).2 ≤ 5 := by
  have c : ∀ (x : Int), ((x, 0) : Int × Nat).2 ≤ 5 := fun _ => Nat.zero_le _
  exact ite_le (arithmF33_le R l) (ite_le (arithmF61_le R l) (ite_le (arithmF126_le R l) (ite_le (arithmF40_le R l) (ite_le (arithmF41_le R l) (ite_le (arithmF38_le R l) (ite_le (arithmF124_le R l) (ite_le (arithmF60_le R l) (ite_le (arithmF62_le R l) (ite_le (arithmF43_le R l) (ite_le (arithmF45_le R l) (ite_le (arithmF37_le R l) (ite_le (arithmF42_le R l) (ite_le (arithmF47_le R l) (ite_le (arithmF94_le R l) (ite_le (arithmF91_le R l) (ite_le (arithmF93_le R l) (ite_le (arithmF44_le R l) (ite_le (arithmF63_le R l) (ite_le (arithmF58_le R l) (ite_le (arithmF35_le R l) (ite_le (arithmF46_le R l) (c _))))))))))))))))))))))
theorem paramF125_le (R : Nat → Int) (l : Int) : (paramF125 R l).2 ≤ 5 := by
  unfold paramF125
  repeat' split
  all_goals simp
theorem paramF58_le (R : Nat → Int) (l : Int) : (paramF58 R l).2 ≤ 5 := by
  unfold paramF58
  repeat' split
  all_goals simp
theorem paramF43_le (R : Nat → Int) (l : Int) : (paramF43 R l).2 ≤ 5 := by
  unfold paramF43
  repeat' split
  all_goals simp
theorem paramF45_le (R : Nat → Int) (l : Int) : (paramF45 R l).2 ≤ 5 := by
  unfold paramF45
  repeat' split
  all_goals simp
theorem paramF63_le (R : Nat → Int) (l : Int) : (paramF63 R l).2 ≤ 5 := by
  unfold paramF63
  repeat' split
  all_goals simp
theorem paramF61_le (R : Nat → Int) (l : Int) : (paramF61 R l).2 ≤ 5 := by
  unfold paramF61
  repeat' split
  all_goals simp
theorem paramF37_le (R : Nat → Int) (l : Int) : (paramF37 R l).2 ≤ 5 := by
  unfold paramF37
  repeat' split
  all_goals simp
theorem paramF35_le (R : Nat → Int) (l : Int) : (paramF35 R l).2 ≤ 5 := by
  unfold paramF35
  repeat' split
  all_goals simp
theorem paramF33_le (R : Nat → Int) (l : Int) : (paramF33 R l).2 ≤ 5 := by
  unfold paramF33
  repeat' split
  all_goals simp
theorem paramF93_le (R : Nat → Int) (l : Int) : (paramF93 R l).2 ≤ 5 := by
  unfold paramF93
  repeat' split
  all_goals simp
theorem paramF47_le (R : Nat → Int) (l : Int) : (paramF47 R l).2 ≤ 5 := by
  unfold paramF47
  repeat' split
  all_goals simp
theorem paramF94_le (R : Nat → Int) (l : Int) : (paramF94 R l).2 ≤ 5 := by
  unfold paramF94
  repeat' split
  all_goals simp
theorem paramF44_le (R : Nat → Int) (l : Int) : (paramF44 R l).2 ≤ 5 := by
  unfold paramF44
  repeat' split
  all_goals simp
theorem paramF64_le (R : Nat → Int) (l : Int) : (paramF64 R l).2 ≤ 5 := by
  unfold paramF64
  repeat' split
  all_goals simp
theorem paramF42_le (R : Nat → Int) (l : Int) : (paramF42 R l).2 ≤ 5 := by
  unfold paramF42
  repeat' split
  all_goals simp
theorem paramF_le (R : Nat → Int) (l : Int) : (paramF R l).2 ≤ 5 := by
  have c : ∀ (x : Int), ((x, 0) : Int × Nat).2 ≤ 5 := fun _ => Nat.zero_le _
  exact ite_le (paramF125_le R l) (ite_le (paramF58_le R l) (ite_le (paramF43_le R l) (ite_le (paramF45_le R l) (ite_le (paramF63_le R l) (ite_le (paramF61_le R l) (ite_le (paramF37_le R l) (ite_le (paramF35_le R l) (ite_le (paramF33_le R l) (ite_le (paramF93_le R l) (ite_le (paramF47_le R l) (ite_le (paramF94_le R l) (ite_le (paramF44_le R l) (ite_le (paramF64_le R l) (ite_le (paramF42_le R l) (ite_le (c _) (c _))))))))))))))))

theorem zz_reg {b : Nat} {w : World} {r : Int} {R : Int → Nat → World → Prop} (h : Hid (Calls Tryf.prog 44 #[.pointer (some ⟨b, 0, none⟩), .int .i32 r] w fun e w' => ∃ tok k, e = .returned (.int .u32 tok) ∧ R tok k w')) :
    Calls Tryf.prog 30 #[.pointer (some ⟨b, 0, none⟩), .int .i32 r] w fun e w' => ∃ tok k, e = .returned (.int .u32 tok) ∧ R tok k w' := by
  go_enter Tryf.func30, Tryf.ntmps30
  go_wp2_with (go_at_call 44; refine Calls.mono h.out ?_; rintro e w1 ⟨tok, k, rfl, h1⟩)
  go_ret
  exact ⟨tok, k, rfl, h1⟩

set_option maxHeartbeats 2000000 in
set_option maxRecDepth 100000 in
theorem run_reg {s : ByteArray} {w : World} {ea : Addr} {i : Int} (h : Hid (Beg w ea)) (hs : s.size ≤ 1048576) (hc : Hid (Clean (sF s) s.size)) (hst : Hid (Rn (sF s) s.size 0 = 96 ∨ Rn (sF s) s.size 0 = 39 ∨ Rn (sF s) s.size 0 = 34 ∨ Rn (sF s) s.size 0 = 38 ∨ Rn (sF s) s.size 0 = 124 ∨ Rn (sF s) s.size 0 = 36 ∨ Rn (sF s) s.size 0 = 40 ∨ Rn (sF s) s.size 0 = 41 ∨ Rn (sF s) s.size 0 = 59 ∨ Rn (sF s) s.size 0 = 60 ∨ Rn (sF s) s.size 0 = 62)) :
    Calls Tryf.prog 11 #[.int .i64 0, .int .i64 i, .string s] w fun e w' => ∃ tok k, e = .returned (.tuple #[.int .u32 tok, .int .i64 (k : Nat), .int .i32 (Rn (sF s) s.size k)]) ∧ Hid (regF (Rn (sF s) s.size) (langOf i) = (tok, k)) ∧ Below w.heap.size w w' := by
  have hcv := conv_s s
  go_enter Tryf.func11, Tryf.ntmps11
  go_wp2_with (first
    | (go_at_call 27; refine Calls.mono (lang_any _ _ _ rfl) ?_; rintro e w1 ⟨rfl, rfl⟩)
    | (go_at_call 26; refine Calls.mono (lexer_at h.out hs (Below.refl _ _) _ rfl) ?_; rintro e w2 ⟨hb2, b, rb, fb, rfl, hl2⟩; have HB2 := Lib.hid hb2; have HL2 := Lib.hid hl2; clear hb2 hl2)
    | (go_at_call 28; refine Calls.mono (zz_rune (Lib.hid (rune_start HL2.out (tabs_below h.out.size h.out.tabs HB2.out) (sF_byte s) (fun h9 => hc.out 0 h9 (by omega))))) ?_; rintro e w3 ⟨rfl, hb3, hs3⟩; have HB3 := Lib.hid hb3; have HS3 := Lib.hid hs3; have c14 := hs3.c14; have c3 := hs3.c3; clear hb3 hs3)
    | (go_at_call 29; refine Calls.mono (zz_col c14) ?_; rintro e w8 ⟨rfl, rfl⟩)
    | (go_at_call 34; refine Calls.mono (zz_cur c3) ?_; rintro e w9 ⟨rfl, rfl⟩)
    | (go_at_call 30; refine Calls.mono (zz_reg (Lib.hid (regToken_any (w0 := w1) (Lib.hid ⟨h.out.size, h.out.tabs, sF_byte s, hc.out⟩) (Lib.hid ⟨HB2.out.trans HB3.out, HS3.out⟩) hst.out))) ?_; rintro e w4 ⟨tok, k, rfl, hk4, hd4⟩; have HK4 := Lib.hid hk4; have HB4 := hk4.below; clear c14 c3; have c14 := hk4.st.c14; have c3 := hk4.st.c3; clear hk4))
  go_returns
  have hk := regF_le (Rn (sF s) s.size) (langOf i)
  rw [show regF (Rn (sF s) s.size) (langOf i) = (tok, k) from hd4] at hk
  exact ⟨tok, k, by simp [wrap_col k hk], hd4, HB4⟩

theorem zz_dq {b : Nat} {w : World} {r : Int} {R : Int → Nat → World → Prop} (h : Hid (Calls Tryf.prog 45 #[.pointer (some ⟨b, 0, none⟩), .int .i32 r] w fun e w' => ∃ tok k, e = .returned (.int .u32 tok) ∧ R tok k w')) :
    Calls Tryf.prog 31 #[.pointer (some ⟨b, 0, none⟩), .int .i32 r] w fun e w' => ∃ tok k, e = .returned (.int .u32 tok) ∧ R tok k w' := by
  go_enter Tryf.func31, Tryf.ntmps31
  go_wp2_with (go_at_call 45; refine Calls.mono h.out ?_; rintro e w1 ⟨tok, k, rfl, h1⟩)
  go_ret
  exact ⟨tok, k, rfl, h1⟩

set_option maxHeartbeats 2000000 in
set_option maxRecDepth 100000 in
theorem run_dq {s : ByteArray} {w : World} {ea : Addr} {i : Int} (h : Hid (Beg w ea)) (hs : s.size ≤ 1048576) (hc : Hid (Clean (sF s) s.size)) (hst : Hid (Rn (sF s) s.size 0 = 34 ∨ Rn (sF s) s.size 0 = 96 ∨ Rn (sF s) s.size 0 = 36)) :
    Calls Tryf.prog 11 #[.int .i64 1, .int .i64 i, .string s] w fun e w' => ∃ tok k, e = .returned (.tuple #[.int .u32 tok, .int .i64 (k : Nat), .int .i32 (Rn (sF s) s.size k)]) ∧ Hid (dqF (Rn (sF s) s.size) (langOf i) = (tok, k)) ∧ Below w.heap.size w w' := by
  have hcv := conv_s s
  go_enter Tryf.func11, Tryf.ntmps11
  go_wp2_with (first
    | (go_at_call 27; refine Calls.mono (lang_any _ _ _ rfl) ?_; rintro e w1 ⟨rfl, rfl⟩)
    | (go_at_call 26; refine Calls.mono (lexer_at h.out hs (Below.refl _ _) _ rfl) ?_; rintro e w2 ⟨hb2, b, rb, fb, rfl, hl2⟩; have HB2 := Lib.hid hb2; have HL2 := Lib.hid hl2; clear hb2 hl2)
    | (go_at_call 28; refine Calls.mono (zz_rune (Lib.hid (rune_start HL2.out (tabs_below h.out.size h.out.tabs HB2.out) (sF_byte s) (fun h9 => hc.out 0 h9 (by omega))))) ?_; rintro e w3 ⟨rfl, hb3, hs3⟩; have HB3 := Lib.hid hb3; have HS3 := Lib.hid hs3; have c14 := hs3.c14; have c3 := hs3.c3; clear hb3 hs3)
    | (go_at_call 29; refine Calls.mono (zz_col c14) ?_; rintro e w8 ⟨rfl, rfl⟩)
    | (go_at_call 34; refine Calls.mono (zz_cur c3) ?_; rintro e w9 ⟨rfl, rfl⟩)
    | (go_at_call 31; refine Calls.mono (zz_dq (Lib.hid (dqToken_any (w0 := w1) (Lib.hid ⟨h.out.size, h.out.tabs, sF_byte s, hc.out⟩) (Lib.hid ⟨HB2.out.trans HB3.out, HS3.out⟩) hst.out))) ?_; rintro e w4 ⟨tok, k, rfl, hk4, hd4⟩; have HK4 := Lib.hid hk4; have HB4 := hk4.below; clear c14 c3; have c14 := hk4.st.c14; have c3 := hk4.st.c3; clear hk4))
  go_returns
  have hk := dqF_le (Rn (sF s) s.size) (langOf i)
  rw [show dqF (Rn (sF s) s.size) (langOf i) = (tok, k) from hd4] at hk
  exact ⟨tok, k, by simp [wrap_col k hk], hd4, HB4⟩

theorem zz_param {b : Nat} {w : World} {r : Int} {R : Int → Nat → World → Prop} (h : Hid (Calls Tryf.prog 46 #[.pointer (some ⟨b, 0, none⟩), .int .i32 r] w fun e w' => ∃ tok k, e = .returned (.int .u32 tok) ∧ R tok k w')) :
    Calls Tryf.prog 32 #[.pointer (some ⟨b, 0, none⟩), .int .i32 r] w fun e w' => ∃ tok k, e = .returned (.int .u32 tok) ∧ R tok k w' := by
  go_enter Tryf.func32, Tryf.ntmps32
  go_wp2_with (go_at_call 46; refine Calls.mono h.out ?_; rintro e w1 ⟨tok, k, rfl, h1⟩)
  go_ret
  exact ⟨tok, k, rfl, h1⟩

set_option maxHeartbeats 2000000 in
set_option maxRecDepth 100000 in
theorem run_param {s : ByteArray} {w : World} {ea : Addr} {i : Int} (h : Hid (Beg w ea)) (hs : s.size ≤ 1048576) (hc : Hid (Clean (sF s) s.size)) :
    Calls Tryf.prog 11 #[.int .i64 2, .int .i64 i, .string s] w fun e w' => ∃ tok k, e = .returned (.tuple #[.int .u32 tok, .int .i64 (k : Nat), .int .i32 (Rn (sF s) s.size k)]) ∧ Hid (paramF (Rn (sF s) s.size) (langOf i) = (tok, k)) ∧ Below w.heap.size w w' := by
  have hcv := conv_s s
  go_enter Tryf.func11, Tryf.ntmps11
  go_wp2_with (first
    | (go_at_call 27; refine Calls.mono (lang_any _ _ _ rfl) ?_; rintro e w1 ⟨rfl, rfl⟩)
    | (go_at_call 26; refine Calls.mono (lexer_at h.out hs (Below.refl _ _) _ rfl) ?_; rintro e w2 ⟨hb2, b, rb, fb, rfl, hl2⟩; have HB2 := Lib.hid hb2; have HL2 := Lib.hid hl2; clear hb2 hl2)
    | (go_at_call 28; refine Calls.mono (zz_rune (Lib.hid (rune_start HL2.out (tabs_below h.out.size h.out.tabs HB2.out) (sF_byte s) (fun h9 => hc.out 0 h9 (by omega))))) ?_; rintro e w3 ⟨rfl, hb3, hs3⟩; have HB3 := Lib.hid hb3; have HS3 := Lib.hid hs3; have c14 := hs3.c14; have c3 := hs3.c3; clear hb3 hs3)
    | (go_at_call 29; refine Calls.mono (zz_col c14) ?_; rintro e w8 ⟨rfl, rfl⟩)
    | (go_at_call 34; refine Calls.mono (zz_cur c3) ?_; rintro e w9 ⟨rfl, rfl⟩)
    | (go_at_call 32; refine Calls.mono (zz_param (Lib.hid (paramToken_any (w0 := w1) (Lib.hid ⟨h.out.size, h.out.tabs, sF_byte s, hc.out⟩) (Lib.hid ⟨HB2.out.trans HB3.out, HS3.out⟩)))) ?_; rintro e w4 ⟨tok, k, rfl, hk4, hd4⟩; have HK4 := Lib.hid hk4; have HB4 := hk4.below; clear c14 c3; have c14 := hk4.st.c14; have c3 := hk4.st.c3; clear hk4))
  go_returns
  have hk := paramF_le (Rn (sF s) s.size) (langOf i)
  rw [show paramF (Rn (sF s) s.size) (langOf i) = (tok, k) from hd4] at hk
  exact ⟨tok, k, by simp [wrap_col k hk], hd4, HB4⟩

theorem zz_arithm {b : Nat} {w : World} {r : Int} {R : Int → Nat → World → Prop} (h : Hid (Calls Tryf.prog 47 #[.pointer (some ⟨b, 0, none⟩), .int .i32 r] w fun e w' => ∃ tok k, e = .returned (.int .u32 tok) ∧ R tok k w')) :
    Calls Tryf.prog 33 #[.pointer (some ⟨b, 0, none⟩), .int .i32 r] w fun e w' => ∃ tok k, e = .returned (.int .u32 tok) ∧ R tok k w' := by
  go_enter Tryf.func33, Tryf.ntmps33
  go_wp2_with (go_at_call 47; refine Calls.mono h.out ?_; rintro e w1 ⟨tok, k, rfl, h1⟩)
  go_ret
  exact ⟨tok, k, rfl, h1⟩

set_option maxHeartbeats 2000000 in
set_option maxRecDepth 100000 in
theorem run_arithm {s : ByteArray} {w : World} {ea : Addr} {i : Int} (h : Hid (Beg w ea)) (hs : s.size ≤ 1048576) (hc : Hid (Clean (sF s) s.size)) (hst : Hid (Rn (sF s) s.size 0 = 33 ∨ Rn (sF s) s.size 0 = 61 ∨ Rn (sF s) s.size 0 = 126 ∨ Rn (sF s) s.size 0 = 40 ∨ Rn (sF s) s.size 0 = 41 ∨ Rn (sF s) s.size 0 = 38 ∨ Rn (sF s) s.size 0 = 124 ∨ Rn (sF s) s.size 0 = 60 ∨ Rn (sF s) s.size 0 = 62 ∨ Rn (sF s) s.size 0 = 43 ∨ Rn (sF s) s.size 0 = 45 ∨ Rn (sF s) s.size 0 = 37 ∨ Rn (sF s) s.size 0 = 42 ∨ Rn (sF s) s.size 0 = 47 ∨ Rn (sF s) s.size 0 = 94 ∨ Rn (sF s) s.size 0 = 91 ∨ Rn (sF s) s.size 0 = 93 ∨ Rn (sF s) s.size 0 = 44 ∨ Rn (sF s) s.size 0 = 63 ∨ Rn (sF s) s.size 0 = 58 ∨ Rn (sF s) s.size 0 = 35 ∨ Rn (sF s) s.size 0 = 46)) :
    Calls Tryf.prog 11 #[.int .i64 3, .int .i64 i, .string s] w fun e w' => ∃ tok k, e = .returned (.tuple #[.int .u32 tok, .int .i64 (k : Nat), .int .i32 (Rn (sF s) s.size k)]) ∧ Hid (arithmF (Rn (sF s) s.size) (langOf i) = (tok, k)) ∧ Below w.heap.size w w' := by
  have hcv := conv_s s
  go_enter Tryf.func11, Tryf.ntmps11
  go_wp2_with (first
    | (go_at_call 27; refine Calls.mono (lang_any _ _ _ rfl) ?_; rintro e w1 ⟨rfl, rfl⟩)
    | (go_at_call 26; refine Calls.mono (lexer_at h.out hs (Below.refl _ _) _ rfl) ?_; rintro e w2 ⟨hb2, b, rb, fb, rfl, hl2⟩; have HB2 := Lib.hid hb2; have HL2 := Lib.hid hl2; clear hb2 hl2)
    | (go_at_call 28; refine Calls.mono (zz_rune (Lib.hid (rune_start HL2.out (tabs_below h.out.size h.out.tabs HB2.out) (sF_byte s) (fun h9 => hc.out 0 h9 (by omega))))) ?_; rintro e w3 ⟨rfl, hb3, hs3⟩; have HB3 := Lib.hid hb3; have HS3 := Lib.hid hs3; have c14 := hs3.c14; have c3 := hs3.c3; clear hb3 hs3)
    | (go_at_call 29; refine Calls.mono (zz_col c14) ?_; rintro e w8 ⟨rfl, rfl⟩)
    | (go_at_call 34; refine Calls.mono (zz_cur c3) ?_; rintro e w9 ⟨rfl, rfl⟩)
    | (go_at_call 33; refine Calls.mono (zz_arithm (Lib.hid (arithmToken_any (w0 := w1) (Lib.hid ⟨h.out.size, h.out.tabs, sF_byte s, hc.out⟩) (Lib.hid ⟨HB2.out.trans HB3.out, HS3.out⟩) hst.out))) ?_; rintro e w4 ⟨tok, k, rfl, hk4, hd4⟩; have HK4 := Lib.hid hk4; have HB4 := hk4.below; clear c14 c3; have c14 := hk4.st.c14; have c3 := hk4.st.c3; clear hk4))
  go_returns
  have hk := arithmF_le (Rn (sF s) s.size) (langOf i)
  rw [show arithmF (Rn (sF s) s.size) (langOf i) = (tok, k) from hd4] at hk
  exact ⟨tok, k, by simp [wrap_col k hk], hd4, HB4⟩
end Go.Proofs.YtgcjaijakbejjaaFmt
