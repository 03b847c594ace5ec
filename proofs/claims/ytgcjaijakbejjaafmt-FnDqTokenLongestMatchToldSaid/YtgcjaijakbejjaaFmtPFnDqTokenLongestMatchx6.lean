-- PRINTED BY print.sh 35421559b90ae4d0a3588c463048766b98c2df88dd9212a6774a882060cdf62d: not written by this session
import Derived.Test.YtgcjaijakbejjaaFmtPFnDqTokenLongestMatchx0
namespace Go.Proofs.YtgcjaijakbejjaaFmt.PFnDqTokenLongestMatch
open Go.RowKit Go.Proofs.YtgcjaijakbejjaaFmtW.PrintWords Go.Proofs.YtgcjaijakbejjaaFmtW.PrintLast Go.Proofs.YtgcjaijakbejjaaFmtW.PrintMore
attribute [local go_sem] max2_int min2_int max_two min_two max_three min_three max_four min_four   -- for this text's walks alone
set_option linter.unusedVariables false
set_option linter.unusedSimpArgs false

/-! ### n010_119_zzB1RuneOK: function 19 -/
mutual
def n010_119_zzB1RuneOK.j4 : Nat → ByteArray → Int → Int → Int → Option (Bool)
  | 0, _, _, _, _ => none
  | k + 1, x0, x4, x5, x6 => if (x0.size : Int) < (wrap64 (x4 + 1)) then (some false) else (if 1 < (x0.size : Int) then (if (bt x0 1) < x5 then (n010_119_zzB1RuneOK.j5 k x0 x4 true) else (n010_119_zzB1RuneOK.j5 k x0 x4 (decide ((bt x0 1) > x6)))) else (none))
def n010_119_zzB1RuneOK.j5 : Nat → ByteArray → Int → Bool → Option (Bool)
  | 0, _, _, _ => none
  | k + 1, x0, x4, x63 => if x63 = true then (some false) else (n010_119_zzB1RuneOK.l0 k x0 x4 2)
def n010_119_zzB1RuneOK.l0 : Nat → ByteArray → Int → Int → Option (Bool)
  | 0, _, _, _ => none
  | k + 1, x0, x4, x7 => if x7 ≤ x4 then (if 0 ≤ x7 then (if x7 < (x0.size : Int) then (if (bt x0 x7) < 128 then (some false) else (if (bt x0 x7) > 191 then (some false) else (n010_119_zzB1RuneOK.l0 k x0 x4 (wrap64 (x7 + 1))))) else (none)) else (none)) else (some true)
def n010_119_zzB1RuneOK.j0 : Nat → ByteArray → Int → Int → Int → Bool → Option (Bool)
  | 0, _, _, _, _, _ => none
  | k + 1, x0, x3, x5, x6, x12 => if x12 = true then (n010_119_zzB1RuneOK.j4 k x0 1 x5 x6) else (if x3 = 224 then (n010_119_zzB1RuneOK.j4 k x0 2 160 x6) else (if x3 ≥ 225 then (n010_119_zzB1RuneOK.j1 k x0 x3 x5 x6 (decide (x3 ≤ 236))) else (n010_119_zzB1RuneOK.j1 k x0 x3 x5 x6 false)))
def n010_119_zzB1RuneOK.j1 : Nat → ByteArray → Int → Int → Int → Bool → Option (Bool)
  | 0, _, _, _, _, _ => none
  | k + 1, x0, x3, x5, x6, x22 => if x22 = true then (n010_119_zzB1RuneOK.j2 k x0 x3 x5 x6 x22) else (if x3 = 238 then (n010_119_zzB1RuneOK.j2 k x0 x3 x5 x6 (x3 == 238)) else (n010_119_zzB1RuneOK.j2 k x0 x3 x5 x6 (x3 == 239)))
def n010_119_zzB1RuneOK.j2 : Nat → ByteArray → Int → Int → Int → Bool → Option (Bool)
  | 0, _, _, _, _, _ => none
  | k + 1, x0, x3, x5, x6, x22 => if x22 = true then (n010_119_zzB1RuneOK.j4 k x0 2 x5 x6) else (if x3 = 237 then (n010_119_zzB1RuneOK.j4 k x0 2 x5 159) else (if x3 = 240 then (n010_119_zzB1RuneOK.j4 k x0 3 144 x6) else (if x3 ≥ 241 then (n010_119_zzB1RuneOK.j3 k x0 x3 x5 x6 (decide (x3 ≤ 243))) else (n010_119_zzB1RuneOK.j3 k x0 x3 x5 x6 false))))
def n010_119_zzB1RuneOK.j3 : Nat → ByteArray → Int → Int → Int → Bool → Option (Bool)
  | 0, _, _, _, _, _ => none
  | k + 1, x0, x3, x5, x6, x39 => if x39 = true then (n010_119_zzB1RuneOK.j4 k x0 3 x5 x6) else (if x3 = 244 then (n010_119_zzB1RuneOK.j4 k x0 3 x5 143) else (some false))
end
def n010_119_zzB1RuneOK.f (k : Nat) (a0 : ByteArray) : Option (Bool) := if 0 < (a0.size : Int) then (if (bt a0 0) < 128 then (some true) else (if (bt a0 0) ≥ 194 then (n010_119_zzB1RuneOK.j0 k a0 (bt a0 0) 128 191 (decide ((bt a0 0) ≤ 223))) else (n010_119_zzB1RuneOK.j0 k a0 (bt a0 0) 128 191 false))) else (none)
theorem n010_119_zzB1RuneOK.mono_l : ∀ k, (∀ y0 y1 y2 y3, LeO (n010_119_zzB1RuneOK.j4 k y0 y1 y2 y3) (n010_119_zzB1RuneOK.j4 (k + 1) y0 y1 y2 y3)) ∧ (∀ y0 y1 y2, LeO (n010_119_zzB1RuneOK.j5 k y0 y1 y2) (n010_119_zzB1RuneOK.j5 (k + 1) y0 y1 y2)) ∧ (∀ y0 y1 y2, LeO (n010_119_zzB1RuneOK.l0 k y0 y1 y2) (n010_119_zzB1RuneOK.l0 (k + 1) y0 y1 y2)) ∧ (∀ y0 y1 y2 y3 y4, LeO (n010_119_zzB1RuneOK.j0 k y0 y1 y2 y3 y4) (n010_119_zzB1RuneOK.j0 (k + 1) y0 y1 y2 y3 y4)) ∧ (∀ y0 y1 y2 y3 y4, LeO (n010_119_zzB1RuneOK.j1 k y0 y1 y2 y3 y4) (n010_119_zzB1RuneOK.j1 (k + 1) y0 y1 y2 y3 y4)) ∧ (∀ y0 y1 y2 y3 y4, LeO (n010_119_zzB1RuneOK.j2 k y0 y1 y2 y3 y4) (n010_119_zzB1RuneOK.j2 (k + 1) y0 y1 y2 y3 y4)) ∧ (∀ y0 y1 y2 y3 y4, LeO (n010_119_zzB1RuneOK.j3 k y0 y1 y2 y3 y4) (n010_119_zzB1RuneOK.j3 (k + 1) y0 y1 y2 y3 y4))
  | 0 => ⟨fun _ _ _ _ r h => by simp [n010_119_zzB1RuneOK.j4] at h, fun _ _ _ r h => by simp [n010_119_zzB1RuneOK.j5] at h, fun _ _ _ r h => by simp [n010_119_zzB1RuneOK.l0] at h, fun _ _ _ _ _ r h => by simp [n010_119_zzB1RuneOK.j0] at h, fun _ _ _ _ _ r h => by simp [n010_119_zzB1RuneOK.j1] at h, fun _ _ _ _ _ r h => by simp [n010_119_zzB1RuneOK.j2] at h, fun _ _ _ _ _ r h => by simp [n010_119_zzB1RuneOK.j3] at h⟩
  | k + 1 => by
    obtain ⟨ih0, ih1, ih2, ih3, ih4, ih5, ih6⟩ := n010_119_zzB1RuneOK.mono_l k
    refine ⟨?_, ?_, ?_, ?_, ?_, ?_, ?_⟩
    · intro y0 y1 y2 y3
      unfold n010_119_zzB1RuneOK.j4
      repeat' first
      | (with_reducible exact ih0 _ _ _ _)
      | (with_reducible exact ih1 _ _ _)
      | (with_reducible exact ih2 _ _ _)
      | (with_reducible exact ih3 _ _ _ _ _)
      | (with_reducible exact ih4 _ _ _ _ _)
      | (with_reducible exact ih5 _ _ _ _ _)
      | (with_reducible exact ih6 _ _ _ _ _)
      | (with_reducible exact LeO.refl _)
      | (with_reducible exact LeO.none _)
      | (with_reducible refine LeO.ite ?_ ?_)
      | (with_reducible refine LeO.bind ?_ (fun _ => ?_))
      | exact ih0 _ _ _ _
      | exact ih1 _ _ _
      | exact ih2 _ _ _
      | exact ih3 _ _ _ _ _
      | exact ih4 _ _ _ _ _
      | exact ih5 _ _ _ _ _
      | exact ih6 _ _ _ _ _
      | exact LeO.none _
      | refine LeO.ite ?_ ?_
      | refine LeO.bind ?_ (fun _ => ?_)
    · intro y0 y1 y2
      unfold n010_119_zzB1RuneOK.j5
      repeat' first
      | (with_reducible exact ih0 _ _ _ _)
      | (with_reducible exact ih1 _ _ _)
      | (with_reducible exact ih2 _ _ _)
      | (with_reducible exact ih3 _ _ _ _ _)
      | (with_reducible exact ih4 _ _ _ _ _)
      | (with_reducible exact ih5 _ _ _ _ _)
      | (with_reducible exact ih6 _ _ _ _ _)
      | (with_reducible exact LeO.refl _)
      | (with_reducible exact LeO.none _)
      | (with_reducible refine LeO.ite ?_ ?_)
      | (with_reducible refine LeO.bind ?_ (fun _ => ?_))
      | exact ih0 _ _ _ _
      | exact ih1 _ _ _
      | exact ih2 _ _ _
      | exact ih3 _ _ _ _ _
      | exact ih4 _ _ _ _ _
      | exact ih5 _ _ _ _ _
      | exact ih6 _ _ _ _ _
      | exact LeO.none _
      | refine LeO.ite ?_ ?_
      | refine LeO.bind ?_ (fun _ => ?_)
    · intro y0 y1 y2
      unfold n010_119_zzB1RuneOK.l0
      repeat' first
      | (with_reducible exact ih0 _ _ _ _)
      | (with_reducible exact ih1 _ _ _)
      | (with_reducible exact ih2 _ _ _)
      | (with_reducible exact ih3 _ _ _ _ _)
      | (with_reducible exact ih4 _ _ _ _ _)
      | (with_reducible exact ih5 _ _ _ _ _)
      | (with_reducible exact ih6 _ _ _ _ _)
      | (with_reducible exact LeO.refl _)
      | (with_reducible exact LeO.none _)
      | (with_reducible refine LeO.ite ?_ ?_)
      | (with_reducible refine LeO.bind ?_ (fun _ => ?_))
      | exact ih0 _ _ _ _
      | exact ih1 _ _ _
      | exact ih2 _ _ _
      | exact ih3 _ _ _ _ _
      | exact ih4 _ _ _ _ _
      | exact ih5 _ _ _ _ _
      | exact ih6 _ _ _ _ _
      | exact LeO.none _
      | refine LeO.ite ?_ ?_
      | refine LeO.bind ?_ (fun _ => ?_)
    · intro y0 y1 y2 y3 y4
      unfold n010_119_zzB1RuneOK.j0
      repeat' first
      | (with_reducible exact ih0 _ _ _ _)
      | (with_reducible exact ih1 _ _ _)
      | (with_reducible exact ih2 _ _ _)
      | (with_reducible exact ih3 _ _ _ _ _)
      | (with_reducible exact ih4 _ _ _ _ _)
      | (with_reducible exact ih5 _ _ _ _ _)
      | (with_reducible exact ih6 _ _ _ _ _)
      | (with_reducible exact LeO.refl _)
      | (with_reducible exact LeO.none _)
      | (with_reducible refine LeO.ite ?_ ?_)
      | (with_reducible refine LeO.bind ?_ (fun _ => ?_))
      | exact ih0 _ _ _ _
      | exact ih1 _ _ _
      | exact ih2 _ _ _
      | exact ih3 _ _ _ _ _
      | exact ih4 _ _ _ _ _
      | exact ih5 _ _ _ _ _
      | exact ih6 _ _ _ _ _
      | exact LeO.none _
      | refine LeO.ite ?_ ?_
      | refine LeO.bind ?_ (fun _ => ?_)
    · intro y0 y1 y2 y3 y4
      unfold n010_119_zzB1RuneOK.j1
      repeat' first
      | (with_reducible exact ih0 _ _ _ _)
      | (with_reducible exact ih1 _ _ _)
      | (with_reducible exact ih2 _ _ _)
      | (with_reducible exact ih3 _ _ _ _ _)
      | (with_reducible exact ih4 _ _ _ _ _)
      | (with_reducible exact ih5 _ _ _ _ _)
      | (with_reducible exact ih6 _ _ _ _ _)
      | (with_reducible exact LeO.refl _)
      | (with_reducible exact LeO.none _)
      | (with_reducible refine LeO.ite ?_ ?_)
      | (with_reducible refine LeO.bind ?_ (fun _ => ?_))
      | exact ih0 _ _ _ _
      | exact ih1 _ _ _
      | exact ih2 _ _ _
      | exact ih3 _ _ _ _ _
      | exact ih4 _ _ _ _ _
      | exact ih5 _ _ _ _ _
      | exact ih6 _ _ _ _ _
      | exact LeO.none _
      | refine LeO.ite ?_ ?_
      | refine LeO.bind ?_ (fun _ => ?_)
    · intro y0 y1 y2 y3 y4
      unfold n010_119_zzB1RuneOK.j2
      repeat' first
      | (with_reducible exact ih0 _ _ _ _)
      | (with_reducible exact ih1 _ _ _)
      | (with_reducible exact ih2 _ _ _)
      | (with_reducible exact ih3 _ _ _ _ _)
      | (with_reducible exact ih4 _ _ _ _ _)
      | (with_reducible exact ih5 _ _ _ _ _)
      | (with_reducible exact ih6 _ _ _ _ _)
      | (with_reducible exact LeO.refl _)
      | (with_reducible exact LeO.none _)
      | (with_reducible refine LeO.ite ?_ ?_)
      | (with_reducible refine LeO.bind ?_ (fun _ => ?_))
      | exact ih0 _ _ _ _
      | exact ih1 _ _ _
      | exact ih2 _ _ _
      | exact ih3 _ _ _ _ _
      | exact ih4 _ _ _ _ _
      | exact ih5 _ _ _ _ _
      | exact ih6 _ _ _ _ _
      | exact LeO.none _
      | refine LeO.ite ?_ ?_
      | refine LeO.bind ?_ (fun _ => ?_)
    · intro y0 y1 y2 y3 y4
      unfold n010_119_zzB1RuneOK.j3
      repeat' first
      | (with_reducible exact ih0 _ _ _ _)
      | (with_reducible exact ih1 _ _ _)
      | (with_reducible exact ih2 _ _ _)
      | (with_reducible exact ih3 _ _ _ _ _)
      | (with_reducible exact ih4 _ _ _ _ _)
      | (with_reducible exact ih5 _ _ _ _ _)
      | (with_reducible exact ih6 _ _ _ _ _)
      | (with_reducible exact LeO.refl _)
      | (with_reducible exact LeO.none _)
      | (with_reducible refine LeO.ite ?_ ?_)
      | (with_reducible refine LeO.bind ?_ (fun _ => ?_))
      | exact ih0 _ _ _ _
      | exact ih1 _ _ _
      | exact ih2 _ _ _
      | exact ih3 _ _ _ _ _
      | exact ih4 _ _ _ _ _
      | exact ih5 _ _ _ _ _
      | exact ih6 _ _ _ _ _
      | exact LeO.none _
      | refine LeO.ite ?_ ?_
      | refine LeO.bind ?_ (fun _ => ?_)
theorem n010_119_zzB1RuneOK.mono : ∀ a0 k, LeO (n010_119_zzB1RuneOK.f k a0) (n010_119_zzB1RuneOK.f (k + 1) a0) := by
  intro a0 k
  obtain ⟨ih0, ih1, ih2, ih3, ih4, ih5, ih6⟩ := n010_119_zzB1RuneOK.mono_l k
  unfold n010_119_zzB1RuneOK.f
  repeat' first
      | (with_reducible exact ih0 _ _ _ _)
      | (with_reducible exact ih1 _ _ _)
      | (with_reducible exact ih2 _ _ _)
      | (with_reducible exact ih3 _ _ _ _ _)
      | (with_reducible exact ih4 _ _ _ _ _)
      | (with_reducible exact ih5 _ _ _ _ _)
      | (with_reducible exact ih6 _ _ _ _ _)
      | (with_reducible exact LeO.refl _)
      | (with_reducible exact LeO.none _)
      | (with_reducible refine LeO.ite ?_ ?_)
      | (with_reducible refine LeO.bind ?_ (fun _ => ?_))
      | exact ih0 _ _ _ _
      | exact ih1 _ _ _
      | exact ih2 _ _ _
      | exact ih3 _ _ _ _ _
      | exact ih4 _ _ _ _ _
      | exact ih5 _ _ _ _ _
      | exact ih6 _ _ _ _ _
      | exact LeO.none _
      | refine LeO.ite ?_ ?_
      | refine LeO.bind ?_ (fun _ => ?_)
set_option maxHeartbeats 8000000 in
set_option maxRecDepth 100000 in
theorem n010_119_zzB1RuneOK.calls (k : Nat) (a0 : ByteArray) (r : Bool) (w : World) (h : n010_119_zzB1RuneOK.f k a0 = some r) :
    Calls Tryf.prog 19 #[.string a0] w fun e w' => e = .returned (.bool r) ∧ Drawn0 w w' := by
  have H : (if 0 < (a0.size : Int) then (if (bt a0 0) < 128 then (some true) else (if (bt a0 0) ≥ 194 then (n010_119_zzB1RuneOK.j0 k a0 (bt a0 0) 128 191 (decide ((bt a0 0) ≤ 223))) else (n010_119_zzB1RuneOK.j0 k a0 (bt a0 0) 128 191 false))) else (none)) = some r := h
  clear h
  by_cases c2 : 0 < (a0.size : Int)
  · rw [if_pos c2] at H
    have c2b0 : decide (0 < (a0.size : Int)) = true := decide_eq_true c2
    have c2b1 : decide (0 < a0.size) = true := decide_eq_true (by omega)
    clear c2
    by_cases c4 : (bt a0 0) < 128
    · rw [if_pos c4] at H
      have c4b0 : decide ((bt a0 0) < 128) = true := decide_eq_true c4
      clear c4
      obtain rfl := Option.some.inj H
      have p3 : 0 ≤ (0 : Int) := (by omega)
      have q3 : 0 < a0.size := (by have : (0 : Int) < (a0.size : Int) := of_decide_eq_true (by first | (with_reducible assumption) | assumption); omega)
      have hx3 : ∀ h : 0 < a0.size, ((a0[0]'h).toNat : Int) = bt a0 0 := bt_at a0 0
      clear p3
      have qi3 : (0 < (a0.size : Int)) = True := eq_true (of_decide_eq_true (by first | (with_reducible assumption) | assumption))
      replace q3 := eq_true q3
      go_enter Tryf.func19, Tryf.ntmps19
      go_wp2
      go_ret
      exact ⟨by first | rfl | (simp; done) | (simp [*]; done), by repeat (first | exact Drawn0.refl _ | apply Drawn0.step)⟩
    · rw [if_neg c4] at H
      have c4b0 : decide ((bt a0 0) < 128) = false := decide_eq_false c4
      clear c4
      have HC5 := Aside0.mk H
      clear H
      have p3 : 0 ≤ (0 : Int) := (by omega)
      have q3 : 0 < a0.size := (by have : (0 : Int) < (a0.size : Int) := of_decide_eq_true (by first | (with_reducible assumption) | assumption); omega)
      have hx3 : ∀ h : 0 < a0.size, ((a0[0]'h).toNat : Int) = bt a0 0 := bt_at a0 0
      clear p3
      have qi3 : (0 < (a0.size : Int)) = True := eq_true (of_decide_eq_true (by first | (with_reducible assumption) | assumption))
      replace q3 := eq_true q3
      go_enter Tryf.func19, Tryf.ntmps19
      go_upto_block 0 with (fail)
      go_cut [4, 5, 6] (fun v4 v5 v6 wc => ∃ (kq : Nat) (x4_4 : Int) (x5_4 : Int) (x6_4 : Int), v4 = .int .i64 x4_4 ∧ v5 = .int .u8 x5_4 ∧ v6 = .int .u8 x6_4 ∧ Aside0 (n010_119_zzB1RuneOK.j4 kq a0 x4_4 x5_4 x6_4 = some r) ∧ Aside0 (kq ≤ k) ∧ Drawn0 w wc)
      case first =>
        have H := HC5.out
        clear HC5
        have HC6 := Aside0.mk H
        clear H
        go_upto_region 8 with (fail)
        go_cut [12] (fun v12 wc => ∃ (kq : Nat) (x12_5 : Bool), v12 = .bool x12_5 ∧ Aside0 (n010_119_zzB1RuneOK.j0 kq a0 (bt a0 0) 128 191 x12_5 = some r) ∧ Aside0 (kq ≤ k) ∧ Drawn0 w wc)
        case first =>
          have H := HC6.out
          clear HC6
          by_cases c7 : (bt a0 0) ≥ 194
          · rw [if_pos c7] at H
            have c7b0 : decide (194 ≤ (bt a0 0)) = true := decide_eq_true c7
            clear c7
            (first | rw [c7b0] | (simp only [i64_w, i32_w]; rw [c7b0]) | skip)
            have H' := Aside0.mk H
            clear H
            go_wp2
            go_meet
            case rel => exact ⟨_, (decide ((bt a0 0) ≤ 223)), (by first | rfl | (simp; done) | (simp [*]; done)), H', ⟨by first | omega | exact Nat.le_refl _⟩, by repeat (first | exact Drawn0.refl _ | apply Drawn0.step)⟩
          · rw [if_neg c7] at H
            have c7b0 : decide (194 ≤ (bt a0 0)) = false := decide_eq_false c7
            clear c7
            (first | rw [c7b0] | (simp only [i64_w, i32_w]; rw [c7b0]) | skip)
            have H' := Aside0.mk H
            clear H
            go_wp2
            go_meet
            case rel => exact ⟨_, (false), (by first | rfl | (simp; done) | (simp [*]; done)), H', ⟨by first | omega | exact Nat.le_refl _⟩, by repeat (first | exact Drawn0.refl _ | apply Drawn0.step)⟩
        case rest =>
          clear HC6
          try clear c1
          try clear c2
          try clear c2b0
          try clear c2b1
          try clear p2
          try clear p3
          try clear q3
          try clear hx3
          try clear qi3
          try clear c4
          try clear c4b0
          try clear c7
          try clear c7b0
          try clear p3
          try clear q3
          obtain ⟨kq, x12_5, rfl, HA, HJ5, ⟨mc5, rfl⟩⟩ := hcut
          cases kq with
          | zero => exact absurd HA.out (by simp [n010_119_zzB1RuneOK.j0])
          | succ kj5 =>
            have H := HA.out
            clear HA
            simp only [n010_119_zzB1RuneOK.j0] at H
            by_cases c8 : x12_5 = true
            · subst c8
              have H1 : (n010_119_zzB1RuneOK.j4 kj5 a0 1 128 191) = some r := by rw [if_pos rfl] at H; exact H
              clear H
              have H := H1
              clear H1
              have H' := Aside0.mk H
              clear H
              go_wp2
              go_meet
              case rel => exact ⟨_, (1), (128), (191), (by first | rfl | (simp; done) | (simp [*]; done)), (by first | rfl | (simp; done) | (simp [*]; done)), (by first | rfl | (simp; done) | (simp [*]; done)), H', ⟨by have := HJ5.out; first | omega | exact Nat.le_refl _⟩, by repeat (first | exact Drawn0.refl _ | apply Drawn0.step)⟩
            · replace c8 := Bool.eq_false_iff.mpr c8
              subst c8
              have H1 : (if (bt a0 0) = 224 then (n010_119_zzB1RuneOK.j4 kj5 a0 2 160 191) else (if (bt a0 0) ≥ 225 then (n010_119_zzB1RuneOK.j1 kj5 a0 (bt a0 0) 128 191 (decide ((bt a0 0) ≤ 236))) else (n010_119_zzB1RuneOK.j1 kj5 a0 (bt a0 0) 128 191 false))) = some r := by rw [if_neg (show ¬ (false = true) by decide)] at H; exact H
              clear H
              have H := H1
              clear H1
              by_cases c9 : (bt a0 0) = 224
              · rw [if_pos c9] at H
                have c9b0 : ((bt a0 0) == 224) = true := beq_iff_eq.mpr c9
                have c9b1 : ((bt a0 0) != 224) = false := bne_eq_false_iff_eq.mpr c9
                clear c9
                have H' := Aside0.mk H
                clear H
                go_wp2
                go_meet
                case rel => exact ⟨_, (2), (160), (191), (by first | rfl | (simp; done) | (simp [*]; done)), (by first | rfl | (simp; done) | (simp [*]; done)), (by first | rfl | (simp; done) | (simp [*]; done)), H', ⟨by have := HJ5.out; first | omega | exact Nat.le_refl _⟩, by repeat (first | exact Drawn0.refl _ | apply Drawn0.step)⟩
              · rw [if_neg c9] at H
                have c9b0 : ((bt a0 0) == 224) = false := beq_eq_false_iff_ne.mpr c9
                have c9b1 : ((bt a0 0) != 224) = true := bne_iff_ne.mpr c9
                have HC10 := Aside0.mk H
                clear H
                go_upto_region 13 with (fail)
                go_cut [22] (fun v22 wc => ∃ (kq : Nat) (x22_9 : Bool), v22 = .bool x22_9 ∧ Aside0 (n010_119_zzB1RuneOK.j1 kq a0 (bt a0 0) 128 191 x22_9 = some r) ∧ Aside0 (kq ≤ kj5) ∧ Drawn0 w wc)
                case first =>
                  have H := HC10.out
                  clear HC10
                  by_cases c11 : (bt a0 0) ≥ 225
                  · rw [if_pos c11] at H
                    have c11b0 : decide (225 ≤ (bt a0 0)) = true := decide_eq_true c11
                    clear c11
                    (first | rw [c11b0] | (simp only [i64_w, i32_w]; rw [c11b0]) | skip)
                    have H' := Aside0.mk H
                    clear H
                    go_wp2
                    go_meet
                    case rel => exact ⟨_, (decide ((bt a0 0) ≤ 236)), (by first | rfl | (simp; done) | (simp [*]; done)), H', ⟨by have := HJ5.out; first | omega | exact Nat.le_refl _⟩, by repeat (first | exact Drawn0.refl _ | apply Drawn0.step)⟩
                  · rw [if_neg c11] at H
                    have c11b0 : decide (225 ≤ (bt a0 0)) = false := decide_eq_false c11
                    clear c11
                    (first | rw [c11b0] | (simp only [i64_w, i32_w]; rw [c11b0]) | skip)
                    have H' := Aside0.mk H
                    clear H
                    go_wp2
                    go_meet
                    case rel => exact ⟨_, (false), (by first | rfl | (simp; done) | (simp [*]; done)), H', ⟨by have := HJ5.out; first | omega | exact Nat.le_refl _⟩, by repeat (first | exact Drawn0.refl _ | apply Drawn0.step)⟩
                case rest =>
                  clear HC10
                  try clear c1
                  try clear c2
                  try clear c2b0
                  try clear c2b1
                  try clear p2
                  try clear p3
                  try clear q3
                  try clear hx3
                  try clear qi3
                  try clear c4
                  try clear c4b0
                  try clear c5
                  try clear c7
                  try clear c7b0
                  try clear c8
                  try clear c9
                  try clear c9b0
                  try clear c9b1
                  try clear c11
                  try clear c11b0
                  try clear p2
                  try clear p3
                  try clear q3
                  obtain ⟨kq, x22_9, rfl, HA, HJ9, ⟨mc9, rfl⟩⟩ := hcut
                  cases kq with
                  | zero => exact absurd HA.out (by simp [n010_119_zzB1RuneOK.j1])
                  | succ kj9 =>
                    have H := HA.out
                    clear HA
                    simp only [n010_119_zzB1RuneOK.j1] at H
                    have HC12 := Aside0.mk H
                    clear H
                    go_upto_if 22 with (fail)
                    go_cut [22] (fun v22 wc => ∃ (kq : Nat) (x22_11 : Bool), v22 = .bool x22_11 ∧ Aside0 (n010_119_zzB1RuneOK.j2 kq a0 (bt a0 0) 128 191 x22_11 = some r) ∧ Aside0 (kq ≤ kj9) ∧ Drawn0 w wc)
                    case first =>
                      have H := HC12.out
                      clear HC12
                      by_cases c13 : x22_9 = true
                      · subst c13
                        have H1 : (n010_119_zzB1RuneOK.j2 kj9 a0 (bt a0 0) 128 191 true) = some r := by rw [if_pos rfl] at H; exact H
                        clear H
                        have H := H1
                        clear H1
                        have H' := Aside0.mk H
                        clear H
                        go_wp2
                        go_meet
                        case rel => exact ⟨_, (true), (by first | rfl | (simp; done) | (simp [*]; done)), H', ⟨by have := HJ5.out; have := HJ9.out; first | omega | exact Nat.le_refl _⟩, by repeat (first | exact Drawn0.refl _ | apply Drawn0.step)⟩
                      · replace c13 := Bool.eq_false_iff.mpr c13
                        subst c13
                        have H1 : (if (bt a0 0) = 238 then (n010_119_zzB1RuneOK.j2 kj9 a0 (bt a0 0) 128 191 ((bt a0 0) == 238)) else (n010_119_zzB1RuneOK.j2 kj9 a0 (bt a0 0) 128 191 ((bt a0 0) == 239))) = some r := by rw [if_neg (show ¬ (false = true) by decide)] at H; exact H
                        clear H
                        have H := H1
                        clear H1
                        by_cases c14 : (bt a0 0) = 238
                        · rw [if_pos c14] at H
                          have c14b0 : ((bt a0 0) == 238) = true := beq_iff_eq.mpr c14
                          have c14b1 : ((bt a0 0) != 238) = false := bne_eq_false_iff_eq.mpr c14
                          clear c14
                          (first | rw [c14b0] | (simp only [i64_w, i32_w]; rw [c14b0]) | skip)
                          have H' := Aside0.mk H
                          clear H
                          go_wp2
                          go_meet
                          case rel => exact ⟨_, (((bt a0 0) == 238)), (by first | rfl | (simp; done) | (simp [*]; done)), H', ⟨by have := HJ5.out; have := HJ9.out; first | omega | exact Nat.le_refl _⟩, by repeat (first | exact Drawn0.refl _ | apply Drawn0.step)⟩
                        · rw [if_neg c14] at H
                          have c14b0 : ((bt a0 0) == 238) = false := beq_eq_false_iff_ne.mpr c14
                          have c14b1 : ((bt a0 0) != 238) = true := bne_iff_ne.mpr c14
                          (first | rw [c14b0] | (simp only [i64_w, i32_w]; rw [c14b0]) | skip)
                          have H' := Aside0.mk H
                          clear H
                          go_wp2
                          go_meet
                          case rel => exact ⟨_, (((bt a0 0) == 239)), (by first | rfl | (simp; done) | (simp [*]; done)), H', ⟨by have := HJ5.out; have := HJ9.out; first | omega | exact Nat.le_refl _⟩, by repeat (first | exact Drawn0.refl _ | apply Drawn0.step)⟩
                    case rest =>
                      clear HC12
                      try clear c1
                      try clear c2
                      try clear c2b0
                      try clear c2b1
                      try clear p2
                      try clear p3
                      try clear q3
                      try clear hx3
                      try clear qi3
                      try clear c4
                      try clear c4b0
                      try clear c5
                      try clear c7
                      try clear c7b0
                      try clear c8
                      try clear c9
                      try clear c9b0
                      try clear c9b1
                      try clear c11
                      try clear c11b0
                      try clear c13
                      try clear c14
                      try clear c14b0
                      try clear c14b1
                      try clear p2
                      try clear p3
                      try clear q3
                      obtain ⟨kq, x22_11, rfl, HA, HJ11, ⟨mc11, rfl⟩⟩ := hcut
                      cases kq with
                      | zero => exact absurd HA.out (by simp [n010_119_zzB1RuneOK.j2])
                      | succ kj11 =>
                        have H := HA.out
                        clear HA
                        simp only [n010_119_zzB1RuneOK.j2] at H
                        by_cases c15 : x22_11 = true
                        · subst c15
                          have H1 : (n010_119_zzB1RuneOK.j4 kj11 a0 2 128 191) = some r := by rw [if_pos rfl] at H; exact H
                          clear H
                          have H := H1
                          clear H1
                          have H' := Aside0.mk H
                          clear H
                          go_wp2
                          go_meet
                          case rel => exact ⟨_, (2), (128), (191), (by first | rfl | (simp; done) | (simp [*]; done)), (by first | rfl | (simp; done) | (simp [*]; done)), (by first | rfl | (simp; done) | (simp [*]; done)), H', ⟨by have := HJ5.out; have := HJ9.out; have := HJ11.out; first | omega | exact Nat.le_refl _⟩, by repeat (first | exact Drawn0.refl _ | apply Drawn0.step)⟩
                        · replace c15 := Bool.eq_false_iff.mpr c15
                          subst c15
                          have H1 : (if (bt a0 0) = 237 then (n010_119_zzB1RuneOK.j4 kj11 a0 2 128 159) else (if (bt a0 0) = 240 then (n010_119_zzB1RuneOK.j4 kj11 a0 3 144 191) else (if (bt a0 0) ≥ 241 then (n010_119_zzB1RuneOK.j3 kj11 a0 (bt a0 0) 128 191 (decide ((bt a0 0) ≤ 243))) else (n010_119_zzB1RuneOK.j3 kj11 a0 (bt a0 0) 128 191 false)))) = some r := by rw [if_neg (show ¬ (false = true) by decide)] at H; exact H
                          clear H
                          have H := H1
                          clear H1
                          by_cases c16 : (bt a0 0) = 237
                          · rw [if_pos c16] at H
                            have c16b0 : ((bt a0 0) == 237) = true := beq_iff_eq.mpr c16
                            have c16b1 : ((bt a0 0) != 237) = false := bne_eq_false_iff_eq.mpr c16
                            clear c16
                            have H' := Aside0.mk H
                            clear H
                            go_wp2
                            go_meet
                            case rel => exact ⟨_, (2), (128), (159), (by first | rfl | (simp; done) | (simp [*]; done)), (by first | rfl | (simp; done) | (simp [*]; done)), (by first | rfl | (simp; done) | (simp [*]; done)), H', ⟨by have := HJ5.out; have := HJ9.out; have := HJ11.out; first | omega | exact Nat.le_refl _⟩, by repeat (first | exact Drawn0.refl _ | apply Drawn0.step)⟩
                          · rw [if_neg c16] at H
                            have c16b0 : ((bt a0 0) == 237) = false := beq_eq_false_iff_ne.mpr c16
                            have c16b1 : ((bt a0 0) != 237) = true := bne_iff_ne.mpr c16
                            by_cases c17 : (bt a0 0) = 240
                            · rw [if_pos c17] at H
                              have c17b0 : ((bt a0 0) == 240) = true := beq_iff_eq.mpr c17
                              have c17b1 : ((bt a0 0) != 240) = false := bne_eq_false_iff_eq.mpr c17
                              clear c17
                              have H' := Aside0.mk H
                              clear H
                              go_wp2
                              go_meet
                              case rel => exact ⟨_, (3), (144), (191), (by first | rfl | (simp; done) | (simp [*]; done)), (by first | rfl | (simp; done) | (simp [*]; done)), (by first | rfl | (simp; done) | (simp [*]; done)), H', ⟨by have := HJ5.out; have := HJ9.out; have := HJ11.out; first | omega | exact Nat.le_refl _⟩, by repeat (first | exact Drawn0.refl _ | apply Drawn0.step)⟩
                            · rw [if_neg c17] at H
                              have c17b0 : ((bt a0 0) == 240) = false := beq_eq_false_iff_ne.mpr c17
                              have c17b1 : ((bt a0 0) != 240) = true := bne_iff_ne.mpr c17
                              have HC18 := Aside0.mk H
                              clear H
                              go_upto_region 23 with (fail)
                              go_cut [39] (fun v39 wc => ∃ (kq : Nat) (x39_17 : Bool), v39 = .bool x39_17 ∧ Aside0 (n010_119_zzB1RuneOK.j3 kq a0 (bt a0 0) 128 191 x39_17 = some r) ∧ Aside0 (kq ≤ kj11) ∧ Drawn0 w wc)
                              case first =>
                                have H := HC18.out
                                clear HC18
                                by_cases c19 : (bt a0 0) ≥ 241
                                · rw [if_pos c19] at H
                                  have c19b0 : decide (241 ≤ (bt a0 0)) = true := decide_eq_true c19
                                  clear c19
                                  (first | rw [c19b0] | (simp only [i64_w, i32_w]; rw [c19b0]) | skip)
                                  have H' := Aside0.mk H
                                  clear H
                                  go_wp2
                                  go_meet
                                  case rel => exact ⟨_, (decide ((bt a0 0) ≤ 243)), (by first | rfl | (simp; done) | (simp [*]; done)), H', ⟨by have := HJ5.out; have := HJ9.out; have := HJ11.out; first | omega | exact Nat.le_refl _⟩, by repeat (first | exact Drawn0.refl _ | apply Drawn0.step)⟩
                                · rw [if_neg c19] at H
                                  have c19b0 : decide (241 ≤ (bt a0 0)) = false := decide_eq_false c19
                                  clear c19
                                  (first | rw [c19b0] | (simp only [i64_w, i32_w]; rw [c19b0]) | skip)
                                  have H' := Aside0.mk H
                                  clear H
                                  go_wp2
                                  go_meet
                                  case rel => exact ⟨_, (false), (by first | rfl | (simp; done) | (simp [*]; done)), H', ⟨by have := HJ5.out; have := HJ9.out; have := HJ11.out; first | omega | exact Nat.le_refl _⟩, by repeat (first | exact Drawn0.refl _ | apply Drawn0.step)⟩
                              case rest =>
                                clear HC18
                                try clear c1
                                try clear c2
                                try clear c2b0
                                try clear c2b1
                                try clear p2
                                try clear p3
                                try clear q3
                                try clear hx3
                                try clear qi3
                                try clear c4
                                try clear c4b0
                                try clear c5
                                try clear c7
                                try clear c7b0
                                try clear c8
                                try clear c9
                                try clear c9b0
                                try clear c9b1
                                try clear c11
                                try clear c11b0
                                try clear c13
                                try clear c14
                                try clear c14b0
                                try clear c14b1
                                try clear c15
                                try clear c16
                                try clear c16b0
                                try clear c16b1
                                try clear c17
                                try clear c17b0
                                try clear c17b1
                                try clear c19
                                try clear c19b0
                                try clear p2
                                try clear p3
                                try clear q3
                                obtain ⟨kq, x39_17, rfl, HA, HJ17, ⟨mc17, rfl⟩⟩ := hcut
                                cases kq with
                                | zero => exact absurd HA.out (by simp [n010_119_zzB1RuneOK.j3])
                                | succ kj17 =>
                                  have H := HA.out
                                  clear HA
                                  simp only [n010_119_zzB1RuneOK.j3] at H
                                  by_cases c20 : x39_17 = true
                                  · subst c20
                                    have H1 : (n010_119_zzB1RuneOK.j4 kj17 a0 3 128 191) = some r := by rw [if_pos rfl] at H; exact H
                                    clear H
                                    have H := H1
                                    clear H1
                                    have H' := Aside0.mk H
                                    clear H
                                    go_wp2
                                    go_meet
                                    case rel => exact ⟨_, (3), (128), (191), (by first | rfl | (simp; done) | (simp [*]; done)), (by first | rfl | (simp; done) | (simp [*]; done)), (by first | rfl | (simp; done) | (simp [*]; done)), H', ⟨by have := HJ5.out; have := HJ9.out; have := HJ11.out; have := HJ17.out; first | omega | exact Nat.le_refl _⟩, by repeat (first | exact Drawn0.refl _ | apply Drawn0.step)⟩
                                  · replace c20 := Bool.eq_false_iff.mpr c20
                                    subst c20
                                    have H1 : (if (bt a0 0) = 244 then (n010_119_zzB1RuneOK.j4 kj17 a0 3 128 143) else (some false)) = some r := by rw [if_neg (show ¬ (false = true) by decide)] at H; exact H
                                    clear H
                                    have H := H1
                                    clear H1
                                    by_cases c21 : (bt a0 0) = 244
                                    · rw [if_pos c21] at H
                                      have c21b0 : ((bt a0 0) == 244) = true := beq_iff_eq.mpr c21
                                      have c21b1 : ((bt a0 0) != 244) = false := bne_eq_false_iff_eq.mpr c21
                                      clear c21
                                      have H' := Aside0.mk H
                                      clear H
                                      go_wp2
                                      go_meet
                                      case rel => exact ⟨_, (3), (128), (143), (by first | rfl | (simp; done) | (simp [*]; done)), (by first | rfl | (simp; done) | (simp [*]; done)), (by first | rfl | (simp; done) | (simp [*]; done)), H', ⟨by have := HJ5.out; have := HJ9.out; have := HJ11.out; have := HJ17.out; first | omega | exact Nat.le_refl _⟩, by repeat (first | exact Drawn0.refl _ | apply Drawn0.step)⟩
                                    · rw [if_neg c21] at H
                                      have c21b0 : ((bt a0 0) == 244) = false := beq_eq_false_iff_ne.mpr c21
                                      have c21b1 : ((bt a0 0) != 244) = true := bne_iff_ne.mpr c21
                                      obtain rfl := Option.some.inj H
                                      go_wp2
                                      go_ret
                                      exact ⟨by first | rfl | (simp; done) | (simp [*]; done), by repeat (first | exact Drawn0.refl _ | apply Drawn0.step)⟩
      case rest =>
        clear HC5
        try clear c1
        try clear c2
        try clear c2b0
        try clear c2b1
        try clear p2
        try clear p3
        try clear q3
        try clear hx3
        try clear qi3
        try clear c4
        try clear c4b0
        try clear c5
        try clear c7
        try clear c7b0
        try clear c8
        try clear c9
        try clear c9b0
        try clear c9b1
        try clear c11
        try clear c11b0
        try clear c13
        try clear c14
        try clear c14b0
        try clear c14b1
        try clear c15
        try clear c16
        try clear c16b0
        try clear c16b1
        try clear c17
        try clear c17b0
        try clear c17b1
        try clear c19
        try clear c19b0
        try clear c20
        try clear c21
        try clear c21b0
        try clear c21b1
        try clear p2
        try clear p3
        try clear q3
        obtain ⟨kq, x4_4, x5_4, x6_4, rfl, rfl, rfl, HA, HJ4, ⟨mc4, rfl⟩⟩ := hcut
        cases kq with
        | zero => exact absurd HA.out (by simp [n010_119_zzB1RuneOK.j4])
        | succ kj4 =>
          have H := HA.out
          clear HA
          simp only [n010_119_zzB1RuneOK.j4] at H
          by_cases c22 : (a0.size : Int) < (wrap64 (x4_4 + 1))
          · rw [if_pos c22] at H
            have c22b0 : decide ((a0.size : Int) < (wrap64 (x4_4 + 1))) = true := decide_eq_true c22
            clear c22
            obtain rfl := Option.some.inj H
            go_wp2
            go_ret
            exact ⟨by first | rfl | (simp; done) | (simp [*]; done), by repeat (first | exact Drawn0.refl _ | apply Drawn0.step)⟩
          · rw [if_neg c22] at H
            have c22b0 : decide ((a0.size : Int) < (wrap64 (x4_4 + 1))) = false := decide_eq_false c22
            clear c22
            have HC23 := Aside0.mk H
            clear H
            go_upto_region 30 with (fail)
            go_cut [63] (fun v63 wc => ∃ (kq : Nat) (x63_22 : Bool), v63 = .bool x63_22 ∧ Aside0 (n010_119_zzB1RuneOK.j5 kq a0 x4_4 x63_22 = some r) ∧ Aside0 (kq ≤ kj4) ∧ Drawn0 w wc)
            case first =>
              have H := HC23.out
              clear HC23
              by_cases c24 : 1 < (a0.size : Int)
              · rw [if_pos c24] at H
                have c24b0 : decide (1 < (a0.size : Int)) = true := decide_eq_true c24
                have c24b1 : decide (1 < a0.size) = true := decide_eq_true (by omega)
                clear c24
                (first | rw [c24b0] | (simp only [i64_w, i32_w]; rw [c24b0]) | skip)
                by_cases c26 : (bt a0 1) < x5_4
                · rw [if_pos c26] at H
                  have c26b0 : decide ((bt a0 1) < x5_4) = true := decide_eq_true c26
                  clear c26
                  have H' := Aside0.mk H
                  clear H
                  have p25 : 0 ≤ (1 : Int) := (by omega)
                  have q25 : 1 < a0.size := (by have : (1 : Int) < (a0.size : Int) := of_decide_eq_true (by first | (with_reducible assumption) | assumption); omega)
                  have hx25 : ∀ h : 1 < a0.size, ((a0[1]'h).toNat : Int) = bt a0 1 := bt_at a0 1
                  clear p25
                  have qi25 : (1 < (a0.size : Int)) = True := eq_true (of_decide_eq_true (by first | (with_reducible assumption) | assumption))
                  replace q25 := eq_true q25
                  go_wp2
                  go_meet
                  case rel => exact ⟨_, (true), (by first | rfl | (simp; done) | (simp [*]; done)), H', ⟨by have := HJ4.out; first | omega | exact Nat.le_refl _⟩, by repeat (first | exact Drawn0.refl _ | apply Drawn0.step)⟩
                · rw [if_neg c26] at H
                  have c26b0 : decide ((bt a0 1) < x5_4) = false := decide_eq_false c26
                  clear c26
                  have H' := Aside0.mk H
                  clear H
                  have p25 : 0 ≤ (1 : Int) := (by omega)
                  have q25 : 1 < a0.size := (by have : (1 : Int) < (a0.size : Int) := of_decide_eq_true (by first | (with_reducible assumption) | assumption); omega)
                  have hx25 : ∀ h : 1 < a0.size, ((a0[1]'h).toNat : Int) = bt a0 1 := bt_at a0 1
                  clear p25
                  have qi25 : (1 < (a0.size : Int)) = True := eq_true (of_decide_eq_true (by first | (with_reducible assumption) | assumption))
                  replace q25 := eq_true q25
                  have p27 : 0 ≤ (1 : Int) := (by omega)
                  have q27 : 1 < a0.size := (by have : (1 : Int) < (a0.size : Int) := of_decide_eq_true (by first | (with_reducible assumption) | assumption); omega)
                  have hx27 : ∀ h : 1 < a0.size, ((a0[1]'h).toNat : Int) = bt a0 1 := bt_at a0 1
                  clear p27
                  have qi27 : (1 < (a0.size : Int)) = True := eq_true (of_decide_eq_true (by first | (with_reducible assumption) | assumption))
                  replace q27 := eq_true q27
                  go_wp2
                  go_meet
                  case rel => exact ⟨_, (decide ((bt a0 1) > x6_4)), (by first | rfl | (simp; done) | (simp [*]; done)), H', ⟨by have := HJ4.out; first | omega | exact Nat.le_refl _⟩, by repeat (first | exact Drawn0.refl _ | apply Drawn0.step)⟩
              · rw [if_neg c24] at H
                exact absurd H (by simp)
            case rest =>
              clear HC23
              try clear c1
              try clear c2
              try clear c2b0
              try clear c2b1
              try clear p2
              try clear q2
              try clear hx2
              try clear qi2
              try clear p3
              try clear q3
              try clear hx3
              try clear qi3
              try clear c4
              try clear c4b0
              try clear c5
              try clear p6
              try clear c7
              try clear c7b0
              try clear c8
              try clear c9
              try clear c9b0
              try clear c9b1
              try clear c11
              try clear c11b0
              try clear c13
              try clear c14
              try clear c14b0
              try clear c14b1
              try clear c15
              try clear c16
              try clear c16b0
              try clear c16b1
              try clear c17
              try clear c17b0
              try clear c17b1
              try clear c19
              try clear c19b0
              try clear c20
              try clear c21
              try clear c21b0
              try clear c21b1
              try clear c22
              try clear c22b0
              try clear c24
              try clear c24b0
              try clear c24b1
              try clear p25
              try clear q25
              try clear hx25
              try clear qi25
              try clear c26
              try clear c26b0
              try clear p27
              try clear q27
              try clear hx27
              try clear qi27
              try clear p2
              try clear p25
              try clear p27
              try clear p3
              try clear q25
              try clear q27
              try clear q3
              obtain ⟨kq, x63_22, rfl, HA, HJ22, ⟨mc22, rfl⟩⟩ := hcut
              cases kq with
              | zero => exact absurd HA.out (by simp [n010_119_zzB1RuneOK.j5])
              | succ kj22 =>
                have H := HA.out
                clear HA
                simp only [n010_119_zzB1RuneOK.j5] at H
                by_cases c28 : x63_22 = true
                · subst c28
                  have H1 : (some false) = some r := by rw [if_pos rfl] at H; exact H
                  clear H
                  have H := H1
                  clear H1
                  obtain rfl := Option.some.inj H
                  go_wp2
                  go_ret
                  exact ⟨by first | rfl | (simp; done) | (simp [*]; done), by repeat (first | exact Drawn0.refl _ | apply Drawn0.step)⟩
                · replace c28 := Bool.eq_false_iff.mpr c28
                  subst c28
                  have H1 : (n010_119_zzB1RuneOK.l0 kj22 a0 x4_4 2) = some r := by rw [if_neg (show ¬ (false = true) by decide)] at H; exact H
                  clear H
                  have H := H1
                  clear H1
                  have H' := Aside0.mk H
                  clear H
                  go_wp2
                  go_loopg [7] kj22 (fun kq v7 w' => ∃ (x7_3 : Int), v7 = .int .i64 x7_3 ∧ Aside0 (n010_119_zzB1RuneOK.l0 kq a0 x4_4 x7_3 = some r) ∧ Aside0 (kq ≤ kj22) ∧ Drawn0 w w')
                  case atStart => exact ⟨(2), (by first | rfl | (simp; done) | (simp [*]; done)), H', ⟨Nat.le_refl _⟩, by repeat (first | exact Drawn0.refl _ | apply Drawn0.step)⟩
                  case round =>
                    clear H'
                    try clear c1
                    try clear c2
                    try clear c2b0
                    try clear c2b1
                    try clear p2
                    try clear q2
                    try clear hx2
                    try clear qi2
                    try clear p3
                    try clear q3
                    try clear hx3
                    try clear qi3
                    try clear c4
                    try clear c4b0
                    try clear c5
                    try clear p6
                    try clear c7
                    try clear c7b0
                    try clear c8
                    try clear c9
                    try clear c9b0
                    try clear c9b1
                    try clear c11
                    try clear c11b0
                    try clear c13
                    try clear c14
                    try clear c14b0
                    try clear c14b1
                    try clear c15
                    try clear c16
                    try clear c16b0
                    try clear c16b1
                    try clear c17
                    try clear c17b0
                    try clear c17b1
                    try clear c19
                    try clear c19b0
                    try clear c20
                    try clear c21
                    try clear c21b0
                    try clear c21b1
                    try clear c22
                    try clear c22b0
                    try clear c24
                    try clear c24b0
                    try clear c24b1
                    try clear p25
                    try clear q25
                    try clear hx25
                    try clear qi25
                    try clear c26
                    try clear c26b0
                    try clear p27
                    try clear q27
                    try clear hx27
                    try clear qi27
                    try clear c28
                    try clear p2
                    try clear p25
                    try clear p27
                    try clear p3
                    try clear p6
                    try clear q2
                    try clear q25
                    try clear q27
                    try clear q3
                    obtain ⟨x7_3, rfl, HA, HK3, ⟨m3, rfl⟩⟩ := hrel
                    cases gk with
                    | zero => exact absurd HA.out (by simp [n010_119_zzB1RuneOK.l0])
                    | succ k3 =>
                      have H := HA.out
                      clear HA
                      simp only [n010_119_zzB1RuneOK.l0] at H
                      by_cases c29 : x7_3 ≤ x4_4
                      · rw [if_pos c29] at H
                        have c29b0 : decide (x7_3 ≤ x4_4) = true := decide_eq_true c29
                        clear c29
                        by_cases c30 : 0 ≤ x7_3
                        · rw [if_pos c30] at H
                          have c30b0 : decide (0 ≤ x7_3) = true := decide_eq_true c30
                          clear c30
                          by_cases c31 : x7_3 < (a0.size : Int)
                          · rw [if_pos c31] at H
                            have c31b0 : decide (x7_3 < (a0.size : Int)) = true := decide_eq_true c31
                            clear c31
                            by_cases c33 : (bt a0 x7_3) < 128
                            · rw [if_pos c33] at H
                              have c33b0 : decide ((bt a0 x7_3) < 128) = true := decide_eq_true c33
                              clear c33
                              obtain rfl := Option.some.inj H
                              have p32 : 0 ≤ (x7_3 : Int) := of_decide_eq_true (by first | (with_reducible assumption) | assumption)
                              have q32 : x7_3 < (a0.size : Int) := of_decide_eq_true (by first | (with_reducible assumption) | assumption)
                              have hx32 := bt_at a0 x7_3
                              replace p32 := eq_true p32
                              replace q32 := eq_true q32
                              go_wp2
                              go_ret
                              exact ⟨by first | rfl | (simp; done) | (simp [*]; done), by repeat (first | exact Drawn0.refl _ | apply Drawn0.step)⟩
                            · rw [if_neg c33] at H
                              have c33b0 : decide ((bt a0 x7_3) < 128) = false := decide_eq_false c33
                              clear c33
                              by_cases c35 : (bt a0 x7_3) > 191
                              · rw [if_pos c35] at H
                                have c35b0 : decide (191 < (bt a0 x7_3)) = true := decide_eq_true c35
                                clear c35
                                obtain rfl := Option.some.inj H
                                have p32 : 0 ≤ (x7_3 : Int) := of_decide_eq_true (by first | (with_reducible assumption) | assumption)
                                have q32 : x7_3 < (a0.size : Int) := of_decide_eq_true (by first | (with_reducible assumption) | assumption)
                                have hx32 := bt_at a0 x7_3
                                replace p32 := eq_true p32
                                replace q32 := eq_true q32
                                have p34 : 0 ≤ (x7_3 : Int) := of_decide_eq_true (by first | (with_reducible assumption) | assumption)
                                have q34 : x7_3 < (a0.size : Int) := of_decide_eq_true (by first | (with_reducible assumption) | assumption)
                                have hx34 := bt_at a0 x7_3
                                replace p34 := eq_true p34
                                replace q34 := eq_true q34
                                go_wp2
                                go_ret
                                exact ⟨by first | rfl | (simp; done) | (simp [*]; done), by repeat (first | exact Drawn0.refl _ | apply Drawn0.step)⟩
                              · rw [if_neg c35] at H
                                have c35b0 : decide (191 < (bt a0 x7_3)) = false := decide_eq_false c35
                                clear c35
                                have H' := Aside0.mk H
                                clear H
                                have p32 : 0 ≤ (x7_3 : Int) := of_decide_eq_true (by first | (with_reducible assumption) | assumption)
                                have q32 : x7_3 < (a0.size : Int) := of_decide_eq_true (by first | (with_reducible assumption) | assumption)
                                have hx32 := bt_at a0 x7_3
                                replace p32 := eq_true p32
                                replace q32 := eq_true q32
                                have p34 : 0 ≤ (x7_3 : Int) := of_decide_eq_true (by first | (with_reducible assumption) | assumption)
                                have q34 : x7_3 < (a0.size : Int) := of_decide_eq_true (by first | (with_reducible assumption) | assumption)
                                have hx34 := bt_at a0 x7_3
                                replace p34 := eq_true p34
                                replace q34 := eq_true q34
                                go_wp2
                                go_roundg k3
                                case measure => have := HJ4.out; have := HJ22.out; have := HK3.out; omega
                                case rel => exact ⟨(wrap64 (x7_3 + 1)), (by first | rfl | (simp; done) | (simp [*]; done)), H', ⟨by have := HJ4.out; have := HJ22.out; have := HK3.out; omega⟩, by repeat (first | exact Drawn0.refl _ | apply Drawn0.step)⟩
                          · rw [if_neg c31] at H
                            exact absurd H (by simp)
                        · rw [if_neg c30] at H
                          exact absurd H (by simp)
                      · rw [if_neg c29] at H
                        have c29b0 : decide (x7_3 ≤ x4_4) = false := decide_eq_false c29
                        clear c29
                        obtain rfl := Option.some.inj H
                        go_wp2
                        go_ret
                        exact ⟨by first | rfl | (simp; done) | (simp [*]; done), by repeat (first | exact Drawn0.refl _ | apply Drawn0.step)⟩
  · rw [if_neg c2] at H
    exact absurd H (by simp)

end Go.Proofs.YtgcjaijakbejjaaFmt.PFnDqTokenLongestMatch
