-- PRINTED BY print.sh 35421559b90ae4d0a3588c463048766b98c2df88dd9212a6774a882060cdf62d: not written by this session
import Derived.Test.YtgcjaijakbejjaaFmtPFnDqTokenLongestMatchx0
import Derived.Test.YtgcjaijakbejjaaFmtPFnDqTokenLongestMatchx4
namespace Go.Proofs.YtgcjaijakbejjaaFmt.PFnDqTokenLongestMatch
open Go.RowKit Go.Proofs.YtgcjaijakbejjaaFmtW.PrintWords Go.Proofs.YtgcjaijakbejjaaFmtW.PrintLast Go.Proofs.YtgcjaijakbejjaaFmtW.PrintMore
attribute [local go_sem] max2_int min2_int max_two min_two max_three min_three max_four min_four   -- for this text's walks alone
set_option linter.unusedVariables false
set_option linter.unusedSimpArgs false

/-! ### n010_119_zzB1HasPrefix: function 36 -/
def n010_119_zzB1HasPrefix.l0 : Nat → ByteArray → ByteArray → Int → Option (Bool)
  | 0, _, _, _ => none
  | k + 1, x0, x1, x5 => if x5 < (x1.size : Int) then (if 0 ≤ x5 then (if x5 < (x0.size : Int) then (if (bt x0 x5) = (bt x1 x5) then (n010_119_zzB1HasPrefix.l0 k x0 x1 (wrap64 (x5 + 1))) else (some false)) else (none)) else (none)) else (some true)
def n010_119_zzB1HasPrefix.f (k : Nat) (a0 : ByteArray) (a1 : ByteArray) : Option (Bool) := if (a1.size : Int) > (a0.size : Int) then (some false) else (n010_119_zzB1HasPrefix.l0 k a0 a1 0)
theorem n010_119_zzB1HasPrefix.mono_l : ∀ k, (∀ y0 y1 y2, LeO (n010_119_zzB1HasPrefix.l0 k y0 y1 y2) (n010_119_zzB1HasPrefix.l0 (k + 1) y0 y1 y2))
  | 0 => fun _ _ _ r h => by simp [n010_119_zzB1HasPrefix.l0] at h
  | k + 1 => by
    have ih0 := n010_119_zzB1HasPrefix.mono_l k
    · intro y0 y1 y2
      unfold n010_119_zzB1HasPrefix.l0
      repeat' first
      | (with_reducible exact ih0 _ _ _)
      | (with_reducible exact LeO.refl _)
      | (with_reducible exact LeO.none _)
      | (with_reducible refine LeO.ite ?_ ?_)
      | (with_reducible refine LeO.bind ?_ (fun _ => ?_))
      | exact ih0 _ _ _
      | exact LeO.none _
      | refine LeO.ite ?_ ?_
      | refine LeO.bind ?_ (fun _ => ?_)
theorem n010_119_zzB1HasPrefix.mono : ∀ a0 a1 k, LeO (n010_119_zzB1HasPrefix.f k a0 a1) (n010_119_zzB1HasPrefix.f (k + 1) a0 a1) := by
  intro a0 a1 k
  have ih0 := n010_119_zzB1HasPrefix.mono_l k
  unfold n010_119_zzB1HasPrefix.f
  repeat' first
      | (with_reducible exact ih0 _ _ _)
      | (with_reducible exact LeO.refl _)
      | (with_reducible exact LeO.none _)
      | (with_reducible refine LeO.ite ?_ ?_)
      | (with_reducible refine LeO.bind ?_ (fun _ => ?_))
      | exact ih0 _ _ _
      | exact LeO.none _
      | refine LeO.ite ?_ ?_
      | refine LeO.bind ?_ (fun _ => ?_)
set_option maxHeartbeats 8000000 in
set_option maxRecDepth 100000 in
theorem n010_119_zzB1HasPrefix.calls (k : Nat) (a0 : ByteArray) (a1 : ByteArray) (r : Bool) (w : World) (h : n010_119_zzB1HasPrefix.f k a0 a1 = some r) :
    Calls Tryf.prog 36 #[.string a0, .string a1] w fun e w' => e = .returned (.bool r) ∧ Drawn0 w w' := by
  have H : (if (a1.size : Int) > (a0.size : Int) then (some false) else (n010_119_zzB1HasPrefix.l0 k a0 a1 0)) = some r := h
  clear h
  by_cases c3 : (a1.size : Int) > (a0.size : Int)
  · rw [if_pos c3] at H
    have c3b0 : decide ((a0.size : Int) < (a1.size : Int)) = true := decide_eq_true c3
    have c3b1 : decide (a0.size < a1.size) = true := decide_eq_true (Int.ofNat_lt.mp c3)
    clear c3
    obtain rfl := Option.some.inj H
    go_enter Tryf.func36, Tryf.ntmps36
    go_wp2
    repeat (go_quiet (fail); try go_wp2)
    go_ret
    exact ⟨by first | rfl | (simp; done) | (simp [*]; done), by repeat (first | exact Drawn0.refl _ | apply Drawn0.step)⟩
  · rw [if_neg c3] at H
    have c3b0 : decide ((a0.size : Int) < (a1.size : Int)) = false := decide_eq_false c3
    have c3b1 : decide (a0.size < a1.size) = false := decide_eq_false (fun h => c3 (Int.ofNat_lt.mpr h))
    clear c3
    have H' := Aside0.mk H
    clear H
    go_enter Tryf.func36, Tryf.ntmps36
    go_wp2
    repeat (go_quiet (fail); try go_wp2)
    go_loopg [5] k (fun kq v5 w' => ∃ (x5_1 : Int), v5 = .int .i64 x5_1 ∧ Aside0 (n010_119_zzB1HasPrefix.l0 kq a0 a1 x5_1 = some r) ∧ Aside0 (kq ≤ k) ∧ Drawn0 w w')
    case atStart => exact ⟨(0), (by first | rfl | (simp; done) | (simp [*]; done)), H', ⟨Nat.le_refl _⟩, by repeat (first | exact Drawn0.refl _ | apply Drawn0.step)⟩
    case round =>
      clear H'
      try clear p2
      try clear c3
      try clear c3b0
      try clear c3b1
      obtain ⟨x5_1, rfl, HA, HK1, ⟨m1, rfl⟩⟩ := hrel
      cases gk with
      | zero => exact absurd HA.out (by simp [n010_119_zzB1HasPrefix.l0])
      | succ k1 =>
        have H := HA.out
        clear HA
        simp only [n010_119_zzB1HasPrefix.l0] at H
        by_cases c4 : x5_1 < (a1.size : Int)
        · rw [if_pos c4] at H
          have c4b0 : decide (x5_1 < (a1.size : Int)) = true := decide_eq_true c4
          clear c4
          by_cases c5 : 0 ≤ x5_1
          · rw [if_pos c5] at H
            have c5b0 : decide (0 ≤ x5_1) = true := decide_eq_true c5
            clear c5
            by_cases c6 : x5_1 < (a0.size : Int)
            · rw [if_pos c6] at H
              have c6b0 : decide (x5_1 < (a0.size : Int)) = true := decide_eq_true c6
              clear c6
              by_cases c9 : (bt a0 x5_1) = (bt a1 x5_1)
              · rw [if_pos c9] at H
                have c9b0 : ((bt a0 x5_1) == (bt a1 x5_1)) = true := beq_iff_eq.mpr c9
                have c9b1 : ((bt a0 x5_1) != (bt a1 x5_1)) = false := bne_eq_false_iff_eq.mpr c9
                clear c9
                have H' := Aside0.mk H
                clear H
                have p7 : 0 ≤ (x5_1 : Int) := of_decide_eq_true (by first | (with_reducible assumption) | assumption)
                have q7 : x5_1 < (a0.size : Int) := of_decide_eq_true (by first | (with_reducible assumption) | assumption)
                have hx7 := bt_at a0 x5_1
                replace p7 := eq_true p7
                replace q7 := eq_true q7
                have p8 : 0 ≤ (x5_1 : Int) := of_decide_eq_true (by first | (with_reducible assumption) | assumption)
                have q8 : x5_1 < (a1.size : Int) := of_decide_eq_true (by first | (with_reducible assumption) | assumption)
                have hx8 := bt_at a1 x5_1
                replace p8 := eq_true p8
                replace q8 := eq_true q8
                go_wp2
                repeat (go_quiet (fail); try go_wp2)
                go_roundg k1
                case measure => have := HK1.out; omega
                case rel => exact ⟨(wrap64 (x5_1 + 1)), (by first | rfl | (simp; done) | (simp [*]; done)), H', ⟨by have := HK1.out; omega⟩, by repeat (first | exact Drawn0.refl _ | apply Drawn0.step)⟩
              · rw [if_neg c9] at H
                have c9b0 : ((bt a0 x5_1) == (bt a1 x5_1)) = false := beq_eq_false_iff_ne.mpr c9
                have c9b1 : ((bt a0 x5_1) != (bt a1 x5_1)) = true := bne_iff_ne.mpr c9
                obtain rfl := Option.some.inj H
                have p7 : 0 ≤ (x5_1 : Int) := of_decide_eq_true (by first | (with_reducible assumption) | assumption)
                have q7 : x5_1 < (a0.size : Int) := of_decide_eq_true (by first | (with_reducible assumption) | assumption)
                have hx7 := bt_at a0 x5_1
                replace p7 := eq_true p7
                replace q7 := eq_true q7
                have p8 : 0 ≤ (x5_1 : Int) := of_decide_eq_true (by first | (with_reducible assumption) | assumption)
                have q8 : x5_1 < (a1.size : Int) := of_decide_eq_true (by first | (with_reducible assumption) | assumption)
                have hx8 := bt_at a1 x5_1
                replace p8 := eq_true p8
                replace q8 := eq_true q8
                go_wp2
                repeat (go_quiet (fail); try go_wp2)
                go_ret
                exact ⟨by first | rfl | (simp; done) | (simp [*]; done), by repeat (first | exact Drawn0.refl _ | apply Drawn0.step)⟩
            · rw [if_neg c6] at H
              exact absurd H (by simp)
          · rw [if_neg c5] at H
            exact absurd H (by simp)
        · rw [if_neg c4] at H
          have c4b0 : decide (x5_1 < (a1.size : Int)) = false := decide_eq_false c4
          clear c4
          obtain rfl := Option.some.inj H
          go_wp2
          repeat (go_quiet (fail); try go_wp2)
          go_ret
          exact ⟨by first | rfl | (simp; done) | (simp [*]; done), by repeat (first | exact Drawn0.refl _ | apply Drawn0.step)⟩

/-! ### n010_119_zzB1Model: function 12 -/
mutual
def n010_119_zzB1Model.l0 : Nat → Int → Int → ByteArray → Int → Int → Int → Option (Int × Int × Bool)
  | 0, _, _, _, _, _, _ => none
  | k + 1, x0, x1, x2, x9, x10, x11 => if x11 < 80 then ((n010_119_zzB1Spell.f x0 x11).bind fun bt123 => (if bt123.2.2.2 = true then (if 0 ≤ (IntKind.u64.wrap (x1)) then (if (Go.bits .and .i64 bt123.2.2.1 (shl .i64 1 (IntKind.u64.wrap (x1)))) = 0 then (n010_119_zzB1Model.j1 k x0 x1 x2 x9 x10 x11 bt123.1 bt123.2.1 true) else ((n010_119_zzB1HasPrefix.f k x2 bt123.1).bind fun t127 => (n010_119_zzB1Model.j1 k x0 x1 x2 x9 x10 x11 bt123.1 bt123.2.1 (!t127)))) else (none)) else (if x9 < 0 then (some (0, 0, false)) else (some (x10, x9, true))))) else (if x9 < 0 then (some (0, 0, false)) else (some (x10, x9, true)))
def n010_119_zzB1Model.j1 : Nat → Int → Int → ByteArray → Int → Int → Int → ByteArray → Int → Bool → Option (Int × Int × Bool)
  | 0, _, _, _, _, _, _, _, _, _ => none
  | k + 1, x0, x1, x2, x9, x10, x11, x12, x13, x41 => if x41 = true then (n010_119_zzB1Model.l0 k x0 x1 x2 x9 x10 (wrap64 (x11 + 1))) else (if (x12.size : Int) > x9 then (n010_119_zzB1Model.l0 k x0 x1 x2 (x12.size : Int) x13 (wrap64 (x11 + 1))) else (n010_119_zzB1Model.l0 k x0 x1 x2 x9 x10 (wrap64 (x11 + 1))))
end
def n010_119_zzB1Model.f (k : Nat) (a0 : Int) (a1 : Int) (a2 : ByteArray) : Option (Int × Int × Bool) := n010_119_zzB1Model.l0 k a0 a1 a2 (-1) 0 0
theorem n010_119_zzB1Model.mono_l : ∀ k, (∀ y0 y1 y2 y3 y4 y5, LeO (n010_119_zzB1Model.l0 k y0 y1 y2 y3 y4 y5) (n010_119_zzB1Model.l0 (k + 1) y0 y1 y2 y3 y4 y5)) ∧ (∀ y0 y1 y2 y3 y4 y5 y6 y7 y8, LeO (n010_119_zzB1Model.j1 k y0 y1 y2 y3 y4 y5 y6 y7 y8) (n010_119_zzB1Model.j1 (k + 1) y0 y1 y2 y3 y4 y5 y6 y7 y8))
  | 0 => ⟨fun _ _ _ _ _ _ r h => by simp [n010_119_zzB1Model.l0] at h, fun _ _ _ _ _ _ _ _ _ r h => by simp [n010_119_zzB1Model.j1] at h⟩
  | k + 1 => by
    obtain ⟨ih0, ih1⟩ := n010_119_zzB1Model.mono_l k
    refine ⟨?_, ?_⟩
    · intro y0 y1 y2 y3 y4 y5
      unfold n010_119_zzB1Model.l0
      repeat' first
      | (with_reducible exact ih0 _ _ _ _ _ _)
      | (with_reducible exact ih1 _ _ _ _ _ _ _ _ _)
      | (with_reducible exact n010_119_zzB1HasPrefix.mono _ _ _)
      | (with_reducible exact LeO.refl _)
      | (with_reducible exact LeO.none _)
      | (with_reducible refine LeO.ite ?_ ?_)
      | (with_reducible refine LeO.bind ?_ (fun _ => ?_))
      | exact ih0 _ _ _ _ _ _
      | exact ih1 _ _ _ _ _ _ _ _ _
      | exact n010_119_zzB1HasPrefix.mono _ _ _
      | exact LeO.none _
      | refine LeO.ite ?_ ?_
      | refine LeO.bind ?_ (fun _ => ?_)
    · intro y0 y1 y2 y3 y4 y5 y6 y7 y8
      unfold n010_119_zzB1Model.j1
      repeat' first
      | (with_reducible exact ih0 _ _ _ _ _ _)
      | (with_reducible exact ih1 _ _ _ _ _ _ _ _ _)
      | (with_reducible exact n010_119_zzB1HasPrefix.mono _ _ _)
      | (with_reducible exact LeO.refl _)
      | (with_reducible exact LeO.none _)
      | (with_reducible refine LeO.ite ?_ ?_)
      | (with_reducible refine LeO.bind ?_ (fun _ => ?_))
      | exact ih0 _ _ _ _ _ _
      | exact ih1 _ _ _ _ _ _ _ _ _
      | exact n010_119_zzB1HasPrefix.mono _ _ _
      | exact LeO.none _
      | refine LeO.ite ?_ ?_
      | refine LeO.bind ?_ (fun _ => ?_)
theorem n010_119_zzB1Model.mono : ∀ a0 a1 a2 k, LeO (n010_119_zzB1Model.f k a0 a1 a2) (n010_119_zzB1Model.f (k + 1) a0 a1 a2) := by
  intro a0 a1 a2 k
  obtain ⟨ih0, ih1⟩ := n010_119_zzB1Model.mono_l k
  unfold n010_119_zzB1Model.f
  repeat' first
      | (with_reducible exact ih0 _ _ _ _ _ _)
      | (with_reducible exact ih1 _ _ _ _ _ _ _ _ _)
      | (with_reducible exact n010_119_zzB1HasPrefix.mono _ _ _)
      | (with_reducible exact LeO.refl _)
      | (with_reducible exact LeO.none _)
      | (with_reducible refine LeO.ite ?_ ?_)
      | (with_reducible refine LeO.bind ?_ (fun _ => ?_))
      | exact ih0 _ _ _ _ _ _
      | exact ih1 _ _ _ _ _ _ _ _ _
      | exact n010_119_zzB1HasPrefix.mono _ _ _
      | exact LeO.none _
      | refine LeO.ite ?_ ?_
      | refine LeO.bind ?_ (fun _ => ?_)
set_option maxHeartbeats 8000000 in
set_option maxRecDepth 100000 in
theorem n010_119_zzB1Model.calls (k : Nat) (a0 : Int) (a1 : Int) (a2 : ByteArray) (r1 : Int) (r2 : Int) (r3 : Bool) (w : World) (h : n010_119_zzB1Model.f k a0 a1 a2 = some (r1, r2, r3)) :
    Calls Tryf.prog 12 #[.int .i64 a0, .int .i64 a1, .string a2] w fun e w' => e = .returned (.tuple #[.int .u32 r1, .int .i64 r2, .bool r3]) ∧ Drawn0 w w' := by
  have H : (n010_119_zzB1Model.l0 k a0 a1 a2 (-1) 0 0) = some (r1, r2, r3) := h
  clear h
  have H' := Aside0.mk H
  clear H
  go_enter Tryf.func12, Tryf.ntmps12
  go_wp2
  go_loopg [9, 10, 11] k (fun kq v9 v10 v11 w' => ∃ (x9_1 : Int) (x10_1 : Int) (x11_1 : Int), v9 = .int .i64 x9_1 ∧ v10 = .int .u32 x10_1 ∧ v11 = .int .i64 x11_1 ∧ Aside0 (n010_119_zzB1Model.l0 kq a0 a1 a2 x9_1 x10_1 x11_1 = some (r1, r2, r3)) ∧ Aside0 (kq ≤ k) ∧ Drawn0 w w')
  case atStart => exact ⟨((-1)), (0), (0), (by first | rfl | (simp; done) | (simp [*]; done)), (by first | rfl | (simp; done) | (simp [*]; done)), (by first | rfl | (simp; done) | (simp [*]; done)), H', ⟨Nat.le_refl _⟩, by repeat (first | exact Drawn0.refl _ | apply Drawn0.step)⟩
  case round =>
    clear H'
    try clear c1
    try clear p2
    obtain ⟨x9_1, x10_1, x11_1, rfl, rfl, rfl, HA, HK1, ⟨m1, rfl⟩⟩ := hrel
    cases gk with
    | zero => exact absurd HA.out (by simp [n010_119_zzB1Model.l0])
    | succ k1 =>
      have H := HA.out
      clear HA
      simp only [n010_119_zzB1Model.l0] at H
      by_cases c4 : x11_1 < 80
      · rw [if_pos c4] at H
        have c4b0 : decide (x11_1 < 80) = true := decide_eq_true c4
        clear c4
        replace H := Option.bind_eq_some_iff.mp H
        obtain ⟨⟨t123, t124, t125, t126⟩, A50, H⟩ := H
        replace H : (if t126 = true then (if 0 ≤ (IntKind.u64.wrap (a1)) then (if (Go.bits .and .i64 t125 (shl .i64 1 (IntKind.u64.wrap (a1)))) = 0 then (n010_119_zzB1Model.j1 k1 a0 a1 a2 x9_1 x10_1 x11_1 t123 t124 true) else ((n010_119_zzB1HasPrefix.f k1 a2 t123).bind fun t127 => (n010_119_zzB1Model.j1 k1 a0 a1 a2 x9_1 x10_1 x11_1 t123 t124 (!t127)))) else (none)) else (if x9_1 < 0 then (some (0, 0, false)) else (some (x10_1, x9_1, true)))) = some (r1, r2, r3) := H
        have A5 := Aside0.mk A50
        clear A50
        by_cases c6 : t126 = true
        · subst c6
          have H1 : (if 0 ≤ (IntKind.u64.wrap (a1)) then (if (Go.bits .and .i64 t125 (shl .i64 1 (IntKind.u64.wrap (a1)))) = 0 then (n010_119_zzB1Model.j1 k1 a0 a1 a2 x9_1 x10_1 x11_1 t123 t124 true) else ((n010_119_zzB1HasPrefix.f k1 a2 t123).bind fun t127 => (n010_119_zzB1Model.j1 k1 a0 a1 a2 x9_1 x10_1 x11_1 t123 t124 (!t127)))) else (none)) = some (r1, r2, r3) := by rw [if_pos rfl] at H; exact H
          clear H
          have H := H1
          clear H1
          have HC7 := Aside0.mk H
          clear H
          go_upto_region 8 with (first | ((with_reducible refine gate_callee (f := 35) rfl ?_); refine goesL_ (some 23) rfl rfl Tryf.func35 (by kernel_rfl) rfl #[.int .i64 a0, .int .i64 x11_1] rfl (by (try simp only [List.map_toArray, List.map_cons, List.map_nil]); first | done | rfl | (simp only [List.length_drop, List.length_take]; rfl)) ?_; (with_reducible refine (n010_119_zzB1Spell.calls a0 x11_1 t123 t124 t125 true _ A5.out).mono ?_); rintro e w' ⟨rfl, ⟨nd, rfl⟩⟩; refine ⟨_, rfl, ?_⟩))
          (try simp only [Act.put, List.setIfInBounds_toArray, List.set_cons_zero, List.set_cons_succ])
          go_cut [41] (fun v41 wc => ∃ (kq : Nat) (x41_6 : Bool), v41 = .bool x41_6 ∧ Aside0 (n010_119_zzB1Model.j1 kq a0 a1 a2 x9_1 x10_1 x11_1 t123 t124 x41_6 = some (r1, r2, r3)) ∧ Aside0 (kq ≤ k1) ∧ Drawn0 w wc)
          case first =>
            have H := HC7.out
            clear HC7
            obtain ⟨ji8, hji8⟩ : ∃ j_ : Int, (IntKind.u64.wrap (a1)) = j_ := ⟨_, rfl⟩
            replace H : (if 0 ≤ (ji8) then (if (Go.bits .and .i64 t125 (shl .i64 1 (ji8))) = 0 then (n010_119_zzB1Model.j1 k1 a0 a1 a2 x9_1 x10_1 x11_1 t123 t124 true) else ((n010_119_zzB1HasPrefix.f k1 a2 t123).bind fun t127 => (n010_119_zzB1Model.j1 k1 a0 a1 a2 x9_1 x10_1 x11_1 t123 t124 (!t127)))) else (none)) = some (r1, r2, r3) := by first | (rw [hji8] at H; exact H) | (simp only [hji8] at H ⊢; exact H)
            by_cases c9 : 0 ≤ (ji8)
            · rw [if_pos c9] at H
              have c9b0 := eq_true c9
              have c9b1 : decide (0 ≤ (ji8)) = true := decide_eq_true c9
              clear c9
              obtain ⟨ji10, hji10⟩ : ∃ j_ : Int, (shl .i64 1 (ji8)) = j_ := ⟨_, rfl⟩
              replace H : (if (Go.bits .and .i64 t125 (ji10)) = 0 then (n010_119_zzB1Model.j1 k1 a0 a1 a2 x9_1 x10_1 x11_1 t123 t124 true) else ((n010_119_zzB1HasPrefix.f k1 a2 t123).bind fun t127 => (n010_119_zzB1Model.j1 k1 a0 a1 a2 x9_1 x10_1 x11_1 t123 t124 (!t127)))) = some (r1, r2, r3) := by first | (rw [hji10] at H; exact H) | (simp only [hji10] at H ⊢; exact H)
              have hji10_ : (IntKind.i64.wrap (1 * 2 ^ min (ji8).toNat 64)) = ji10 := hji10
              have hji10z : (ji8) ≤ 64 → (IntKind.i64.wrap (1 * 2 ^ (ji8).toNat)) = ji10 := shl_small hji10
              have hji10u : (IntKind.i64.wrap (2 ^ min (ji8).toNat 64)) = ji10 := by have h_ := hji10_; rw [Int.one_mul] at h_; exact h_
              have hji10v : (ji8) ≤ 64 → (IntKind.i64.wrap (2 ^ (ji8).toNat)) = ji10 := fun hle_ => by have h_ := hji10z hle_; rw [Int.one_mul] at h_; exact h_
              have hji10y : (wrap64 (1 * 2 ^ min (ji8).toNat 64)) = ji10 := (i64_w _).symm.trans hji10_
              have hji10x : (ji8) ≤ 64 → (wrap64 (1 * 2 ^ (ji8).toNat)) = ji10 := fun h_ => (i64_w _).symm.trans (hji10z h_)
              by_cases c11 : (Go.bits .and .i64 t125 (ji10)) = 0
              · rw [if_pos c11] at H
                have c11b0 : ((Go.bits .and .i64 t125 (ji10)) == 0) = true := beq_iff_eq.mpr c11
                have c11b1 : ((Go.bits .and .i64 t125 (ji10)) != 0) = false := bne_eq_false_iff_eq.mpr c11
                clear c11
                (first | rw [c11b0] | (simp only [i64_w, i32_w]; rw [c11b0]) | skip)
                have H' := Aside0.mk H
                clear H
                go_wp2
                go_meet
                case rel => exact ⟨_, (true), (by first | rfl | (simp; done) | (simp [*]; done)), H', ⟨by have := HK1.out; first | omega | exact Nat.le_refl _⟩, by repeat (first | exact Drawn0.refl _ | apply Drawn0.step)⟩
              · rw [if_neg c11] at H
                have c11b0 : ((Go.bits .and .i64 t125 (ji10)) == 0) = false := beq_eq_false_iff_ne.mpr c11
                have c11b1 : ((Go.bits .and .i64 t125 (ji10)) != 0) = true := bne_iff_ne.mpr c11
                (first | rw [c11b0] | (simp only [i64_w, i32_w]; rw [c11b0]) | skip)
                replace H := Option.bind_eq_some_iff.mp H
                obtain ⟨t127, A120, H⟩ := H
                replace H : (n010_119_zzB1Model.j1 k1 a0 a1 a2 x9_1 x10_1 x11_1 t123 t124 (!t127)) = some (r1, r2, r3) := H
                have A12 := Aside0.mk A120
                clear A120
                have H' := Aside0.mk H
                clear H
                go_wp2_with (first | (go_at_call 36; (with_reducible refine (n010_119_zzB1HasPrefix.calls k1 a2 t123 t127 _ A12.out).mono ?_); rintro e w' ⟨rfl, ⟨nd, rfl⟩⟩))
                go_meet
                case rel => exact ⟨_, (!t127), (by first | rfl | (simp; done) | (simp [*]; done)), H', ⟨by have := HK1.out; first | omega | exact Nat.le_refl _⟩, by repeat (first | exact Drawn0.refl _ | apply Drawn0.step)⟩
            · rw [if_neg c9] at H
              exact absurd H (by simp)
          case rest =>
            clear HC7
            try clear c1
            try clear p2
            try clear c3
            try clear c4
            try clear c4b0
            try clear c6
            try clear p6
            try clear c9
            try clear c9b0
            try clear c9b1
            try clear c11
            try clear c11b0
            try clear c11b1
            try clear c12
            try clear p2
            obtain ⟨kq, x41_6, rfl, HA, HJ6, ⟨mc6, rfl⟩⟩ := hcut
            cases kq with
            | zero => exact absurd HA.out (by simp [n010_119_zzB1Model.j1])
            | succ kj6 =>
              have H := HA.out
              clear HA
              simp only [n010_119_zzB1Model.j1] at H
              by_cases c13 : x41_6 = true
              · subst c13
                have H1 : (n010_119_zzB1Model.l0 kj6 a0 a1 a2 x9_1 x10_1 (wrap64 (x11_1 + 1))) = some (r1, r2, r3) := by rw [if_pos rfl] at H; exact H
                clear H
                have H := H1
                clear H1
                have H' := Aside0.mk H
                clear H
                go_wp2
                go_roundg kj6
                case measure => have := HK1.out; have := HJ6.out; omega
                case rel => exact ⟨(x9_1), (x10_1), (wrap64 (x11_1 + 1)), (by first | rfl | (simp; done) | (simp [*]; done)), (by first | rfl | (simp; done) | (simp [*]; done)), (by first | rfl | (simp; done) | (simp [*]; done)), H', ⟨by have := HK1.out; have := HJ6.out; omega⟩, by repeat (first | exact Drawn0.refl _ | apply Drawn0.step)⟩
              · replace c13 := Bool.eq_false_iff.mpr c13
                subst c13
                have H1 : (if (t123.size : Int) > x9_1 then (n010_119_zzB1Model.l0 kj6 a0 a1 a2 (t123.size : Int) t124 (wrap64 (x11_1 + 1))) else (n010_119_zzB1Model.l0 kj6 a0 a1 a2 x9_1 x10_1 (wrap64 (x11_1 + 1)))) = some (r1, r2, r3) := by rw [if_neg (show ¬ (false = true) by decide)] at H; exact H
                clear H
                have H := H1
                clear H1
                by_cases c14 : (t123.size : Int) > x9_1
                · rw [if_pos c14] at H
                  have c14b0 : decide (x9_1 < (t123.size : Int)) = true := decide_eq_true c14
                  clear c14
                  have H' := Aside0.mk H
                  clear H
                  go_wp2
                  go_roundg kj6
                  case measure => have := HK1.out; have := HJ6.out; omega
                  case rel => exact ⟨((t123.size : Int)), (t124), (wrap64 (x11_1 + 1)), (by first | rfl | (simp; done) | (simp [*]; done)), (by first | rfl | (simp; done) | (simp [*]; done)), (by first | rfl | (simp; done) | (simp [*]; done)), H', ⟨by have := HK1.out; have := HJ6.out; omega⟩, by repeat (first | exact Drawn0.refl _ | apply Drawn0.step)⟩
                · rw [if_neg c14] at H
                  have c14b0 : decide (x9_1 < (t123.size : Int)) = false := decide_eq_false c14
                  clear c14
                  have H' := Aside0.mk H
                  clear H
                  go_wp2
                  go_roundg kj6
                  case measure => have := HK1.out; have := HJ6.out; omega
                  case rel => exact ⟨(x9_1), (x10_1), (wrap64 (x11_1 + 1)), (by first | rfl | (simp; done) | (simp [*]; done)), (by first | rfl | (simp; done) | (simp [*]; done)), (by first | rfl | (simp; done) | (simp [*]; done)), H', ⟨by have := HK1.out; have := HJ6.out; omega⟩, by repeat (first | exact Drawn0.refl _ | apply Drawn0.step)⟩
        · replace c6 := Bool.eq_false_iff.mpr c6
          subst c6
          have H1 : (if x9_1 < 0 then (some (0, 0, false)) else (some (x10_1, x9_1, true))) = some (r1, r2, r3) := by rw [if_neg (show ¬ (false = true) by decide)] at H; exact H
          clear H
          have H := H1
          clear H1
          by_cases c15 : x9_1 < 0
          · rw [if_pos c15] at H
            have c15b0 : decide (x9_1 < 0) = true := decide_eq_true c15
            clear c15
            simp only [Option.some.injEq, Prod.mk.injEq] at H
            obtain ⟨rfl, rfl, rfl⟩ := H
            go_wp2_with (first | ((with_reducible refine gate_callee (f := 35) rfl ?_); refine goesL_ (some 23) rfl rfl Tryf.func35 (by kernel_rfl) rfl #[.int .i64 a0, .int .i64 x11_1] rfl (by (try simp only [List.map_toArray, List.map_cons, List.map_nil]); first | done | rfl | (simp only [List.length_drop, List.length_take]; rfl)) ?_; (with_reducible refine (n010_119_zzB1Spell.calls a0 x11_1 t123 t124 t125 false _ A5.out).mono ?_); rintro e w' ⟨rfl, ⟨nd, rfl⟩⟩; refine ⟨_, rfl, ?_⟩))
            go_ret3
            exact ⟨by first | rfl | (simp; done) | (simp [*]; done), by repeat (first | exact Drawn0.refl _ | apply Drawn0.step)⟩
          · rw [if_neg c15] at H
            have c15b0 : decide (x9_1 < 0) = false := decide_eq_false c15
            clear c15
            simp only [Option.some.injEq, Prod.mk.injEq] at H
            obtain ⟨rfl, rfl, rfl⟩ := H
            go_wp2_with (first | ((with_reducible refine gate_callee (f := 35) rfl ?_); refine goesL_ (some 23) rfl rfl Tryf.func35 (by kernel_rfl) rfl #[.int .i64 a0, .int .i64 x11_1] rfl (by (try simp only [List.map_toArray, List.map_cons, List.map_nil]); first | done | rfl | (simp only [List.length_drop, List.length_take]; rfl)) ?_; (with_reducible refine (n010_119_zzB1Spell.calls a0 x11_1 t123 t124 t125 false _ A5.out).mono ?_); rintro e w' ⟨rfl, ⟨nd, rfl⟩⟩; refine ⟨_, rfl, ?_⟩))
            go_ret3
            exact ⟨by first | rfl | (simp; done) | (simp [*]; done), by repeat (first | exact Drawn0.refl _ | apply Drawn0.step)⟩
      · rw [if_neg c4] at H
        have c4b0 : decide (x11_1 < 80) = false := decide_eq_false c4
        clear c4
        by_cases c16 : x9_1 < 0
        · rw [if_pos c16] at H
          have c16b0 : decide (x9_1 < 0) = true := decide_eq_true c16
          clear c16
          simp only [Option.some.injEq, Prod.mk.injEq] at H
          obtain ⟨rfl, rfl, rfl⟩ := H
          go_wp2
          go_ret3
          exact ⟨by first | rfl | (simp; done) | (simp [*]; done), by repeat (first | exact Drawn0.refl _ | apply Drawn0.step)⟩
        · rw [if_neg c16] at H
          have c16b0 : decide (x9_1 < 0) = false := decide_eq_false c16
          clear c16
          simp only [Option.some.injEq, Prod.mk.injEq] at H
          obtain ⟨rfl, rfl, rfl⟩ := H
          go_wp2
          go_ret3
          exact ⟨by first | rfl | (simp; done) | (simp [*]; done), by repeat (first | exact Drawn0.refl _ | apply Drawn0.step)⟩

end Go.Proofs.YtgcjaijakbejjaaFmt.PFnDqTokenLongestMatch
