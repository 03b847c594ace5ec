-- PRINTED BY print.sh 35421559b90ae4d0a3588c463048766b98c2df88dd9212a6774a882060cdf62d: not written by this session
import Derived.Test.YtgcjaijakbejjaaFmtPFnDqTokenLongestMatchx0
namespace Go.Proofs.YtgcjaijakbejjaaFmt.PFnDqTokenLongestMatch
open Go.RowKit Go.Proofs.YtgcjaijakbejjaaFmtW.PrintWords Go.Proofs.YtgcjaijakbejjaaFmtW.PrintLast Go.Proofs.YtgcjaijakbejjaaFmtW.PrintMore
attribute [local go_sem] max2_int min2_int max_two min_two max_three min_three max_four min_four   -- for this text's walks alone
set_option linter.unusedVariables false
set_option linter.unusedSimpArgs false

/-! ### n010_119_zzB1CleanHead: function 10 -/
mutual
def n010_119_zzB1CleanHead.l0 : Nat → ByteArray → Int → Option (Bool)
  | 0, _, _ => none
  | k + 1, x0, x3 => if x3 < (x0.size : Int) then (n010_119_zzB1CleanHead.j1 k x0 x3 (decide (x3 < 6))) else (n010_119_zzB1CleanHead.j1 k x0 x3 false)
def n010_119_zzB1CleanHead.j1 : Nat → ByteArray → Int → Bool → Option (Bool)
  | 0, _, _, _ => none
  | k + 1, x0, x3, x11 => if x11 = true then (if 0 ≤ x3 then (if x3 < (x0.size : Int) then (if (bt x0 x3) = 0 then (some false) else (if (bt x0 x3) = 13 then (some false) else (if (bt x0 x3) = 92 then (some false) else (n010_119_zzB1CleanHead.l0 k x0 (wrap64 (x3 + 1)))))) else (none)) else (none)) else (some true)
end
def n010_119_zzB1CleanHead.f (k : Nat) (a0 : ByteArray) : Option (Bool) := n010_119_zzB1CleanHead.l0 k a0 0
theorem n010_119_zzB1CleanHead.mono_l : ∀ k, (∀ y0 y1, LeO (n010_119_zzB1CleanHead.l0 k y0 y1) (n010_119_zzB1CleanHead.l0 (k + 1) y0 y1)) ∧ (∀ y0 y1 y2, LeO (n010_119_zzB1CleanHead.j1 k y0 y1 y2) (n010_119_zzB1CleanHead.j1 (k + 1) y0 y1 y2))
  | 0 => ⟨fun _ _ r h => by simp [n010_119_zzB1CleanHead.l0] at h, fun _ _ _ r h => by simp [n010_119_zzB1CleanHead.j1] at h⟩
  | k + 1 => by
    obtain ⟨ih0, ih1⟩ := n010_119_zzB1CleanHead.mono_l k
    refine ⟨?_, ?_⟩
    · intro y0 y1
      unfold n010_119_zzB1CleanHead.l0
      repeat' first
      | (with_reducible exact ih0 _ _)
      | (with_reducible exact ih1 _ _ _)
      | (with_reducible exact LeO.refl _)
      | (with_reducible exact LeO.none _)
      | (with_reducible refine LeO.ite ?_ ?_)
      | (with_reducible refine LeO.bind ?_ (fun _ => ?_))
      | exact ih0 _ _
      | exact ih1 _ _ _
      | exact LeO.none _
      | refine LeO.ite ?_ ?_
      | refine LeO.bind ?_ (fun _ => ?_)
    · intro y0 y1 y2
      unfold n010_119_zzB1CleanHead.j1
      repeat' first
      | (with_reducible exact ih0 _ _)
      | (with_reducible exact ih1 _ _ _)
      | (with_reducible exact LeO.refl _)
      | (with_reducible exact LeO.none _)
      | (with_reducible refine LeO.ite ?_ ?_)
      | (with_reducible refine LeO.bind ?_ (fun _ => ?_))
      | exact ih0 _ _
      | exact ih1 _ _ _
      | exact LeO.none _
      | refine LeO.ite ?_ ?_
      | refine LeO.bind ?_ (fun _ => ?_)
theorem n010_119_zzB1CleanHead.mono : ∀ a0 k, LeO (n010_119_zzB1CleanHead.f k a0) (n010_119_zzB1CleanHead.f (k + 1) a0) := by
  intro a0 k
  obtain ⟨ih0, ih1⟩ := n010_119_zzB1CleanHead.mono_l k
  unfold n010_119_zzB1CleanHead.f
  repeat' first
      | (with_reducible exact ih0 _ _)
      | (with_reducible exact ih1 _ _ _)
      | (with_reducible exact LeO.refl _)
      | (with_reducible exact LeO.none _)
      | (with_reducible refine LeO.ite ?_ ?_)
      | (with_reducible refine LeO.bind ?_ (fun _ => ?_))
      | exact ih0 _ _
      | exact ih1 _ _ _
      | exact LeO.none _
      | refine LeO.ite ?_ ?_
      | refine LeO.bind ?_ (fun _ => ?_)
set_option maxHeartbeats 8000000 in
set_option maxRecDepth 100000 in
theorem n010_119_zzB1CleanHead.calls (k : Nat) (a0 : ByteArray) (r : Bool) (w : World) (h : n010_119_zzB1CleanHead.f k a0 = some r) :
    Calls Tryf.prog 10 #[.string a0] w fun e w' => e = .returned (.bool r) ∧ Drawn0 w w' := by
  have H : (n010_119_zzB1CleanHead.l0 k a0 0) = some r := h
  clear h
  have H' := Aside0.mk H
  clear H
  go_enter Tryf.func10, Tryf.ntmps10
  go_wp2
  go_loopg [3] k (fun kq v3 w' => ∃ (x3_1 : Int), v3 = .int .i64 x3_1 ∧ Aside0 (n010_119_zzB1CleanHead.l0 kq a0 x3_1 = some r) ∧ Aside0 (kq ≤ k) ∧ Drawn0 w w')
  case atStart => exact ⟨(0), (by first | rfl | (simp; done) | (simp [*]; done)), H', ⟨Nat.le_refl _⟩, by repeat (first | exact Drawn0.refl _ | apply Drawn0.step)⟩
  case round =>
    clear H'
    try clear c1
    obtain ⟨x3_1, rfl, HA, HK1, ⟨m1, rfl⟩⟩ := hrel
    cases gk with
    | zero => exact absurd HA.out (by simp [n010_119_zzB1CleanHead.l0])
    | succ k1 =>
      have H := HA.out
      clear HA
      simp only [n010_119_zzB1CleanHead.l0] at H
      have HC2 := Aside0.mk H
      clear H
      go_upto_region 2 with (fail)
      go_cut [11] (fun v11 wc => ∃ (kq : Nat) (x11_1 : Bool), v11 = .bool x11_1 ∧ Aside0 (n010_119_zzB1CleanHead.j1 kq a0 x3_1 x11_1 = some r) ∧ Aside0 (kq ≤ k1) ∧ Drawn0 w wc)
      case first =>
        have H := HC2.out
        clear HC2
        by_cases c3 : x3_1 < (a0.size : Int)
        · rw [if_pos c3] at H
          have c3b0 : decide (x3_1 < (a0.size : Int)) = true := decide_eq_true c3
          clear c3
          (first | rw [c3b0] | (simp only [i64_w, i32_w]; rw [c3b0]) | skip)
          have H' := Aside0.mk H
          clear H
          go_wp2
          go_meet
          case rel => exact ⟨_, (decide (x3_1 < 6)), (by first | rfl | (simp; done) | (simp [*]; done)), H', ⟨by have := HK1.out; first | omega | exact Nat.le_refl _⟩, by repeat (first | exact Drawn0.refl _ | apply Drawn0.step)⟩
        · rw [if_neg c3] at H
          have c3b0 : decide (x3_1 < (a0.size : Int)) = false := decide_eq_false c3
          clear c3
          (first | rw [c3b0] | (simp only [i64_w, i32_w]; rw [c3b0]) | skip)
          have H' := Aside0.mk H
          clear H
          go_wp2
          go_meet
          case rel => exact ⟨_, (false), (by first | rfl | (simp; done) | (simp [*]; done)), H', ⟨by have := HK1.out; first | omega | exact Nat.le_refl _⟩, by repeat (first | exact Drawn0.refl _ | apply Drawn0.step)⟩
      case rest =>
        clear HC2
        try clear c1
        try clear p2
        try clear c3
        try clear c3b0
        obtain ⟨kq, x11_1, rfl, HA, HJ1, ⟨mc1, rfl⟩⟩ := hcut
        cases kq with
        | zero => exact absurd HA.out (by simp [n010_119_zzB1CleanHead.j1])
        | succ kj1 =>
          have H := HA.out
          clear HA
          simp only [n010_119_zzB1CleanHead.j1] at H
          by_cases c4 : x11_1 = true
          · subst c4
            have H1 : (if 0 ≤ x3_1 then (if x3_1 < (a0.size : Int) then (if (bt a0 x3_1) = 0 then (some false) else (if (bt a0 x3_1) = 13 then (some false) else (if (bt a0 x3_1) = 92 then (some false) else (n010_119_zzB1CleanHead.l0 kj1 a0 (wrap64 (x3_1 + 1)))))) else (none)) else (none)) = some r := by rw [if_pos rfl] at H; exact H
            clear H
            have H := H1
            clear H1
            by_cases c5 : 0 ≤ x3_1
            · rw [if_pos c5] at H
              have c5b0 : decide (0 ≤ x3_1) = true := decide_eq_true c5
              clear c5
              by_cases c6 : x3_1 < (a0.size : Int)
              · rw [if_pos c6] at H
                have c6b0 : decide (x3_1 < (a0.size : Int)) = true := decide_eq_true c6
                clear c6
                by_cases c8 : (bt a0 x3_1) = 0
                · rw [if_pos c8] at H
                  have c8b0 : ((bt a0 x3_1) == 0) = true := beq_iff_eq.mpr c8
                  have c8b1 : ((bt a0 x3_1) != 0) = false := bne_eq_false_iff_eq.mpr c8
                  clear c8
                  obtain rfl := Option.some.inj H
                  have p7 : 0 ≤ (x3_1 : Int) := of_decide_eq_true (by first | (with_reducible assumption) | assumption)
                  have q7 : x3_1 < (a0.size : Int) := of_decide_eq_true (by first | (with_reducible assumption) | assumption)
                  have hx7 := bt_at a0 x3_1
                  replace p7 := eq_true p7
                  replace q7 := eq_true q7
                  go_wp2
                  go_ret
                  exact ⟨by first | rfl | (simp; done) | (simp [*]; done), by repeat (first | exact Drawn0.refl _ | apply Drawn0.step)⟩
                · rw [if_neg c8] at H
                  have c8b0 : ((bt a0 x3_1) == 0) = false := beq_eq_false_iff_ne.mpr c8
                  have c8b1 : ((bt a0 x3_1) != 0) = true := bne_iff_ne.mpr c8
                  by_cases c10 : (bt a0 x3_1) = 13
                  · rw [if_pos c10] at H
                    have c10b0 : ((bt a0 x3_1) == 13) = true := beq_iff_eq.mpr c10
                    have c10b1 : ((bt a0 x3_1) != 13) = false := bne_eq_false_iff_eq.mpr c10
                    clear c10
                    obtain rfl := Option.some.inj H
                    have p7 : 0 ≤ (x3_1 : Int) := of_decide_eq_true (by first | (with_reducible assumption) | assumption)
                    have q7 : x3_1 < (a0.size : Int) := of_decide_eq_true (by first | (with_reducible assumption) | assumption)
                    have hx7 := bt_at a0 x3_1
                    replace p7 := eq_true p7
                    replace q7 := eq_true q7
                    have p9 : 0 ≤ (x3_1 : Int) := of_decide_eq_true (by first | (with_reducible assumption) | assumption)
                    have q9 : x3_1 < (a0.size : Int) := of_decide_eq_true (by first | (with_reducible assumption) | assumption)
                    have hx9 := bt_at a0 x3_1
                    replace p9 := eq_true p9
                    replace q9 := eq_true q9
                    go_wp2
                    go_ret
                    exact ⟨by first | rfl | (simp; done) | (simp [*]; done), by repeat (first | exact Drawn0.refl _ | apply Drawn0.step)⟩
                  · rw [if_neg c10] at H
                    have c10b0 : ((bt a0 x3_1) == 13) = false := beq_eq_false_iff_ne.mpr c10
                    have c10b1 : ((bt a0 x3_1) != 13) = true := bne_iff_ne.mpr c10
                    by_cases c12 : (bt a0 x3_1) = 92
                    · rw [if_pos c12] at H
                      have c12b0 : ((bt a0 x3_1) == 92) = true := beq_iff_eq.mpr c12
                      have c12b1 : ((bt a0 x3_1) != 92) = false := bne_eq_false_iff_eq.mpr c12
                      clear c12
                      obtain rfl := Option.some.inj H
                      have p7 : 0 ≤ (x3_1 : Int) := of_decide_eq_true (by first | (with_reducible assumption) | assumption)
                      have q7 : x3_1 < (a0.size : Int) := of_decide_eq_true (by first | (with_reducible assumption) | assumption)
                      have hx7 := bt_at a0 x3_1
                      replace p7 := eq_true p7
                      replace q7 := eq_true q7
                      have p9 : 0 ≤ (x3_1 : Int) := of_decide_eq_true (by first | (with_reducible assumption) | assumption)
                      have q9 : x3_1 < (a0.size : Int) := of_decide_eq_true (by first | (with_reducible assumption) | assumption)
                      have hx9 := bt_at a0 x3_1
                      replace p9 := eq_true p9
                      replace q9 := eq_true q9
                      have p11 : 0 ≤ (x3_1 : Int) := of_decide_eq_true (by first | (with_reducible assumption) | assumption)
                      have q11 : x3_1 < (a0.size : Int) := of_decide_eq_true (by first | (with_reducible assumption) | assumption)
                      have hx11 := bt_at a0 x3_1
                      replace p11 := eq_true p11
                      replace q11 := eq_true q11
                      go_wp2
                      go_ret
                      exact ⟨by first | rfl | (simp; done) | (simp [*]; done), by repeat (first | exact Drawn0.refl _ | apply Drawn0.step)⟩
                    · rw [if_neg c12] at H
                      have c12b0 : ((bt a0 x3_1) == 92) = false := beq_eq_false_iff_ne.mpr c12
                      have c12b1 : ((bt a0 x3_1) != 92) = true := bne_iff_ne.mpr c12
                      have H' := Aside0.mk H
                      clear H
                      have p7 : 0 ≤ (x3_1 : Int) := of_decide_eq_true (by first | (with_reducible assumption) | assumption)
                      have q7 : x3_1 < (a0.size : Int) := of_decide_eq_true (by first | (with_reducible assumption) | assumption)
                      have hx7 := bt_at a0 x3_1
                      replace p7 := eq_true p7
                      replace q7 := eq_true q7
                      have p9 : 0 ≤ (x3_1 : Int) := of_decide_eq_true (by first | (with_reducible assumption) | assumption)
                      have q9 : x3_1 < (a0.size : Int) := of_decide_eq_true (by first | (with_reducible assumption) | assumption)
                      have hx9 := bt_at a0 x3_1
                      replace p9 := eq_true p9
                      replace q9 := eq_true q9
                      have p11 : 0 ≤ (x3_1 : Int) := of_decide_eq_true (by first | (with_reducible assumption) | assumption)
                      have q11 : x3_1 < (a0.size : Int) := of_decide_eq_true (by first | (with_reducible assumption) | assumption)
                      have hx11 := bt_at a0 x3_1
                      replace p11 := eq_true p11
                      replace q11 := eq_true q11
                      go_wp2
                      go_roundg kj1
                      case measure => have := HK1.out; have := HJ1.out; omega
                      case rel => exact ⟨(wrap64 (x3_1 + 1)), (by first | rfl | (simp; done) | (simp [*]; done)), H', ⟨by have := HK1.out; have := HJ1.out; omega⟩, by repeat (first | exact Drawn0.refl _ | apply Drawn0.step)⟩
              · rw [if_neg c6] at H
                exact absurd H (by simp)
            · rw [if_neg c5] at H
              exact absurd H (by simp)
          · replace c4 := Bool.eq_false_iff.mpr c4
            subst c4
            have H1 : (some true) = some r := by rw [if_neg (show ¬ (false = true) by decide)] at H; exact H
            clear H
            have H := H1
            clear H1
            obtain rfl := Option.some.inj H
            go_wp2
            go_ret
            exact ⟨by first | rfl | (simp; done) | (simp [*]; done), by repeat (first | exact Drawn0.refl _ | apply Drawn0.step)⟩

-- NOT PRINTED: function 39 (syntax_NewParser)

-- NOT PRINTED: function 59 (fmt_Sprintf)

-- NOT PRINTED: function 40 (syntax_Variant)

-- NOT PRINTED: function 41 (syntax_Parser_reset)

/-- A state of type 100 at block g of W; what its slices lead to came in by w0. -/
def IsS100 (w0 W : World) (g : Nat) (f0 : List Int) (f1 : Int) (f2 : Int) : Prop := ∃ A0 c0, W.heap[g]? = some (.cells #[.slice A0 f0.length c0, .int .i64 f1, .int .i64 f2] 100 (0, 0)) ∧ w0.heap.size ≤ g ∧ Kd.C (Kd.int .u8) w0 A0 f0.length f0
theorem IsS100.grown {w0 W : World} {g : Nat} {f0 : List Int} {f1 : Int} {f2 : Int} {W1 : World} {row : Option Nat} (h : IsS100 w0 W g f0 f1 f2) (hw : W.grownBy W1 row) (hne : some g ≠ row) : IsS100 w0 W1 g f0 f1 f2 := by
  obtain ⟨A0, c0, hb, hg, hr0⟩ := h
  exact ⟨A0, c0, blk_grown hb hw hne, hg, hr0⟩
theorem IsS100.own_neN {w0 W : World} {g : Nat} {f0 : List Int} {f1 : Int} {f2 : Int} {α : Type} {d : Kd α} {e : Nat} {base : Nat} {ok : Nat → Prop} {v : Value} {xs : List α} (h : IsS100 w0 W g f0 f1 f2) (ho : Kd.N d e W base ok v xs) (ht : e ≠ 100) : some g ≠ v.ownBlock := by
  obtain ⟨A0, c0, hb, hg, hr0⟩ := h
  exact Kd.N_ne ho hb ht
theorem IsS100.fresh {w0 W : World} {g : Nat} {f0 : List Int} {f1 : Int} {f2 : Int} (h : IsS100 w0 W g f0 f1 f2) : ∀ k, W.heap.size ≤ k → k ≠ g := by
  obtain ⟨A0, c0, hb, hg, hr0⟩ := h
  exact Kd.freshB hb
theorem IsS100.kept {w0 W : World} {g : Nat} {f0 : List Int} {f1 : Int} {f2 : Int} {W1 : World} {S : Nat → Prop} (h : IsS100 w0 W g f0 f1 f2) (hk : Kept W W1 S) (hne : ¬ S g) : IsS100 w0 W1 g f0 f1 f2 := by
  obtain ⟨A0, c0, hb, hg, hr0⟩ := h
  exact ⟨A0, c0, blk_kept hb hk hne, hg, hr0⟩
theorem IsS100.below {w0 W : World} {g : Nat} {f0 : List Int} {f1 : Int} {f2 : Int} {W1 : World} (h : IsS100 w0 W g f0 f1 f2) (hw : Below W.heap.size W W1) : IsS100 w0 W1 g f0 f1 f2 := h.grown (grown_of_below hw none) (by simp)
theorem IsS100.alloc {w0 W : World} {g : Nat} {f0 : List Int} {f1 : Int} {f2 : Int} (h : IsS100 w0 W g f0 f1 f2) (o : Obj) : IsS100 w0 (W.alloc o) g f0 f1 f2 := h.below (below_alloc (Below.refl _ _) o)
theorem IsS100.drewN {w0 W : World} {g : Nat} {f0 : List Int} {f1 : Int} {f2 : Int} (h : IsS100 w0 W g f0 f1 f2) (m : Nat) : IsS100 w0 (W.drewN m) g f0 f1 f2 := h
theorem IsS100.drew {w0 W : World} {g : Nat} {f0 : List Int} {f1 : Int} {f2 : Int} (h : IsS100 w0 W g f0 f1 f2) : IsS100 w0 W.drew g f0 f1 f2 := h
theorem IsS100.at_ {w0 W : World} {g : Nat} {f0 : List Int} {f1 : Int} {f2 : Int} {w' : World} {m : Nat} (hq : W.drewN m = w') (h : IsS100 w0 W g f0 f1 f2) : IsS100 w0 w' g f0 f1 f2 := by subst hq; exact IsS100.drewN h m
theorem IsS100.apart {w0 W : World} {g : Nat} {f0 : List Int} {f1 : Int} {f2 : Int} {α : Type} {d : Kd α} {e : Nat} {base : Nat} {ok : Nat → Prop} {v : Value} {xs : List α} (h : IsS100 w0 W g f0 f1 f2) (ho : d.R e W base ok v xs) (ht : ∀ q, q ∈ e :: d.E → q ≠ 100) : d.R e W base (fun k => ok k ∧ k ≠ g) v xs := by
  obtain ⟨A0, c0, hb, hg, hr0⟩ := h
  exact Kd.R_types ho hb ht
theorem IsS100.own_ne {w0 W : World} {g : Nat} {f0 : List Int} {f1 : Int} {f2 : Int} {α : Type} {d : Kd α} {e : Nat} {base : Nat} {ok : Nat → Prop} {v : Value} {xs : List α} (h : IsS100 w0 W g f0 f1 f2) (ho : d.R e W base ok v xs) (ht : e ≠ 100) : some g ≠ v.ownBlock := by
  obtain ⟨A0, c0, hb, hg, hr0⟩ := h
  exact Kd.R_ne ho hb ht
theorem IsS100.apartQ {w0 W : World} {g : Nat} {f0 : List Int} {f1 : Int} {f2 : Int} {α : Type} {d : Kd α} {e : Nat} {base : Nat} {ok : Nat → Prop} {v : Value} {xs : List α} (h : IsS100 w0 W g f0 f1 f2) (ho : d.Q e W base ok v xs) (ht : ∀ q, q ∈ e :: d.E → q ≠ 100) : d.Q e W base (fun k => ok k ∧ k ≠ g) v xs := by
  obtain ⟨A0, c0, hb, hg, hr0⟩ := h
  exact Kd.Q_types ho hb ht
theorem IsS100.own_neQ {w0 W : World} {g : Nat} {f0 : List Int} {f1 : Int} {f2 : Int} {α : Type} {d : Kd α} {e : Nat} {base : Nat} {ok : Nat → Prop} {v : Value} {xs : List α} (h : IsS100 w0 W g f0 f1 f2) (ho : d.Q e W base ok v xs) (ht : e ≠ 100) : some g ≠ v.ownBlock := by
  obtain ⟨A0, c0, hb, hg, hr0⟩ := h
  exact Kd.Q_ne ho hb ht
theorem IsS100.apartS {w0 W : World} {g : Nat} {f0 : List Int} {f1 : Int} {f2 : Int} {α : Type} {d : Kd α} {e : Nat} {base : Nat} {ok : Nat → Prop} {v : Value} {xs : List α} (h : IsS100 w0 W g f0 f1 f2) (ho : d.S e W base ok v xs) (ht : ∀ q, q ∈ e :: d.E → q ≠ 100) : d.S e W base (fun k => ok k ∧ k ≠ g) v xs := by
  obtain ⟨A0, c0, hb, hg, hr0⟩ := h
  exact Kd.S_types ho hb ht
theorem IsS100.own_neS {w0 W : World} {g : Nat} {f0 : List Int} {f1 : Int} {f2 : Int} {α : Type} {d : Kd α} {e : Nat} {base : Nat} {ok : Nat → Prop} {v : Value} {xs : List α} (h : IsS100 w0 W g f0 f1 f2) (ho : d.S e W base ok v xs) (ht : e ≠ 100) : some g ≠ v.ownBlock := by
  obtain ⟨A0, c0, hb, hg, hr0⟩ := h
  exact Kd.S_ne ho hb ht
theorem IsS100.lt {w0 W : World} {g : Nat} {f0 : List Int} {f1 : Int} {f2 : Int} (h : IsS100 w0 W g f0 f1 f2) : g < W.heap.size := by
  obtain ⟨A0, c0, hb, hg, hr0⟩ := h
  exact blk_lt hb
theorem IsS100.ge {w0 W : World} {g : Nat} {f0 : List Int} {f1 : Int} {f2 : Int} (h : IsS100 w0 W g f0 f1 f2) : w0.heap.size ≤ g := by
  obtain ⟨A0, c0, hb, hg, hr0⟩ := h
  exact hg
theorem IsS100.ne_blk {w0 W : World} {g : Nat} {f0 : List Int} {f1 : Int} {f2 : Int} {a : Nat} {cs : Array Value} {t : TypeId} {fr : Nat × Nat} (h : IsS100 w0 W g f0 f1 f2) (hb2 : W.heap[a]? = some (.cells cs t fr)) (ht : t ≠ 100) : g ≠ a := by
  obtain ⟨A0, c0, hb, hg, hr0⟩ := h
  rintro rfl
  rw [hb] at hb2
  injection hb2 with hb2
  injection hb2 with _ ht2
  exact ht ht2.symm
theorem IsS100.far {w0 W : World} {g : Nat} {f0 : List Int} {f1 : Int} {f2 : Int} {p : Addr} (h : IsS100 w0 W g f0 f1 f2) (hne : g ≠ p.block) (u : Value) : IsS100 w0 (W.setCell p u) g f0 f1 f2 := by
  obtain ⟨A0, c0, hb, hg, hr0⟩ := h
  exact ⟨A0, c0, blk_far hb hne u, hg, hr0⟩
theorem cellS100_0 {W : World} {g : Nat} {A0 : Option Addr} {c0 : Nat} {f0 : List Int} {f1 : Int} {f2 : Int} (h : W.heap[g]? = some (.cells #[.slice A0 f0.length c0, .int .i64 f1, .int .i64 f2] 100 (0, 0))) : W.cell? ⟨g, 0, none⟩ = some (.slice A0 f0.length c0) := (blk_cell h 0).trans rfl
theorem cellS100_1 {W : World} {g : Nat} {A0 : Option Addr} {c0 : Nat} {f0 : List Int} {f1 : Int} {f2 : Int} (h : W.heap[g]? = some (.cells #[.slice A0 f0.length c0, .int .i64 f1, .int .i64 f2] 100 (0, 0))) : W.cell? ⟨g, 1, none⟩ = some (.int .i64 f1) := (blk_cell h 1).trans rfl
theorem IsS100.set_1 {w0 W : World} {g : Nat} {f0 : List Int} {f1 : Int} {f2 : Int} (h : IsS100 w0 W g f0 f1 f2) (x : Int) : IsS100 w0 (W.setCell ⟨g, 1, none⟩ (.int .i64 x)) g f0 x f2 := by
  obtain ⟨A0, c0, hb, hg, hr0⟩ := h
  exact ⟨A0, c0, by simpa using blk_set hb 1 (.int .i64 x), hg, hr0⟩
theorem cellS100_2 {W : World} {g : Nat} {A0 : Option Addr} {c0 : Nat} {f0 : List Int} {f1 : Int} {f2 : Int} (h : W.heap[g]? = some (.cells #[.slice A0 f0.length c0, .int .i64 f1, .int .i64 f2] 100 (0, 0))) : W.cell? ⟨g, 2, none⟩ = some (.int .i64 f2) := (blk_cell h 2).trans rfl
theorem IsS100.set_2 {w0 W : World} {g : Nat} {f0 : List Int} {f1 : Int} {f2 : Int} (h : IsS100 w0 W g f0 f1 f2) (x : Int) : IsS100 w0 (W.setCell ⟨g, 2, none⟩ (.int .i64 x)) g f0 f1 x := by
  obtain ⟨A0, c0, hb, hg, hr0⟩ := h
  exact ⟨A0, c0, by simpa using blk_set hb 2 (.int .i64 x), hg, hr0⟩
theorem IsS100.new (w0 W : World) (A0 : Option Addr) (c0 : Nat) (f0 : List Int) (f1 : Int) (f2 : Int) (hB : Below w0.heap.size w0 W) (hr0 : Kd.C (Kd.int .u8) w0 A0 f0.length f0) : IsS100 w0 (W.alloc (.cells #[.slice A0 f0.length c0, .int .i64 f1, .int .i64 f2] 100)) W.heap.size f0 f1 f2 := ⟨A0, c0, by simpa using heap_alloc_new W _, hB.size, hr0⟩

/-! ### bytes_NewReader: function 42 -/
def bytes_NewReader.f (l0 : List Int) : Option (List Int × Int × Int) := some (l0, 0, (-1))
set_option maxHeartbeats 8000000 in
set_option maxRecDepth 100000 in
theorem bytes_NewReader.calls (A0 : Option Addr) (c0 : Nat) (l0 : List Int) (r1 : List Int) (r2 : Int) (r3 : Int) (w0 w : World) (hB : Below w0.heap.size w0 w) (hr0 : Kd.C (Kd.int .u8) w0 A0 l0.length l0) (hc0 : l0.length ≤ c0) (h : bytes_NewReader.f l0 = some (r1, r2, r3)) :
    Calls Tryf.prog 42 #[.slice A0 l0.length c0] w fun e w' => ∃ g_ : Nat, e = .returned (.pointer (some ⟨g_, 0, none⟩)) ∧ IsS100 w0 w' g_ r1 r2 r3 ∧ Below w0.heap.size w0 w' ∧ Below w.heap.size w w' := by
  have hu100 := Tryf.underlying100
  have HR0 := Aside0.mk hr0
  have HC0 := Aside0.mk hc0
  clear hr0 hc0
  have HBW := Aside0.mk (Below.refl w.heap.size w)
  have HW0 := Aside0.mk hB.size
  have HB := Aside0.mk hB
  clear hB
  have H : (some (l0, 0, (-1))) = some (r1, r2, r3) := h
  clear h
  simp only [Option.some.injEq, Prod.mk.injEq] at H
  obtain ⟨rfl, rfl, rfl⟩ := H
  go_enter Tryf.func42, Tryf.ntmps42
  go_wp2_with (first | ((with_reducible refine gate_dst (N := 5) rfl ?_); refine box_event ?hg (N := 5) ?hd (cs := #[.slice A0 l0.length c0, .int .i64 0, .int .i64 (-1)]) (t := 100) ?hr ?_; (case hd => rfl); (case hg => rfl); (case hr => first | (go_simp; done) | (go_simp; rfl)); intro gb101 hg w2 hbox hb; have n0_ := Aside0.mk (below_step HBW.out hb); have n1_ := Aside0.mk (below_step (by repeat (first | (with_reducible first | exact HB.out | apply below_alloc | apply pw_below_drewN | apply below_drew1) | exact HB.out)) hb); have n2_ := Aside0.mk (hbox); have n3_ := Aside0.mk ((by rw [hg]; exact (below_size (by repeat (first | (with_reducible first | exact HBW.out | apply below_alloc | apply pw_below_drewN | apply below_drew1) | exact HBW.out))) : w.heap.size ≤ gb101)); have n4_ := Aside0.mk ((Nat.le_trans HW0.out (by rw [hg]; exact (below_size (by repeat (first | (with_reducible first | exact HBW.out | apply below_alloc | apply pw_below_drewN | apply below_drew1) | exact HBW.out))) : w.heap.size ≤ gb101) : w0.heap.size ≤ gb101)); clear HBW; clear HB; have HBW := n0_; have HB := n1_; have BK101 := n2_; have GW101 := n3_; have GE101 := n4_; clear n0_ n1_ n2_ n3_ n4_; clear hb hbox hg))
  go_ret
  exact ⟨_, rfl, (show IsS100 w0 _ gb101 l0 0 (-1) from ⟨_, _, by (with_reducible repeat (first | refine blk_drewN ?_ _ | refine blk_drew ?_ | refine blk_alloc ?_ _)); exact BK101.out, GE101.out, HR0.out⟩), by repeat (first | (with_reducible first | exact HB.out | apply below_alloc | apply pw_below_drewN | apply below_drew1 | refine below_set ?_ GE101.out) | exact HB.out), by repeat (first | (with_reducible first | exact HBW.out | apply below_alloc | apply pw_below_drewN | apply below_drew1 | refine below_set ?_ GW101.out) | exact HBW.out)⟩

-- NOT PRINTED: function 26 (syntax_ZZB1newLexer_n010_119)

/-! ### n010_119_zzB1Lang: function 27 -/
def n010_119_zzB1Lang.f (a0 : Int) : Option (Int) := if a0 = 0 then (some 1) else (if a0 = 1 then (some 2) else (if a0 = 2 then (some 4) else (if a0 = 3 then (some 8) else (some 16))))
set_option maxHeartbeats 8000000 in
set_option maxRecDepth 100000 in
theorem n010_119_zzB1Lang.calls (a0 : Int) (r : Int) (w : World) (h : n010_119_zzB1Lang.f a0 = some r) :
    Calls Tryf.prog 27 #[.int .i64 a0] w fun e w' => e = .returned (.int .i64 r) ∧ Drawn0 w w' := by
  have H : (if a0 = 0 then (some 1) else (if a0 = 1 then (some 2) else (if a0 = 2 then (some 4) else (if a0 = 3 then (some 8) else (some 16))))) = some r := h
  clear h
  by_cases c2 : a0 = 0
  · rw [if_pos c2] at H
    have c2b0 : (a0 == 0) = true := beq_iff_eq.mpr c2
    have c2b1 : (a0 != 0) = false := bne_eq_false_iff_eq.mpr c2
    clear c2
    obtain rfl := Option.some.inj H
    go_enter Tryf.func27, Tryf.ntmps27
    go_wp2
    go_ret
    exact ⟨by first | rfl | (simp; done) | (simp [*]; done), by repeat (first | exact Drawn0.refl _ | apply Drawn0.step)⟩
  · rw [if_neg c2] at H
    have c2b0 : (a0 == 0) = false := beq_eq_false_iff_ne.mpr c2
    have c2b1 : (a0 != 0) = true := bne_iff_ne.mpr c2
    by_cases c3 : a0 = 1
    · rw [if_pos c3] at H
      have c3b0 : (a0 == 1) = true := beq_iff_eq.mpr c3
      have c3b1 : (a0 != 1) = false := bne_eq_false_iff_eq.mpr c3
      clear c3
      obtain rfl := Option.some.inj H
      go_enter Tryf.func27, Tryf.ntmps27
      go_wp2
      go_ret
      exact ⟨by first | rfl | (simp; done) | (simp [*]; done), by repeat (first | exact Drawn0.refl _ | apply Drawn0.step)⟩
    · rw [if_neg c3] at H
      have c3b0 : (a0 == 1) = false := beq_eq_false_iff_ne.mpr c3
      have c3b1 : (a0 != 1) = true := bne_iff_ne.mpr c3
      by_cases c4 : a0 = 2
      · rw [if_pos c4] at H
        have c4b0 : (a0 == 2) = true := beq_iff_eq.mpr c4
        have c4b1 : (a0 != 2) = false := bne_eq_false_iff_eq.mpr c4
        clear c4
        obtain rfl := Option.some.inj H
        go_enter Tryf.func27, Tryf.ntmps27
        go_wp2
        go_ret
        exact ⟨by first | rfl | (simp; done) | (simp [*]; done), by repeat (first | exact Drawn0.refl _ | apply Drawn0.step)⟩
      · rw [if_neg c4] at H
        have c4b0 : (a0 == 2) = false := beq_eq_false_iff_ne.mpr c4
        have c4b1 : (a0 != 2) = true := bne_iff_ne.mpr c4
        by_cases c5 : a0 = 3
        · rw [if_pos c5] at H
          have c5b0 : (a0 == 3) = true := beq_iff_eq.mpr c5
          have c5b1 : (a0 != 3) = false := bne_eq_false_iff_eq.mpr c5
          clear c5
          obtain rfl := Option.some.inj H
          go_enter Tryf.func27, Tryf.ntmps27
          go_wp2
          go_ret
          exact ⟨by first | rfl | (simp; done) | (simp [*]; done), by repeat (first | exact Drawn0.refl _ | apply Drawn0.step)⟩
        · rw [if_neg c5] at H
          have c5b0 : (a0 == 3) = false := beq_eq_false_iff_ne.mpr c5
          have c5b1 : (a0 != 3) = true := bne_iff_ne.mpr c5
          obtain rfl := Option.some.inj H
          go_enter Tryf.func27, Tryf.ntmps27
          go_wp2
          go_ret
          exact ⟨by first | rfl | (simp; done) | (simp [*]; done), by repeat (first | exact Drawn0.refl _ | apply Drawn0.step)⟩

-- NOT PRINTED: function 62 (syntax_Parser_fill)

-- NOT PRINTED: function 63 (syntax_Parser_peek)

-- NOT PRINTED: function 64 (syntax_Parser_peekTwo)

/-! ### syntax_bquoteEscaped: function 65 -/
def syntax_bquoteEscaped.f (a0 : Int) : Option (Bool) := if a0 = 36 then (some true) else (if a0 = 96 then (some true) else (if a0 = 92 then (some true) else (some false)))
set_option maxHeartbeats 8000000 in
set_option maxRecDepth 100000 in
theorem syntax_bquoteEscaped.calls (a0 : Int) (r : Bool) (w : World) (h : syntax_bquoteEscaped.f a0 = some r) :
    Calls Tryf.prog 65 #[.int .u8 a0] w fun e w' => e = .returned (.bool r) ∧ Drawn0 w w' := by
  have H : (if a0 = 36 then (some true) else (if a0 = 96 then (some true) else (if a0 = 92 then (some true) else (some false)))) = some r := h
  clear h
  by_cases c2 : a0 = 36
  · rw [if_pos c2] at H
    have c2b0 : (a0 == 36) = true := beq_iff_eq.mpr c2
    have c2b1 : (a0 != 36) = false := bne_eq_false_iff_eq.mpr c2
    clear c2
    obtain rfl := Option.some.inj H
    go_enter Tryf.func65, Tryf.ntmps65
    go_wp2
    go_ret
    exact ⟨by first | rfl | (simp; done) | (simp [*]; done), by repeat (first | exact Drawn0.refl _ | apply Drawn0.step)⟩
  · rw [if_neg c2] at H
    have c2b0 : (a0 == 36) = false := beq_eq_false_iff_ne.mpr c2
    have c2b1 : (a0 != 36) = true := bne_iff_ne.mpr c2
    by_cases c3 : a0 = 96
    · rw [if_pos c3] at H
      have c3b0 : (a0 == 96) = true := beq_iff_eq.mpr c3
      have c3b1 : (a0 != 96) = false := bne_eq_false_iff_eq.mpr c3
      clear c3
      obtain rfl := Option.some.inj H
      go_enter Tryf.func65, Tryf.ntmps65
      go_wp2
      go_ret
      exact ⟨by first | rfl | (simp; done) | (simp [*]; done), by repeat (first | exact Drawn0.refl _ | apply Drawn0.step)⟩
    · rw [if_neg c3] at H
      have c3b0 : (a0 == 96) = false := beq_eq_false_iff_ne.mpr c3
      have c3b1 : (a0 != 96) = true := bne_iff_ne.mpr c3
      by_cases c4 : a0 = 92
      · rw [if_pos c4] at H
        have c4b0 : (a0 == 92) = true := beq_iff_eq.mpr c4
        have c4b1 : (a0 != 92) = false := bne_eq_false_iff_eq.mpr c4
        clear c4
        obtain rfl := Option.some.inj H
        go_enter Tryf.func65, Tryf.ntmps65
        go_wp2
        go_ret
        exact ⟨by first | rfl | (simp; done) | (simp [*]; done), by repeat (first | exact Drawn0.refl _ | apply Drawn0.step)⟩
      · rw [if_neg c4] at H
        have c4b0 : (a0 == 92) = false := beq_eq_false_iff_ne.mpr c4
        have c4b1 : (a0 != 92) = true := bne_iff_ne.mpr c4
        obtain rfl := Option.some.inj H
        go_enter Tryf.func65, Tryf.ntmps65
        go_wp2
        go_ret
        exact ⟨by first | rfl | (simp; done) | (simp [*]; done), by repeat (first | exact Drawn0.refl _ | apply Drawn0.step)⟩

-- NOT PRINTED: function 78 (utf8_decodeRuneSlow)

-- NOT PRINTED: function 66 (utf8_DecodeRune)

-- NOT PRINTED: function 67 (utf8_FullRune)

-- NOT PRINTED: function 79 (syntax_Parser_errPass)

-- NOT PRINTED: function 80 (syntax_Parser_Incomplete)

-- NOT PRINTED: function 68 (syntax_Parser_posErr)

/-! ### syntax_NewPos: function 81 -/
def syntax_NewPos.f (a0 : Int) (a1 : Int) (a2 : Int) : Option (Int × Int) := if a1 > 262143 then (if a2 > 16383 then (some ((mn a0 4294967284) % 4294967296, Go.bits .or .u32 (0 * 16384) 0)) else (some ((mn a0 4294967284) % 4294967296, Go.bits .or .u32 (0 * 16384) ((a2) % 4294967296)))) else (if a2 > 16383 then (some ((mn a0 4294967284) % 4294967296, Go.bits .or .u32 ((((a1) % 4294967296) * 16384) % 4294967296) 0)) else (some ((mn a0 4294967284) % 4294967296, Go.bits .or .u32 ((((a1) % 4294967296) * 16384) % 4294967296) ((a2) % 4294967296))))
set_option maxHeartbeats 8000000 in
set_option maxRecDepth 100000 in
theorem syntax_NewPos.calls (a0 : Int) (a1 : Int) (a2 : Int) (r1 : Int) (r2 : Int) (w : World) (h : syntax_NewPos.f a0 a1 a2 = some (r1, r2)) :
    Calls Tryf.prog 81 #[.int .u64 a0, .int .u64 a1, .int .u64 a2] w fun e w' => e = .returned (.agg #[.int .u32 r1, .int .u32 r2]) ∧ Below w.heap.size w w' := by
  have hu71 := Tryf.underlying71
  have HB := Aside0.mk (Below.refl w.heap.size w)
  have H : (if a1 > 262143 then (if a2 > 16383 then (some ((mn a0 4294967284) % 4294967296, Go.bits .or .u32 (0 * 16384) 0)) else (some ((mn a0 4294967284) % 4294967296, Go.bits .or .u32 (0 * 16384) ((a2) % 4294967296)))) else (if a2 > 16383 then (some ((mn a0 4294967284) % 4294967296, Go.bits .or .u32 ((((a1) % 4294967296) * 16384) % 4294967296) 0)) else (some ((mn a0 4294967284) % 4294967296, Go.bits .or .u32 ((((a1) % 4294967296) * 16384) % 4294967296) ((a2) % 4294967296))))) = some (r1, r2) := h
  clear h
  obtain ⟨ji4, hji4⟩ : ∃ j_ : Int, (mn a0 4294967284) = j_ := ⟨_, rfl⟩
  replace H : (if a1 > 262143 then (if a2 > 16383 then (some ((ji4) % 4294967296, Go.bits .or .u32 (0 * 16384) 0)) else (some ((ji4) % 4294967296, Go.bits .or .u32 (0 * 16384) ((a2) % 4294967296)))) else (if a2 > 16383 then (some ((ji4) % 4294967296, Go.bits .or .u32 ((((a1) % 4294967296) * 16384) % 4294967296) 0)) else (some ((ji4) % 4294967296, Go.bits .or .u32 ((((a1) % 4294967296) * 16384) % 4294967296) ((a2) % 4294967296))))) = some (r1, r2) := by first | (rw [hji4] at H; exact H) | (simp only [hji4] at H ⊢; exact H)
  (try (have hji4h : ji4 ≤ 4294967284 := by (rw [← hji4]; unfold mn; (repeat' split) <;> omega)))
  (try (have hji4g : ji4 ≤ 64 := by omega))
  have hji4_ : (if 4294967284 < a0 then 4294967284 else a0) = ji4 := hji4
  by_cases c5 : a1 > 262143
  · rw [if_pos c5] at H
    have c5b0 : decide (262143 < a1) = true := decide_eq_true c5
    clear c5
    by_cases c6 : a2 > 16383
    · rw [if_pos c6] at H
      have c6b0 : decide (16383 < a2) = true := decide_eq_true c6
      clear c6
      simp only [Option.some.injEq, Prod.mk.injEq] at H
      obtain ⟨rfl, rfl⟩ := H
      go_enter Tryf.func81, Tryf.ntmps81
      go_wp2_with (first | ((with_reducible refine gate_dst (N := 6) rfl ?_); refine box_event ?hg (N := 6) ?hd (cs := #[.int .u32 0, .int .u32 0]) (t := 71) ?hr ?_; (case hd => rfl); (case hg => rfl); (case hr => first | (go_simp; done) | (go_simp; rfl)); intro gb105 hg w7 hbox hb; have n0_ := Aside0.mk (below_step (by repeat (first | (with_reducible first | exact HB.out | apply below_alloc | apply pw_below_drewN | apply below_drew1) | exact HB.out)) hb); have n1_ := Aside0.mk (hbox); have n2_ := Aside0.mk ((by rw [hg]; exact (below_size (by repeat (first | (with_reducible first | exact HB.out | apply below_alloc | apply pw_below_drewN | apply below_drew1) | exact HB.out))) : w.heap.size ≤ gb105)); have n3_ := Aside0.mk ((by rw [hg]; exact (below_size (by repeat (first | (with_reducible first | exact HB.out | apply below_alloc | apply pw_below_drewN | apply below_drew1) | exact HB.out))) : w.heap.size ≤ gb105)); clear HB; have HB := n0_; have BK105 := n1_; have GW105 := n2_; have GE105 := n3_; clear n0_ n1_ n2_ n3_; clear hb hbox hg; have hcz8_0 : w7.cell? ⟨gb105, 0, none⟩ = some (.int .u32 0) := (blk_cell BK105.out 0).trans rfl; have hcz8_1 : w7.cell? ⟨gb105, 1, none⟩ = some (.int .u32 0) := (blk_cell BK105.out 1).trans rfl; have hfz8_0 := blk_frozen BK105.out 0; have hfz8_1 := blk_frozen BK105.out 1))
      refine bodyPost_ret (results_cell_row rfl _ _ gb105 71 #[.int .u32 ((ji4) % 4294967296), .int .u32 (Go.bits .or .u32 (0 * 16384) 0)] (0, 0) _ rfl (by (with_reducible repeat (first | refine blk_drewN ?_ _ | refine blk_drew ?_ | refine blk_alloc ?_ _)); refine blk_put (cs := #[.int .u32 ((ji4) % 4294967296), .int .u32 0]) ?_ 1 _ rfl; (with_reducible repeat (first | refine blk_drewN ?_ _ | refine blk_drew ?_ | refine blk_alloc ?_ _)); refine blk_put (cs := #[.int .u32 0, .int .u32 0]) ?_ 0 _ rfl; (with_reducible repeat (first | refine blk_drewN ?_ _ | refine blk_drew ?_ | refine blk_alloc ?_ _)); exact BK105.out) Tryf.underlying71 rfl (by kernel_rfl)) rfl ?_
      exact ⟨by first | rfl | (simp [errW_none, errW_some] <;> rfl) | (simp only [← hji4]; first | rfl | (simp [errW_none, errW_some] <;> rfl)) | (simp [*, errW_none, errW_some] <;> rfl), by repeat (first | (with_reducible first | exact HB.out | apply below_alloc | apply pw_below_drewN | apply below_drew1 | refine below_set ?_ GE105.out) | exact HB.out)⟩
    · rw [if_neg c6] at H
      have c6b0 : decide (16383 < a2) = false := decide_eq_false c6
      clear c6
      simp only [Option.some.injEq, Prod.mk.injEq] at H
      obtain ⟨rfl, rfl⟩ := H
      go_enter Tryf.func81, Tryf.ntmps81
      go_wp2_with (first | ((with_reducible refine gate_dst (N := 6) rfl ?_); refine box_event ?hg (N := 6) ?hd (cs := #[.int .u32 0, .int .u32 0]) (t := 71) ?hr ?_; (case hd => rfl); (case hg => rfl); (case hr => first | (go_simp; done) | (go_simp; rfl)); intro gb105 hg w9 hbox hb; have n0_ := Aside0.mk (below_step (by repeat (first | (with_reducible first | exact HB.out | apply below_alloc | apply pw_below_drewN | apply below_drew1) | exact HB.out)) hb); have n1_ := Aside0.mk (hbox); have n2_ := Aside0.mk ((by rw [hg]; exact (below_size (by repeat (first | (with_reducible first | exact HB.out | apply below_alloc | apply pw_below_drewN | apply below_drew1) | exact HB.out))) : w.heap.size ≤ gb105)); have n3_ := Aside0.mk ((by rw [hg]; exact (below_size (by repeat (first | (with_reducible first | exact HB.out | apply below_alloc | apply pw_below_drewN | apply below_drew1) | exact HB.out))) : w.heap.size ≤ gb105)); clear HB; have HB := n0_; have BK105 := n1_; have GW105 := n2_; have GE105 := n3_; clear n0_ n1_ n2_ n3_; clear hb hbox hg; have hcz10_0 : w9.cell? ⟨gb105, 0, none⟩ = some (.int .u32 0) := (blk_cell BK105.out 0).trans rfl; have hcz10_1 : w9.cell? ⟨gb105, 1, none⟩ = some (.int .u32 0) := (blk_cell BK105.out 1).trans rfl; have hfz10_0 := blk_frozen BK105.out 0; have hfz10_1 := blk_frozen BK105.out 1))
      refine bodyPost_ret (results_cell_row rfl _ _ gb105 71 #[.int .u32 ((ji4) % 4294967296), .int .u32 (Go.bits .or .u32 (0 * 16384) ((a2) % 4294967296))] (0, 0) _ rfl (by (with_reducible repeat (first | refine blk_drewN ?_ _ | refine blk_drew ?_ | refine blk_alloc ?_ _)); refine blk_put (cs := #[.int .u32 ((ji4) % 4294967296), .int .u32 0]) ?_ 1 _ rfl; (with_reducible repeat (first | refine blk_drewN ?_ _ | refine blk_drew ?_ | refine blk_alloc ?_ _)); refine blk_put (cs := #[.int .u32 0, .int .u32 0]) ?_ 0 _ rfl; (with_reducible repeat (first | refine blk_drewN ?_ _ | refine blk_drew ?_ | refine blk_alloc ?_ _)); exact BK105.out) Tryf.underlying71 rfl (by kernel_rfl)) rfl ?_
      exact ⟨by first | rfl | (simp [errW_none, errW_some] <;> rfl) | (simp only [← hji4]; first | rfl | (simp [errW_none, errW_some] <;> rfl)) | (simp [*, errW_none, errW_some] <;> rfl), by repeat (first | (with_reducible first | exact HB.out | apply below_alloc | apply pw_below_drewN | apply below_drew1 | refine below_set ?_ GE105.out) | exact HB.out)⟩
  · rw [if_neg c5] at H
    have c5b0 : decide (262143 < a1) = false := decide_eq_false c5
    clear c5
    by_cases c11 : a2 > 16383
    · rw [if_pos c11] at H
      have c11b0 : decide (16383 < a2) = true := decide_eq_true c11
      clear c11
      simp only [Option.some.injEq, Prod.mk.injEq] at H
      obtain ⟨rfl, rfl⟩ := H
      go_enter Tryf.func81, Tryf.ntmps81
      go_wp2_with (first | ((with_reducible refine gate_dst (N := 6) rfl ?_); refine box_event ?hg (N := 6) ?hd (cs := #[.int .u32 0, .int .u32 0]) (t := 71) ?hr ?_; (case hd => rfl); (case hg => rfl); (case hr => first | (go_simp; done) | (go_simp; rfl)); intro gb105 hg w12 hbox hb; have n0_ := Aside0.mk (below_step (by repeat (first | (with_reducible first | exact HB.out | apply below_alloc | apply pw_below_drewN | apply below_drew1) | exact HB.out)) hb); have n1_ := Aside0.mk (hbox); have n2_ := Aside0.mk ((by rw [hg]; exact (below_size (by repeat (first | (with_reducible first | exact HB.out | apply below_alloc | apply pw_below_drewN | apply below_drew1) | exact HB.out))) : w.heap.size ≤ gb105)); have n3_ := Aside0.mk ((by rw [hg]; exact (below_size (by repeat (first | (with_reducible first | exact HB.out | apply below_alloc | apply pw_below_drewN | apply below_drew1) | exact HB.out))) : w.heap.size ≤ gb105)); clear HB; have HB := n0_; have BK105 := n1_; have GW105 := n2_; have GE105 := n3_; clear n0_ n1_ n2_ n3_; clear hb hbox hg; have hcz13_0 : w12.cell? ⟨gb105, 0, none⟩ = some (.int .u32 0) := (blk_cell BK105.out 0).trans rfl; have hcz13_1 : w12.cell? ⟨gb105, 1, none⟩ = some (.int .u32 0) := (blk_cell BK105.out 1).trans rfl; have hfz13_0 := blk_frozen BK105.out 0; have hfz13_1 := blk_frozen BK105.out 1))
      refine bodyPost_ret (results_cell_row rfl _ _ gb105 71 #[.int .u32 ((ji4) % 4294967296), .int .u32 (Go.bits .or .u32 ((((a1) % 4294967296) * 16384) % 4294967296) 0)] (0, 0) _ rfl (by (with_reducible repeat (first | refine blk_drewN ?_ _ | refine blk_drew ?_ | refine blk_alloc ?_ _)); refine blk_put (cs := #[.int .u32 ((ji4) % 4294967296), .int .u32 0]) ?_ 1 _ rfl; (with_reducible repeat (first | refine blk_drewN ?_ _ | refine blk_drew ?_ | refine blk_alloc ?_ _)); refine blk_put (cs := #[.int .u32 0, .int .u32 0]) ?_ 0 _ rfl; (with_reducible repeat (first | refine blk_drewN ?_ _ | refine blk_drew ?_ | refine blk_alloc ?_ _)); exact BK105.out) Tryf.underlying71 rfl (by kernel_rfl)) rfl ?_
      exact ⟨by first | rfl | (simp [errW_none, errW_some] <;> rfl) | (simp only [← hji4]; first | rfl | (simp [errW_none, errW_some] <;> rfl)) | (simp [*, errW_none, errW_some] <;> rfl), by repeat (first | (with_reducible first | exact HB.out | apply below_alloc | apply pw_below_drewN | apply below_drew1 | refine below_set ?_ GE105.out) | exact HB.out)⟩
    · rw [if_neg c11] at H
      have c11b0 : decide (16383 < a2) = false := decide_eq_false c11
      clear c11
      simp only [Option.some.injEq, Prod.mk.injEq] at H
      obtain ⟨rfl, rfl⟩ := H
      go_enter Tryf.func81, Tryf.ntmps81
      go_wp2_with (first | ((with_reducible refine gate_dst (N := 6) rfl ?_); refine box_event ?hg (N := 6) ?hd (cs := #[.int .u32 0, .int .u32 0]) (t := 71) ?hr ?_; (case hd => rfl); (case hg => rfl); (case hr => first | (go_simp; done) | (go_simp; rfl)); intro gb105 hg w14 hbox hb; have n0_ := Aside0.mk (below_step (by repeat (first | (with_reducible first | exact HB.out | apply below_alloc | apply pw_below_drewN | apply below_drew1) | exact HB.out)) hb); have n1_ := Aside0.mk (hbox); have n2_ := Aside0.mk ((by rw [hg]; exact (below_size (by repeat (first | (with_reducible first | exact HB.out | apply below_alloc | apply pw_below_drewN | apply below_drew1) | exact HB.out))) : w.heap.size ≤ gb105)); have n3_ := Aside0.mk ((by rw [hg]; exact (below_size (by repeat (first | (with_reducible first | exact HB.out | apply below_alloc | apply pw_below_drewN | apply below_drew1) | exact HB.out))) : w.heap.size ≤ gb105)); clear HB; have HB := n0_; have BK105 := n1_; have GW105 := n2_; have GE105 := n3_; clear n0_ n1_ n2_ n3_; clear hb hbox hg; have hcz15_0 : w14.cell? ⟨gb105, 0, none⟩ = some (.int .u32 0) := (blk_cell BK105.out 0).trans rfl; have hcz15_1 : w14.cell? ⟨gb105, 1, none⟩ = some (.int .u32 0) := (blk_cell BK105.out 1).trans rfl; have hfz15_0 := blk_frozen BK105.out 0; have hfz15_1 := blk_frozen BK105.out 1))
      refine bodyPost_ret (results_cell_row rfl _ _ gb105 71 #[.int .u32 ((ji4) % 4294967296), .int .u32 (Go.bits .or .u32 ((((a1) % 4294967296) * 16384) % 4294967296) ((a2) % 4294967296))] (0, 0) _ rfl (by (with_reducible repeat (first | refine blk_drewN ?_ _ | refine blk_drew ?_ | refine blk_alloc ?_ _)); refine blk_put (cs := #[.int .u32 ((ji4) % 4294967296), .int .u32 0]) ?_ 1 _ rfl; (with_reducible repeat (first | refine blk_drewN ?_ _ | refine blk_drew ?_ | refine blk_alloc ?_ _)); refine blk_put (cs := #[.int .u32 0, .int .u32 0]) ?_ 0 _ rfl; (with_reducible repeat (first | refine blk_drewN ?_ _ | refine blk_drew ?_ | refine blk_alloc ?_ _)); exact BK105.out) Tryf.underlying71 rfl (by kernel_rfl)) rfl ?_
      exact ⟨by first | rfl | (simp [errW_none, errW_some] <;> rfl) | (simp only [← hji4]; first | rfl | (simp [errW_none, errW_some] <;> rfl)) | (simp [*, errW_none, errW_some] <;> rfl), by repeat (first | (with_reducible first | exact HB.out | apply below_alloc | apply pw_below_drewN | apply below_drew1 | refine below_set ?_ GE105.out) | exact HB.out)⟩

-- NOT PRINTED: function 69 (syntax_Parser_nextPos)

-- NOT PRINTED: function 43 (syntax_Parser_rune)

-- NOT PRINTED: function 28 (syntax_ZZB1rune_n010_119)

-- NOT PRINTED: function 29 (syntax_ZZB1col_n010_119)

/-! ### syntax_LangVariant_in: function 70 -/
def syntax_LangVariant_in.f (a0 : Int) (a1 : Int) : Option (Bool) := some ((Go.bits .and .i64 a0 a1) == a0)
set_option maxHeartbeats 8000000 in
set_option maxRecDepth 100000 in
theorem syntax_LangVariant_in.calls (a0 : Int) (a1 : Int) (r : Bool) (w : World) (h : syntax_LangVariant_in.f a0 a1 = some r) :
    Calls Tryf.prog 70 #[.int .i64 a0, .int .i64 a1] w fun e w' => e = .returned (.bool r) ∧ Drawn0 w w' := by
  have H : (some ((Go.bits .and .i64 a0 a1) == a0)) = some r := h
  clear h
  obtain rfl := Option.some.inj H
  go_enter Tryf.func70, Tryf.ntmps70
  go_wp2
  go_ret
  exact ⟨by first | rfl | (simp; done) | (simp [*]; done), by repeat (first | exact Drawn0.refl _ | apply Drawn0.step)⟩

-- NOT PRINTED: function 44 (syntax_Parser_regToken)

-- NOT PRINTED: function 30 (syntax_ZZB1regToken_n010_119)

-- NOT PRINTED: function 45 (syntax_Parser_dqToken)

-- NOT PRINTED: function 31 (syntax_ZZB1dqToken_n010_119)

-- NOT PRINTED: function 46 (syntax_Parser_paramToken)

-- NOT PRINTED: function 32 (syntax_ZZB1paramToken_n010_119)

-- NOT PRINTED: function 47 (syntax_Parser_arithmToken)

-- NOT PRINTED: function 33 (syntax_ZZB1arithmToken_n010_119)

-- NOT PRINTED: function 34 (syntax_ZZB1curRune_n010_119)

-- NOT PRINTED: function 11 (n010_119_zzB1Run)

end Go.Proofs.YtgcjaijakbejjaaFmt.PFnDqTokenLongestMatch
