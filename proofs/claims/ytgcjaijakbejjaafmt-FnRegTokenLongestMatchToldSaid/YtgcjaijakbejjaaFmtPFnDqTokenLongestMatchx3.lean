-- PRINTED BY print.sh 35421559b90ae4d0a3588c463048766b98c2df88dd9212a6774a882060cdf62d: not written by this session
import Derived.Test.YtgcjaijakbejjaaFmtPFnDqTokenLongestMatchx0
namespace Go.Proofs.YtgcjaijakbejjaaFmt.PFnDqTokenLongestMatch
open Go.RowKit Go.Proofs.YtgcjaijakbejjaaFmtW.PrintWords Go.Proofs.YtgcjaijakbejjaaFmtW.PrintLast Go.Proofs.YtgcjaijakbejjaaFmtW.PrintMore
attribute [local go_sem] max2_int min2_int max_two min_two max_three min_three max_four min_four   -- for this text's walks alone
set_option linter.unusedVariables false
set_option linter.unusedSimpArgs false

/-! ### n010_119_zzB1ParamSpell: function 50 -/
def n010_119_zzB1ParamSpell.f (a0 : Int) : Option (ByteArray × Int × Int × Bool) := if a0 = 0 then (some ((⟨#[125]⟩ : ByteArray), 29, 31, true)) else (if a0 = 1 then (some ((⟨#[58]⟩ : ByteArray), 104, 31, true)) else (if a0 = 2 then (some ((⟨#[58, 43]⟩ : ByteArray), 82, 31, true)) else (if a0 = 3 then (some ((⟨#[58, 45]⟩ : ByteArray), 84, 31, true)) else (if a0 = 4 then (some ((⟨#[58, 63]⟩ : ByteArray), 86, 31, true)) else (if a0 = 5 then (some ((⟨#[58, 61]⟩ : ByteArray), 88, 31, true)) else (if a0 = 6 then (some ((⟨#[58, 35]⟩ : ByteArray), 93, 31, true)) else (if a0 = 7 then (some ((⟨#[58, 124]⟩ : ByteArray), 94, 31, true)) else (if a0 = 8 then (some ((⟨#[58, 42]⟩ : ByteArray), 95, 31, true)) else (if a0 = 9 then (some ((⟨#[43]⟩ : ByteArray), 81, 31, true)) else (if a0 = 10 then (some ((⟨#[45]⟩ : ByteArray), 83, 31, true)) else (if a0 = 11 then (some ((⟨#[63]⟩ : ByteArray), 85, 31, true)) else (if a0 = 12 then (some ((⟨#[61]⟩ : ByteArray), 87, 31, true)) else (if a0 = 13 then (some ((⟨#[37]⟩ : ByteArray), 89, 31, true)) else (if a0 = 14 then (some ((⟨#[37, 37]⟩ : ByteArray), 90, 31, true)) else (if a0 = 15 then (some ((⟨#[35]⟩ : ByteArray), 91, 31, true)) else (if a0 = 16 then (some ((⟨#[35, 35]⟩ : ByteArray), 92, 31, true)) else (if a0 = 17 then (some ((⟨#[33]⟩ : ByteArray), 39, 31, true)) else (if a0 = 18 then (some ((⟨#[93]⟩ : ByteArray), 30, 31, true)) else (if a0 = 19 then (some ((⟨#[47]⟩ : ByteArray), 101, 31, true)) else (if a0 = 20 then (some ((⟨#[47, 47]⟩ : ByteArray), 102, 31, true)) else (if a0 = 21 then (some ((⟨#[94]⟩ : ByteArray), 96, 31, true)) else (if a0 = 22 then (some ((⟨#[94, 94]⟩ : ByteArray), 97, 31, true)) else (if a0 = 23 then (some ((⟨#[44]⟩ : ByteArray), 98, 31, true)) else (if a0 = 24 then (some ((⟨#[44, 44]⟩ : ByteArray), 99, 31, true)) else (if a0 = 25 then (some ((⟨#[64]⟩ : ByteArray), 100, 31, true)) else (if a0 = 26 then (some ((⟨#[42]⟩ : ByteArray), 43, 31, true)) else (some ((⟨#[]⟩ : ByteArray), 0, 0, false))))))))))))))))))))))))))))
set_option maxHeartbeats 8000000 in
set_option maxRecDepth 100000 in
theorem n010_119_zzB1ParamSpell.calls (a0 : Int) (r1 : ByteArray) (r2 : Int) (r3 : Int) (r4 : Bool) (w : World) (h : n010_119_zzB1ParamSpell.f a0 = some (r1, r2, r3, r4)) :
    Calls Tryf.prog 50 #[.int .i64 a0] w fun e w' => e = .returned (.tuple #[.string r1, .int .u32 r2, .int .i64 r3, .bool r4]) ∧ Drawn0 w w' := by
  have H : (if a0 = 0 then (some ((⟨#[125]⟩ : ByteArray), 29, 31, true)) else (if a0 = 1 then (some ((⟨#[58]⟩ : ByteArray), 104, 31, true)) else (if a0 = 2 then (some ((⟨#[58, 43]⟩ : ByteArray), 82, 31, true)) else (if a0 = 3 then (some ((⟨#[58, 45]⟩ : ByteArray), 84, 31, true)) else (if a0 = 4 then (some ((⟨#[58, 63]⟩ : ByteArray), 86, 31, true)) else (if a0 = 5 then (some ((⟨#[58, 61]⟩ : ByteArray), 88, 31, true)) else (if a0 = 6 then (some ((⟨#[58, 35]⟩ : ByteArray), 93, 31, true)) else (if a0 = 7 then (some ((⟨#[58, 124]⟩ : ByteArray), 94, 31, true)) else (if a0 = 8 then (some ((⟨#[58, 42]⟩ : ByteArray), 95, 31, true)) else (if a0 = 9 then (some ((⟨#[43]⟩ : ByteArray), 81, 31, true)) else (if a0 = 10 then (some ((⟨#[45]⟩ : ByteArray), 83, 31, true)) else (if a0 = 11 then (some ((⟨#[63]⟩ : ByteArray), 85, 31, true)) else (if a0 = 12 then (some ((⟨#[61]⟩ : ByteArray), 87, 31, true)) else (if a0 = 13 then (some ((⟨#[37]⟩ : ByteArray), 89, 31, true)) else (if a0 = 14 then (some ((⟨#[37, 37]⟩ : ByteArray), 90, 31, true)) else (if a0 = 15 then (some ((⟨#[35]⟩ : ByteArray), 91, 31, true)) else (if a0 = 16 then (some ((⟨#[35, 35]⟩ : ByteArray), 92, 31, true)) else (if a0 = 17 then (some ((⟨#[33]⟩ : ByteArray), 39, 31, true)) else (if a0 = 18 then (some ((⟨#[93]⟩ : ByteArray), 30, 31, true)) else (if a0 = 19 then (some ((⟨#[47]⟩ : ByteArray), 101, 31, true)) else (if a0 = 20 then (some ((⟨#[47, 47]⟩ : ByteArray), 102, 31, true)) else (if a0 = 21 then (some ((⟨#[94]⟩ : ByteArray), 96, 31, true)) else (if a0 = 22 then (some ((⟨#[94, 94]⟩ : ByteArray), 97, 31, true)) else (if a0 = 23 then (some ((⟨#[44]⟩ : ByteArray), 98, 31, true)) else (if a0 = 24 then (some ((⟨#[44, 44]⟩ : ByteArray), 99, 31, true)) else (if a0 = 25 then (some ((⟨#[64]⟩ : ByteArray), 100, 31, true)) else (if a0 = 26 then (some ((⟨#[42]⟩ : ByteArray), 43, 31, true)) else (some ((⟨#[]⟩ : ByteArray), 0, 0, false))))))))))))))))))))))))))))) = some (r1, r2, r3, r4) := h
  clear h
  by_cases c2 : a0 = 0
  · rw [if_pos c2] at H
    have c2b0 : (a0 == 0) = true := beq_iff_eq.mpr c2
    have c2b1 : (a0 != 0) = false := bne_eq_false_iff_eq.mpr c2
    clear c2
    simp only [Option.some.injEq, Prod.mk.injEq] at H
    obtain ⟨rfl, rfl, rfl, rfl⟩ := H
    go_enter Tryf.func50, Tryf.ntmps50
    go_wp2
    refine bodyPost_ret (results_list (rs := [.tmp 2, .tmp 3, .tmp 4, .tmp 5]) rfl (by simp) (.tmp (.tmp (.tmp (.tmp .nil))))) rfl ?_
    exact ⟨by first | rfl | (simp; done) | (simp [*]; done), by repeat (first | exact Drawn0.refl _ | apply Drawn0.step)⟩
  · rw [if_neg c2] at H
    have c2b0 : (a0 == 0) = false := beq_eq_false_iff_ne.mpr c2
    have c2b1 : (a0 != 0) = true := bne_iff_ne.mpr c2
    by_cases c3 : a0 = 1
    · rw [if_pos c3] at H
      have c3b0 : (a0 == 1) = true := beq_iff_eq.mpr c3
      have c3b1 : (a0 != 1) = false := bne_eq_false_iff_eq.mpr c3
      clear c3
      simp only [Option.some.injEq, Prod.mk.injEq] at H
      obtain ⟨rfl, rfl, rfl, rfl⟩ := H
      go_enter Tryf.func50, Tryf.ntmps50
      go_wp2
      refine bodyPost_ret (results_list (rs := [.tmp 2, .tmp 3, .tmp 4, .tmp 5]) rfl (by simp) (.tmp (.tmp (.tmp (.tmp .nil))))) rfl ?_
      exact ⟨by first | rfl | (simp; done) | (simp [*]; done), by repeat (first | exact Drawn0.refl _ | apply Drawn0.step)⟩
    · rw [if_neg c3] at H
      have c3b0 : (a0 == 1) = false := beq_eq_false_iff_ne.mpr c3
      have c3b1 : (a0 != 1) = true := bne_iff_ne.mpr c3
      by_cases c4 : a0 = 2
      · rw [if_pos c4] at H
        have c4b0 : (a0 == 2) = true := beq_iff_eq.mpr c4
        have c4b1 : (a0 != 2) = false := bne_eq_false_iff_eq.mpr c4
        clear c4
        simp only [Option.some.injEq, Prod.mk.injEq] at H
        obtain ⟨rfl, rfl, rfl, rfl⟩ := H
        go_enter Tryf.func50, Tryf.ntmps50
        go_wp2
        refine bodyPost_ret (results_list (rs := [.tmp 2, .tmp 3, .tmp 4, .tmp 5]) rfl (by simp) (.tmp (.tmp (.tmp (.tmp .nil))))) rfl ?_
        exact ⟨by first | rfl | (simp; done) | (simp [*]; done), by repeat (first | exact Drawn0.refl _ | apply Drawn0.step)⟩
      · rw [if_neg c4] at H
        have c4b0 : (a0 == 2) = false := beq_eq_false_iff_ne.mpr c4
        have c4b1 : (a0 != 2) = true := bne_iff_ne.mpr c4
        by_cases c5 : a0 = 3
        · rw [if_pos c5] at H
          have c5b0 : (a0 == 3) = true := beq_iff_eq.mpr c5
          have c5b1 : (a0 != 3) = false := bne_eq_false_iff_eq.mpr c5
          clear c5
          simp only [Option.some.injEq, Prod.mk.injEq] at H
          obtain ⟨rfl, rfl, rfl, rfl⟩ := H
          go_enter Tryf.func50, Tryf.ntmps50
          go_wp2
          refine bodyPost_ret (results_list (rs := [.tmp 2, .tmp 3, .tmp 4, .tmp 5]) rfl (by simp) (.tmp (.tmp (.tmp (.tmp .nil))))) rfl ?_
          exact ⟨by first | rfl | (simp; done) | (simp [*]; done), by repeat (first | exact Drawn0.refl _ | apply Drawn0.step)⟩
        · rw [if_neg c5] at H
          have c5b0 : (a0 == 3) = false := beq_eq_false_iff_ne.mpr c5
          have c5b1 : (a0 != 3) = true := bne_iff_ne.mpr c5
          by_cases c6 : a0 = 4
          · rw [if_pos c6] at H
            have c6b0 : (a0 == 4) = true := beq_iff_eq.mpr c6
            have c6b1 : (a0 != 4) = false := bne_eq_false_iff_eq.mpr c6
            clear c6
            simp only [Option.some.injEq, Prod.mk.injEq] at H
            obtain ⟨rfl, rfl, rfl, rfl⟩ := H
            go_enter Tryf.func50, Tryf.ntmps50
            go_wp2
            refine bodyPost_ret (results_list (rs := [.tmp 2, .tmp 3, .tmp 4, .tmp 5]) rfl (by simp) (.tmp (.tmp (.tmp (.tmp .nil))))) rfl ?_
            exact ⟨by first | rfl | (simp; done) | (simp [*]; done), by repeat (first | exact Drawn0.refl _ | apply Drawn0.step)⟩
          · rw [if_neg c6] at H
            have c6b0 : (a0 == 4) = false := beq_eq_false_iff_ne.mpr c6
            have c6b1 : (a0 != 4) = true := bne_iff_ne.mpr c6
            by_cases c7 : a0 = 5
            · rw [if_pos c7] at H
              have c7b0 : (a0 == 5) = true := beq_iff_eq.mpr c7
              have c7b1 : (a0 != 5) = false := bne_eq_false_iff_eq.mpr c7
              clear c7
              simp only [Option.some.injEq, Prod.mk.injEq] at H
              obtain ⟨rfl, rfl, rfl, rfl⟩ := H
              go_enter Tryf.func50, Tryf.ntmps50
              go_wp2
              refine bodyPost_ret (results_list (rs := [.tmp 2, .tmp 3, .tmp 4, .tmp 5]) rfl (by simp) (.tmp (.tmp (.tmp (.tmp .nil))))) rfl ?_
              exact ⟨by first | rfl | (simp; done) | (simp [*]; done), by repeat (first | exact Drawn0.refl _ | apply Drawn0.step)⟩
            · rw [if_neg c7] at H
              have c7b0 : (a0 == 5) = false := beq_eq_false_iff_ne.mpr c7
              have c7b1 : (a0 != 5) = true := bne_iff_ne.mpr c7
              by_cases c8 : a0 = 6
              · rw [if_pos c8] at H
                have c8b0 : (a0 == 6) = true := beq_iff_eq.mpr c8
                have c8b1 : (a0 != 6) = false := bne_eq_false_iff_eq.mpr c8
                clear c8
                simp only [Option.some.injEq, Prod.mk.injEq] at H
                obtain ⟨rfl, rfl, rfl, rfl⟩ := H
                go_enter Tryf.func50, Tryf.ntmps50
                go_wp2
                refine bodyPost_ret (results_list (rs := [.tmp 2, .tmp 3, .tmp 4, .tmp 5]) rfl (by simp) (.tmp (.tmp (.tmp (.tmp .nil))))) rfl ?_
                exact ⟨by first | rfl | (simp; done) | (simp [*]; done), by repeat (first | exact Drawn0.refl _ | apply Drawn0.step)⟩
              · rw [if_neg c8] at H
                have c8b0 : (a0 == 6) = false := beq_eq_false_iff_ne.mpr c8
                have c8b1 : (a0 != 6) = true := bne_iff_ne.mpr c8
                by_cases c9 : a0 = 7
                · rw [if_pos c9] at H
                  have c9b0 : (a0 == 7) = true := beq_iff_eq.mpr c9
                  have c9b1 : (a0 != 7) = false := bne_eq_false_iff_eq.mpr c9
                  clear c9
                  simp only [Option.some.injEq, Prod.mk.injEq] at H
                  obtain ⟨rfl, rfl, rfl, rfl⟩ := H
                  go_enter Tryf.func50, Tryf.ntmps50
                  go_wp2
                  refine bodyPost_ret (results_list (rs := [.tmp 2, .tmp 3, .tmp 4, .tmp 5]) rfl (by simp) (.tmp (.tmp (.tmp (.tmp .nil))))) rfl ?_
                  exact ⟨by first | rfl | (simp; done) | (simp [*]; done), by repeat (first | exact Drawn0.refl _ | apply Drawn0.step)⟩
                · rw [if_neg c9] at H
                  have c9b0 : (a0 == 7) = false := beq_eq_false_iff_ne.mpr c9
                  have c9b1 : (a0 != 7) = true := bne_iff_ne.mpr c9
                  by_cases c10 : a0 = 8
                  · rw [if_pos c10] at H
                    have c10b0 : (a0 == 8) = true := beq_iff_eq.mpr c10
                    have c10b1 : (a0 != 8) = false := bne_eq_false_iff_eq.mpr c10
                    clear c10
                    simp only [Option.some.injEq, Prod.mk.injEq] at H
                    obtain ⟨rfl, rfl, rfl, rfl⟩ := H
                    go_enter Tryf.func50, Tryf.ntmps50
                    go_wp2
                    refine bodyPost_ret (results_list (rs := [.tmp 2, .tmp 3, .tmp 4, .tmp 5]) rfl (by simp) (.tmp (.tmp (.tmp (.tmp .nil))))) rfl ?_
                    exact ⟨by first | rfl | (simp; done) | (simp [*]; done), by repeat (first | exact Drawn0.refl _ | apply Drawn0.step)⟩
                  · rw [if_neg c10] at H
                    have c10b0 : (a0 == 8) = false := beq_eq_false_iff_ne.mpr c10
                    have c10b1 : (a0 != 8) = true := bne_iff_ne.mpr c10
                    by_cases c11 : a0 = 9
                    · rw [if_pos c11] at H
                      have c11b0 : (a0 == 9) = true := beq_iff_eq.mpr c11
                      have c11b1 : (a0 != 9) = false := bne_eq_false_iff_eq.mpr c11
                      clear c11
                      simp only [Option.some.injEq, Prod.mk.injEq] at H
                      obtain ⟨rfl, rfl, rfl, rfl⟩ := H
                      go_enter Tryf.func50, Tryf.ntmps50
                      go_wp2
                      refine bodyPost_ret (results_list (rs := [.tmp 2, .tmp 3, .tmp 4, .tmp 5]) rfl (by simp) (.tmp (.tmp (.tmp (.tmp .nil))))) rfl ?_
                      exact ⟨by first | rfl | (simp; done) | (simp [*]; done), by repeat (first | exact Drawn0.refl _ | apply Drawn0.step)⟩
                    · rw [if_neg c11] at H
                      have c11b0 : (a0 == 9) = false := beq_eq_false_iff_ne.mpr c11
                      have c11b1 : (a0 != 9) = true := bne_iff_ne.mpr c11
                      by_cases c12 : a0 = 10
                      · rw [if_pos c12] at H
                        have c12b0 : (a0 == 10) = true := beq_iff_eq.mpr c12
                        have c12b1 : (a0 != 10) = false := bne_eq_false_iff_eq.mpr c12
                        clear c12
                        simp only [Option.some.injEq, Prod.mk.injEq] at H
                        obtain ⟨rfl, rfl, rfl, rfl⟩ := H
                        go_enter Tryf.func50, Tryf.ntmps50
                        go_wp2
                        refine bodyPost_ret (results_list (rs := [.tmp 2, .tmp 3, .tmp 4, .tmp 5]) rfl (by simp) (.tmp (.tmp (.tmp (.tmp .nil))))) rfl ?_
                        exact ⟨by first | rfl | (simp; done) | (simp [*]; done), by repeat (first | exact Drawn0.refl _ | apply Drawn0.step)⟩
                      · rw [if_neg c12] at H
                        have c12b0 : (a0 == 10) = false := beq_eq_false_iff_ne.mpr c12
                        have c12b1 : (a0 != 10) = true := bne_iff_ne.mpr c12
                        by_cases c13 : a0 = 11
                        · rw [if_pos c13] at H
                          have c13b0 : (a0 == 11) = true := beq_iff_eq.mpr c13
                          have c13b1 : (a0 != 11) = false := bne_eq_false_iff_eq.mpr c13
                          clear c13
                          simp only [Option.some.injEq, Prod.mk.injEq] at H
                          obtain ⟨rfl, rfl, rfl, rfl⟩ := H
                          go_enter Tryf.func50, Tryf.ntmps50
                          go_wp2
                          refine bodyPost_ret (results_list (rs := [.tmp 2, .tmp 3, .tmp 4, .tmp 5]) rfl (by simp) (.tmp (.tmp (.tmp (.tmp .nil))))) rfl ?_
                          exact ⟨by first | rfl | (simp; done) | (simp [*]; done), by repeat (first | exact Drawn0.refl _ | apply Drawn0.step)⟩
                        · rw [if_neg c13] at H
                          have c13b0 : (a0 == 11) = false := beq_eq_false_iff_ne.mpr c13
                          have c13b1 : (a0 != 11) = true := bne_iff_ne.mpr c13
                          by_cases c14 : a0 = 12
                          · rw [if_pos c14] at H
                            have c14b0 : (a0 == 12) = true := beq_iff_eq.mpr c14
                            have c14b1 : (a0 != 12) = false := bne_eq_false_iff_eq.mpr c14
                            clear c14
                            simp only [Option.some.injEq, Prod.mk.injEq] at H
                            obtain ⟨rfl, rfl, rfl, rfl⟩ := H
                            go_enter Tryf.func50, Tryf.ntmps50
                            go_wp2
                            refine bodyPost_ret (results_list (rs := [.tmp 2, .tmp 3, .tmp 4, .tmp 5]) rfl (by simp) (.tmp (.tmp (.tmp (.tmp .nil))))) rfl ?_
                            exact ⟨by first | rfl | (simp; done) | (simp [*]; done), by repeat (first | exact Drawn0.refl _ | apply Drawn0.step)⟩
                          · rw [if_neg c14] at H
                            have c14b0 : (a0 == 12) = false := beq_eq_false_iff_ne.mpr c14
                            have c14b1 : (a0 != 12) = true := bne_iff_ne.mpr c14
                            by_cases c15 : a0 = 13
                            · rw [if_pos c15] at H
                              have c15b0 : (a0 == 13) = true := beq_iff_eq.mpr c15
                              have c15b1 : (a0 != 13) = false := bne_eq_false_iff_eq.mpr c15
                              clear c15
                              simp only [Option.some.injEq, Prod.mk.injEq] at H
                              obtain ⟨rfl, rfl, rfl, rfl⟩ := H
                              go_enter Tryf.func50, Tryf.ntmps50
                              go_wp2
                              refine bodyPost_ret (results_list (rs := [.tmp 2, .tmp 3, .tmp 4, .tmp 5]) rfl (by simp) (.tmp (.tmp (.tmp (.tmp .nil))))) rfl ?_
                              exact ⟨by first | rfl | (simp; done) | (simp [*]; done), by repeat (first | exact Drawn0.refl _ | apply Drawn0.step)⟩
                            · rw [if_neg c15] at H
                              have c15b0 : (a0 == 13) = false := beq_eq_false_iff_ne.mpr c15
                              have c15b1 : (a0 != 13) = true := bne_iff_ne.mpr c15
                              by_cases c16 : a0 = 14
                              · rw [if_pos c16] at H
                                have c16b0 : (a0 == 14) = true := beq_iff_eq.mpr c16
                                have c16b1 : (a0 != 14) = false := bne_eq_false_iff_eq.mpr c16
                                clear c16
                                simp only [Option.some.injEq, Prod.mk.injEq] at H
                                obtain ⟨rfl, rfl, rfl, rfl⟩ := H
                                go_enter Tryf.func50, Tryf.ntmps50
                                go_wp2
                                refine bodyPost_ret (results_list (rs := [.tmp 2, .tmp 3, .tmp 4, .tmp 5]) rfl (by simp) (.tmp (.tmp (.tmp (.tmp .nil))))) rfl ?_
                                exact ⟨by first | rfl | (simp; done) | (simp [*]; done), by repeat (first | exact Drawn0.refl _ | apply Drawn0.step)⟩
                              · rw [if_neg c16] at H
                                have c16b0 : (a0 == 14) = false := beq_eq_false_iff_ne.mpr c16
                                have c16b1 : (a0 != 14) = true := bne_iff_ne.mpr c16
                                by_cases c17 : a0 = 15
                                · rw [if_pos c17] at H
                                  have c17b0 : (a0 == 15) = true := beq_iff_eq.mpr c17
                                  have c17b1 : (a0 != 15) = false := bne_eq_false_iff_eq.mpr c17
                                  clear c17
                                  simp only [Option.some.injEq, Prod.mk.injEq] at H
                                  obtain ⟨rfl, rfl, rfl, rfl⟩ := H
                                  go_enter Tryf.func50, Tryf.ntmps50
                                  go_wp2
                                  refine bodyPost_ret (results_list (rs := [.tmp 2, .tmp 3, .tmp 4, .tmp 5]) rfl (by simp) (.tmp (.tmp (.tmp (.tmp .nil))))) rfl ?_
                                  exact ⟨by first | rfl | (simp; done) | (simp [*]; done), by repeat (first | exact Drawn0.refl _ | apply Drawn0.step)⟩
                                · rw [if_neg c17] at H
                                  have c17b0 : (a0 == 15) = false := beq_eq_false_iff_ne.mpr c17
                                  have c17b1 : (a0 != 15) = true := bne_iff_ne.mpr c17
                                  by_cases c18 : a0 = 16
                                  · rw [if_pos c18] at H
                                    have c18b0 : (a0 == 16) = true := beq_iff_eq.mpr c18
                                    have c18b1 : (a0 != 16) = false := bne_eq_false_iff_eq.mpr c18
                                    clear c18
                                    simp only [Option.some.injEq, Prod.mk.injEq] at H
                                    obtain ⟨rfl, rfl, rfl, rfl⟩ := H
                                    go_enter Tryf.func50, Tryf.ntmps50
                                    go_wp2
                                    refine bodyPost_ret (results_list (rs := [.tmp 2, .tmp 3, .tmp 4, .tmp 5]) rfl (by simp) (.tmp (.tmp (.tmp (.tmp .nil))))) rfl ?_
                                    exact ⟨by first | rfl | (simp; done) | (simp [*]; done), by repeat (first | exact Drawn0.refl _ | apply Drawn0.step)⟩
                                  · rw [if_neg c18] at H
                                    have c18b0 : (a0 == 16) = false := beq_eq_false_iff_ne.mpr c18
                                    have c18b1 : (a0 != 16) = true := bne_iff_ne.mpr c18
                                    by_cases c19 : a0 = 17
                                    · rw [if_pos c19] at H
                                      have c19b0 : (a0 == 17) = true := beq_iff_eq.mpr c19
                                      have c19b1 : (a0 != 17) = false := bne_eq_false_iff_eq.mpr c19
                                      clear c19
                                      simp only [Option.some.injEq, Prod.mk.injEq] at H
                                      obtain ⟨rfl, rfl, rfl, rfl⟩ := H
                                      go_enter Tryf.func50, Tryf.ntmps50
                                      go_wp2
                                      refine bodyPost_ret (results_list (rs := [.tmp 2, .tmp 3, .tmp 4, .tmp 5]) rfl (by simp) (.tmp (.tmp (.tmp (.tmp .nil))))) rfl ?_
                                      exact ⟨by first | rfl | (simp; done) | (simp [*]; done), by repeat (first | exact Drawn0.refl _ | apply Drawn0.step)⟩
                                    · rw [if_neg c19] at H
                                      have c19b0 : (a0 == 17) = false := beq_eq_false_iff_ne.mpr c19
                                      have c19b1 : (a0 != 17) = true := bne_iff_ne.mpr c19
                                      by_cases c20 : a0 = 18
                                      · rw [if_pos c20] at H
                                        have c20b0 : (a0 == 18) = true := beq_iff_eq.mpr c20
                                        have c20b1 : (a0 != 18) = false := bne_eq_false_iff_eq.mpr c20
                                        clear c20
                                        simp only [Option.some.injEq, Prod.mk.injEq] at H
                                        obtain ⟨rfl, rfl, rfl, rfl⟩ := H
                                        go_enter Tryf.func50, Tryf.ntmps50
                                        go_wp2
                                        refine bodyPost_ret (results_list (rs := [.tmp 2, .tmp 3, .tmp 4, .tmp 5]) rfl (by simp) (.tmp (.tmp (.tmp (.tmp .nil))))) rfl ?_
                                        exact ⟨by first | rfl | (simp; done) | (simp [*]; done), by repeat (first | exact Drawn0.refl _ | apply Drawn0.step)⟩
                                      · rw [if_neg c20] at H
                                        have c20b0 : (a0 == 18) = false := beq_eq_false_iff_ne.mpr c20
                                        have c20b1 : (a0 != 18) = true := bne_iff_ne.mpr c20
                                        by_cases c21 : a0 = 19
                                        · rw [if_pos c21] at H
                                          have c21b0 : (a0 == 19) = true := beq_iff_eq.mpr c21
                                          have c21b1 : (a0 != 19) = false := bne_eq_false_iff_eq.mpr c21
                                          clear c21
                                          simp only [Option.some.injEq, Prod.mk.injEq] at H
                                          obtain ⟨rfl, rfl, rfl, rfl⟩ := H
                                          go_enter Tryf.func50, Tryf.ntmps50
                                          go_wp2
                                          refine bodyPost_ret (results_list (rs := [.tmp 2, .tmp 3, .tmp 4, .tmp 5]) rfl (by simp) (.tmp (.tmp (.tmp (.tmp .nil))))) rfl ?_
                                          exact ⟨by first | rfl | (simp; done) | (simp [*]; done), by repeat (first | exact Drawn0.refl _ | apply Drawn0.step)⟩
                                        · rw [if_neg c21] at H
                                          have c21b0 : (a0 == 19) = false := beq_eq_false_iff_ne.mpr c21
                                          have c21b1 : (a0 != 19) = true := bne_iff_ne.mpr c21
                                          by_cases c22 : a0 = 20
                                          · rw [if_pos c22] at H
                                            have c22b0 : (a0 == 20) = true := beq_iff_eq.mpr c22
                                            have c22b1 : (a0 != 20) = false := bne_eq_false_iff_eq.mpr c22
                                            clear c22
                                            simp only [Option.some.injEq, Prod.mk.injEq] at H
                                            obtain ⟨rfl, rfl, rfl, rfl⟩ := H
                                            go_enter Tryf.func50, Tryf.ntmps50
                                            go_wp2
                                            refine bodyPost_ret (results_list (rs := [.tmp 2, .tmp 3, .tmp 4, .tmp 5]) rfl (by simp) (.tmp (.tmp (.tmp (.tmp .nil))))) rfl ?_
                                            exact ⟨by first | rfl | (simp; done) | (simp [*]; done), by repeat (first | exact Drawn0.refl _ | apply Drawn0.step)⟩
                                          · rw [if_neg c22] at H
                                            have c22b0 : (a0 == 20) = false := beq_eq_false_iff_ne.mpr c22
                                            have c22b1 : (a0 != 20) = true := bne_iff_ne.mpr c22
                                            by_cases c23 : a0 = 21
                                            · rw [if_pos c23] at H
                                              have c23b0 : (a0 == 21) = true := beq_iff_eq.mpr c23
                                              have c23b1 : (a0 != 21) = false := bne_eq_false_iff_eq.mpr c23
                                              clear c23
                                              simp only [Option.some.injEq, Prod.mk.injEq] at H
                                              obtain ⟨rfl, rfl, rfl, rfl⟩ := H
                                              go_enter Tryf.func50, Tryf.ntmps50
                                              go_wp2
                                              refine bodyPost_ret (results_list (rs := [.tmp 2, .tmp 3, .tmp 4, .tmp 5]) rfl (by simp) (.tmp (.tmp (.tmp (.tmp .nil))))) rfl ?_
                                              exact ⟨by first | rfl | (simp; done) | (simp [*]; done), by repeat (first | exact Drawn0.refl _ | apply Drawn0.step)⟩
                                            · rw [if_neg c23] at H
                                              have c23b0 : (a0 == 21) = false := beq_eq_false_iff_ne.mpr c23
                                              have c23b1 : (a0 != 21) = true := bne_iff_ne.mpr c23
                                              by_cases c24 : a0 = 22
                                              · rw [if_pos c24] at H
                                                have c24b0 : (a0 == 22) = true := beq_iff_eq.mpr c24
                                                have c24b1 : (a0 != 22) = false := bne_eq_false_iff_eq.mpr c24
                                                clear c24
                                                simp only [Option.some.injEq, Prod.mk.injEq] at H
                                                obtain ⟨rfl, rfl, rfl, rfl⟩ := H
                                                go_enter Tryf.func50, Tryf.ntmps50
                                                go_wp2
                                                refine bodyPost_ret (results_list (rs := [.tmp 2, .tmp 3, .tmp 4, .tmp 5]) rfl (by simp) (.tmp (.tmp (.tmp (.tmp .nil))))) rfl ?_
                                                exact ⟨by first | rfl | (simp; done) | (simp [*]; done), by repeat (first | exact Drawn0.refl _ | apply Drawn0.step)⟩
                                              · rw [if_neg c24] at H
                                                have c24b0 : (a0 == 22) = false := beq_eq_false_iff_ne.mpr c24
                                                have c24b1 : (a0 != 22) = true := bne_iff_ne.mpr c24
                                                by_cases c25 : a0 = 23
                                                · rw [if_pos c25] at H
                                                  have c25b0 : (a0 == 23) = true := beq_iff_eq.mpr c25
                                                  have c25b1 : (a0 != 23) = false := bne_eq_false_iff_eq.mpr c25
                                                  clear c25
                                                  simp only [Option.some.injEq, Prod.mk.injEq] at H
                                                  obtain ⟨rfl, rfl, rfl, rfl⟩ := H
                                                  go_enter Tryf.func50, Tryf.ntmps50
                                                  go_wp2
                                                  refine bodyPost_ret (results_list (rs := [.tmp 2, .tmp 3, .tmp 4, .tmp 5]) rfl (by simp) (.tmp (.tmp (.tmp (.tmp .nil))))) rfl ?_
                                                  exact ⟨by first | rfl | (simp; done) | (simp [*]; done), by repeat (first | exact Drawn0.refl _ | apply Drawn0.step)⟩
                                                · rw [if_neg c25] at H
                                                  have c25b0 : (a0 == 23) = false := beq_eq_false_iff_ne.mpr c25
                                                  have c25b1 : (a0 != 23) = true := bne_iff_ne.mpr c25
                                                  by_cases c26 : a0 = 24
                                                  · rw [if_pos c26] at H
                                                    have c26b0 : (a0 == 24) = true := beq_iff_eq.mpr c26
                                                    have c26b1 : (a0 != 24) = false := bne_eq_false_iff_eq.mpr c26
                                                    clear c26
                                                    simp only [Option.some.injEq, Prod.mk.injEq] at H
                                                    obtain ⟨rfl, rfl, rfl, rfl⟩ := H
                                                    go_enter Tryf.func50, Tryf.ntmps50
                                                    go_wp2
                                                    refine bodyPost_ret (results_list (rs := [.tmp 2, .tmp 3, .tmp 4, .tmp 5]) rfl (by simp) (.tmp (.tmp (.tmp (.tmp .nil))))) rfl ?_
                                                    exact ⟨by first | rfl | (simp; done) | (simp [*]; done), by repeat (first | exact Drawn0.refl _ | apply Drawn0.step)⟩
                                                  · rw [if_neg c26] at H
                                                    have c26b0 : (a0 == 24) = false := beq_eq_false_iff_ne.mpr c26
                                                    have c26b1 : (a0 != 24) = true := bne_iff_ne.mpr c26
                                                    by_cases c27 : a0 = 25
                                                    · rw [if_pos c27] at H
                                                      have c27b0 : (a0 == 25) = true := beq_iff_eq.mpr c27
                                                      have c27b1 : (a0 != 25) = false := bne_eq_false_iff_eq.mpr c27
                                                      clear c27
                                                      simp only [Option.some.injEq, Prod.mk.injEq] at H
                                                      obtain ⟨rfl, rfl, rfl, rfl⟩ := H
                                                      go_enter Tryf.func50, Tryf.ntmps50
                                                      go_wp2
                                                      refine bodyPost_ret (results_list (rs := [.tmp 2, .tmp 3, .tmp 4, .tmp 5]) rfl (by simp) (.tmp (.tmp (.tmp (.tmp .nil))))) rfl ?_
                                                      exact ⟨by first | rfl | (simp; done) | (simp [*]; done), by repeat (first | exact Drawn0.refl _ | apply Drawn0.step)⟩
                                                    · rw [if_neg c27] at H
                                                      have c27b0 : (a0 == 25) = false := beq_eq_false_iff_ne.mpr c27
                                                      have c27b1 : (a0 != 25) = true := bne_iff_ne.mpr c27
                                                      by_cases c28 : a0 = 26
                                                      · rw [if_pos c28] at H
                                                        have c28b0 : (a0 == 26) = true := beq_iff_eq.mpr c28
                                                        have c28b1 : (a0 != 26) = false := bne_eq_false_iff_eq.mpr c28
                                                        clear c28
                                                        simp only [Option.some.injEq, Prod.mk.injEq] at H
                                                        obtain ⟨rfl, rfl, rfl, rfl⟩ := H
                                                        go_enter Tryf.func50, Tryf.ntmps50
                                                        go_wp2
                                                        refine bodyPost_ret (results_list (rs := [.tmp 2, .tmp 3, .tmp 4, .tmp 5]) rfl (by simp) (.tmp (.tmp (.tmp (.tmp .nil))))) rfl ?_
                                                        exact ⟨by first | rfl | (simp; done) | (simp [*]; done), by repeat (first | exact Drawn0.refl _ | apply Drawn0.step)⟩
                                                      · rw [if_neg c28] at H
                                                        have c28b0 : (a0 == 26) = false := beq_eq_false_iff_ne.mpr c28
                                                        have c28b1 : (a0 != 26) = true := bne_iff_ne.mpr c28
                                                        simp only [Option.some.injEq, Prod.mk.injEq] at H
                                                        obtain ⟨rfl, rfl, rfl, rfl⟩ := H
                                                        go_enter Tryf.func50, Tryf.ntmps50
                                                        go_wp2
                                                        refine bodyPost_ret (results_list (rs := [.tmp 2, .tmp 3, .tmp 4, .tmp 5]) rfl (by simp) (.tmp (.tmp (.tmp (.tmp .nil))))) rfl ?_
                                                        exact ⟨by first | rfl | (simp; done) | (simp [*]; done), by repeat (first | exact Drawn0.refl _ | apply Drawn0.step)⟩

end Go.Proofs.YtgcjaijakbejjaaFmt.PFnDqTokenLongestMatch
