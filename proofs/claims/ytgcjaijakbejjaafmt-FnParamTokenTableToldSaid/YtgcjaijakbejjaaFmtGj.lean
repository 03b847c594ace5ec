/- Proved: contracts of the lexer's rune at malformed bytes. Conditions: as each theorem says. -/
import Derived.Test.YtgcjaijakbejjaaFmtGi
import Derived.Test.YtgcjaijakbejjaaFmtGc
/- What the lexer's rune does at malformed UTF-8. Conditions: the parser's state; the tables of unicode/utf8. -/
namespace Go.Proofs.YtgcjaijakbejjaaFmt
open Go.RowKit

theorem Lx.set2 {B b rb sb fb m cap : Nat} {f : Nat → Int} {l : Int} {ea : Addr} {g ri : Nat} {bs : Value} {bsp r wd x offs : Int} {re : Value} {ef : Bool} {w : World}
    (h : Lx B b rb sb fb m cap f l ea g ri bs bsp r wd x offs re ef w) (d : Int) : Below B w (w.setCell ⟨b, 2, none⟩ (.int .u64 d)) ∧ Lx B b rb sb fb m cap f l ea g ri bs d r wd x offs re ef (w.setCell ⟨b, 2, none⟩ (.int .u64 d)) := by
  have C : Chg B b MoveS w (w.setCell ⟨b, 2, none⟩ (.int .u64 d)) := (Chg.refl B b MoveS w).set h.nums.b1 2 (by simp [MoveS]) _
  exact ⟨C.below, h.chg C _ _ _ _ (cs_eq _ _ _ _ _ h.c2) ((cs_ne _ _ _ _ _ (by omega)).trans h.c3) ((cs_ne _ _ _ _ _ (by omega)).trans h.c4) ((cs_ne _ _ _ _ _ (by omega)).trans h.c14) ((cs_ne _ _ _ _ _ (by omega)).trans h.c32)⟩

theorem np_at {B b rb sb fb m cap : Nat} {f : Nat → Int} {l : Int} {ea : Addr} {g ri : Nat} {bs : Value} {bsp r wd x offs : Int} {re : Value} {ef : Bool} {w W : World}
    (h : Lx B b rb sb fb m cap f l ea g ri bs bsp r wd x offs re ef w) (y : Int) (hW : W = w.setCell ⟨b, 2, none⟩ (.int .u64 y)) (ho : 0 ≤ offs) (ho' : offs ≤ 1000) (hb : 0 ≤ y) (hb' : y ≤ 2000) (hw : 0 ≤ wd) (hw' : wd ≤ offs + y) (hc : 0 ≤ x) (hc' : x ≤ 1000) :
    Calls Tryf.prog 69 #[.pointer (some ⟨b, 0, none⟩)] W fun e w' => SomePos e ∧ Below B w w' ∧ Lx B b rb sb fb m cap f l ea g ri bs y r wd x offs re ef w' := by
  subst hW
  have h2 := h.set2 y
  have k := h2.2
  refine (nextPos_any b _ offs y wd 1 x k.c12 k.c2 k.c4 k.c13 k.c14 ho ho' hb hb' hw hw' (by omega) (by omega) hc hc').mono ?_
  rintro e w' ⟨h1, h3⟩
  exact ⟨h1, h2.1.trans (k.below_same h3), k.same h3⟩

theorem pe_at {B b rb sb fb m cap : Nat} {f : Nat → Int} {l : Int} {ea : Addr} {g ri n k' : Nat} {a : Option Addr} {bsp r wd x offs p1 p2 : Int} {re : Value} {ef : Bool} {w : World}
    (h : Lx B b rb sb fb m cap f l ea g ri (.slice a n k') bsp r wd x offs re ef w) (hn : n ≤ 2000) :
    Calls Tryf.prog 68 #[.pointer (some ⟨b, 0, none⟩), .agg #[.int .u32 p1, .int .u32 p2], .string utfMsg, .slice none 0 0] w fun e w' => e = .returned (.tuple #[]) ∧ Below B w w' ∧ Dn b l 1114112 x w' :=
  posErr_any B b fb n k' a p1 p2 bsp r wd x l w h.nums.b1 h.c7 h.c1 h.c2 h.c3 h.c4 h.c10 h.c5 h.f0 h.c14 h.c20 h.free hn (Ne.symm h.nums.n3)

theorem Dn.end {B b : Nat} {l r x k : Int} {w0 w : World} (hB : B ≤ b) (hb : Below B w0 w) (h : Dn b l r x w) (hx : x = 1 + k) (z : Int) :
    Below B w0 (w.setCell ⟨b, 4, none⟩ (.int .i64 z)) ∧ Dn b l r (1 + k) (w.setCell ⟨b, 4, none⟩ (.int .i64 z)) := by
  subst hx
  obtain ⟨y, hy⟩ := h.c4
  exact ⟨hb.setCell (p := ⟨b, 4, none⟩) hB _, (cs_ne _ _ _ _ _ (by omega)).trans h.c3, ⟨_, cs_eq _ _ _ _ _ hy⟩, (cs_ne _ _ _ _ _ (by omega)).trans h.c14, (cs_ne _ _ _ _ _ (by omega)).trans h.c20, fun j => (World.frozen?_setCell _ _ _ _).trans (h.free j)⟩

set_option maxHeartbeats 4000000 in
set_option maxRecDepth 100000 in
theorem rune_wide_c {B b rb sb fb m cap : Nat} {f : Nat → Int} {l : Int} {ea : Addr} {n p : Nat} {r wd col c : Int} {w : World} (h : Lx B b rb sb fb m cap f l ea n n (.slice (some ⟨b, 39, none⟩) n 1024) p r wd col 0 .nilIface false w)
    (hT : Lib.Utf8Tabs 1 2 w) (hF : Hid (∀ j, j < m → 0 ≤ f j ∧ f j < 256))
    (hp : p < n) (hnm : Hid (n = min m 1024)) (h5 : p ≤ 5) (hr1 : (r == 10) = false) (hr2 : (r == 1114113) = false) (hcw : Hid (col + wd = 1 + p)) (hcol : 0 ≤ col) (hcol' : col ≤ 1000) (hwd : 0 ≤ wd) (hwd' : wd ≤ 1000)
    (hc : f p = c) (h1 : (c < 128) = False) (hd : Hid (((Lib.decodeGo (tailOf f p (n - p))).1 : Int) = 65533 ∧ ((Lib.decodeGo (tailOf f p (n - p))).2 : Int) = 1)) (hwp : wd ≤ 1 + p) :
    Calls Tryf.prog 43 #[.pointer (some ⟨b, 0, none⟩)] w fun e w' => e = .returned (.int .i32 1114112) ∧ Below B w w' ∧ Dn b l 1114112 (1 + p) w' := by
  have H := Lib.hid h
  have HT := Lib.hid hT
  have c1 := h.c1; have c2 := h.c2; have c3 := h.c3; have c4 := h.c4; have c9 := h.c9; have c13 := h.c13; have c14 := h.c14; have c30 := h.c30; have c32 := h.c32; have c2087 := h.c2087
  have cb : w.cell? ⟨b, 39 + p, none⟩ = some (.int .u8 c) := by rw [← hc]; exact h.got p hp
  have f2 := h.free 2; have f3 := h.free 3; have f4 := h.free 4; have f14 := h.free 14; have f9 := h.free 9; have f32 := h.free 32
  have hn := h.g1
  have hp1 : (p : Int) < n := by omega
  have hp2 : decide ((n : Int) ≤ p) = false := by simp; omega
  have hp4 : decide (n ≤ p) = false := by simp; omega
  have hp3 : (n : Int) ≤ 1024 := by omega
  have hx0 : 0 ≤ col + wd := by omega
  have hx1 : col + wd ≤ 1000 := by have := hcw.out; omega
  clear h hc hT
  go_enter Tryf.func43, Tryf.ntmps43
  go_wp2
  go_step3
  go_wp2
  go_region
  go_wp2
  go_step3
  go_wp2
  go_quiet (fail)
  go_wp2
  go_quiet (fail)
  go_wp2
  rename_i nq1 K hK
  obtain ⟨W, hW⟩ : ∃ W, W = (w.setCell ⟨b, 14, none⟩ (.int .i64 (col + wd))).drewN (1 + nq1 + nq) := ⟨_, rfl⟩
  rw [← hW]
  have hA := col_at H.out (col + wd) (1 + nq1 + nq)
  rw [← hW] at hA
  have C := hA.2
  have c1 := C.c1; have c2 := C.c2; have c3 := C.c3; have c4 := C.c4; have c2087 := C.c2087
  have f2 := C.free 2; have f3 := C.free 3; have f4 := C.free 4
  have HA := Lib.hid hA
  have HW := Lib.hid hW
  clear hA C hW f14 f9 f32 cb c9 c13 c14 c30 c32
  have hs := sl36 b n p hp hn
  have hsa := sl36a b n p hp hn
  go_step3
  go_wp2
  go_region_with (go_at_call 66; refine Calls.mono (dec_at HA.out.2 (tabs_below H.out.nums.b0 HT.out HA.out.1) hF.out (Nat.le_refl n) hp _ hd.out.1 hd.out.2 (twin rfl rfl rfl rfl)) ?_; rintro e w1 ⟨rfl, hb1, hl1⟩; have e3 := hl1.c3; have g3 := hl1.free 3)
  all_goals
    clear c1 c2 c3 c4 c2087 f2 f3 f4 hs hsa e3 g3
    obtain ⟨W1, hW1⟩ : ∃ W1, W1 = w1.setCell ⟨b, 3, none⟩ (.int .i32 65533) := ⟨_, rfl⟩
    rw [← hW1]
    have hl2 := hl1.set3 65533
    rw [← hW1] at hl2
    have hb2 := hb1.trans hl2.1
    have hl2 := hl2.2
    have hs := sl36 b n p hp hn
    have hsa := sl36a b n p hp hn
    have e1 := hl2.c1; have e2 := hl2.c2; have e3 := hl2.c3; have e4 := hl2.c4; have e2087 := hl2.c2087
    have g2 := hl2.free 2; have g4 := hl2.free 4
    have HL2 := Lib.hid hl2
    have HB2 := Lib.hid hb2
    clear hl1 hb1 hl2 hb2 hW1
    go_wp2
    try simp only [List.getElem_toArray, List.getElem_cons_succ, List.getElem_cons_zero, Act.put, List.setIfInBounds_toArray, List.set_cons_zero, List.set_cons_succ]
    go_still_tail 15, (by kernel_rfl)
    change wpList _ _ _ _ _ W1.drew
    go_wp2_with (first
      | (go_at_call 67; refine Calls.mono (full_at HL2.out (tabs_below H.out.nums.b0 HT.out (HA.out.1.trans HB2.out)) hF.out (Nat.le_refl n) hp _ (twin rfl rfl rfl rfl)) ?_; rintro e w2 ⟨t, rfl, ht, hb3, hl3⟩; have HT3 := Lib.hid ht; clear ht; have HL3 := Lib.hid hl3; have HB3 := Lib.hid hb3; have e1 := hl3.c1; have e2 := hl3.c2; have e3 := hl3.c3; have e4 := hl3.c4; have e2087 := hl3.c2087; have g2 := hl3.free 2; have g4 := hl3.free 4; clear hl3 hb3 hs hsa; cases t)
      | (go_at_call 69; refine Calls.mono (np_at HL3.out _ rfl (by omega) (by omega) (by omega) (by omega) hwd (by omega) hx0 hx1) ?_; rintro e w4 ⟨⟨x4, y4, rfl⟩, hb4, hl4⟩; have HL4 := Lib.hid hl4; have HB4 := Lib.hid hb4; clear hl4 hb4 e1 e2 e3 e4 e2087 g2 g4)
      | (go_at_call 68; refine Calls.mono (pe_at HL4.out (by omega)) ?_; rintro e w5 ⟨rfl, hb5, hd5⟩; have HD5 := Lib.hid hd5; have HB5 := Lib.hid hb5; have e3 := hd5.c3; obtain ⟨x5, e4⟩ := hd5.c4; have g4 := hd5.free 4; clear hb5 hd5))
    · go_wp2_with (first
        | (go_at_call 62; refine Calls.mono (trunc_at HL3.out hnm.out hp (HT3.out (by trivial)) h5) ?_; rintro e w3 ⟨rfl, hb6, hl6⟩; have HL6 := Lib.hid hl6; have HB6 := Lib.hid hb6; clear e1 e2 e3 e4 e2087 g2 g4; have e1 := hl6.c1; have e2 := hl6.c2; have e3 := hl6.c3; have e4 := hl6.c4; have e2087 := hl6.c2087; have g2 := hl6.free 2; have g4 := hl6.free 4; clear hl6 hb6)
        | (go_at_call 69; refine Calls.mono (np_at HL6.out _ rfl (by omega) (by omega) (by omega) (by omega) hwd (by omega) hx0 hx1) ?_; rintro e w4 ⟨⟨x4, y4, rfl⟩, hb4, hl4⟩; have HL4 := Lib.hid hl4; have HB4 := Lib.hid hb4; clear hl4 hb4 e1 e2 e3 e4 e2087 g2 g4)
        | (go_at_call 68; refine Calls.mono (pe_at HL4.out (by omega)) ?_; rintro e w5 ⟨rfl, hb5, hd5⟩; have HD5 := Lib.hid hd5; have HB5 := Lib.hid hb5; have e3 := hd5.c3; obtain ⟨x5, e4⟩ := hd5.c4; have g4 := hd5.free 4; clear hb5 hd5))
      rw [Exit.noGoto_ret]
      go_ret
      exact ⟨rfl, Dn.end H.out.nums.b1 (((((HA.out.1.trans HB2.out).trans HB3.out).trans HB6.out).trans HB4.out).trans HB5.out) HD5.out hcw.out _⟩
    · rw [Exit.noGoto_ret]
      go_ret
      exact ⟨rfl, Dn.end H.out.nums.b1 ((((HA.out.1.trans HB2.out).trans HB3.out).trans HB4.out).trans HB5.out) HD5.out hcw.out _⟩
end Go.Proofs.YtgcjaijakbejjaaFmt

/- What the lexer's rune does at its first call where the first byte is 128 or more. Conditions: the parser's state; the tables of unicode/utf8. -/
namespace Go.Proofs.YtgcjaijakbejjaaFmt
open Go.RowKit

set_option maxHeartbeats 4000000 in
set_option maxRecDepth 100000 in
theorem rune_first_wide_c {B b rb sb fb m cap : Nat} {f : Nat → Int} {l : Int} {ea : Addr} {n p : Nat} {c : Int} {w : World} (h : Lx B b rb sb fb m cap f l ea 0 0 (.slice none 0 0) 0 0 0 1 0 .nilIface false w)
    (hT : Lib.Utf8Tabs 1 2 w) (hF : Hid (∀ j, j < m → 0 ≤ f j ∧ f j < 256)) (hp0 : Hid (p = 0)) (hm : 0 < m) (hn' : Hid (n = min m 1024))
    (hp : p < n)  
    (hc : f p = c) (h1 : (c < 128) = False) (hd : Hid (((Lib.decodeGo (tailOf f p (n - p))).1 : Int) = 65533 ∧ ((Lib.decodeGo (tailOf f p (n - p))).2 : Int) = 1)) :
    Calls Tryf.prog 43 #[.pointer (some ⟨b, 0, none⟩)] w fun e w' => e = .returned (.int .i32 1114112) ∧ Below B w w' ∧ Dn b l 1114112 (1 + p) w' := by
  have H := Lib.hid h
  have HT := Lib.hid hT
  have c1 := h.c1; have c2 := h.c2; have c3 := h.c3; have c4 := h.c4; have c14 := h.c14
  have f14 := h.free 14
  have hn : n ≤ 1024 := by have := hn'.out; omega
  have hn1 : (0 : Int) < n := by omega
  have hn2 : ((n : Int) == 0) = false := by simp; omega
  have hn3 : (n == 0) = false := by simp; omega
  have h5 : p ≤ 5 := by have := hp0.out; omega
  have hcw0 : (1 : Int) = 1 + p := by have := hp0.out; omega
  have hcw := Lib.hid hcw0
  clear hcw0
  have hx0 : (0 : Int) ≤ 1 := by omega
  have hx1 : (1 : Int) ≤ 1000 := by omega
  have hp1 : (p : Int) < n := by omega
  have hp3 : (n : Int) ≤ 1024 := by omega
  have hwd : (0 : Int) ≤ 0 := by omega
  have hcn := Lib.hid hc
  clear h hT hc
  go_enter Tryf.func43, Tryf.ntmps43
  go_wp2
  go_step3
  go_wp2
  go_region
  go_wp2
  go_step3
  go_wp2
  first | (go_region_with (go_at_call 62; refine (fill_first (col_at2 H.out _).2 n hn' hm).mono ?_; rintro e w9 ⟨rfl, hb9, hl9⟩)) | skip
  all_goals
    have hl8 : Lx B b rb sb fb m cap f l ea n n (.slice (some ⟨b, 39, none⟩) n 1024) p 0 0 1 0 .nilIface false w9 := by
      have e0 : ((p : Nat) : Int) = 0 := by rw [hp0.out]; rfl
      rw [e0]; exact hl9
    have c1 := hl8.c1; have c2 := hl8.c2; have c3 := hl8.c3; have c4 := hl8.c4; have c2087 := hl8.c2087
    have cb : w9.cell? ⟨b, 39 + p, none⟩ = some (.int .u8 c) := by rw [← hcn.out]; exact hl8.got p hp
    have f2 := hl8.free 2; have f3 := hl8.free 3; have f4 := hl8.free 4
    have HL9 := Lib.hid hl8
    have HB9 := Lib.hid ((col_at2 H.out _).1.trans hb9)
    clear hl9 hb9 hl8
    go_wp2
    go_quiet (fail)
    go_wp2
    obtain ⟨W, hW⟩ : ∃ W, W = w9.drewN nq := ⟨_, rfl⟩
    rw [← hW]
    have hA : Below B w W ∧ Lx B b rb sb fb m cap f l ea n n (.slice (some ⟨b, 39, none⟩) n 1024) p 0 0 1 0 .nilIface false W := by
      have k := twin (w := w9) (W := W) (by rw [hW]; rfl) (by rw [hW]; rfl) (by rw [hW]; rfl) (by rw [hW]; rfl)
      exact ⟨HB9.out.trans (HL9.out.below_same k), HL9.out.same k⟩
    have C := hA.2
    have c1 := C.c1; have c2 := C.c2; have c3 := C.c3; have c4 := C.c4; have c2087 := C.c2087
    have f2 := C.free 2; have f3 := C.free 3; have f4 := C.free 4
    have HA := Lib.hid hA
    clear hA C hW f14 cb
    have hs := sl36 b n p hp hn
    have hsa := sl36a b n p hp hn
    go_step3
    go_wp2
    go_region_with (go_at_call 66; refine Calls.mono (dec_at HA.out.2 (tabs_below H.out.nums.b0 HT.out HA.out.1) hF.out (Nat.le_refl n) hp _ hd.out.1 hd.out.2 (twin rfl rfl rfl rfl)) ?_; rintro e w1 ⟨rfl, hb1, hl1⟩; have e3 := hl1.c3; have g3 := hl1.free 3)
    all_goals
      clear c1 c2 c3 c4 c2087 f2 f3 f4 hs hsa e3 g3
      obtain ⟨W1, hW1⟩ : ∃ W1, W1 = w1.setCell ⟨b, 3, none⟩ (.int .i32 65533) := ⟨_, rfl⟩
      rw [← hW1]
      have hl2 := hl1.set3 65533
      rw [← hW1] at hl2
      have hb2 := hb1.trans hl2.1
      have hl2 := hl2.2
      have hs := sl36 b n p hp hn
      have hsa := sl36a b n p hp hn
      have e1 := hl2.c1; have e2 := hl2.c2; have e3 := hl2.c3; have e4 := hl2.c4; have e2087 := hl2.c2087
      have g2 := hl2.free 2; have g4 := hl2.free 4
      have HL2 := Lib.hid hl2
      have HB2 := Lib.hid hb2
      clear hl1 hb1 hl2 hb2 hW1
      go_wp2
      try simp only [List.getElem_toArray, List.getElem_cons_succ, List.getElem_cons_zero, Act.put, List.setIfInBounds_toArray, List.set_cons_zero, List.set_cons_succ]
      go_still_tail 15, (by kernel_rfl)
      change wpList _ _ _ _ _ W1.drew
      go_wp2_with (first
        | (go_at_call 67; refine Calls.mono (full_at HL2.out (tabs_below H.out.nums.b0 HT.out (HA.out.1.trans HB2.out)) hF.out (Nat.le_refl n) hp _ (twin rfl rfl rfl rfl)) ?_; rintro e w2 ⟨t, rfl, ht, hb3, hl3⟩; have HT3 := Lib.hid ht; clear ht; have HL3 := Lib.hid hl3; have HB3 := Lib.hid hb3; have e1 := hl3.c1; have e2 := hl3.c2; have e3 := hl3.c3; have e4 := hl3.c4; have e2087 := hl3.c2087; have g2 := hl3.free 2; have g4 := hl3.free 4; clear hl3 hb3 hs hsa; cases t)
        | (go_at_call 69; refine Calls.mono (np_at HL3.out _ rfl (by omega) (by omega) (by omega) (by omega) hwd (by omega) hx0 hx1) ?_; rintro e w4 ⟨⟨x4, y4, rfl⟩, hb4, hl4⟩; have HL4 := Lib.hid hl4; have HB4 := Lib.hid hb4; clear hl4 hb4 e1 e2 e3 e4 e2087 g2 g4)
        | (go_at_call 68; refine Calls.mono (pe_at HL4.out (by omega)) ?_; rintro e w5 ⟨rfl, hb5, hd5⟩; have HD5 := Lib.hid hd5; have HB5 := Lib.hid hb5; have e3 := hd5.c3; obtain ⟨x5, e4⟩ := hd5.c4; have g4 := hd5.free 4; clear hb5 hd5))
      · go_wp2_with (first
          | (go_at_call 62; refine Calls.mono (trunc_at HL3.out hn'.out hp (HT3.out (by trivial)) h5) ?_; rintro e w3 ⟨rfl, hb6, hl6⟩; have HL6 := Lib.hid hl6; have HB6 := Lib.hid hb6; clear e1 e2 e3 e4 e2087 g2 g4; have e1 := hl6.c1; have e2 := hl6.c2; have e3 := hl6.c3; have e4 := hl6.c4; have e2087 := hl6.c2087; have g2 := hl6.free 2; have g4 := hl6.free 4; clear hl6 hb6)
          | (go_at_call 69; refine Calls.mono (np_at HL6.out _ rfl (by omega) (by omega) (by omega) (by omega) hwd (by omega) hx0 hx1) ?_; rintro e w4 ⟨⟨x4, y4, rfl⟩, hb4, hl4⟩; have HL4 := Lib.hid hl4; have HB4 := Lib.hid hb4; clear hl4 hb4 e1 e2 e3 e4 e2087 g2 g4)
          | (go_at_call 68; refine Calls.mono (pe_at HL4.out (by omega)) ?_; rintro e w5 ⟨rfl, hb5, hd5⟩; have HD5 := Lib.hid hd5; have HB5 := Lib.hid hb5; have e3 := hd5.c3; obtain ⟨x5, e4⟩ := hd5.c4; have g4 := hd5.free 4; clear hb5 hd5))
        rw [Exit.noGoto_ret]
        go_ret
        exact ⟨rfl, Dn.end H.out.nums.b1 (((((HA.out.1.trans HB2.out).trans HB3.out).trans HB6.out).trans HB4.out).trans HB5.out) HD5.out hcw.out _⟩
      · rw [Exit.noGoto_ret]
        go_ret
        exact ⟨rfl, Dn.end H.out.nums.b1 ((((HA.out.1.trans HB2.out).trans HB3.out).trans HB4.out).trans HB5.out) HD5.out hcw.out _⟩
end Go.Proofs.YtgcjaijakbejjaaFmt
