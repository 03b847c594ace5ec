/- Proved: contracts of the lexer's rune at a byte that is no ASCII, decoding to no U+FFFD. Conditions: as each theorem says. -/
import Derived.Test.YtgcjaijakbejjaaFmtGa
import Derived.Test.YtgcjaijakbejjaaFmtGb
import Derived.Test.YtgcjaijakbejjaaFmtGc
/- What the lexer's rune does at a byte of 128 or more. Conditions: the parser's state; the tables of unicode/utf8. -/
namespace Go.Proofs.YtgcjaijakbejjaaFmt
open Go.RowKit

theorem tabs_below {B : Nat} {w w' : World} (hB : 3 ≤ B) (hT : Lib.Utf8Tabs 1 2 w) (h : Below B w w') : Lib.Utf8Tabs 1 2 w' :=
  ⟨fun x hx => (h.cell (p := ⟨1, x, none⟩) (by show 1 < B; omega)).trans (hT.1 x hx), fun j hj => ⟨(h.cell (p := ⟨2, 2 * j, none⟩) (by show 2 < B; omega)).trans (hT.2 j hj).1, (h.cell (p := ⟨2, 2 * j + 1, none⟩) (by show 2 < B; omega)).trans (hT.2 j hj).2⟩⟩

/-- A call that changes no block that was there hands the whole state on. -/
theorem Lx.same {B b rb sb fb m cap : Nat} {f : Nat → Int} {l : Int} {ea : Addr} {g ri : Nat} {bs : Value} {bsp r wd col offs : Int} {re : Value} {ef : Bool} {w w' : World}
    (h : Lx B b rb sb fb m cap f l ea g ri bs bsp r wd col offs re ef w) (k : Below w.heap.size w w') : Lx B b rb sb fb m cap f l ea g ri bs bsp r wd col offs re ef w' := by
  have e : ∀ {p : Addr} {v : Value}, w.cell? p = some v → w'.cell? p = some v := fun {p v} hp => (k.cell (p := p) (World.block_lt_of_cell? w _ hp)).trans hp
  have hb : b < w.heap.size := World.block_lt_of_cell? w _ h.c0
  have hrb : rb < w.heap.size := World.block_lt_of_cell? w _ h.r0
  exact ⟨h.nums, h.gm, h.g1, e h.c0, e h.c1, e h.c2, e h.c3, e h.c4, e h.c5, e h.c7, e h.c8, e h.c9, e h.c10, e h.c12, e h.c13, e h.c14, e h.c17, e h.c20, e h.c29, e h.c30, e h.c31, e h.c32, e h.c2087, e h.r0, e h.r1, e h.r2, e h.f0, e h.eof,
    fun j hj => e (h.src j hj), fun j hj => e (h.got j hj), fun j hj => by rw [k.cell (p := ⟨b, 39 + j, none⟩) hb]; exact h.buf j hj, fun j => (k.frozen (p := ⟨b, j, none⟩) hb).trans (h.free j), fun j => (k.frozen (p := ⟨rb, j, none⟩) hrb).trans (h.freeR j)⟩
theorem Lx.below_same {B b rb sb fb m cap : Nat} {f : Nat → Int} {l : Int} {ea : Addr} {g ri : Nat} {bs : Value} {bsp r wd col offs : Int} {re : Value} {ef : Bool} {w w' : World}
    (h : Lx B b rb sb fb m cap f l ea g ri bs bsp r wd col offs re ef w) (k : Below w.heap.size w w') : Below B w w' :=
  k.mono (Nat.le_of_lt (Nat.lt_of_le_of_lt h.nums.b1 (World.block_lt_of_cell? w _ h.c0)))

/-- The tail of the parser's buffer from place p on, as bytes. -/
def tailOf (f : Nat → Int) (p k : Nat) : ByteArray := ⟨Array.ofFn (n := k) fun j => UInt8.ofNat (f (p + j)).toNat⟩
theorem tailOf_size (f : Nat → Int) (p k : Nat) : (tailOf f p k).size = k := by simp [tailOf, ByteArray.size]
theorem tailOf_get (f : Nat → Int) (p k j : Nat) (hj : j < k) (h0 : 0 ≤ f (p + j)) (h1 : f (p + j) < 256) : (((tailOf f p k).get! j).toNat : Int) = f (p + j) := by
  have : (tailOf f p k).get! j = UInt8.ofNat (f (p + j)).toNat := by
    show (tailOf f p k).data[j]! = _
    rw [getElem!_pos _ j (by simpa [tailOf] using hj)]
    simp [tailOf]
  rw [this, UInt8.toNat_ofNat']
  omega

theorem dec_at {B b rb sb fb m cap : Nat} {f : Nat → Int} {l : Int} {ea : Addr} {g ri : Nat} {bs : Value} {bsp r wd col offs : Int} {re : Value} {ef : Bool} {w W : World} {n p : Nat}
    (h : Lx B b rb sb fb m cap f l ea g ri bs bsp r wd col offs re ef w) (hT : Lib.Utf8Tabs 1 2 w) (hF : ∀ j, j < m → 0 ≤ f j ∧ f j < 256) (hn : n ≤ g) (hp : p < n) (c : Nat) {d1 d2 : Int} (hd1 : ((Lib.decodeGo (tailOf f p (n - p))).1 : Int) = d1) (hd2 : ((Lib.decodeGo (tailOf f p (n - p))).2 : Int) = d2) (hW : Below w.heap.size w W) :
    Calls Tryf.prog 66 #[.slice (some ⟨b, 39 + p, none⟩) (n - p) c] W fun e w' => e = .returned (.tuple #[.int .i32 d1, .int .i64 d2]) ∧ Below B w w' ∧ Lx B b rb sb fb m cap f l ea g ri bs bsp r wd col offs re ef w' := by
  have h0 := h.same hW
  have D := decodeRune_any (tailOf f p (n - p)) b (39 + p) c W (tabs_below h.nums.b0 hT (h.below_same hW)) (fun j hj => by
    rw [tailOf_size] at hj
    have hm := h.gm
    have := hF (p + j) (by omega)
    rw [tailOf_get f p _ j hj this.1 this.2, Nat.add_assoc]
    exact h0.got (p + j) (by omega))
  rw [tailOf_size, hd1, hd2] at D
  refine D.mono ?_
  rintro e w' ⟨h1, h2⟩
  exact ⟨h1, (h.below_same hW).trans (h0.below_same h2), h0.same h2⟩
theorem twin {w W : World} (h1 : W.os = w.os) (h2 : W.tape = w.tape) (h3 : W.output = w.output) (h4 : W.heap = w.heap) : Below w.heap.size w W := ⟨h1, h2, h3, by rw [h4]; exact Nat.le_refl _, fun _ _ => by rw [h4]⟩

theorem und36 : Tryf.prog.underlying 36 = some (.slice (Tryf.prog.elem 36)) := by kernel_rfl
theorem elem36 : Tryf.prog.elem 36 = 5 := by kernel_rfl
/-- 'p.bs[p.bsp:]'. -/
theorem sl36 (b n p : Nat) (hp : p < n) (hn : n ≤ 1024) (w : World) : (Instr.slice 36 (.slice (some ⟨b, 39, none⟩) n 1024) (some (.int .u64 p)) none none).run Tryf.prog w = .ok (.slice (some ⟨b, 39 + p, none⟩) (n - p) (1024 - p)) w := by
  rw [run_slice_l w 36 _ n 1024 und36 .u64 p (by omega) (by omega), elem36, size5]
  simp only [Result.andThen_ok, sliced, Int.toNat_natCast, Nat.mul_one, addr_add, Option.map_some]
  rw [if_neg (by omega)]
theorem sl36a (b n p : Nat) (hp : p < n) (hn : n ≤ 1024) (w : World) : (Instr.sliceAt 36 (.slice (some ⟨b, 39, none⟩) n 1024) (some (.int .u64 p)) none none).run Tryf.prog w = .ok (.slice (some ⟨b, 39 + p, none⟩) (n - p) (1024 - p)) w :=
  (run_sliceAt_slice w 36 _ _ _ _ und36).trans (sl36 b n p hp hn w)

theorem wide_end {B b rb sb fb m cap : Nat} {f : Nat → Int} {l : Int} {ea : Addr} {g ri : Nat} {bs : Value} {bsp r wd x offs k : Int} {re : Value} {ef : Bool} {w W : World}
    (hb : Below B w W) (h : Lx B b rb sb fb m cap f l ea g ri bs bsp r wd x offs re ef W) (hx : x = 1 + k) (q : Nat) (y z : Int) :
    Below B w (((W.drewN q).setCell ⟨b, 2, none⟩ (.int .u64 y)).setCell ⟨b, 4, none⟩ (.int .i64 z)) ∧ Dn b l r (1 + k) (((W.drewN q).setCell ⟨b, 2, none⟩ (.int .u64 y)).setCell ⟨b, 4, none⟩ (.int .i64 z)) := by
  subst hx
  have hB := h.nums.b1
  refine ⟨((below_drewN q hb).setCell (p := ⟨b, 2, none⟩) hB _).setCell (p := ⟨b, 4, none⟩) hB _, ?_, ?_, ?_, ?_, ?_⟩
  · rw [cs_ne _ _ _ _ _ (by omega)]
    exact (cs_ne _ _ _ _ _ (by omega)).trans h.c3
  · exact ⟨_, cs_eq _ _ _ _ _ ((cs_ne _ _ _ _ _ (by omega)).trans h.c4)⟩
  · rw [cs_ne _ _ _ _ _ (by omega)]
    exact (cs_ne _ _ _ _ _ (by omega)).trans h.c14
  · rw [cs_ne _ _ _ _ _ (by omega)]
    exact (cs_ne _ _ _ _ _ (by omega)).trans h.c20
  · intro j
    rw [World.frozen?_setCell, World.frozen?_setCell]
    exact h.free j

/-- 'p.r = ..' after the decoding. -/
theorem Lx.set3 {B b rb sb fb m cap : Nat} {f : Nat → Int} {l : Int} {ea : Addr} {g ri : Nat} {bs : Value} {bsp r wd x offs : Int} {re : Value} {ef : Bool} {w : World}
    (h : Lx B b rb sb fb m cap f l ea g ri bs bsp r wd x offs re ef w) (d : Int) : Below B w (w.setCell ⟨b, 3, none⟩ (.int .i32 d)) ∧ Lx B b rb sb fb m cap f l ea g ri bs bsp d wd x offs re ef (w.setCell ⟨b, 3, none⟩ (.int .i32 d)) := by
  have C : Chg B b MoveS w (w.setCell ⟨b, 3, none⟩ (.int .i32 d)) := (Chg.refl B b MoveS w).set h.nums.b1 3 (by simp [MoveS]) _
  exact ⟨C.below, h.chg C _ _ _ _ ((cs_ne _ _ _ _ _ (by omega)).trans h.c2) (cs_eq _ _ _ _ _ h.c3) ((cs_ne _ _ _ _ _ (by omega)).trans h.c4) ((cs_ne _ _ _ _ _ (by omega)).trans h.c14) ((cs_ne _ _ _ _ _ (by omega)).trans h.c32)⟩

theorem full_at {B b rb sb fb m cap : Nat} {f : Nat → Int} {l : Int} {ea : Addr} {g ri : Nat} {bs : Value} {bsp r wd col offs : Int} {re : Value} {ef : Bool} {w W : World} {n p : Nat}
    (h : Lx B b rb sb fb m cap f l ea g ri bs bsp r wd col offs re ef w) (hT : Lib.Utf8Tabs 1 2 w) (hF : ∀ j, j < m → 0 ≤ f j ∧ f j < 256) (hn : n ≤ g) (hp : p < n) (c : Nat) (hW : Below w.heap.size w W) :
    Calls Tryf.prog 67 #[.slice (some ⟨b, 39 + p, none⟩) (n - p) c] W fun e w' => ∃ t : Bool, e = .returned (.bool t) ∧ (t = false → n < p + 4) ∧ Below B w w' ∧ Lx B b rb sb fb m cap f l ea g ri bs bsp r wd col offs re ef w' := by
  have h0 := h.same hW
  have hT0 := tabs_below h.nums.b0 hT (h.below_same hW)
  have hm := h.gm
  have e : ∀ j, p + j < n → ∃ x : Nat, x < 256 ∧ W.cell? ⟨b, 39 + p + j, none⟩ = some (.int .u8 x) := by
    intro j hj
    have hv := hF (p + j) (by omega)
    refine ⟨(f (p + j)).toNat, by omega, ?_⟩
    rw [Nat.add_assoc, h0.got (p + j) (by omega), Int.toNat_of_nonneg hv.1]
  obtain ⟨x0, hx0, e0⟩ := e 0 (by omega)
  by_cases h4 : 4 ≤ n - p
  · refine (fullRune_long (n - p) x0 b (39 + p) c W hT0 h4 hx0 e0).mono ?_
    rintro e w' ⟨rfl, rfl⟩
    exact ⟨true, rfl, (fun h => by cases h), h.below_same hW, h0⟩
  · have e1 : ∃ x : Nat, 1 < n - p → W.cell? ⟨b, 39 + p + 1, none⟩ = some (.int .u8 x) := by
      by_cases g : 1 < n - p
      · obtain ⟨x, _, hx⟩ := e 1 (by omega)
        exact ⟨x, fun _ => hx⟩
      · exact ⟨0, fun h => absurd h g⟩
    have e2 : ∃ x : Nat, 2 < n - p → W.cell? ⟨b, 39 + p + 2, none⟩ = some (.int .u8 x) := by
      by_cases g : 2 < n - p
      · obtain ⟨x, _, hx⟩ := e 2 (by omega)
        exact ⟨x, fun _ => hx⟩
      · exact ⟨0, fun h => absurd h g⟩
    obtain ⟨x1, e1⟩ := e1
    obtain ⟨x2, e2⟩ := e2
    refine (fullRune_short (n - p) x0 x1 x2 b (39 + p) c W hT0 (by omega) (by omega) hx0 e0 e1 e2).mono ?_
    rintro e w' ⟨⟨t, rfl⟩, k⟩
    exact ⟨t, rfl, fun _ => by omega, (h.below_same hW).trans (h0.below_same k), h0.same k⟩

set_option maxHeartbeats 1000000 in
set_option maxRecDepth 100000 in
theorem rune_wide_a {B b rb sb fb m cap : Nat} {f : Nat → Int} {l : Int} {ea : Addr} {n p : Nat} {r wd col c : Int} {w : World} (h : Lx B b rb sb fb m cap f l ea n n (.slice (some ⟨b, 39, none⟩) n 1024) p r wd col 0 .nilIface false w)
    (hT : Lib.Utf8Tabs 1 2 w) (hF : Hid (∀ j, j < m → 0 ≤ f j ∧ f j < 256))
    (hp : p < n) (hr1 : (r == 10) = false) (hr2 : (r == 1114113) = false) (hcw : Hid (col + wd = 1 + p)) (hcol : 0 ≤ col) (hcol' : col ≤ 1000) (hwd : 0 ≤ wd) (hwd' : wd ≤ 1000)
    (hc : f p = c) (h1 : (c < 128) = False) {d1 d2 : Int} (hd : Hid (((Lib.decodeGo (tailOf f p (n - p))).1 : Int) = d1 ∧ ((Lib.decodeGo (tailOf f p (n - p))).2 : Int) = d2)) (hd1 : (d1 == 65533) = false) (hd2 : d2 ≤ 4) (hd0 : 0 ≤ d2) :
    Calls Tryf.prog 43 #[.pointer (some ⟨b, 0, none⟩)] w fun e w' => e = .returned (.int .i32 d1) ∧ Below B w w' ∧ Dn b l d1 (1 + p) w' := by
  have H := Lib.hid h
  have HT := Lib.hid hT
  have c1 := h.c1; have c2 := h.c2; have c3 := h.c3; have c4 := h.c4; have c9 := h.c9; have c13 := h.c13; have c14 := h.c14; have c30 := h.c30; have c32 := h.c32; have c2087 := h.c2087
  have cb : w.cell? ⟨b, 39 + p, none⟩ = some (.int .u8 c) := by rw [← hc]; exact h.got p hp
  have f2 := h.free 2; have f3 := h.free 3; have f4 := h.free 4; have f14 := h.free 14; have f9 := h.free 9; have f32 := h.free 32
  have hn := h.g1
  have hp1 : (p : Int) < n := by omega
  have hp2 : decide ((n : Int) ≤ p) = false := by simp; omega
  have hp4 : decide (n ≤ p) = false := by simp; omega
  have hp3 : (n : Int) ≤ 1024 := by omega
  clear h hc hT
  go_enter Tryf.func43, Tryf.ntmps43
  go_wp2
  go_step3
  go_wp2
  go_region
  go_wp2
  go_step3
  go_wp2
  go_quiet (fail)
  go_wp2
  go_quiet (fail)
  go_wp2
  rename_i nq1 K hK
  obtain ⟨W, hW⟩ : ∃ W, W = (w.setCell ⟨b, 14, none⟩ (.int .i64 (col + wd))).drewN (1 + nq1 + nq) := ⟨_, rfl⟩
  rw [← hW]
  have hA := col_at H.out (col + wd) (1 + nq1 + nq)
  rw [← hW] at hA
  have C := hA.2
  have c1 := C.c1; have c2 := C.c2; have c3 := C.c3; have c4 := C.c4; have c2087 := C.c2087
  have f2 := C.free 2; have f3 := C.free 3; have f4 := C.free 4
  have HA := Lib.hid hA
  have HW := Lib.hid hW
  clear hA C hW f14 f9 f32 cb c9 c13 c14 c30 c32
  have hs := sl36 b n p hp hn
  have hsa := sl36a b n p hp hn
  go_step3
  go_wp2
  go_region_with (go_at_call 66; refine Calls.mono (dec_at HA.out.2 (tabs_below H.out.nums.b0 HT.out HA.out.1) hF.out (Nat.le_refl n) hp _ hd.out.1 hd.out.2 (twin rfl rfl rfl rfl)) ?_; rintro e w1 ⟨rfl, hb1, hl1⟩; have e3 := hl1.c3; have g3 := hl1.free 3)
  all_goals
    clear c1 c2 c3 c4 c2087 f2 f3 f4 hs hsa e3 g3
    obtain ⟨W1, hW1⟩ : ∃ W1, W1 = w1.setCell ⟨b, 3, none⟩ (.int .i32 d1) := ⟨_, rfl⟩
    rw [← hW1]
    have hl2 := hl1.set3 d1
    rw [← hW1] at hl2
    have hb2 := hb1.trans hl2.1
    have hl2 := hl2.2
    have e1 := hl2.c1; have e2 := hl2.c2; have e3 := hl2.c3; have e4 := hl2.c4; have e2087 := hl2.c2087
    have g2 := hl2.free 2; have g4 := hl2.free 4
    have HL2 := Lib.hid hl2
    have HB2 := Lib.hid hb2
    clear hl1 hb1 hl2 hb2 hW1
    go_wp2
    try simp only [List.getElem_toArray, List.getElem_cons_succ, List.getElem_cons_zero, Act.put, List.setIfInBounds_toArray, List.set_cons_zero, List.set_cons_succ]
    go_quiet (fail)
    go_wp2
    rw [Exit.noGoto_ret]
    go_ret
    exact ⟨rfl, wide_end (HA.out.1.trans HB2.out) HL2.out hcw.out _ _ _⟩
end Go.Proofs.YtgcjaijakbejjaaFmt

/- What the lexer's rune does at its first call where the first byte is 128 or more. Conditions: the parser's state; the tables of unicode/utf8. -/
namespace Go.Proofs.YtgcjaijakbejjaaFmt
open Go.RowKit

set_option maxHeartbeats 4000000 in
set_option maxRecDepth 100000 in
theorem rune_first_wide_a {B b rb sb fb m cap : Nat} {f : Nat → Int} {l : Int} {ea : Addr} {n p : Nat} {c : Int} {w : World} (h : Lx B b rb sb fb m cap f l ea 0 0 (.slice none 0 0) 0 0 0 1 0 .nilIface false w)
    (hT : Lib.Utf8Tabs 1 2 w) (hF : Hid (∀ j, j < m → 0 ≤ f j ∧ f j < 256)) (hp0 : Hid (p = 0)) (hm : 0 < m) (hn' : Hid (n = min m 1024))
    (hp : p < n) 
    (hc : f p = c) (h1 : (c < 128) = False) {d1 d2 : Int} (hd : Hid (((Lib.decodeGo (tailOf f p (n - p))).1 : Int) = d1 ∧ ((Lib.decodeGo (tailOf f p (n - p))).2 : Int) = d2)) (hd1 : (d1 == 65533) = false) (hd2 : d2 ≤ 4) (hd0 : 0 ≤ d2) :
    Calls Tryf.prog 43 #[.pointer (some ⟨b, 0, none⟩)] w fun e w' => e = .returned (.int .i32 d1) ∧ Below B w w' ∧ Dn b l d1 (1 + p) w' := by
  have H := Lib.hid h
  have HT := Lib.hid hT
  have c1 := h.c1; have c2 := h.c2; have c3 := h.c3; have c4 := h.c4; have c14 := h.c14
  have f14 := h.free 14
  have hn : n ≤ 1024 := by have := hn'.out; omega
  have hn1 : (0 : Int) < n := by omega
  have hn2 : ((n : Int) == 0) = false := by simp; omega
  have hn3 : (n == 0) = false := by simp; omega
  have h5 : p ≤ 5 := by have := hp0.out; omega
  have hcw0 : (1 : Int) = 1 + p := by have := hp0.out; omega
  have hcw := Lib.hid hcw0
  clear hcw0
  have hx0 : (0 : Int) ≤ 1 := by omega
  have hx1 : (1 : Int) ≤ 1000 := by omega
  have hp1 : (p : Int) < n := by omega
  have hp3 : (n : Int) ≤ 1024 := by omega
  have hwd : (0 : Int) ≤ 0 := by omega
  have hcn := Lib.hid hc
  clear h hT hc
  go_enter Tryf.func43, Tryf.ntmps43
  go_wp2
  go_step3
  go_wp2
  go_region
  go_wp2
  go_step3
  go_wp2
  first | (go_region_with (go_at_call 62; refine (fill_first (col_at2 H.out _).2 n hn' hm).mono ?_; rintro e w9 ⟨rfl, hb9, hl9⟩)) | skip
  all_goals
    have hl8 : Lx B b rb sb fb m cap f l ea n n (.slice (some ⟨b, 39, none⟩) n 1024) p 0 0 1 0 .nilIface false w9 := by
      have e0 : ((p : Nat) : Int) = 0 := by rw [hp0.out]; rfl
      rw [e0]; exact hl9
    have c1 := hl8.c1; have c2 := hl8.c2; have c3 := hl8.c3; have c4 := hl8.c4; have c2087 := hl8.c2087
    have cb : w9.cell? ⟨b, 39 + p, none⟩ = some (.int .u8 c) := by rw [← hcn.out]; exact hl8.got p hp
    have f2 := hl8.free 2; have f3 := hl8.free 3; have f4 := hl8.free 4
    have HL9 := Lib.hid hl8
    have HB9 := Lib.hid ((col_at2 H.out _).1.trans hb9)
    clear hl9 hb9 hl8
    go_wp2
    go_quiet (fail)
    go_wp2
    obtain ⟨W, hW⟩ : ∃ W, W = w9.drewN nq := ⟨_, rfl⟩
    rw [← hW]
    have hA : Below B w W ∧ Lx B b rb sb fb m cap f l ea n n (.slice (some ⟨b, 39, none⟩) n 1024) p 0 0 1 0 .nilIface false W := by
      have k := twin (w := w9) (W := W) (by rw [hW]; rfl) (by rw [hW]; rfl) (by rw [hW]; rfl) (by rw [hW]; rfl)
      exact ⟨HB9.out.trans (HL9.out.below_same k), HL9.out.same k⟩
    have C := hA.2
    have c1 := C.c1; have c2 := C.c2; have c3 := C.c3; have c4 := C.c4; have c2087 := C.c2087
    have f2 := C.free 2; have f3 := C.free 3; have f4 := C.free 4
    have HA := Lib.hid hA
    clear hA C hW f14 cb
    have hs := sl36 b n p hp hn
    have hsa := sl36a b n p hp hn
    go_step3
    go_wp2
    go_region_with (go_at_call 66; refine Calls.mono (dec_at HA.out.2 (tabs_below H.out.nums.b0 HT.out HA.out.1) hF.out (Nat.le_refl n) hp _ hd.out.1 hd.out.2 (twin rfl rfl rfl rfl)) ?_; rintro e w1 ⟨rfl, hb1, hl1⟩; have e3 := hl1.c3; have g3 := hl1.free 3)
    all_goals
      clear c1 c2 c3 c4 c2087 f2 f3 f4 hs hsa e3 g3
      obtain ⟨W1, hW1⟩ : ∃ W1, W1 = w1.setCell ⟨b, 3, none⟩ (.int .i32 d1) := ⟨_, rfl⟩
      rw [← hW1]
      have hl2 := hl1.set3 d1
      rw [← hW1] at hl2
      have hb2 := hb1.trans hl2.1
      have hl2 := hl2.2
      have e1 := hl2.c1; have e2 := hl2.c2; have e3 := hl2.c3; have e4 := hl2.c4; have e2087 := hl2.c2087
      have g2 := hl2.free 2; have g4 := hl2.free 4
      have HL2 := Lib.hid hl2
      have HB2 := Lib.hid hb2
      clear hl1 hb1 hl2 hb2 hW1
      go_wp2
      try simp only [List.getElem_toArray, List.getElem_cons_succ, List.getElem_cons_zero, Act.put, List.setIfInBounds_toArray, List.set_cons_zero, List.set_cons_succ]
      go_quiet (fail)
      go_wp2
      rw [Exit.noGoto_ret]
      go_ret
      exact ⟨rfl, wide_end (HA.out.1.trans HB2.out) HL2.out hcw.out _ _ _⟩
end Go.Proofs.YtgcjaijakbejjaaFmt
