/- Proved: contracts of rune by one contract, the new lexer, dqToken. Conditions: as each theorem says. -/
import Derived.Test.YtgcjaijakbejjaaFmtGd
import Derived.Test.YtgcjaijakbejjaaFmtGi
import Derived.Test.YtgcjaijakbejjaaFmtGj
import Derived.Test.YtgcjaijakbejjaaFmtGa
import Derived.RegionTactic
import Derived.BigRegion
import Derived.Test.YtgcjaijakbejjaaFmtGc
import Derived.Lib.ConvBytes
import Derived.Laws.AppendOwn
/- The lexer's rune by one contract: at the place behind an ASCII lookahead, and at the first call. Conditions: the bytes near by are no NUL, CR or backslash; the lookahead is no newline. -/
namespace Go.Proofs.YtgcjaijakbejjaaFmt
open Go.RowKit

theorem decode_two (s : ByteArray) (i : Nat) : (Utf8.decode s i).2 ≤ 4 := by
  unfold Utf8.decode
  dsimp only
  repeat' split
  all_goals simp
theorem decodeGo_two (s : ByteArray) : (Lib.decodeGo s).2 ≤ 4 := by
  unfold Lib.decodeGo
  split
  · simp
  · exact decode_two s 0

/-- The decoding at place j of the source. -/
def decAt (f : Nat → Int) (m j : Nat) : Nat × Nat := Lib.decodeGo (tailOf f j (min m 1024 - j))
/-- The lookahead at place j of the source. -/
def Rn (f : Nat → Int) (m j : Nat) : Int :=
  if m ≤ j then 1114112 else if f j < 128 then f j else if (decAt f m j).1 = 65533 ∧ (decAt f m j).2 = 1 then 1114112 else ((decAt f m j).1 : Int)

/-- The parser holds the lookahead at place j: an ASCII byte (it goes on), or the end | a wide rune (it stops there). -/
def St (B b rb sb fb m cap : Nat) (f : Nat → Int) (l : Int) (ea : Addr) (j : Nat) (w : World) : Prop :=
  (j < m ∧ f j < 128 ∧ Lx B b rb sb fb m cap f l ea (min m 1024) (min m 1024) (.slice (some ⟨b, 39, none⟩) (min m 1024) 1024) ((j + 1 : Nat) : Int) (f j) 1 (1 + j) 0 .nilIface false w) ∨
  ((m ≤ j ∨ 128 ≤ f j) ∧ Dn b l (Rn f m j) (1 + j) w)

section
variable {B b rb sb fb m cap : Nat} {f : Nat → Int} {l : Int} {ea : Addr} {j : Nat} {w : World}
theorem Rn_ascii (h : j < m) (h' : f j < 128) : Rn f m j = f j := by
  unfold Rn
  rw [if_neg (by omega), if_pos h']
theorem St.c3 (h : St B b rb sb fb m cap f l ea j w) : w.cell? ⟨b, 3, none⟩ = some (.int .i32 (Rn f m j)) := by
  rcases h with ⟨h1, h2, h⟩ | ⟨_, h⟩
  · rw [Rn_ascii h1 h2]; exact h.c3
  · exact h.c3
theorem St.c14 (h : St B b rb sb fb m cap f l ea j w) : w.cell? ⟨b, 14, none⟩ = some (.int .i64 (1 + j)) := by
  rcases h with ⟨_, _, h⟩ | ⟨_, h⟩
  · exact h.c14
  · exact h.c14
theorem St.c20 (h : St B b rb sb fb m cap f l ea j w) : w.cell? ⟨b, 20, none⟩ = some (.int .i64 l) := by
  rcases h with ⟨_, _, h⟩ | ⟨_, h⟩
  · exact h.c20
  · exact h.c20

theorem wide_at {p : Nat} (hc : ¬ f p < 128) {w' : World} {e : Ending} {d1 : Int} (he : e = .returned (.int .i32 d1)) (hd : d1 = Rn f m p) (h : Below B w w' ∧ Dn b l d1 (1 + p) w') :
    e = .returned (.int .i32 (Rn f m p)) ∧ Below B w w' ∧ St B b rb sb fb m cap f l ea p w' := by
  subst hd
  exact ⟨he, h.1, Or.inr ⟨Or.inr (by omega), h.2⟩⟩

/-- rune, behind an ASCII lookahead at place j. -/
theorem rune_next (h : St B b rb sb fb m cap f l ea j w) (hT : Lib.Utf8Tabs 1 2 w) (hF : ∀ j, j < m → 0 ≤ f j ∧ f j < 256) (hj : j < m) (ha : f j < 128) (hr : f j ≠ 10) (h4 : j ≤ 4)
    (h0 : j + 1 < m → f (j + 1) ≠ 0 ∧ f (j + 1) ≠ 13 ∧ f (j + 1) ≠ 92) :
    Calls Tryf.prog 43 #[.pointer (some ⟨b, 0, none⟩)] w fun e w' => e = .returned (.int .i32 (Rn f m (j + 1))) ∧ Below B w w' ∧ St B b rb sb fb m cap f l ea (j + 1) w' := by
  rcases h with ⟨_, _, h⟩ | ⟨h1, _⟩
  · have hr1 : (f j == 10) = false := by simpa using hr
    have hr2 : (f j == 1114113) = false := by simp; omega
    have hcw : (1 + j : Int) + 1 = 1 + ((j + 1 : Nat) : Int) := by omega
    by_cases hm : j + 1 < m
    · have hp : j + 1 < min m 1024 := by omega
      obtain ⟨g0, g1, g2⟩ := h0 hm
      have hv := hF (j + 1) hm
      by_cases hc : f (j + 1) < 128
      · have e : Rn f m (j + 1) = f (j + 1) := Rn_ascii hm hc
        rw [e]
        have fin : ∀ (e : Ending) (w' : World), (e = .returned (.int .i32 (f (j + 1))) ∧ Below B w w' ∧ Lx B b rb sb fb m cap f l ea (min m 1024) (min m 1024) (.slice (some ⟨b, 39, none⟩) (min m 1024) 1024) ((j + 1 + 1 : Nat) : Int) (f (j + 1)) 1 (1 + ((j + 1 : Nat) : Int)) 0 .nilIface false w') →
            (e = .returned (.int .i32 (f (j + 1))) ∧ Below B w w' ∧ St B b rb sb fb m cap f l ea (j + 1) w') := fun e w' k => ⟨k.1, k.2.1, Or.inl ⟨hm, hc, k.2.2⟩⟩
        by_cases h96 : f (j + 1) = 96
        · exact (rune_ascii1 h hp hr1 hr2 (Lib.hid hcw) (by omega) (by omega) (by omega) (by omega) rfl (by omega) hc (by simp; omega) (by simp; omega) (by simp; omega)).mono fin
        · exact (rune_ascii0 h hp hr1 hr2 (Lib.hid hcw) (by omega) (by omega) (by omega) (by omega) rfl (by omega) hc (by simp; omega) (by simp; omega) (by simp; omega)).mono fin
      · have d4 := decodeGo_two (tailOf f (j + 1) (min m 1024 - (j + 1)))
        have hc' : (f (j + 1) < 128) = False := by simpa using hc
        have e : Rn f m (j + 1) = if (decAt f m (j + 1)).1 = 65533 ∧ (decAt f m (j + 1)).2 = 1 then 1114112 else ((decAt f m (j + 1)).1 : Int) := by
          unfold Rn
          rw [if_neg (by omega), if_neg hc]
        by_cases hd1 : (decAt f m (j + 1)).1 = 65533
        · by_cases hd2 : (decAt f m (j + 1)).2 = 1
          · rw [if_pos ⟨hd1, hd2⟩] at e
            exact (rune_wide_c h hT (Lib.hid hF) hp (Lib.hid rfl) (by omega) hr1 hr2 (Lib.hid hcw) (by omega) (by omega) (by omega) (by omega) rfl hc' (Lib.hid ⟨by show ((decAt f m (j + 1)).1 : Int) = 65533; omega, by show ((decAt f m (j + 1)).2 : Int) = 1; omega⟩) (by omega)).mono
              fun e' w' k => wide_at hc k.1 e.symm k.2
          · rw [if_neg (fun k => hd2 k.2)] at e
            exact (rune_wide_b h hT (Lib.hid hF) hp (Lib.hid rfl) (by omega) hr1 hr2 (Lib.hid hcw) (by omega) (by omega) (by omega) (by omega) rfl hc' (d2 := ((decAt f m (j + 1)).2 : Int)) (Lib.hid ⟨by show ((decAt f m (j + 1)).1 : Int) = 65533; omega, rfl⟩) (by simp; omega) (by show ((decAt f m (j + 1)).2 : Int) ≤ 4; unfold decAt; omega) (by omega)).mono
              fun e' w' k => wide_at hc k.1 (by rw [e, hd1]; rfl) k.2
        · rw [if_neg (fun k => hd1 k.1)] at e
          exact (rune_wide_a h hT (Lib.hid hF) hp hr1 hr2 (Lib.hid hcw) (by omega) (by omega) (by omega) (by omega) rfl hc' (d1 := ((decAt f m (j + 1)).1 : Int)) (d2 := ((decAt f m (j + 1)).2 : Int)) (Lib.hid ⟨rfl, rfl⟩) (by simp; omega) (by unfold decAt; omega) (by omega)).mono
            fun e' w' k => wide_at hc k.1 e.symm k.2
    · have hmj : m = j + 1 := by omega
      have hmin : min m 1024 = m := by omega
      rw [hmin] at h
      have e : Rn f m (j + 1) = 1114112 := by unfold Rn; rw [if_pos (by omega)]
      rw [e]
      have h' : Lx B b rb sb fb m cap f l ea m m (.slice (some ⟨b, 39, none⟩) m 1024) (m : Int) (f j) 1 (1 + j) 0 .nilIface false w := by
        have : ((j + 1 : Nat) : Int) = (m : Int) := by omega
        rw [this] at h; exact h
      refine (rune_eof h' (by omega) hr1 hr2 (by simp; omega) (Lib.hid (by omega)) (by omega) (by omega) (by omega) (by omega)).mono ?_
      rintro e' w' ⟨k1, k2, k3⟩
      refine ⟨k1, k2, Or.inr ⟨Or.inl (by omega), ?_⟩⟩
      rw [e]
      have : ((j + 1 : Nat) : Int) = (m : Int) := by omega
      rw [this]
      exact k3
  · omega

/-- rune, the first call. -/
theorem rune_start (h : Lx B b rb sb fb m cap f l ea 0 0 (.slice none 0 0) 0 0 0 1 0 .nilIface false w) (hT : Lib.Utf8Tabs 1 2 w) (hF : ∀ j, j < m → 0 ≤ f j ∧ f j < 256)
    (h0 : 0 < m → f 0 ≠ 0 ∧ f 0 ≠ 13 ∧ f 0 ≠ 92) :
    Calls Tryf.prog 43 #[.pointer (some ⟨b, 0, none⟩)] w fun e w' => e = .returned (.int .i32 (Rn f m 0)) ∧ Below B w w' ∧ St B b rb sb fb m cap f l ea 0 w' := by
  by_cases hm : 0 < m
  · have hp : 0 < min m 1024 := by omega
    obtain ⟨g0, g1, g2⟩ := h0 hm
    have hv := hF 0 hm
    by_cases hc : f 0 < 128
    · have e : Rn f m 0 = f 0 := Rn_ascii hm hc
      rw [e]
      have fin : ∀ (e : Ending) (w' : World), (e = .returned (.int .i32 (f 0)) ∧ Below B w w' ∧ Lx B b rb sb fb m cap f l ea (min m 1024) (min m 1024) (.slice (some ⟨b, 39, none⟩) (min m 1024) 1024) 1 (f 0) 1 1 0 .nilIface false w') →
          (e = .returned (.int .i32 (f 0)) ∧ Below B w w' ∧ St B b rb sb fb m cap f l ea 0 w') := fun e w' k => ⟨k.1, k.2.1, Or.inl ⟨hm, hc, by have := k.2.2; simpa using this⟩⟩
      by_cases h96 : f 0 = 96
      · exact (rune_first1 h (Lib.hid rfl) hm (Lib.hid rfl) (by omega) hc (by simp; omega) (by simp; omega) (by simp; omega)).mono fin
      · exact (rune_first0 h (Lib.hid rfl) hm (Lib.hid rfl) (by omega) hc (by simp; omega) (by simp; omega) (by simp; omega)).mono fin
    · have d4 := decodeGo_two (tailOf f 0 (min m 1024 - 0))
      have hc' : (f 0 < 128) = False := by simpa using hc
      have e : Rn f m 0 = if (decAt f m 0).1 = 65533 ∧ (decAt f m 0).2 = 1 then 1114112 else ((decAt f m 0).1 : Int) := by
        unfold Rn
        rw [if_neg (by omega), if_neg hc]
      by_cases hd1 : (decAt f m 0).1 = 65533
      · by_cases hd2 : (decAt f m 0).2 = 1
        · rw [if_pos ⟨hd1, hd2⟩] at e
          exact (rune_first_wide_c h hT (Lib.hid hF) (Lib.hid rfl) hm (Lib.hid rfl) hp rfl hc' (Lib.hid ⟨by show ((decAt f m 0).1 : Int) = 65533; omega, by show ((decAt f m 0).2 : Int) = 1; omega⟩)).mono
            fun e' w' k => wide_at hc k.1 e.symm k.2
        · rw [if_neg (fun k => hd2 k.2)] at e
          exact (rune_first_wide_b h hT (Lib.hid hF) (Lib.hid rfl) hm (Lib.hid rfl) hp rfl hc' (d2 := ((decAt f m 0).2 : Int)) (Lib.hid ⟨by show ((decAt f m 0).1 : Int) = 65533; omega, rfl⟩) (by simp; omega) (by unfold decAt; omega) (by omega)).mono
            fun e' w' k => wide_at hc k.1 (by rw [e, hd1]; rfl) k.2
      · rw [if_neg (fun k => hd1 k.1)] at e
        exact (rune_first_wide_a h hT (Lib.hid hF) (Lib.hid rfl) hm (Lib.hid rfl) hp rfl hc' (d1 := ((decAt f m 0).1 : Int)) (d2 := ((decAt f m 0).2 : Int)) (Lib.hid ⟨rfl, rfl⟩) (by simp; omega) (by unfold decAt; omega) (by omega)).mono
          fun e' w' k => wide_at hc k.1 e.symm k.2
  · have hm0 : m = 0 := by omega
    have e : Rn f m 0 = 1114112 := by unfold Rn; rw [if_pos (by omega)]
    rw [e]
    subst hm0
    refine (rune_eof (k := 0) h (by omega) (by simp) (by simp) (by simp) (Lib.hid (by simp)) (by omega) (by omega) (by omega) (by omega)).mono ?_
    rintro e' w' ⟨k1, k2, k3⟩
    exact ⟨k1, k2, Or.inr ⟨Or.inl (by omega), by rw [e]; exact k3⟩⟩
end
end Go.Proofs.YtgcjaijakbejjaaFmt

/- The lookahead's small laws, and rune's contract as the token functions use it. Conditions: those of rune's contract. -/
namespace Go.Proofs.YtgcjaijakbejjaaFmt
open Go.RowKit

theorem decode_wide (s : ByteArray) (h : 128 ≤ (s.get! 0).toNat) : 128 ≤ (Utf8.decode s 0).1 := by
  unfold Utf8.decode
  dsimp only
  simp only [Nat.add_zero]
  rw [if_neg (by omega)]
  repeat' split
  all_goals first | (simp only [Utf8.runeError]; omega) | (simp only; omega) | (rename_i h9; simp only [Bool.and_eq_true, decide_eq_true_eq, ge_iff_le] at h9; simp only; omega)

theorem Rn_wide {f : Nat → Int} {m j : Nat} (hF : ∀ j, j < m → 0 ≤ f j ∧ f j < 256) (h : m ≤ j ∨ 128 ≤ f j) (hj : j < 1024) : 128 ≤ Rn f m j := by
  unfold Rn
  by_cases hm : m ≤ j
  · rw [if_pos hm]; omega
  · have h8 : 128 ≤ f j := by omega
    have hv := hF j (by omega)
    rw [if_neg hm, if_neg (by omega)]
    split
    · omega
    · unfold decAt Lib.decodeGo
      rw [tailOf_size, if_neg (by omega)]
      have hg := tailOf_get f j (min m 1024 - j) 0 (by omega) hv.1 hv.2
      rw [Nat.add_zero] at hg
      have := decode_wide (tailOf f j (min m 1024 - j)) (by omega)
      omega

theorem Rn_is {f : Nat → Int} {m j : Nat} {c : Int} (hF : ∀ j, j < m → 0 ≤ f j ∧ f j < 256) (hj : j < 1024) (h : Rn f m j = c) (hc : c < 128) : j < m ∧ f j = c := by
  by_cases hw : m ≤ j ∨ 128 ≤ f j
  · have := Rn_wide hF hw hj; omega
  · have h1 : j < m := by omega
    have h2 : f j < 128 := by omega
    rw [Rn_ascii h1 h2] at h
    exact ⟨h1, h⟩

/-- The first six bytes hold no NUL, CR or backslash. -/
def Clean (f : Nat → Int) (m : Nat) : Prop := ∀ j, j < m → j < 6 → f j ≠ 0 ∧ f j ≠ 13 ∧ f j ≠ 92

/-- What the token functions hold of the parser at place j. -/
structure Tk (B b rb sb fb m cap : Nat) (f : Nat → Int) (l : Int) (ea : Addr) (w0 : World) (j : Nat) (w : World) : Prop where
  below : Below B w0 w
  st : St B b rb sb fb m cap f l ea j w
structure Src0 (B m : Nat) (f : Nat → Int) (w0 : World) : Prop where
  hB : 3 ≤ B
  tabs : Lib.Utf8Tabs 1 2 w0
  byte : ∀ j, j < m → 0 ≤ f j ∧ f j < 256
  clean : Clean f m

theorem Tk.next {B b rb sb fb m cap : Nat} {f : Nat → Int} {l : Int} {ea : Addr} {w0 : World} {j : Nat} {w W : World} (h : Tk B b rb sb fb m cap f l ea w0 j w) (h0 : Src0 B m f w0) (c : Int) (hc : Rn f m j = c) (hc' : c < 128) (hc'' : c ≠ 10) (h4 : j ≤ 4) (hW : W = w) :
    Calls Tryf.prog 43 #[.pointer (some ⟨b, 0, none⟩)] W fun e w' => e = .returned (.int .i32 (Rn f m (j + 1))) ∧ Tk B b rb sb fb m cap f l ea w0 (j + 1) w' := by
  subst hW
  have hr := Rn_is h0.byte (by omega) hc hc'
  refine (rune_next h.st (tabs_below h0.hB h0.tabs h.below) h0.byte hr.1 (by omega) (by omega) h4 (fun h => h0.clean (j + 1) h (by omega))).mono ?_
  rintro e w' ⟨h1, h2, h3⟩
  exact ⟨h1, h.below.trans h2, h3⟩
end Go.Proofs.YtgcjaijakbejjaaFmt

/- What dqToken does by rune's contract. Conditions: rune's. -/
namespace Go.Proofs.YtgcjaijakbejjaaFmt
open Go.RowKit

/-- 'l.in(x)'. -/
def inL (l x : Int) : Bool := bits .and .i64 l x == l

set_option maxHeartbeats 400000 in
theorem in_any (l x : Int) (w W : World) (hW : W = w) : Calls Tryf.prog 70 #[.int .i64 l, .int .i64 x] W fun e w' => e = .returned (.bool (inL l x)) ∧ w' = w := by
  subst hW
  unfold inL
  go_enter Tryf.func70, Tryf.ntmps70
  go_wp2
  go_ret
  exact ⟨rfl, rfl⟩

theorem Tk.nextB {B b rb sb fb m cap : Nat} {f : Nat → Int} {l : Int} {ea : Addr} {w0 : World} {j : Nat} {w W : World} (h : Tk B b rb sb fb m cap f l ea w0 j w) (h0 : Src0 B m f w0) (c : Int) (hc : (Rn f m j == c) = true) (hc' : c < 128) (hc'' : c ≠ 10) (h4 : j ≤ 4) (hW : W = w) :
    Calls Tryf.prog 43 #[.pointer (some ⟨b, 0, none⟩)] W fun e w' => e = .returned (.int .i32 (Rn f m (j + 1))) ∧ Tk B b rb sb fb m cap f l ea w0 (j + 1) w' := h.next h0 c (by simpa using hc) hc' hc'' h4 hW

theorem Tk.c17 {B b rb sb fb m cap : Nat} {f : Nat → Int} {l : Int} {ea : Addr} {w0 : World} {j : Nat} {w : World} (h : Tk B b rb sb fb m cap f l ea w0 j w) (h0 : Src0 B m f w0) (c : Int) (hc : Rn f m j = c) (hc' : c < 128) (hj : j < 1024) :
    w.cell? ⟨b, 17, none⟩ = some (.int .u32 1) := by
  have hr := Rn_is h0.byte hj hc hc'
  rcases h.st with ⟨_, _, h⟩ | ⟨h1, _⟩
  · exact h.c17
  · omega

/-- What dqToken answers. -/
def dqF (R : Nat → Int) (l : Int) : Int × Nat :=
  if R 0 == 34 then (8, 1) else if R 0 == 96 then (9, 0) else
  if R 1 == 123 then (20, 2) else if R 1 == 91 then (if inL l 9 then (21, 2) else (17, 1)) else if R 1 == 40 then (if R 2 == 40 then (23, 3) else (22, 2)) else (17, 1)

set_option maxHeartbeats 2000000 in
set_option maxRecDepth 100000 in
theorem dqToken_any {B b rb sb fb m cap : Nat} {f : Nat → Int} {l : Int} {ea : Addr} {w0 w : World} (h0 : Hid (Src0 B m f w0)) (h : Hid (Tk B b rb sb fb m cap f l ea w0 0 w)) (hs : Rn f m 0 = 34 ∨ Rn f m 0 = 96 ∨ Rn f m 0 = 36) :
    Calls Tryf.prog 45 #[.pointer (some ⟨b, 0, none⟩), .int .i32 (Rn f m 0)] w fun e w' => ∃ tok k, e = .returned (.int .u32 tok) ∧ Tk B b rb sb fb m cap f l ea w0 k w' ∧ Hid (dqF (Rn f m) l = (tok, k)) := by
  have c20 := h.out.st.c20
  rcases hs with hs | hs | hs
  · have hb : (Rn f m 0 == 34) = true := by simp [hs]
    rw [hs]
    go_enter Tryf.func45, Tryf.ntmps45
    go_wp2_with (first
      | (go_at_call 43; refine Calls.mono (h.out.nextB h0.out _ hb (by omega) (by omega) (by omega) rfl) ?_; rintro e w1 ⟨rfl, h1⟩; have H1 := Lib.hid h1; clear h1))
    go_ret
    exact ⟨_, _, rfl, H1.out, Lib.hid (by simp [dqF, hs])⟩
  · rw [hs]
    go_enter Tryf.func45, Tryf.ntmps45
    go_wp2
    go_ret
    exact ⟨_, _, rfl, h.out, Lib.hid (by simp [dqF, hs])⟩
  · have hb : (Rn f m 0 == 36) = true := by simp [hs]
    rw [hs]
    go_enter Tryf.func45, Tryf.ntmps45
    go_wp2_with (first
      | (go_at_call 43; first
          | (refine Calls.mono (H2.out.nextB h0.out _ (by assumption) (by omega) (by omega) (by omega) rfl) ?_; rintro e w3 ⟨rfl, h3⟩; have H3 := Lib.hid h3; clear h3)
          | (refine Calls.mono (H1.out.nextB h0.out _ (by assumption) (by omega) (by omega) (by omega) rfl) ?_; rintro e w2 ⟨rfl, h2⟩; have H2 := Lib.hid h2; clear c20; have c20 := h2.st.c20; clear h2)
          | (refine Calls.mono (h.out.nextB h0.out _ hb (by omega) (by omega) (by omega) rfl) ?_; rintro e w1 ⟨rfl, h1⟩; have H1 := Lib.hid h1; clear c20; have c20 := h1.st.c20; clear h1))
      | (go_at_call 70; refine Calls.mono (in_any _ _ _ _ rfl) ?_; rintro e w9 ⟨rfl, rfl⟩))
    all_goals
      go_ret
      first
        | exact ⟨_, _, rfl, H3.out, Lib.hid (by simp_all [dqF])⟩
        | exact ⟨_, _, rfl, H2.out, Lib.hid (by simp_all [dqF])⟩
        | exact ⟨_, _, rfl, H1.out, Lib.hid (by simp_all [dqF])⟩
end Go.Proofs.YtgcjaijakbejjaaFmt

/- What the maker of a lexer gives: a parser at its begin over the given bytes. Conditions: the bytes' cells; a named dialect. -/
namespace Go.Proofs.YtgcjaijakbejjaaFmt
open Go.RowKit

noncomputable def pc0 : Option (Array Value) := Tryf.prog.built 80 [(19, .int .i64 1)]
noncomputable def pc : Array Value := pc0.getD #[]
theorem pc0_some : pc0.isSome = true := by kernel_rfl
theorem pc0_eq : Tryf.prog.built 80 [(19, .int .i64 1)] = some pc := by
  have := pc0_some
  unfold pc
  cases h : pc0 with
  | none => rw [h] at this; cases this
  | some c => exact h
theorem pc_size : pc.size = 2088 := by kernel_rfl
def pcHead : List Value := [.nilIface, .slice none 0 0, .int .u64 0, .int .i32 0, .int .i64 0, .pointer none, .bool false, .nilIface, .nilIface, .bool false, .int .u32 0, .string ⟨#[]⟩, .int .i64 0, .int .i64 0, .int .i64 0, .int .u32 0, .int .u32 0, .int .u32 0, .int .i64 0, .bool false, .int .i64 1,
  .slice none 0 0, .int .i64 0, .int .i64 0, .bool false, .int .i64 0, .slice none 0 0, .slice none 0 0, .bool false, .int .i64 0, .int .i64 0, .int .i64 0, .int .i64 0, .int .i64 0, .bool false, .slice none 0 0, .pointer none, .slice none 0 0, .slice none 0 0]
theorem pc_head : pc.toList.take 39 = pcHead := by kernel_rfl
theorem pc_last : pc.toList.drop 2087 = [.slice none 0 0] := by kernel_rfl
theorem pc_at (k : Nat) (hk : k < 39) : pc[k]? = pcHead[k]? := by
  rw [← pc_head, List.getElem?_take_of_lt hk, Array.getElem?_toList]
theorem pc_2087 : pc[2087]? = some (.slice none 0 0) := by
  have : (pc.toList.drop 2087)[0]? = some (Value.slice none 0 0) := by rw [pc_last]; rfl
  rw [List.getElem?_drop, Array.getElem?_toList] at this
  exact this
theorem build80 (w : World) : (Instr.build 80 #[(19, .int .i64 1)]).run Tryf.prog w = .ok (.agg pc) w := run_build w 80 _ pc pc0_eq
set_option maxRecDepth 10000 in
theorem wp_build80 {o : Oper} {a : Act} {w : World} {K : Act → World → Prop} {Q : Exit → Act → World → Prop} (ho : o.op = .build 80 #[(19, .const (.int .i64 1))]) (h : K (a.put o.dst (.agg pc)) w) : o.wp Tryf.prog a w K Q := by
  refine wp_build 80 _ ho ?_ ?_
  · simp only [List.map_toArray, List.map_cons, List.map_nil, Act.eval]
    simp only [pc0_eq, Option.isSome_some]
  · simp only [List.map_toArray, List.map_cons, List.map_nil, Act.eval]
    simp only [pc0_eq, Option.getD_some]
    exact h

/-- A loop that goes round at most twice. -/
theorem wp_loop_twice {P : Program} {c : Code} {Q : Exit → Act → World → Prop} {a : Act} {w : World}
    (h : c.wp P (Exit.then (fun a' w' => c.wp P (Exit.then (fun _ _ => False) Q) a' w') Q) a w) : (Code.loop c).wp P Q a w := by
  classical
  refine wp_loop (fun a' w' => (a' = a ∧ w' = w) ∨ c.wp P (Exit.then (fun _ _ => False) Q) a' w') (fun a' w' => if c.wp P (Exit.then (fun _ _ => False) Q) a' w' then 0 else 1) (Or.inl ⟨rfl, rfl⟩) fun a' w' hI => ?_
  by_cases g : c.wp P (Exit.then (fun _ _ => False) Q) a' w'
  · exact Code.wp_mono (fun e a w q => by cases e <;> first | exact q | exact q.elim) g
  · rcases hI with ⟨rfl, rfl⟩ | k
    · exact Code.wp_mono (fun e a w q => by cases e <;> first | exact q | (refine ⟨Or.inr q, ?_⟩; show (if _ then 0 else 1) < (if _ then 0 else 1); rw [if_pos (show Code.wp P c (Exit.then (fun _ _ => False) Q) _ _ from q), if_neg g]; exact Nat.zero_lt_one)) h
    · exact absurd k g

set_option maxHeartbeats 1000000 in
set_option maxRecDepth 100000 in
theorem newParser_any (a q : Nat) (l : Int) (w : World) (ha : w.cell? ⟨a, 0, none⟩ = some (.func (.func 61) #[] #[.pointer (some ⟨q, 0, none⟩)])) (hq : w.cell? ⟨q, 0, none⟩ = some (.int .i64 l)) :
    Calls Tryf.prog 39 #[.slice (some ⟨a, 0, none⟩) 1 1] w fun e w' => e = .returned (.pointer (some ⟨w.heap.size, 0, none⟩)) ∧ w' = (w.alloc (.cells pc 80)).setCell ⟨w.heap.size, 20, none⟩ (.int .i64 l) := by
  go_enter Tryf.func39, Tryf.ntmps39
  go_wp2
  refine wp_build80 rfl ?_
  go_wp2
  have ha2 : (w.alloc (.cells pc 80)).cell? ⟨a, 0, none⟩ = some (.func (.func 61) #[] #[.pointer (some ⟨q, 0, none⟩)]) := (World.cell?_alloc_lt w _ (a := ⟨a, 0, none⟩) (World.block_lt_of_cell? _ _ ha)).trans ha
  have hq2 : (w.alloc (.cells pc 80)).cell? ⟨q, 0, none⟩ = some (.int .i64 l) := (World.cell?_alloc_lt w _ (a := ⟨q, 0, none⟩) (World.block_lt_of_cell? _ _ hq)).trans hq
  have hp2 : (w.alloc (.cells pc 80)).cell? ⟨w.heap.size, 20, none⟩ = some (.int .i64 1) := by
    rw [World.cell?_alloc_new]; exact pc_at 20 (by omega)
  obtain ⟨W, hW⟩ : ∃ W, W = w.alloc (.cells pc 80) := ⟨_, rfl⟩
  rw [← hW] at ha2 hq2 hp2 ⊢
  have hf2 : W.frozen? ⟨w.heap.size, 20, none⟩ = false := by rw [hW]; exact World.frozen?_alloc_new w pc 80 20
  have HW := Lib.hid hW
  clear hW ha hq
  refine wp_loop_twice ?_
  go_wp2
  go_ret
  exact ⟨rfl, by rw [HW.out]⟩
end Go.Proofs.YtgcjaijakbejjaaFmt

/- What reset leaves of a fresh parser. Conditions: the parser's cells as its maker lays them. -/
namespace Go.Proofs.YtgcjaijakbejjaaFmt
open Go.RowKit

theorem Chg.drew {B b : Nat} {S : Nat → Prop} {w w' : World} (h : Chg B b S w w') : Chg B b S w w'.drew := h.drewN 1
def ResS (k : Nat) : Prop := (k < 39 ∧ k ≠ 0 ∧ k ≠ 5 ∧ k ≠ 20 ∧ k ≠ 32) ∨ k = 2087
/-- A parser as reset leaves it. -/
structure Began (b : Nat) (w : World) : Prop where
  c1 : w.cell? ⟨b, 1, none⟩ = some (.slice none 0 0)
  c2 : w.cell? ⟨b, 2, none⟩ = some (.int .u64 0)
  c3 : w.cell? ⟨b, 3, none⟩ = some (.int .i32 0)
  c4 : w.cell? ⟨b, 4, none⟩ = some (.int .i64 0)
  c7 : w.cell? ⟨b, 7, none⟩ = some .nilIface
  c8 : w.cell? ⟨b, 8, none⟩ = some .nilIface
  c9 : w.cell? ⟨b, 9, none⟩ = some (.bool false)
  c10 : w.cell? ⟨b, 10, none⟩ = some (.int .u32 0)
  c12 : w.cell? ⟨b, 12, none⟩ = some (.int .i64 0)
  c13 : w.cell? ⟨b, 13, none⟩ = some (.int .i64 1)
  c14 : w.cell? ⟨b, 14, none⟩ = some (.int .i64 1)
  c17 : w.cell? ⟨b, 17, none⟩ = some (.int .u32 1)
  c29 : w.cell? ⟨b, 29, none⟩ = some (.int .i64 0)
  c30 : w.cell? ⟨b, 30, none⟩ = some (.int .i64 0)
  c31 : w.cell? ⟨b, 31, none⟩ = some (.int .i64 0)
  c2087 : w.cell? ⟨b, 2087, none⟩ = some (.slice none 0 0)

set_option maxHeartbeats 1000000 in
set_option maxRecDepth 100000 in
theorem reset_any (B b : Nat) (w : World) (hB : B ≤ b) (c1 : w.cell? ⟨b, 1, none⟩ = some (.slice none 0 0)) (c2 : w.cell? ⟨b, 2, none⟩ = some (.int .u64 0)) (c3 : w.cell? ⟨b, 3, none⟩ = some (.int .i32 0)) (c4 : w.cell? ⟨b, 4, none⟩ = some (.int .i64 0))
    (c7 : w.cell? ⟨b, 7, none⟩ = some .nilIface) (c8 : w.cell? ⟨b, 8, none⟩ = some .nilIface) (c9 : w.cell? ⟨b, 9, none⟩ = some (.bool false)) (c10 : w.cell? ⟨b, 10, none⟩ = some (.int .u32 0)) (c11 : w.cell? ⟨b, 11, none⟩ = some (.string ⟨#[]⟩))
    (c12 : w.cell? ⟨b, 12, none⟩ = some (.int .i64 0)) (c13 : w.cell? ⟨b, 13, none⟩ = some (.int .i64 0)) (c14 : w.cell? ⟨b, 14, none⟩ = some (.int .i64 0)) (c17 : w.cell? ⟨b, 17, none⟩ = some (.int .u32 0)) (c18 : w.cell? ⟨b, 18, none⟩ = some (.int .i64 0))
    (c22 : w.cell? ⟨b, 22, none⟩ = some (.int .i64 0)) (c24 : w.cell? ⟨b, 24, none⟩ = some (.bool false)) (c25 : w.cell? ⟨b, 25, none⟩ = some (.int .i64 0)) (c26 : w.cell? ⟨b, 26, none⟩ = some (.slice none 0 0)) (c27 : w.cell? ⟨b, 27, none⟩ = some (.slice none 0 0)) (c28 : w.cell? ⟨b, 28, none⟩ = some (.bool false))
    (c29 : w.cell? ⟨b, 29, none⟩ = some (.int .i64 0)) (c30 : w.cell? ⟨b, 30, none⟩ = some (.int .i64 0)) (c31 : w.cell? ⟨b, 31, none⟩ = some (.int .i64 0)) (c35 : w.cell? ⟨b, 35, none⟩ = some (.slice none 0 0)) (c36 : w.cell? ⟨b, 36, none⟩ = some (.pointer none)) (c37 : w.cell? ⟨b, 37, none⟩ = some (.slice none 0 0)) (c38 : w.cell? ⟨b, 38, none⟩ = some (.slice none 0 0)) (c2087 : w.cell? ⟨b, 2087, none⟩ = some (.slice none 0 0))
    (hf : ∀ k, w.frozen? ⟨b, k, none⟩ = false) :
    Calls Tryf.prog 41 #[.pointer (some ⟨b, 0, none⟩)] w fun e w' => e = .returned (.tuple #[]) ∧ Chg B b ResS w w' ∧ Began b w' := by
  have f1 := hf 1; have f2 := hf 2; have f3 := hf 3; have f4 := hf 4; have f7 := hf 7; have f8 := hf 8; have f9 := hf 9; have f10 := hf 10; have f11 := hf 11; have f12 := hf 12; have f13 := hf 13; have f14 := hf 14; have f17 := hf 17; have f18 := hf 18
  have f22 := hf 22; have f24 := hf 24; have f25 := hf 25; have f26 := hf 26; have f27 := hf 27; have f28 := hf 28; have f29 := hf 29; have f30 := hf 30; have f31 := hf 31; have f35 := hf 35; have f36 := hf 36; have f37 := hf 37; have f38 := hf 38; have f2087 := hf 2087
  clear hf
  go_enter Tryf.func41, Tryf.ntmps41
  go_wp2
  go_region
  go_wp2
  go_end0
  refine ⟨rfl, ?_, ?_⟩
  · repeat (first | with_reducible exact Chg.refl _ _ _ _ | with_reducible refine Chg.drew ?_ | (with_reducible refine Chg.set ?_ hB _ ?_ _; rotate_left; simp [ResS]))
  · constructor <;> go_simp
end Go.Proofs.YtgcjaijakbejjaaFmt

/- What the maker of a lexer gives: a parser at its begin over the given bytes. Conditions: the bytes' cells; a named dialect; io.EOF as laid. -/
namespace Go.Proofs.YtgcjaijakbejjaaFmt
open Go.RowKit

set_option maxHeartbeats 1000000 in
theorem variant_any (l : Int) (w : World) (hl : l = 1 ∨ l = 2 ∨ l = 4 ∨ l = 8 ∨ l = 16) :
    Calls Tryf.prog 40 #[.int .i64 l] w fun e w' => e = .returned (.func (.func 61) #[] #[.pointer (some ⟨w.heap.size, 0, none⟩)]) ∧ w' = w.alloc (.cells #[.int .i64 l] 43) := by
  rcases hl with rfl | rfl | rfl | rfl | rfl
  all_goals
    go_enter Tryf.func40, Tryf.ntmps40
    go_wp2
    go_ret
    exact ⟨rfl, rfl⟩

/-- A parser as NewParser makes it. -/
structure Made (b : Nat) (l : Int) (w : World) : Prop where
  at_ : ∀ k, k < 39 → k ≠ 20 → w.cell? ⟨b, k, none⟩ = pcHead[k]?
  c20 : w.cell? ⟨b, 20, none⟩ = some (.int .i64 l)
  c2087 : w.cell? ⟨b, 2087, none⟩ = some (.slice none 0 0)
  buf : Buf w b
  free : Free w b

theorem made_any (a q : Nat) (l : Int) (w : World) (ha : w.cell? ⟨a, 0, none⟩ = some (.func (.func 61) #[] #[.pointer (some ⟨q, 0, none⟩)])) (hq : w.cell? ⟨q, 0, none⟩ = some (.int .i64 l)) (b : Nat) (hb : w.heap.size = b) :
    Calls Tryf.prog 39 #[.slice (some ⟨a, 0, none⟩) 1 1] w fun e w' => e = .returned (.pointer (some ⟨b, 0, none⟩)) ∧ Below b w w' ∧ Made b l w' ∧ w'.heap.size = b + 1 := by
  subst hb
  refine (newParser_any a q l w ha hq).mono ?_
  rintro e w' ⟨h1, rfl⟩
  have hk : ∀ k, k ≠ 20 → ((w.alloc (.cells pc 80)).setCell ⟨w.heap.size, 20, none⟩ (.int .i64 l)).cell? ⟨w.heap.size, k, none⟩ = pc[k]? := fun k hk => (cs_ne _ _ _ _ _ (Ne.symm hk)).trans (World.cell?_alloc_new w pc 80 k)
  refine ⟨h1, ((Below.refl _ w).alloc (Nat.le_refl _) _).setCell (p := ⟨w.heap.size, 20, none⟩) (Nat.le_refl _) _, ⟨fun k h h2 => (hk k h2).trans (pc_at k h), ?_, (hk _ (by omega)).trans pc_2087, fun j hj => ?_, fun k => ?_⟩, ?_⟩
  · exact cs_eq _ _ _ _ (.int .i64 1) ((World.cell?_alloc_new w pc 80 20).trans (pc_at 20 (by omega)))
  · rw [hk _ (by omega)]
    rw [Array.getElem?_eq_getElem (by rw [pc_size]; omega)]; rfl
  · exact (World.frozen?_setCell _ _ _ _).trans (World.frozen?_alloc_new w pc 80 k)
  · simp [World.setCell]

theorem begun_any (B b : Nat) (l : Int) (w : World) (hB : B ≤ b) (h : Made b l w) :
    Calls Tryf.prog 41 #[.pointer (some ⟨b, 0, none⟩)] w fun e w' => e = .returned (.tuple #[]) ∧ Chg B b ResS w w' ∧ Began b w' :=
  reset_any B b w hB (h.at_ 1 (by omega) (by omega)) (h.at_ 2 (by omega) (by omega)) (h.at_ 3 (by omega) (by omega)) (h.at_ 4 (by omega) (by omega)) (h.at_ 7 (by omega) (by omega)) (h.at_ 8 (by omega) (by omega)) (h.at_ 9 (by omega) (by omega)) (h.at_ 10 (by omega) (by omega)) (h.at_ 11 (by omega) (by omega))
    (h.at_ 12 (by omega) (by omega)) (h.at_ 13 (by omega) (by omega)) (h.at_ 14 (by omega) (by omega)) (h.at_ 17 (by omega) (by omega)) (h.at_ 18 (by omega) (by omega)) (h.at_ 22 (by omega) (by omega)) (h.at_ 24 (by omega) (by omega)) (h.at_ 25 (by omega) (by omega)) (h.at_ 26 (by omega) (by omega)) (h.at_ 27 (by omega) (by omega)) (h.at_ 28 (by omega) (by omega))
    (h.at_ 29 (by omega) (by omega)) (h.at_ 30 (by omega) (by omega)) (h.at_ 31 (by omega) (by omega)) (h.at_ 35 (by omega) (by omega)) (h.at_ 36 (by omega) (by omega)) (h.at_ 37 (by omega) (by omega)) (h.at_ 38 (by omega) (by omega)) h.c2087 h.free

set_option maxHeartbeats 1000000 in
theorem newReader_any (v : Value) (a : Option Addr) (m cap : Nat) (hv : v = .slice a m cap) (w : World) (R : Nat) (hR : w.heap.size = R) :
    Calls Tryf.prog 42 #[v] w fun e w' => e = .returned (.pointer (some ⟨R, 0, none⟩)) ∧ w' = w.alloc (.cells #[.slice a m cap, .int .i64 0, .int .i64 (-1)] 100) := by
  subst hv; subst hR
  go_enter Tryf.func42, Tryf.ntmps42
  go_wp2
  go_ret
  exact ⟨rfl, rfl⟩

/-- A fresh lexer over m bytes at block sb. -/
def Fresh (B sb m cap : Nat) (f : Nat → Int) (l : Int) (ea : Addr) (e : Ending) (w : World) : Prop :=
  ∃ b rb fb, e = .returned (.pointer (some ⟨b, 0, none⟩)) ∧ Lx B b rb sb fb m cap f l ea 0 0 (.slice none 0 0) 0 0 0 1 0 .nilIface false w

theorem lexer_end {B sb m cap : Nat} {f : Nat → Int} {l : Int} {ea : Addr} {w w1 w2 w3 : World} {o1 o2 : Obj} (hB : 3 ≤ B) (hB' : B ≤ sb) (hsb : sb < w.heap.size) (hm : m ≤ 1048576) (hm' : m ≤ cap) (hsrc : Src w sb m f) (heof : w.cell? ⟨0, 0, none⟩ = some (.iface 133 (.pointer (some ea))))
    (h1 : w1 = (w.alloc o1).alloc o2) (hb2 : Below (w.heap.size + 2) w1 w2) (hm2 : Made (w.heap.size + 2) l w2) (hs2 : w2.heap.size = w.heap.size + 2 + 1) (hc3 : Chg (w.heap.size + 2) (w.heap.size + 2) ResS w2 w3) (hg3 : Began (w.heap.size + 2) w3) :
    ∀ X, X = ((((w3.setCell ⟨w.heap.size + 2, 5, none⟩ (.pointer (some ⟨w3.heap.size, 0, none⟩))).setCell ⟨w.heap.size + 2, 0, none⟩ (.iface 81 (.pointer (some ⟨w3.heap.size + 1, 0, none⟩)))).alloc (.cells #[.string ⟨#[]⟩, .slice none 0 0, .slice none 0 0] 66)).alloc (.cells #[.slice (some ⟨sb, 0, none⟩) m cap, .int .i64 0, .int .i64 (-1)] 100)) →
    Below B w X ∧ Lx B (w.heap.size + 2) (w3.heap.size + 1) sb w3.heap.size m cap f l ea 0 0 (.slice none 0 0) 0 0 0 1 0 .nilIface false X := by
  intro X hX
  have hlt : w.heap.size + 2 < w3.heap.size := by have := hc3.below.size; omega
  have k1 : Below w.heap.size w w1 := by rw [h1]; exact ((Below.refl _ w).alloc (Nat.le_refl _) _).alloc (by simp) _
  have k3 : Below w.heap.size w w3 := (k1.trans (hb2.mono (by omega))).trans (hc3.below.mono (by omega))
  obtain ⟨Y, hY⟩ : ∃ Y, Y = (w3.setCell ⟨w.heap.size + 2, 5, none⟩ (.pointer (some ⟨w3.heap.size, 0, none⟩))).setCell ⟨w.heap.size + 2, 0, none⟩ (.iface 81 (.pointer (some ⟨w3.heap.size + 1, 0, none⟩))) := ⟨_, rfl⟩
  have hYs : Y.heap.size = w3.heap.size := by rw [hY]; simp [World.setCell]
  have k4 : Below w.heap.size w3 Y := by rw [hY]; exact ((Below.refl _ w3).setCell (p := ⟨w.heap.size + 2, 5, none⟩) (by simp) _).setCell (p := ⟨w.heap.size + 2, 0, none⟩) (by simp) _
  rw [← hY] at hX
  have k5 : Below Y.heap.size Y X := by rw [hX]; exact ((Below.refl _ Y).alloc (Nat.le_refl _) _).alloc (by simp) _
  have kX : Below w.heap.size w X := (k3.trans k4).trans (k5.mono (by omega))
  have cX : ∀ q k, q < w3.heap.size → X.cell? ⟨q, k, none⟩ = Y.cell? ⟨q, k, none⟩ := fun q k hq => k5.cell (p := ⟨q, k, none⟩) (by show q < _; omega)
  have fX : ∀ q k, q < w3.heap.size → X.frozen? ⟨q, k, none⟩ = Y.frozen? ⟨q, k, none⟩ := fun q k hq => k5.frozen (p := ⟨q, k, none⟩) (by show q < _; omega)
  have cY : ∀ k, k ≠ 0 → k ≠ 5 → X.cell? ⟨w.heap.size + 2, k, none⟩ = w3.cell? ⟨w.heap.size + 2, k, none⟩ := fun k h0 h5 => by
    rw [cX _ _ hlt, hY, cs_ne _ _ _ _ _ (Ne.symm h0), cs_ne _ _ _ _ _ (Ne.symm h5)]
  have cM : ∀ k, ¬ ResS k → k ≠ 0 → k ≠ 5 → X.cell? ⟨w.heap.size + 2, k, none⟩ = w2.cell? ⟨w.heap.size + 2, k, none⟩ := fun k h h0 h5 => (cY k h0 h5).trans (hc3.cell k h)
  have old : ∀ {p : Addr} {v : Value}, w.cell? p = some v → X.cell? p = some v := fun {p v} hp => (kX.cell (p := p) (World.block_lt_of_cell? w _ hp)).trans hp
  have hr : ∀ k, X.cell? ⟨w3.heap.size + 1, k, none⟩ = (#[.slice (some ⟨sb, 0, none⟩) m cap, .int .i64 0, .int .i64 (-1)] : Array Value)[k]? := fun k => by
    rw [hX]
    exact World.cell?_alloc_at _ _ _ _ (by simp [hYs])
  have hfb : X.cell? ⟨w3.heap.size, 0, none⟩ = some (.string ⟨#[]⟩) := by
    rw [hX, World.cell?_alloc_lt _ _ _ (by simp [hYs])]
    exact World.cell?_alloc_at _ _ _ _ hYs.symm
  have e0 := (hc3.cell 0 (by simp [ResS])).trans (hm2.at_ 0 (by omega) (by omega))
  have e5 := (hc3.cell 5 (by simp [ResS])).trans (hm2.at_ 5 (by omega) (by omega))
  refine ⟨kX.mono (by omega), ⟨by omega, by omega, by omega, by omega, by omega, by omega, by omega, by omega, by omega, by omega, hm, hm'⟩, Nat.zero_le _, Nat.zero_le _, ?_, (cY 1 (by omega) (by omega)).trans hg3.c1, (cY 2 (by omega) (by omega)).trans hg3.c2, (cY 3 (by omega) (by omega)).trans hg3.c3, (cY 4 (by omega) (by omega)).trans hg3.c4, ?_,
    (cY 7 (by omega) (by omega)).trans hg3.c7, (cY 8 (by omega) (by omega)).trans hg3.c8, (cY 9 (by omega) (by omega)).trans hg3.c9, (cY 10 (by omega) (by omega)).trans hg3.c10, (cY 12 (by omega) (by omega)).trans hg3.c12, (cY 13 (by omega) (by omega)).trans hg3.c13, (cY 14 (by omega) (by omega)).trans hg3.c14, (cY 17 (by omega) (by omega)).trans hg3.c17,
    (cM 20 (by simp [ResS]) (by omega) (by omega)).trans hm2.c20, (cY 29 (by omega) (by omega)).trans hg3.c29, (cY 30 (by omega) (by omega)).trans hg3.c30, (cY 31 (by omega) (by omega)).trans hg3.c31, (cM 32 (by simp [ResS]) (by omega) (by omega)).trans (hm2.at_ 32 (by omega) (by omega)), (cY 2087 (by omega) (by omega)).trans hg3.c2087,
    hr 0, hr 1, hr 2, hfb, old heof, fun j hj => old (hsrc j hj), fun j hj => absurd hj (Nat.not_lt_zero j), fun j hj => ?_, fun k => ?_, fun k => ?_⟩
  · rw [cX _ _ hlt, hY]
    exact cs_eq _ _ _ _ _ ((cs_ne _ _ _ _ _ (by omega)).trans e0)
  · rw [cX _ _ hlt, hY, cs_ne _ _ _ _ _ (by omega)]
    exact cs_eq _ _ _ _ _ e5
  · rw [cM (39 + j) (by unfold ResS; omega) (by omega) (by omega)]
    exact hm2.buf j hj
  · rw [fX _ _ hlt, hY, World.frozen?_setCell, World.frozen?_setCell, hc3.frozen]
    exact hm2.free k
  · rw [hX]
    exact World.frozen?_alloc_at _ _ _ _ (by simp [hYs])

set_option maxHeartbeats 1000000 in
set_option maxRecDepth 100000 in
theorem newLexer_any (B : Nat) (l : Int) (sb m cap : Nat) (f : Nat → Int) (ea : Addr) (w : World) (hl : l = 1 ∨ l = 2 ∨ l = 4 ∨ l = 8 ∨ l = 16) (hB : 3 ≤ B) (hB' : B ≤ sb) (hsb : sb < w.heap.size) (hm : m ≤ 1048576) (hm' : m ≤ cap) (hsrc : Src w sb m f) (heof : w.cell? ⟨0, 0, none⟩ = some (.iface 133 (.pointer (some ea)))) :
    Calls Tryf.prog 26 #[.int .i64 l, .slice (some ⟨sb, 0, none⟩) m cap] w fun e w' => Below B w w' ∧ Fresh B sb m cap f l ea e w' := by
  have HS := Lib.hid hsrc
  have HE := Lib.hid heof
  clear hsrc heof
  go_enter Tryf.func26, Tryf.ntmps26
  go_wp2_with (first
    | (go_at_call 40; refine Calls.mono (variant_any l _ hl) ?_; rintro e w1 ⟨rfl, rfl⟩)
    | (go_at_call 39; refine Calls.mono (made_any (w.heap.size + 1) w.heap.size l _ (by simp) (by simp) (w.heap.size + 2) (by simp)) ?_; rintro e w2 ⟨rfl, hb2, hm2, hs2⟩)
    | (go_at_call 41; refine Calls.mono (begun_any (w.heap.size + 2) _ l _ (Nat.le_refl _) hm2) ?_; rintro e w3 ⟨rfl, hc3, hg3⟩; have e0 := (hc3.cell 0 (by simp [ResS])).trans (hm2.at_ 0 (by omega) (by omega)); have e5 := (hc3.cell 5 (by simp [ResS])).trans (hm2.at_ 5 (by omega) (by omega)); have hlt : w.heap.size + 2 < w3.heap.size := (by have := hc3.below.size; omega); have f0 := (hc3.frozen (w.heap.size + 2) 0).trans (hm2.free 0); have f5 := (hc3.frozen (w.heap.size + 2) 5).trans (hm2.free 5); dsimp only [pcHead, List.getElem?_cons_zero, List.getElem?_cons_succ] at e0 e5)
    | (go_at_call 42; refine Calls.mono (newReader_any _ _ _ _ rfl _ _ rfl) ?_; rintro e w4 ⟨rfl, rfl⟩))
  go_ret
  have h := lexer_end hB hB' hsb hm hm' HS.out HE.out rfl hb2 hm2 hs2 hc3 hg3 _ rfl
  exact ⟨h.1, _, _, _, rfl, h.2⟩
end Go.Proofs.YtgcjaijakbejjaaFmt

/- What zzB1Run gives, by kind. Conditions: the tables of unicode/utf8 and io.EOF as laid; the string's bytes as the laws' premises say. -/
namespace Go.Proofs.YtgcjaijakbejjaaFmt
open Go.RowKit

/-- The string's bytes. -/
def sF (s : ByteArray) (j : Nat) : Int := ((s.data.toList.getD j 0).toNat : Int)
/-- The dialect of an index. -/
def langOf (i : Int) : Int := if i == 0 then 1 else if i == 1 then 2 else if i == 2 then 4 else if i == 3 then 8 else 16

theorem conv_s (s : ByteArray) (w : World) : (convert 9 36 (.string s)).run Tryf.prog w = .ok (.slice (some ⟨w.heap.size, 0, none⟩) s.size (grownCap w s.size 0 5)) (Lib.bytesWorld w 5 s) :=
  Lib.run_convert_string_bytes w 9 36 5 s (u := .string) (by kernel_rfl) Tryf.underlying36 (by kernel_rfl)

set_option maxHeartbeats 400000 in
theorem lang_any (i : Int) (w W : World) (hW : W = w) : Calls Tryf.prog 27 #[.int .i64 i] W fun e w' => e = .returned (.int .i64 (langOf i)) ∧ w' = w := by
  subst hW
  unfold langOf
  go_enter Tryf.func27, Tryf.ntmps27
  go_wp2
  all_goals
    go_ret
    exact ⟨by simp_all, rfl⟩
/-- What the walk of a law holds of the world at its begin. -/
structure Beg (w : World) (ea : Addr) : Prop where
  size : 3 ≤ w.heap.size
  tabs : Lib.Utf8Tabs 1 2 w
  eof : w.cell? ⟨0, 0, none⟩ = some (.iface 133 (.pointer (some ea)))

theorem bytes_below (W : World) (s : ByteArray) : Below W.heap.size W (Lib.bytesWorld W 5 s) :=
  ⟨by rfl, by rfl, by rfl, by rw [Lib.bytesWorld_size]; omega, fun k hk => Lib.bytesWorld_at_old W 5 s k hk⟩

theorem langOf_is (i : Int) : langOf i = 1 ∨ langOf i = 2 ∨ langOf i = 4 ∨ langOf i = 8 ∨ langOf i = 16 := by
  unfold langOf
  repeat' split
  all_goals simp

theorem lexer_at {s : ByteArray} {w W : World} {ea : Addr} {i : Int} (h : Beg w ea) (hs : s.size ≤ 1048576) (hW : Below w.heap.size w W) (n : Nat) (hn : n = W.heap.size) :
    Calls Tryf.prog 26 #[.int .i64 (langOf i), .slice (some ⟨n, 0, none⟩) s.size (grownCap W s.size 0 5)] (Lib.bytesWorld W 5 s) fun e w' => Below w.heap.size w w' ∧ Fresh w.heap.size n s.size (grownCap W s.size 0 5) (sF s) (langOf i) ea e w' := by
  subst hn
  have hlt := hW.size
  have h0 := h.size
  have hb := bytes_below W s
  refine (newLexer_any w.heap.size (langOf i) W.heap.size s.size (grownCap W s.size 0 5) (sF s) ea (Lib.bytesWorld W 5 s) (langOf_is i) h.size hlt (by rw [Lib.bytesWorld_size]; omega) hs (grownCap_ge _ _ _ _)
    (fun j hj => Lib.bytesWorld_cell W 5 s j hj) ((Lib.bytesWorld_old W 5 s ⟨0, 0, none⟩ (by show 0 < _; omega)).trans ((hW.cell (p := ⟨0, 0, none⟩) (by show 0 < _; omega)).trans h.eof))).mono ?_
  rintro e w' ⟨h1, h2⟩
  exact ⟨(hW.trans (hb.mono hlt)).trans h1, h2⟩
end Go.Proofs.YtgcjaijakbejjaaFmt
