/- Proved: contracts of paramToken, arithmToken, regToken by rune's contract. Conditions: as each theorem says. -/
import Derived.Test.YtgcjaijakbejjaaFmtGe
/- What paramToken does by rune's contract. Conditions: rune's. -/
namespace Go.Proofs.YtgcjaijakbejjaaFmt
open Go.RowKit

set_option linter.unusedVariables false
set_option linter.unusedSimpArgs false
def paramF125 (R : Nat → Int) (l : Int) : Int × Nat := (29, 1)
def paramF58 (R : Nat → Int) (l : Int) : Int × Nat := if R 1 == 43 then ((82, 2)) else (if R 1 == 45 then ((84, 2)) else (if R 1 == 63 then ((86, 2)) else (if R 1 == 61 then ((88, 2)) else (if R 1 == 35 then ((93, 2)) else (if R 1 == 124 then ((94, 2)) else (if R 1 == 42 then ((95, 2)) else ((104, 1))))))))
def paramF43 (R : Nat → Int) (l : Int) : Int × Nat := (81, 1)
def paramF45 (R : Nat → Int) (l : Int) : Int × Nat := (83, 1)
def paramF63 (R : Nat → Int) (l : Int) : Int × Nat := (85, 1)
def paramF61 (R : Nat → Int) (l : Int) : Int × Nat := (87, 1)
def paramF37 (R : Nat → Int) (l : Int) : Int × Nat := if R 1 == 37 then ((90, 2)) else ((89, 1))
def paramF35 (R : Nat → Int) (l : Int) : Int × Nat := if R 1 == 35 then ((92, 2)) else ((91, 1))
def paramF33 (R : Nat → Int) (l : Int) : Int × Nat := (39, 1)
def paramF93 (R : Nat → Int) (l : Int) : Int × Nat := (30, 1)
def paramF47 (R : Nat → Int) (l : Int) : Int × Nat := if R 1 == 47 then ((102, 2)) else ((101, 1))
def paramF94 (R : Nat → Int) (l : Int) : Int × Nat := if R 1 == 94 then ((97, 2)) else ((96, 1))
def paramF44 (R : Nat → Int) (l : Int) : Int × Nat := if R 1 == 44 then ((99, 2)) else ((98, 1))
def paramF64 (R : Nat → Int) (l : Int) : Int × Nat := (100, 1)
def paramF42 (R : Nat → Int) (l : Int) : Int × Nat := (43, 1)
/-- What paramToken answers. -/
def paramF (R : Nat → Int) (l : Int) : Int × Nat :=
  if R 0 == 125 then paramF125 R l else if R 0 == 58 then paramF58 R l else if R 0 == 43 then paramF43 R l else if R 0 == 45 then paramF45 R l else if R 0 == 63 then paramF63 R l else if R 0 == 61 then paramF61 R l else if R 0 == 37 then paramF37 R l else if R 0 == 35 then paramF35 R l else if R 0 == 33 then paramF33 R l else if R 0 == 93 then paramF93 R l else if R 0 == 47 then paramF47 R l else if R 0 == 94 then paramF94 R l else if R 0 == 44 then paramF44 R l else if R 0 == 64 then paramF64 R l else if R 0 == 42 then paramF42 R l else if R 0 == 1114112 then (1, 0) else (0, 0)

set_option maxHeartbeats 4000000 in
set_option maxRecDepth 100000 in
theorem paramToken_125 {B b rb sb fb m cap : Nat} {f : Nat → Int} {l : Int} {ea : Addr} {w0 w : World} (h0 : Hid (Src0 B m f w0)) (h : Hid (Tk B b rb sb fb m cap f l ea w0 0 w)) (hs : Rn f m 0 = 125) :
    Calls Tryf.prog 46 #[.pointer (some ⟨b, 0, none⟩), .int .i32 (Rn f m 0)] w fun e w' => ∃ tok k, e = .returned (.int .u32 tok) ∧ Tk B b rb sb fb m cap f l ea w0 k w' ∧ Hid (paramF125 (Rn f m) l = (tok, k)) := by
  have c20 := h.out.st.c20
  have hb : (Rn f m 0 == 125) = true := by simp [hs]
  rw [hs]
  go_enter Tryf.func46, Tryf.ntmps46
  go_wp2_with (first
    | (go_at_call 43; first
        | ((first | refine Calls.mono (h.out.nextB h0.out _ hb (by omega) (by omega) (by omega) rfl) ?_ | refine Calls.mono (h.out.next h0.out _ (by assumption) (by omega) (by omega) (by omega) rfl) ?_); rintro e w1 ⟨rfl, h1⟩; have H1 := Lib.hid h1; clear c20; have c20 := h1.st.c20; clear h1))
    | (go_at_call 70; refine Calls.mono (in_any _ _ _ _ rfl) ?_; rintro e w9 ⟨rfl, rfl⟩))
  all_goals
    go_ret
    first
      | exact ⟨_, _, rfl, H1.out, Lib.hid (by simp_all [paramF125])⟩

set_option maxHeartbeats 4000000 in
set_option maxRecDepth 100000 in
theorem paramToken_58 {B b rb sb fb m cap : Nat} {f : Nat → Int} {l : Int} {ea : Addr} {w0 w : World} (h0 : Hid (Src0 B m f w0)) (h : Hid (Tk B b rb sb fb m cap f l ea w0 0 w)) (hs : Rn f m 0 = 58) :
    Calls Tryf.prog 46 #[.pointer (some ⟨b, 0, none⟩), .int .i32 (Rn f m 0)] w fun e w' => ∃ tok k, e = .returned (.int .u32 tok) ∧ Tk B b rb sb fb m cap f l ea w0 k w' ∧ Hid (paramF58 (Rn f m) l = (tok, k)) := by
  have c20 := h.out.st.c20
  have hb : (Rn f m 0 == 58) = true := by simp [hs]
  rw [hs]
  go_enter Tryf.func46, Tryf.ntmps46
  go_wp2_with (first
    | (go_at_call 43; first
        | ((first | refine Calls.mono (H1.out.nextB h0.out _ (by assumption) (by omega) (by omega) (by omega) rfl) ?_ | refine Calls.mono (H1.out.next h0.out _ (by assumption) (by omega) (by omega) (by omega) rfl) ?_); rintro e w2 ⟨rfl, h2⟩; have H2 := Lib.hid h2; clear c20; have c20 := h2.st.c20; clear h2)
        | ((first | refine Calls.mono (h.out.nextB h0.out _ hb (by omega) (by omega) (by omega) rfl) ?_ | refine Calls.mono (h.out.next h0.out _ (by assumption) (by omega) (by omega) (by omega) rfl) ?_); rintro e w1 ⟨rfl, h1⟩; have H1 := Lib.hid h1; clear c20; have c20 := h1.st.c20; clear h1))
    | (go_at_call 70; refine Calls.mono (in_any _ _ _ _ rfl) ?_; rintro e w9 ⟨rfl, rfl⟩))
  all_goals
    go_ret
    first
      | exact ⟨_, _, rfl, H2.out, Lib.hid (by simp_all [paramF58])⟩
      | exact ⟨_, _, rfl, H1.out, Lib.hid (by simp_all [paramF58])⟩

set_option maxHeartbeats 4000000 in
set_option maxRecDepth 100000 in
theorem paramToken_43 {B b rb sb fb m cap : Nat} {f : Nat → Int} {l : Int} {ea : Addr} {w0 w : World} (h0 : Hid (Src0 B m f w0)) (h : Hid (Tk B b rb sb fb m cap f l ea w0 0 w)) (hs : Rn f m 0 = 43) :
    Calls Tryf.prog 46 #[.pointer (some ⟨b, 0, none⟩), .int .i32 (Rn f m 0)] w fun e w' => ∃ tok k, e = .returned (.int .u32 tok) ∧ Tk B b rb sb fb m cap f l ea w0 k w' ∧ Hid (paramF43 (Rn f m) l = (tok, k)) := by
  have c20 := h.out.st.c20
  have hb : (Rn f m 0 == 43) = true := by simp [hs]
  rw [hs]
  go_enter Tryf.func46, Tryf.ntmps46
  go_wp2_with (first
    | (go_at_call 43; first
        | ((first | refine Calls.mono (h.out.nextB h0.out _ hb (by omega) (by omega) (by omega) rfl) ?_ | refine Calls.mono (h.out.next h0.out _ (by assumption) (by omega) (by omega) (by omega) rfl) ?_); rintro e w1 ⟨rfl, h1⟩; have H1 := Lib.hid h1; clear c20; have c20 := h1.st.c20; clear h1))
    | (go_at_call 70; refine Calls.mono (in_any _ _ _ _ rfl) ?_; rintro e w9 ⟨rfl, rfl⟩))
  all_goals
    go_ret
    first
      | exact ⟨_, _, rfl, H1.out, Lib.hid (by simp_all [paramF43])⟩

set_option maxHeartbeats 4000000 in
set_option maxRecDepth 100000 in
theorem paramToken_45 {B b rb sb fb m cap : Nat} {f : Nat → Int} {l : Int} {ea : Addr} {w0 w : World} (h0 : Hid (Src0 B m f w0)) (h : Hid (Tk B b rb sb fb m cap f l ea w0 0 w)) (hs : Rn f m 0 = 45) :
    Calls Tryf.prog 46 #[.pointer (some ⟨b, 0, none⟩), .int .i32 (Rn f m 0)] w fun e w' => ∃ tok k, e = .returned (.int .u32 tok) ∧ Tk B b rb sb fb m cap f l ea w0 k w' ∧ Hid (paramF45 (Rn f m) l = (tok, k)) := by
  have c20 := h.out.st.c20
  have hb : (Rn f m 0 == 45) = true := by simp [hs]
  rw [hs]
  go_enter Tryf.func46, Tryf.ntmps46
  go_wp2_with (first
    | (go_at_call 43; first
        | ((first | refine Calls.mono (h.out.nextB h0.out _ hb (by omega) (by omega) (by omega) rfl) ?_ | refine Calls.mono (h.out.next h0.out _ (by assumption) (by omega) (by omega) (by omega) rfl) ?_); rintro e w1 ⟨rfl, h1⟩; have H1 := Lib.hid h1; clear c20; have c20 := h1.st.c20; clear h1))
    | (go_at_call 70; refine Calls.mono (in_any _ _ _ _ rfl) ?_; rintro e w9 ⟨rfl, rfl⟩))
  all_goals
    go_ret
    first
      | exact ⟨_, _, rfl, H1.out, Lib.hid (by simp_all [paramF45])⟩

set_option maxHeartbeats 4000000 in
set_option maxRecDepth 100000 in
theorem paramToken_63 {B b rb sb fb m cap : Nat} {f : Nat → Int} {l : Int} {ea : Addr} {w0 w : World} (h0 : Hid (Src0 B m f w0)) (h : Hid (Tk B b rb sb fb m cap f l ea w0 0 w)) (hs : Rn f m 0 = 63) :
    Calls Tryf.prog 46 #[.pointer (some ⟨b, 0, none⟩), .int .i32 (Rn f m 0)] w fun e w' => ∃ tok k, e = .returned (.int .u32 tok) ∧ Tk B b rb sb fb m cap f l ea w0 k w' ∧ Hid (paramF63 (Rn f m) l = (tok, k)) := by
  have c20 := h.out.st.c20
  have hb : (Rn f m 0 == 63) = true := by simp [hs]
  rw [hs]
  go_enter Tryf.func46, Tryf.ntmps46
  go_wp2_with (first
    | (go_at_call 43; first
        | ((first | refine Calls.mono (h.out.nextB h0.out _ hb (by omega) (by omega) (by omega) rfl) ?_ | refine Calls.mono (h.out.next h0.out _ (by assumption) (by omega) (by omega) (by omega) rfl) ?_); rintro e w1 ⟨rfl, h1⟩; have H1 := Lib.hid h1; clear c20; have c20 := h1.st.c20; clear h1))
    | (go_at_call 70; refine Calls.mono (in_any _ _ _ _ rfl) ?_; rintro e w9 ⟨rfl, rfl⟩))
  all_goals
    go_ret
    first
      | exact ⟨_, _, rfl, H1.out, Lib.hid (by simp_all [paramF63])⟩

set_option maxHeartbeats 4000000 in
set_option maxRecDepth 100000 in
theorem paramToken_61 {B b rb sb fb m cap : Nat} {f : Nat → Int} {l : Int} {ea : Addr} {w0 w : World} (h0 : Hid (Src0 B m f w0)) (h : Hid (Tk B b rb sb fb m cap f l ea w0 0 w)) (hs : Rn f m 0 = 61) :
    Calls Tryf.prog 46 #[.pointer (some ⟨b, 0, none⟩), .int .i32 (Rn f m 0)] w fun e w' => ∃ tok k, e = .returned (.int .u32 tok) ∧ Tk B b rb sb fb m cap f l ea w0 k w' ∧ Hid (paramF61 (Rn f m) l = (tok, k)) := by
  have c20 := h.out.st.c20
  have hb : (Rn f m 0 == 61) = true := by simp [hs]
  rw [hs]
  go_enter Tryf.func46, Tryf.ntmps46
  go_wp2_with (first
    | (go_at_call 43; first
        | ((first | refine Calls.mono (h.out.nextB h0.out _ hb (by omega) (by omega) (by omega) rfl) ?_ | refine Calls.mono (h.out.next h0.out _ (by assumption) (by omega) (by omega) (by omega) rfl) ?_); rintro e w1 ⟨rfl, h1⟩; have H1 := Lib.hid h1; clear c20; have c20 := h1.st.c20; clear h1))
    | (go_at_call 70; refine Calls.mono (in_any _ _ _ _ rfl) ?_; rintro e w9 ⟨rfl, rfl⟩))
  all_goals
    go_ret
    first
      | exact ⟨_, _, rfl, H1.out, Lib.hid (by simp_all [paramF61])⟩

set_option maxHeartbeats 4000000 in
set_option maxRecDepth 100000 in
theorem paramToken_37 {B b rb sb fb m cap : Nat} {f : Nat → Int} {l : Int} {ea : Addr} {w0 w : World} (h0 : Hid (Src0 B m f w0)) (h : Hid (Tk B b rb sb fb m cap f l ea w0 0 w)) (hs : Rn f m 0 = 37) :
    Calls Tryf.prog 46 #[.pointer (some ⟨b, 0, none⟩), .int .i32 (Rn f m 0)] w fun e w' => ∃ tok k, e = .returned (.int .u32 tok) ∧ Tk B b rb sb fb m cap f l ea w0 k w' ∧ Hid (paramF37 (Rn f m) l = (tok, k)) := by
  have c20 := h.out.st.c20
  have hb : (Rn f m 0 == 37) = true := by simp [hs]
  rw [hs]
  go_enter Tryf.func46, Tryf.ntmps46
  go_wp2_with (first
    | (go_at_call 43; first
        | ((first | refine Calls.mono (H1.out.nextB h0.out _ (by assumption) (by omega) (by omega) (by omega) rfl) ?_ | refine Calls.mono (H1.out.next h0.out _ (by assumption) (by omega) (by omega) (by omega) rfl) ?_); rintro e w2 ⟨rfl, h2⟩; have H2 := Lib.hid h2; clear c20; have c20 := h2.st.c20; clear h2)
        | ((first | refine Calls.mono (h.out.nextB h0.out _ hb (by omega) (by omega) (by omega) rfl) ?_ | refine Calls.mono (h.out.next h0.out _ (by assumption) (by omega) (by omega) (by omega) rfl) ?_); rintro e w1 ⟨rfl, h1⟩; have H1 := Lib.hid h1; clear c20; have c20 := h1.st.c20; clear h1))
    | (go_at_call 70; refine Calls.mono (in_any _ _ _ _ rfl) ?_; rintro e w9 ⟨rfl, rfl⟩))
  all_goals
    go_ret
    first
      | exact ⟨_, _, rfl, H2.out, Lib.hid (by simp_all [paramF37])⟩
      | exact ⟨_, _, rfl, H1.out, Lib.hid (by simp_all [paramF37])⟩

set_option maxHeartbeats 4000000 in
set_option maxRecDepth 100000 in
theorem paramToken_35 {B b rb sb fb m cap : Nat} {f : Nat → Int} {l : Int} {ea : Addr} {w0 w : World} (h0 : Hid (Src0 B m f w0)) (h : Hid (Tk B b rb sb fb m cap f l ea w0 0 w)) (hs : Rn f m 0 = 35) :
    Calls Tryf.prog 46 #[.pointer (some ⟨b, 0, none⟩), .int .i32 (Rn f m 0)] w fun e w' => ∃ tok k, e = .returned (.int .u32 tok) ∧ Tk B b rb sb fb m cap f l ea w0 k w' ∧ Hid (paramF35 (Rn f m) l = (tok, k)) := by
  have c20 := h.out.st.c20
  have hb : (Rn f m 0 == 35) = true := by simp [hs]
  rw [hs]
  go_enter Tryf.func46, Tryf.ntmps46
  go_wp2_with (first
    | (go_at_call 43; first
        | ((first | refine Calls.mono (H1.out.nextB h0.out _ (by assumption) (by omega) (by omega) (by omega) rfl) ?_ | refine Calls.mono (H1.out.next h0.out _ (by assumption) (by omega) (by omega) (by omega) rfl) ?_); rintro e w2 ⟨rfl, h2⟩; have H2 := Lib.hid h2; clear c20; have c20 := h2.st.c20; clear h2)
        | ((first | refine Calls.mono (h.out.nextB h0.out _ hb (by omega) (by omega) (by omega) rfl) ?_ | refine Calls.mono (h.out.next h0.out _ (by assumption) (by omega) (by omega) (by omega) rfl) ?_); rintro e w1 ⟨rfl, h1⟩; have H1 := Lib.hid h1; clear c20; have c20 := h1.st.c20; clear h1))
    | (go_at_call 70; refine Calls.mono (in_any _ _ _ _ rfl) ?_; rintro e w9 ⟨rfl, rfl⟩))
  all_goals
    go_ret
    first
      | exact ⟨_, _, rfl, H2.out, Lib.hid (by simp_all [paramF35])⟩
      | exact ⟨_, _, rfl, H1.out, Lib.hid (by simp_all [paramF35])⟩

set_option maxHeartbeats 4000000 in
set_option maxRecDepth 100000 in
theorem paramToken_33 {B b rb sb fb m cap : Nat} {f : Nat → Int} {l : Int} {ea : Addr} {w0 w : World} (h0 : Hid (Src0 B m f w0)) (h : Hid (Tk B b rb sb fb m cap f l ea w0 0 w)) (hs : Rn f m 0 = 33) :
    Calls Tryf.prog 46 #[.pointer (some ⟨b, 0, none⟩), .int .i32 (Rn f m 0)] w fun e w' => ∃ tok k, e = .returned (.int .u32 tok) ∧ Tk B b rb sb fb m cap f l ea w0 k w' ∧ Hid (paramF33 (Rn f m) l = (tok, k)) := by
  have c20 := h.out.st.c20
  have hb : (Rn f m 0 == 33) = true := by simp [hs]
  rw [hs]
  go_enter Tryf.func46, Tryf.ntmps46
  go_wp2_with (first
    | (go_at_call 43; first
        | ((first | refine Calls.mono (h.out.nextB h0.out _ hb (by omega) (by omega) (by omega) rfl) ?_ | refine Calls.mono (h.out.next h0.out _ (by assumption) (by omega) (by omega) (by omega) rfl) ?_); rintro e w1 ⟨rfl, h1⟩; have H1 := Lib.hid h1; clear c20; have c20 := h1.st.c20; clear h1))
    | (go_at_call 70; refine Calls.mono (in_any _ _ _ _ rfl) ?_; rintro e w9 ⟨rfl, rfl⟩))
  all_goals
    go_ret
    first
      | exact ⟨_, _, rfl, H1.out, Lib.hid (by simp_all [paramF33])⟩

set_option maxHeartbeats 4000000 in
set_option maxRecDepth 100000 in
theorem paramToken_93 {B b rb sb fb m cap : Nat} {f : Nat → Int} {l : Int} {ea : Addr} {w0 w : World} (h0 : Hid (Src0 B m f w0)) (h : Hid (Tk B b rb sb fb m cap f l ea w0 0 w)) (hs : Rn f m 0 = 93) :
    Calls Tryf.prog 46 #[.pointer (some ⟨b, 0, none⟩), .int .i32 (Rn f m 0)] w fun e w' => ∃ tok k, e = .returned (.int .u32 tok) ∧ Tk B b rb sb fb m cap f l ea w0 k w' ∧ Hid (paramF93 (Rn f m) l = (tok, k)) := by
  have c20 := h.out.st.c20
  have hb : (Rn f m 0 == 93) = true := by simp [hs]
  rw [hs]
  go_enter Tryf.func46, Tryf.ntmps46
  go_wp2_with (first
    | (go_at_call 43; first
        | ((first | refine Calls.mono (h.out.nextB h0.out _ hb (by omega) (by omega) (by omega) rfl) ?_ | refine Calls.mono (h.out.next h0.out _ (by assumption) (by omega) (by omega) (by omega) rfl) ?_); rintro e w1 ⟨rfl, h1⟩; have H1 := Lib.hid h1; clear c20; have c20 := h1.st.c20; clear h1))
    | (go_at_call 70; refine Calls.mono (in_any _ _ _ _ rfl) ?_; rintro e w9 ⟨rfl, rfl⟩))
  all_goals
    go_ret
    first
      | exact ⟨_, _, rfl, H1.out, Lib.hid (by simp_all [paramF93])⟩

set_option maxHeartbeats 4000000 in
set_option maxRecDepth 100000 in
theorem paramToken_47 {B b rb sb fb m cap : Nat} {f : Nat → Int} {l : Int} {ea : Addr} {w0 w : World} (h0 : Hid (Src0 B m f w0)) (h : Hid (Tk B b rb sb fb m cap f l ea w0 0 w)) (hs : Rn f m 0 = 47) :
    Calls Tryf.prog 46 #[.pointer (some ⟨b, 0, none⟩), .int .i32 (Rn f m 0)] w fun e w' => ∃ tok k, e = .returned (.int .u32 tok) ∧ Tk B b rb sb fb m cap f l ea w0 k w' ∧ Hid (paramF47 (Rn f m) l = (tok, k)) := by
  have c20 := h.out.st.c20
  have hb : (Rn f m 0 == 47) = true := by simp [hs]
  rw [hs]
  go_enter Tryf.func46, Tryf.ntmps46
  go_wp2_with (first
    | (go_at_call 43; first
        | ((first | refine Calls.mono (H1.out.nextB h0.out _ (by assumption) (by omega) (by omega) (by omega) rfl) ?_ | refine Calls.mono (H1.out.next h0.out _ (by assumption) (by omega) (by omega) (by omega) rfl) ?_); rintro e w2 ⟨rfl, h2⟩; have H2 := Lib.hid h2; clear c20; have c20 := h2.st.c20; clear h2)
        | ((first | refine Calls.mono (h.out.nextB h0.out _ hb (by omega) (by omega) (by omega) rfl) ?_ | refine Calls.mono (h.out.next h0.out _ (by assumption) (by omega) (by omega) (by omega) rfl) ?_); rintro e w1 ⟨rfl, h1⟩; have H1 := Lib.hid h1; clear c20; have c20 := h1.st.c20; clear h1))
    | (go_at_call 70; refine Calls.mono (in_any _ _ _ _ rfl) ?_; rintro e w9 ⟨rfl, rfl⟩))
  all_goals
    go_ret
    first
      | exact ⟨_, _, rfl, H2.out, Lib.hid (by simp_all [paramF47])⟩
      | exact ⟨_, _, rfl, H1.out, Lib.hid (by simp_all [paramF47])⟩

set_option maxHeartbeats 4000000 in
set_option maxRecDepth 100000 in
theorem paramToken_94 {B b rb sb fb m cap : Nat} {f : Nat → Int} {l : Int} {ea : Addr} {w0 w : World} (h0 : Hid (Src0 B m f w0)) (h : Hid (Tk B b rb sb fb m cap f l ea w0 0 w)) (hs : Rn f m 0 = 94) :
    Calls Tryf.prog 46 #[.pointer (some ⟨b, 0, none⟩), .int .i32 (Rn f m 0)] w fun e w' => ∃ tok k, e = .returned (.int .u32 tok) ∧ Tk B b rb sb fb m cap f l ea w0 k w' ∧ Hid (paramF94 (Rn f m) l = (tok, k)) := by
  have c20 := h.out.st.c20
  have hb : (Rn f m 0 == 94) = true := by simp [hs]
  rw [hs]
  go_enter Tryf.func46, Tryf.ntmps46
  go_wp2_with (first
    | (go_at_call 43; first
        | ((first | refine Calls.mono (H1.out.nextB h0.out _ (by assumption) (by omega) (by omega) (by omega) rfl) ?_ | refine Calls.mono (H1.out.next h0.out _ (by assumption) (by omega) (by omega) (by omega) rfl) ?_); rintro e w2 ⟨rfl, h2⟩; have H2 := Lib.hid h2; clear c20; have c20 := h2.st.c20; clear h2)
        | ((first | refine Calls.mono (h.out.nextB h0.out _ hb (by omega) (by omega) (by omega) rfl) ?_ | refine Calls.mono (h.out.next h0.out _ (by assumption) (by omega) (by omega) (by omega) rfl) ?_); rintro e w1 ⟨rfl, h1⟩; have H1 := Lib.hid h1; clear c20; have c20 := h1.st.c20; clear h1))
    | (go_at_call 70; refine Calls.mono (in_any _ _ _ _ rfl) ?_; rintro e w9 ⟨rfl, rfl⟩))
  all_goals
    go_ret
    first
      | exact ⟨_, _, rfl, H2.out, Lib.hid (by simp_all [paramF94])⟩
      | exact ⟨_, _, rfl, H1.out, Lib.hid (by simp_all [paramF94])⟩

set_option maxHeartbeats 4000000 in
set_option maxRecDepth 100000 in
theorem paramToken_44 {B b rb sb fb m cap : Nat} {f : Nat → Int} {l : Int} {ea : Addr} {w0 w : World} (h0 : Hid (Src0 B m f w0)) (h : Hid (Tk B b rb sb fb m cap f l ea w0 0 w)) (hs : Rn f m 0 = 44) :
    Calls Tryf.prog 46 #[.pointer (some ⟨b, 0, none⟩), .int .i32 (Rn f m 0)] w fun e w' => ∃ tok k, e = .returned (.int .u32 tok) ∧ Tk B b rb sb fb m cap f l ea w0 k w' ∧ Hid (paramF44 (Rn f m) l = (tok, k)) := by
  have c20 := h.out.st.c20
  have hb : (Rn f m 0 == 44) = true := by simp [hs]
  rw [hs]
  go_enter Tryf.func46, Tryf.ntmps46
  go_wp2_with (first
    | (go_at_call 43; first
        | ((first | refine Calls.mono (H1.out.nextB h0.out _ (by assumption) (by omega) (by omega) (by omega) rfl) ?_ | refine Calls.mono (H1.out.next h0.out _ (by assumption) (by omega) (by omega) (by omega) rfl) ?_); rintro e w2 ⟨rfl, h2⟩; have H2 := Lib.hid h2; clear c20; have c20 := h2.st.c20; clear h2)
        | ((first | refine Calls.mono (h.out.nextB h0.out _ hb (by omega) (by omega) (by omega) rfl) ?_ | refine Calls.mono (h.out.next h0.out _ (by assumption) (by omega) (by omega) (by omega) rfl) ?_); rintro e w1 ⟨rfl, h1⟩; have H1 := Lib.hid h1; clear c20; have c20 := h1.st.c20; clear h1))
    | (go_at_call 70; refine Calls.mono (in_any _ _ _ _ rfl) ?_; rintro e w9 ⟨rfl, rfl⟩))
  all_goals
    go_ret
    first
      | exact ⟨_, _, rfl, H2.out, Lib.hid (by simp_all [paramF44])⟩
      | exact ⟨_, _, rfl, H1.out, Lib.hid (by simp_all [paramF44])⟩

set_option maxHeartbeats 4000000 in
set_option maxRecDepth 100000 in
theorem paramToken_64 {B b rb sb fb m cap : Nat} {f : Nat → Int} {l : Int} {ea : Addr} {w0 w : World} (h0 : Hid (Src0 B m f w0)) (h : Hid (Tk B b rb sb fb m cap f l ea w0 0 w)) (hs : Rn f m 0 = 64) :
    Calls Tryf.prog 46 #[.pointer (some ⟨b, 0, none⟩), .int .i32 (Rn f m 0)] w fun e w' => ∃ tok k, e = .returned (.int .u32 tok) ∧ Tk B b rb sb fb m cap f l ea w0 k w' ∧ Hid (paramF64 (Rn f m) l = (tok, k)) := by
  have c20 := h.out.st.c20
  have hb : (Rn f m 0 == 64) = true := by simp [hs]
  rw [hs]
  go_enter Tryf.func46, Tryf.ntmps46
  go_wp2_with (first
    | (go_at_call 43; first
        | ((first | refine Calls.mono (h.out.nextB h0.out _ hb (by omega) (by omega) (by omega) rfl) ?_ | refine Calls.mono (h.out.next h0.out _ (by assumption) (by omega) (by omega) (by omega) rfl) ?_); rintro e w1 ⟨rfl, h1⟩; have H1 := Lib.hid h1; clear c20; have c20 := h1.st.c20; clear h1))
    | (go_at_call 70; refine Calls.mono (in_any _ _ _ _ rfl) ?_; rintro e w9 ⟨rfl, rfl⟩))
  all_goals
    go_ret
    first
      | exact ⟨_, _, rfl, H1.out, Lib.hid (by simp_all [paramF64])⟩

set_option maxHeartbeats 4000000 in
set_option maxRecDepth 100000 in
theorem paramToken_42 {B b rb sb fb m cap : Nat} {f : Nat → Int} {l : Int} {ea : Addr} {w0 w : World} (h0 : Hid (Src0 B m f w0)) (h : Hid (Tk B b rb sb fb m cap f l ea w0 0 w)) (hs : Rn f m 0 = 42) :
    Calls Tryf.prog 46 #[.pointer (some ⟨b, 0, none⟩), .int .i32 (Rn f m 0)] w fun e w' => ∃ tok k, e = .returned (.int .u32 tok) ∧ Tk B b rb sb fb m cap f l ea w0 k w' ∧ Hid (paramF42 (Rn f m) l = (tok, k)) := by
  have c20 := h.out.st.c20
  have hb : (Rn f m 0 == 42) = true := by simp [hs]
  rw [hs]
  go_enter Tryf.func46, Tryf.ntmps46
  go_wp2_with (first
    | (go_at_call 43; first
        | ((first | refine Calls.mono (h.out.nextB h0.out _ hb (by omega) (by omega) (by omega) rfl) ?_ | refine Calls.mono (h.out.next h0.out _ (by assumption) (by omega) (by omega) (by omega) rfl) ?_); rintro e w1 ⟨rfl, h1⟩; have H1 := Lib.hid h1; clear c20; have c20 := h1.st.c20; clear h1))
    | (go_at_call 70; refine Calls.mono (in_any _ _ _ _ rfl) ?_; rintro e w9 ⟨rfl, rfl⟩))
  all_goals
    go_ret
    first
      | exact ⟨_, _, rfl, H1.out, Lib.hid (by simp_all [paramF42])⟩

end Go.Proofs.YtgcjaijakbejjaaFmt

/- What arithmToken does by rune's contract. Conditions: rune's. -/
namespace Go.Proofs.YtgcjaijakbejjaaFmt
open Go.RowKit

set_option linter.unusedVariables false
set_option linter.unusedSimpArgs false
def arithmF33 (R : Nat → Int) (l : Int) : Int × Nat := if R 1 == 61 then ((46, 2)) else ((39, 1))
def arithmF61 (R : Nat → Int) (l : Int) : Int × Nat := if R 1 == 61 then ((45, 2)) else ((87, 1))
def arithmF126 (R : Nat → Int) (l : Int) : Int × Nat := (40, 1)
def arithmF40 (R : Nat → Int) (l : Int) : Int × Nat := (27, 1)
def arithmF41 (R : Nat → Int) (l : Int) : Int × Nat := (32, 1)
def arithmF38 (R : Nat → Int) (l : Int) : Int × Nat := if R 1 == 38 then (if R 2 == 61 then (if inL l 16 then (59, 3) else (11, 2)) else ((11, 2))) else (if R 1 == 61 then ((54, 2)) else ((10, 1)))
def arithmF124 (R : Nat → Int) (l : Int) : Int × Nat := if R 1 == 124 then (if R 2 == 61 then (if inL l 16 then (60, 3) else (12, 2)) else ((12, 2))) else (if R 1 == 61 then ((55, 2)) else ((13, 1)))
def arithmF60 (R : Nat → Int) (l : Int) : Int × Nat := if R 1 == 60 then (if R 2 == 61 then ((57, 3)) else ((71, 2))) else (if R 1 == 61 then ((47, 2)) else ((65, 1)))
def arithmF62 (R : Nat → Int) (l : Int) : Int × Nat := if R 1 == 62 then (if R 2 == 61 then ((58, 3)) else ((64, 2))) else (if R 1 == 61 then ((48, 2)) else ((63, 1)))
def arithmF43 (R : Nat → Int) (l : Int) : Int × Nat := if R 1 == 43 then ((41, 2)) else (if R 1 == 61 then ((49, 2)) else ((81, 1)))
def arithmF45 (R : Nat → Int) (l : Int) : Int × Nat := if R 1 == 45 then ((42, 2)) else (if R 1 == 61 then ((50, 2)) else ((83, 1)))
def arithmF37 (R : Nat → Int) (l : Int) : Int × Nat := if R 1 == 61 then ((53, 2)) else ((89, 1))
def arithmF42 (R : Nat → Int) (l : Int) : Int × Nat := if R 1 == 42 then (if R 2 == 61 then (if inL l 16 then (62, 3) else (44, 2)) else ((44, 2))) else (if R 1 == 61 then ((51, 2)) else ((43, 1)))
def arithmF47 (R : Nat → Int) (l : Int) : Int × Nat := if R 1 == 61 then ((52, 2)) else ((101, 1))
def arithmF94 (R : Nat → Int) (l : Int) : Int × Nat := if R 1 == 94 then (if R 2 == 61 then (if inL l 16 then (61, 3) else (97, 2)) else ((97, 2))) else (if R 1 == 61 then ((56, 2)) else ((96, 1)))
def arithmF91 (R : Nat → Int) (l : Int) : Int × Nat := (25, 1)
def arithmF93 (R : Nat → Int) (l : Int) : Int × Nat := (30, 1)
def arithmF44 (R : Nat → Int) (l : Int) : Int × Nat := (98, 1)
def arithmF63 (R : Nat → Int) (l : Int) : Int × Nat := (85, 1)
def arithmF58 (R : Nat → Int) (l : Int) : Int × Nat := (104, 1)
def arithmF35 (R : Nat → Int) (l : Int) : Int × Nat := (91, 1)
def arithmF46 (R : Nat → Int) (l : Int) : Int × Nat := (103, 1)
/-- What arithmToken answers. -/
def arithmF (R : Nat → Int) (l : Int) : Int × Nat :=
  if R 0 == 33 then arithmF33 R l else if R 0 == 61 then arithmF61 R l else if R 0 == 126 then arithmF126 R l else if R 0 == 40 then arithmF40 R l else if R 0 == 41 then arithmF41 R l else if R 0 == 38 then arithmF38 R l else if R 0 == 124 then arithmF124 R l else if R 0 == 60 then arithmF60 R l else if R 0 == 62 then arithmF62 R l else if R 0 == 43 then arithmF43 R l else if R 0 == 45 then arithmF45 R l else if R 0 == 37 then arithmF37 R l else if R 0 == 42 then arithmF42 R l else if R 0 == 47 then arithmF47 R l else if R 0 == 94 then arithmF94 R l else if R 0 == 91 then arithmF91 R l else if R 0 == 93 then arithmF93 R l else if R 0 == 44 then arithmF44 R l else if R 0 == 63 then arithmF63 R l else if R 0 == 58 then arithmF58 R l else if R 0 == 35 then arithmF35 R l else if R 0 == 46 then arithmF46 R l else (0, 0)

set_option maxHeartbeats 4000000 in
set_option maxRecDepth 100000 in
theorem arithmToken_33 {B b rb sb fb m cap : Nat} {f : Nat → Int} {l : Int} {ea : Addr} {w0 w : World} (h0 : Hid (Src0 B m f w0)) (h : Hid (Tk B b rb sb fb m cap f l ea w0 0 w)) (hs : Rn f m 0 = 33) :
    Calls Tryf.prog 47 #[.pointer (some ⟨b, 0, none⟩), .int .i32 (Rn f m 0)] w fun e w' => ∃ tok k, e = .returned (.int .u32 tok) ∧ Tk B b rb sb fb m cap f l ea w0 k w' ∧ Hid (arithmF33 (Rn f m) l = (tok, k)) := by
  have c20 := h.out.st.c20
  have hb : (Rn f m 0 == 33) = true := by simp [hs]
  rw [hs]
  go_enter Tryf.func47, Tryf.ntmps47
  go_wp2_with (first
    | (go_at_call 43; first
        | ((first | refine Calls.mono (H1.out.nextB h0.out _ (by assumption) (by omega) (by omega) (by omega) rfl) ?_ | refine Calls.mono (H1.out.next h0.out _ (by assumption) (by omega) (by omega) (by omega) rfl) ?_); rintro e w2 ⟨rfl, h2⟩; have H2 := Lib.hid h2; clear c20; have c20 := h2.st.c20; clear h2)
        | ((first | refine Calls.mono (h.out.nextB h0.out _ hb (by omega) (by omega) (by omega) rfl) ?_ | refine Calls.mono (h.out.next h0.out _ (by assumption) (by omega) (by omega) (by omega) rfl) ?_); rintro e w1 ⟨rfl, h1⟩; have H1 := Lib.hid h1; clear c20; have c20 := h1.st.c20; clear h1))
    | (go_at_call 70; refine Calls.mono (in_any _ _ _ _ rfl) ?_; rintro e w9 ⟨rfl, rfl⟩))
  all_goals
    go_ret
    first
      | exact ⟨_, _, rfl, H2.out, Lib.hid (by simp_all [arithmF33])⟩
      | exact ⟨_, _, rfl, H1.out, Lib.hid (by simp_all [arithmF33])⟩

set_option maxHeartbeats 4000000 in
set_option maxRecDepth 100000 in
theorem arithmToken_61 {B b rb sb fb m cap : Nat} {f : Nat → Int} {l : Int} {ea : Addr} {w0 w : World} (h0 : Hid (Src0 B m f w0)) (h : Hid (Tk B b rb sb fb m cap f l ea w0 0 w)) (hs : Rn f m 0 = 61) :
    Calls Tryf.prog 47 #[.pointer (some ⟨b, 0, none⟩), .int .i32 (Rn f m 0)] w fun e w' => ∃ tok k, e = .returned (.int .u32 tok) ∧ Tk B b rb sb fb m cap f l ea w0 k w' ∧ Hid (arithmF61 (Rn f m) l = (tok, k)) := by
  have c20 := h.out.st.c20
  have hb : (Rn f m 0 == 61) = true := by simp [hs]
  rw [hs]
  go_enter Tryf.func47, Tryf.ntmps47
  go_wp2_with (first
    | (go_at_call 43; first
        | ((first | refine Calls.mono (H1.out.nextB h0.out _ (by assumption) (by omega) (by omega) (by omega) rfl) ?_ | refine Calls.mono (H1.out.next h0.out _ (by assumption) (by omega) (by omega) (by omega) rfl) ?_); rintro e w2 ⟨rfl, h2⟩; have H2 := Lib.hid h2; clear c20; have c20 := h2.st.c20; clear h2)
        | ((first | refine Calls.mono (h.out.nextB h0.out _ hb (by omega) (by omega) (by omega) rfl) ?_ | refine Calls.mono (h.out.next h0.out _ (by assumption) (by omega) (by omega) (by omega) rfl) ?_); rintro e w1 ⟨rfl, h1⟩; have H1 := Lib.hid h1; clear c20; have c20 := h1.st.c20; clear h1))
    | (go_at_call 70; refine Calls.mono (in_any _ _ _ _ rfl) ?_; rintro e w9 ⟨rfl, rfl⟩))
  all_goals
    go_ret
    first
      | exact ⟨_, _, rfl, H2.out, Lib.hid (by simp_all [arithmF61])⟩
      | exact ⟨_, _, rfl, H1.out, Lib.hid (by simp_all [arithmF61])⟩

set_option maxHeartbeats 4000000 in
set_option maxRecDepth 100000 in
theorem arithmToken_126 {B b rb sb fb m cap : Nat} {f : Nat → Int} {l : Int} {ea : Addr} {w0 w : World} (h0 : Hid (Src0 B m f w0)) (h : Hid (Tk B b rb sb fb m cap f l ea w0 0 w)) (hs : Rn f m 0 = 126) :
    Calls Tryf.prog 47 #[.pointer (some ⟨b, 0, none⟩), .int .i32 (Rn f m 0)] w fun e w' => ∃ tok k, e = .returned (.int .u32 tok) ∧ Tk B b rb sb fb m cap f l ea w0 k w' ∧ Hid (arithmF126 (Rn f m) l = (tok, k)) := by
  have c20 := h.out.st.c20
  have hb : (Rn f m 0 == 126) = true := by simp [hs]
  rw [hs]
  go_enter Tryf.func47, Tryf.ntmps47
  go_wp2_with (first
    | (go_at_call 43; first
        | ((first | refine Calls.mono (h.out.nextB h0.out _ hb (by omega) (by omega) (by omega) rfl) ?_ | refine Calls.mono (h.out.next h0.out _ (by assumption) (by omega) (by omega) (by omega) rfl) ?_); rintro e w1 ⟨rfl, h1⟩; have H1 := Lib.hid h1; clear c20; have c20 := h1.st.c20; clear h1))
    | (go_at_call 70; refine Calls.mono (in_any _ _ _ _ rfl) ?_; rintro e w9 ⟨rfl, rfl⟩))
  all_goals
    go_ret
    first
      | exact ⟨_, _, rfl, H1.out, Lib.hid (by simp_all [arithmF126])⟩

set_option maxHeartbeats 4000000 in
set_option maxRecDepth 100000 in
theorem arithmToken_40 {B b rb sb fb m cap : Nat} {f : Nat → Int} {l : Int} {ea : Addr} {w0 w : World} (h0 : Hid (Src0 B m f w0)) (h : Hid (Tk B b rb sb fb m cap f l ea w0 0 w)) (hs : Rn f m 0 = 40) :
    Calls Tryf.prog 47 #[.pointer (some ⟨b, 0, none⟩), .int .i32 (Rn f m 0)] w fun e w' => ∃ tok k, e = .returned (.int .u32 tok) ∧ Tk B b rb sb fb m cap f l ea w0 k w' ∧ Hid (arithmF40 (Rn f m) l = (tok, k)) := by
  have c20 := h.out.st.c20
  have hb : (Rn f m 0 == 40) = true := by simp [hs]
  rw [hs]
  go_enter Tryf.func47, Tryf.ntmps47
  go_wp2_with (first
    | (go_at_call 43; first
        | ((first | refine Calls.mono (h.out.nextB h0.out _ hb (by omega) (by omega) (by omega) rfl) ?_ | refine Calls.mono (h.out.next h0.out _ (by assumption) (by omega) (by omega) (by omega) rfl) ?_); rintro e w1 ⟨rfl, h1⟩; have H1 := Lib.hid h1; clear c20; have c20 := h1.st.c20; clear h1))
    | (go_at_call 70; refine Calls.mono (in_any _ _ _ _ rfl) ?_; rintro e w9 ⟨rfl, rfl⟩))
  all_goals
    go_ret
    first
      | exact ⟨_, _, rfl, H1.out, Lib.hid (by simp_all [arithmF40])⟩

set_option maxHeartbeats 4000000 in
set_option maxRecDepth 100000 in
theorem arithmToken_41 {B b rb sb fb m cap : Nat} {f : Nat → Int} {l : Int} {ea : Addr} {w0 w : World} (h0 : Hid (Src0 B m f w0)) (h : Hid (Tk B b rb sb fb m cap f l ea w0 0 w)) (hs : Rn f m 0 = 41) :
    Calls Tryf.prog 47 #[.pointer (some ⟨b, 0, none⟩), .int .i32 (Rn f m 0)] w fun e w' => ∃ tok k, e = .returned (.int .u32 tok) ∧ Tk B b rb sb fb m cap f l ea w0 k w' ∧ Hid (arithmF41 (Rn f m) l = (tok, k)) := by
  have c20 := h.out.st.c20
  have hb : (Rn f m 0 == 41) = true := by simp [hs]
  rw [hs]
  go_enter Tryf.func47, Tryf.ntmps47
  go_wp2_with (first
    | (go_at_call 43; first
        | ((first | refine Calls.mono (h.out.nextB h0.out _ hb (by omega) (by omega) (by omega) rfl) ?_ | refine Calls.mono (h.out.next h0.out _ (by assumption) (by omega) (by omega) (by omega) rfl) ?_); rintro e w1 ⟨rfl, h1⟩; have H1 := Lib.hid h1; clear c20; have c20 := h1.st.c20; clear h1))
    | (go_at_call 70; refine Calls.mono (in_any _ _ _ _ rfl) ?_; rintro e w9 ⟨rfl, rfl⟩))
  all_goals
    go_ret
    first
      | exact ⟨_, _, rfl, H1.out, Lib.hid (by simp_all [arithmF41])⟩

set_option maxHeartbeats 4000000 in
set_option maxRecDepth 100000 in
theorem arithmToken_38 {B b rb sb fb m cap : Nat} {f : Nat → Int} {l : Int} {ea : Addr} {w0 w : World} (h0 : Hid (Src0 B m f w0)) (h : Hid (Tk B b rb sb fb m cap f l ea w0 0 w)) (hs : Rn f m 0 = 38) :
    Calls Tryf.prog 47 #[.pointer (some ⟨b, 0, none⟩), .int .i32 (Rn f m 0)] w fun e w' => ∃ tok k, e = .returned (.int .u32 tok) ∧ Tk B b rb sb fb m cap f l ea w0 k w' ∧ Hid (arithmF38 (Rn f m) l = (tok, k)) := by
  have c20 := h.out.st.c20
  have hb : (Rn f m 0 == 38) = true := by simp [hs]
  rw [hs]
  go_enter Tryf.func47, Tryf.ntmps47
  go_wp2_with (first
    | (go_at_call 43; first
        | ((first | refine Calls.mono (H2.out.nextB h0.out _ (by assumption) (by omega) (by omega) (by omega) rfl) ?_ | refine Calls.mono (H2.out.next h0.out _ (by assumption) (by omega) (by omega) (by omega) rfl) ?_); rintro e w3 ⟨rfl, h3⟩; have H3 := Lib.hid h3; clear c20; have c20 := h3.st.c20; clear h3)
        | ((first | refine Calls.mono (H1.out.nextB h0.out _ (by assumption) (by omega) (by omega) (by omega) rfl) ?_ | refine Calls.mono (H1.out.next h0.out _ (by assumption) (by omega) (by omega) (by omega) rfl) ?_); rintro e w2 ⟨rfl, h2⟩; have H2 := Lib.hid h2; clear c20; have c20 := h2.st.c20; clear h2)
        | ((first | refine Calls.mono (h.out.nextB h0.out _ hb (by omega) (by omega) (by omega) rfl) ?_ | refine Calls.mono (h.out.next h0.out _ (by assumption) (by omega) (by omega) (by omega) rfl) ?_); rintro e w1 ⟨rfl, h1⟩; have H1 := Lib.hid h1; clear c20; have c20 := h1.st.c20; clear h1))
    | (go_at_call 70; refine Calls.mono (in_any _ _ _ _ rfl) ?_; rintro e w9 ⟨rfl, rfl⟩))
  all_goals
    go_ret
    first
      | exact ⟨_, _, rfl, H3.out, Lib.hid (by simp_all [arithmF38])⟩
      | exact ⟨_, _, rfl, H2.out, Lib.hid (by simp_all [arithmF38])⟩
      | exact ⟨_, _, rfl, H1.out, Lib.hid (by simp_all [arithmF38])⟩

set_option maxHeartbeats 4000000 in
set_option maxRecDepth 100000 in
theorem arithmToken_124 {B b rb sb fb m cap : Nat} {f : Nat → Int} {l : Int} {ea : Addr} {w0 w : World} (h0 : Hid (Src0 B m f w0)) (h : Hid (Tk B b rb sb fb m cap f l ea w0 0 w)) (hs : Rn f m 0 = 124) :
    Calls Tryf.prog 47 #[.pointer (some ⟨b, 0, none⟩), .int .i32 (Rn f m 0)] w fun e w' => ∃ tok k, e = .returned (.int .u32 tok) ∧ Tk B b rb sb fb m cap f l ea w0 k w' ∧ Hid (arithmF124 (Rn f m) l = (tok, k)) := by
  have c20 := h.out.st.c20
  have hb : (Rn f m 0 == 124) = true := by simp [hs]
  rw [hs]
  go_enter Tryf.func47, Tryf.ntmps47
  go_wp2_with (first
    | (go_at_call 43; first
        | ((first | refine Calls.mono (H2.out.nextB h0.out _ (by assumption) (by omega) (by omega) (by omega) rfl) ?_ | refine Calls.mono (H2.out.next h0.out _ (by assumption) (by omega) (by omega) (by omega) rfl) ?_); rintro e w3 ⟨rfl, h3⟩; have H3 := Lib.hid h3; clear c20; have c20 := h3.st.c20; clear h3)
        | ((first | refine Calls.mono (H1.out.nextB h0.out _ (by assumption) (by omega) (by omega) (by omega) rfl) ?_ | refine Calls.mono (H1.out.next h0.out _ (by assumption) (by omega) (by omega) (by omega) rfl) ?_); rintro e w2 ⟨rfl, h2⟩; have H2 := Lib.hid h2; clear c20; have c20 := h2.st.c20; clear h2)
        | ((first | refine Calls.mono (h.out.nextB h0.out _ hb (by omega) (by omega) (by omega) rfl) ?_ | refine Calls.mono (h.out.next h0.out _ (by assumption) (by omega) (by omega) (by omega) rfl) ?_); rintro e w1 ⟨rfl, h1⟩; have H1 := Lib.hid h1; clear c20; have c20 := h1.st.c20; clear h1))
    | (go_at_call 70; refine Calls.mono (in_any _ _ _ _ rfl) ?_; rintro e w9 ⟨rfl, rfl⟩))
  all_goals
    go_ret
    first
      | exact ⟨_, _, rfl, H3.out, Lib.hid (by simp_all [arithmF124])⟩
      | exact ⟨_, _, rfl, H2.out, Lib.hid (by simp_all [arithmF124])⟩
      | exact ⟨_, _, rfl, H1.out, Lib.hid (by simp_all [arithmF124])⟩

set_option maxHeartbeats 4000000 in
set_option maxRecDepth 100000 in
theorem arithmToken_60 {B b rb sb fb m cap : Nat} {f : Nat → Int} {l : Int} {ea : Addr} {w0 w : World} (h0 : Hid (Src0 B m f w0)) (h : Hid (Tk B b rb sb fb m cap f l ea w0 0 w)) (hs : Rn f m 0 = 60) :
    Calls Tryf.prog 47 #[.pointer (some ⟨b, 0, none⟩), .int .i32 (Rn f m 0)] w fun e w' => ∃ tok k, e = .returned (.int .u32 tok) ∧ Tk B b rb sb fb m cap f l ea w0 k w' ∧ Hid (arithmF60 (Rn f m) l = (tok, k)) := by
  have c20 := h.out.st.c20
  have hb : (Rn f m 0 == 60) = true := by simp [hs]
  rw [hs]
  go_enter Tryf.func47, Tryf.ntmps47
  go_wp2_with (first
    | (go_at_call 43; first
        | ((first | refine Calls.mono (H2.out.nextB h0.out _ (by assumption) (by omega) (by omega) (by omega) rfl) ?_ | refine Calls.mono (H2.out.next h0.out _ (by assumption) (by omega) (by omega) (by omega) rfl) ?_); rintro e w3 ⟨rfl, h3⟩; have H3 := Lib.hid h3; clear c20; have c20 := h3.st.c20; clear h3)
        | ((first | refine Calls.mono (H1.out.nextB h0.out _ (by assumption) (by omega) (by omega) (by omega) rfl) ?_ | refine Calls.mono (H1.out.next h0.out _ (by assumption) (by omega) (by omega) (by omega) rfl) ?_); rintro e w2 ⟨rfl, h2⟩; have H2 := Lib.hid h2; clear c20; have c20 := h2.st.c20; clear h2)
        | ((first | refine Calls.mono (h.out.nextB h0.out _ hb (by omega) (by omega) (by omega) rfl) ?_ | refine Calls.mono (h.out.next h0.out _ (by assumption) (by omega) (by omega) (by omega) rfl) ?_); rintro e w1 ⟨rfl, h1⟩; have H1 := Lib.hid h1; clear c20; have c20 := h1.st.c20; clear h1))
    | (go_at_call 70; refine Calls.mono (in_any _ _ _ _ rfl) ?_; rintro e w9 ⟨rfl, rfl⟩))
  all_goals
    go_ret
    first
      | exact ⟨_, _, rfl, H3.out, Lib.hid (by simp_all [arithmF60])⟩
      | exact ⟨_, _, rfl, H2.out, Lib.hid (by simp_all [arithmF60])⟩
      | exact ⟨_, _, rfl, H1.out, Lib.hid (by simp_all [arithmF60])⟩

set_option maxHeartbeats 4000000 in
set_option maxRecDepth 100000 in
theorem arithmToken_62 {B b rb sb fb m cap : Nat} {f : Nat → Int} {l : Int} {ea : Addr} {w0 w : World} (h0 : Hid (Src0 B m f w0)) (h : Hid (Tk B b rb sb fb m cap f l ea w0 0 w)) (hs : Rn f m 0 = 62) :
    Calls Tryf.prog 47 #[.pointer (some ⟨b, 0, none⟩), .int .i32 (Rn f m 0)] w fun e w' => ∃ tok k, e = .returned (.int .u32 tok) ∧ Tk B b rb sb fb m cap f l ea w0 k w' ∧ Hid (arithmF62 (Rn f m) l = (tok, k)) := by
  have c20 := h.out.st.c20
  have hb : (Rn f m 0 == 62) = true := by simp [hs]
  rw [hs]
  go_enter Tryf.func47, Tryf.ntmps47
  go_wp2_with (first
    | (go_at_call 43; first
        | ((first | refine Calls.mono (H2.out.nextB h0.out _ (by assumption) (by omega) (by omega) (by omega) rfl) ?_ | refine Calls.mono (H2.out.next h0.out _ (by assumption) (by omega) (by omega) (by omega) rfl) ?_); rintro e w3 ⟨rfl, h3⟩; have H3 := Lib.hid h3; clear c20; have c20 := h3.st.c20; clear h3)
        | ((first | refine Calls.mono (H1.out.nextB h0.out _ (by assumption) (by omega) (by omega) (by omega) rfl) ?_ | refine Calls.mono (H1.out.next h0.out _ (by assumption) (by omega) (by omega) (by omega) rfl) ?_); rintro e w2 ⟨rfl, h2⟩; have H2 := Lib.hid h2; clear c20; have c20 := h2.st.c20; clear h2)
        | ((first | refine Calls.mono (h.out.nextB h0.out _ hb (by omega) (by omega) (by omega) rfl) ?_ | refine Calls.mono (h.out.next h0.out _ (by assumption) (by omega) (by omega) (by omega) rfl) ?_); rintro e w1 ⟨rfl, h1⟩; have H1 := Lib.hid h1; clear c20; have c20 := h1.st.c20; clear h1))
    | (go_at_call 70; refine Calls.mono (in_any _ _ _ _ rfl) ?_; rintro e w9 ⟨rfl, rfl⟩))
  all_goals
    go_ret
    first
      | exact ⟨_, _, rfl, H3.out, Lib.hid (by simp_all [arithmF62])⟩
      | exact ⟨_, _, rfl, H2.out, Lib.hid (by simp_all [arithmF62])⟩
      | exact ⟨_, _, rfl, H1.out, Lib.hid (by simp_all [arithmF62])⟩

set_option maxHeartbeats 4000000 in
set_option maxRecDepth 100000 in
theorem arithmToken_43 {B b rb sb fb m cap : Nat} {f : Nat → Int} {l : Int} {ea : Addr} {w0 w : World} (h0 : Hid (Src0 B m f w0)) (h : Hid (Tk B b rb sb fb m cap f l ea w0 0 w)) (hs : Rn f m 0 = 43) :
    Calls Tryf.prog 47 #[.pointer (some ⟨b, 0, none⟩), .int .i32 (Rn f m 0)] w fun e w' => ∃ tok k, e = .returned (.int .u32 tok) ∧ Tk B b rb sb fb m cap f l ea w0 k w' ∧ Hid (arithmF43 (Rn f m) l = (tok, k)) := by
  have c20 := h.out.st.c20
  have hb : (Rn f m 0 == 43) = true := by simp [hs]
  rw [hs]
  go_enter Tryf.func47, Tryf.ntmps47
  go_wp2_with (first
    | (go_at_call 43; first
        | ((first | refine Calls.mono (H1.out.nextB h0.out _ (by assumption) (by omega) (by omega) (by omega) rfl) ?_ | refine Calls.mono (H1.out.next h0.out _ (by assumption) (by omega) (by omega) (by omega) rfl) ?_); rintro e w2 ⟨rfl, h2⟩; have H2 := Lib.hid h2; clear c20; have c20 := h2.st.c20; clear h2)
        | ((first | refine Calls.mono (h.out.nextB h0.out _ hb (by omega) (by omega) (by omega) rfl) ?_ | refine Calls.mono (h.out.next h0.out _ (by assumption) (by omega) (by omega) (by omega) rfl) ?_); rintro e w1 ⟨rfl, h1⟩; have H1 := Lib.hid h1; clear c20; have c20 := h1.st.c20; clear h1))
    | (go_at_call 70; refine Calls.mono (in_any _ _ _ _ rfl) ?_; rintro e w9 ⟨rfl, rfl⟩))
  all_goals
    go_ret
    first
      | exact ⟨_, _, rfl, H2.out, Lib.hid (by simp_all [arithmF43])⟩
      | exact ⟨_, _, rfl, H1.out, Lib.hid (by simp_all [arithmF43])⟩

set_option maxHeartbeats 4000000 in
set_option maxRecDepth 100000 in
theorem arithmToken_45 {B b rb sb fb m cap : Nat} {f : Nat → Int} {l : Int} {ea : Addr} {w0 w : World} (h0 : Hid (Src0 B m f w0)) (h : Hid (Tk B b rb sb fb m cap f l ea w0 0 w)) (hs : Rn f m 0 = 45) :
    Calls Tryf.prog 47 #[.pointer (some ⟨b, 0, none⟩), .int .i32 (Rn f m 0)] w fun e w' => ∃ tok k, e = .returned (.int .u32 tok) ∧ Tk B b rb sb fb m cap f l ea w0 k w' ∧ Hid (arithmF45 (Rn f m) l = (tok, k)) := by
  have c20 := h.out.st.c20
  have hb : (Rn f m 0 == 45) = true := by simp [hs]
  rw [hs]
  go_enter Tryf.func47, Tryf.ntmps47
  go_wp2_with (first
    | (go_at_call 43; first
        | ((first | refine Calls.mono (H1.out.nextB h0.out _ (by assumption) (by omega) (by omega) (by omega) rfl) ?_ | refine Calls.mono (H1.out.next h0.out _ (by assumption) (by omega) (by omega) (by omega) rfl) ?_); rintro e w2 ⟨rfl, h2⟩; have H2 := Lib.hid h2; clear c20; have c20 := h2.st.c20; clear h2)
        | ((first | refine Calls.mono (h.out.nextB h0.out _ hb (by omega) (by omega) (by omega) rfl) ?_ | refine Calls.mono (h.out.next h0.out _ (by assumption) (by omega) (by omega) (by omega) rfl) ?_); rintro e w1 ⟨rfl, h1⟩; have H1 := Lib.hid h1; clear c20; have c20 := h1.st.c20; clear h1))
    | (go_at_call 70; refine Calls.mono (in_any _ _ _ _ rfl) ?_; rintro e w9 ⟨rfl, rfl⟩))
  all_goals
    go_ret
    first
      | exact ⟨_, _, rfl, H2.out, Lib.hid (by simp_all [arithmF45])⟩
      | exact ⟨_, _, rfl, H1.out, Lib.hid (by simp_all [arithmF45])⟩

set_option maxHeartbeats 4000000 in
set_option maxRecDepth 100000 in
theorem arithmToken_37 {B b rb sb fb m cap : Nat} {f : Nat → Int} {l : Int} {ea : Addr} {w0 w : World} (h0 : Hid (Src0 B m f w0)) (h : Hid (Tk B b rb sb fb m cap f l ea w0 0 w)) (hs : Rn f m 0 = 37) :
    Calls Tryf.prog 47 #[.pointer (some ⟨b, 0, none⟩), .int .i32 (Rn f m 0)] w fun e w' => ∃ tok k, e = .returned (.int .u32 tok) ∧ Tk B b rb sb fb m cap f l ea w0 k w' ∧ Hid (arithmF37 (Rn f m) l = (tok, k)) := by
  have c20 := h.out.st.c20
  have hb : (Rn f m 0 == 37) = true := by simp [hs]
  rw [hs]
  go_enter Tryf.func47, Tryf.ntmps47
  go_wp2_with (first
    | (go_at_call 43; first
        | ((first | refine Calls.mono (H1.out.nextB h0.out _ (by assumption) (by omega) (by omega) (by omega) rfl) ?_ | refine Calls.mono (H1.out.next h0.out _ (by assumption) (by omega) (by omega) (by omega) rfl) ?_); rintro e w2 ⟨rfl, h2⟩; have H2 := Lib.hid h2; clear c20; have c20 := h2.st.c20; clear h2)
        | ((first | refine Calls.mono (h.out.nextB h0.out _ hb (by omega) (by omega) (by omega) rfl) ?_ | refine Calls.mono (h.out.next h0.out _ (by assumption) (by omega) (by omega) (by omega) rfl) ?_); rintro e w1 ⟨rfl, h1⟩; have H1 := Lib.hid h1; clear c20; have c20 := h1.st.c20; clear h1))
    | (go_at_call 70; refine Calls.mono (in_any _ _ _ _ rfl) ?_; rintro e w9 ⟨rfl, rfl⟩))
  all_goals
    go_ret
    first
      | exact ⟨_, _, rfl, H2.out, Lib.hid (by simp_all [arithmF37])⟩
      | exact ⟨_, _, rfl, H1.out, Lib.hid (by simp_all [arithmF37])⟩

set_option maxHeartbeats 4000000 in
set_option maxRecDepth 100000 in
theorem arithmToken_42 {B b rb sb fb m cap : Nat} {f : Nat → Int} {l : Int} {ea : Addr} {w0 w : World} (h0 : Hid (Src0 B m f w0)) (h : Hid (Tk B b rb sb fb m cap f l ea w0 0 w)) (hs : Rn f m 0 = 42) :
    Calls Tryf.prog 47 #[.pointer (some ⟨b, 0, none⟩), .int .i32 (Rn f m 0)] w fun e w' => ∃ tok k, e = .returned (.int .u32 tok) ∧ Tk B b rb sb fb m cap f l ea w0 k w' ∧ Hid (arithmF42 (Rn f m) l = (tok, k)) := by
  have c20 := h.out.st.c20
  have hb : (Rn f m 0 == 42) = true := by simp [hs]
  rw [hs]
  go_enter Tryf.func47, Tryf.ntmps47
  go_wp2_with (first
    | (go_at_call 43; first
        | ((first | refine Calls.mono (H2.out.nextB h0.out _ (by assumption) (by omega) (by omega) (by omega) rfl) ?_ | refine Calls.mono (H2.out.next h0.out _ (by assumption) (by omega) (by omega) (by omega) rfl) ?_); rintro e w3 ⟨rfl, h3⟩; have H3 := Lib.hid h3; clear c20; have c20 := h3.st.c20; clear h3)
        | ((first | refine Calls.mono (H1.out.nextB h0.out _ (by assumption) (by omega) (by omega) (by omega) rfl) ?_ | refine Calls.mono (H1.out.next h0.out _ (by assumption) (by omega) (by omega) (by omega) rfl) ?_); rintro e w2 ⟨rfl, h2⟩; have H2 := Lib.hid h2; clear c20; have c20 := h2.st.c20; clear h2)
        | ((first | refine Calls.mono (h.out.nextB h0.out _ hb (by omega) (by omega) (by omega) rfl) ?_ | refine Calls.mono (h.out.next h0.out _ (by assumption) (by omega) (by omega) (by omega) rfl) ?_); rintro e w1 ⟨rfl, h1⟩; have H1 := Lib.hid h1; clear c20; have c20 := h1.st.c20; clear h1))
    | (go_at_call 70; refine Calls.mono (in_any _ _ _ _ rfl) ?_; rintro e w9 ⟨rfl, rfl⟩))
  all_goals
    go_ret
    first
      | exact ⟨_, _, rfl, H3.out, Lib.hid (by simp_all [arithmF42])⟩
      | exact ⟨_, _, rfl, H2.out, Lib.hid (by simp_all [arithmF42])⟩
      | exact ⟨_, _, rfl, H1.out, Lib.hid (by simp_all [arithmF42])⟩

set_option maxHeartbeats 4000000 in
set_option maxRecDepth 100000 in
theorem arithmToken_47 {B b rb sb fb m cap : Nat} {f : Nat → Int} {l : Int} {ea : Addr} {w0 w : World} (h0 : Hid (Src0 B m f w0)) (h : Hid (Tk B b rb sb fb m cap f l ea w0 0 w)) (hs : Rn f m 0 = 47) :
    Calls Tryf.prog 47 #[.pointer (some ⟨b, 0, none⟩), .int .i32 (Rn f m 0)] w fun e w' => ∃ tok k, e = .returned (.int .u32 tok) ∧ Tk B b rb sb fb m cap f l ea w0 k w' ∧ Hid (arithmF47 (Rn f m) l = (tok, k)) := by
  have c20 := h.out.st.c20
  have hb : (Rn f m 0 == 47) = true := by simp [hs]
  rw [hs]
  go_enter Tryf.func47, Tryf.ntmps47
  go_wp2_with (first
    | (go_at_call 43; first
        | ((first | refine Calls.mono (H1.out.nextB h0.out _ (by assumption) (by omega) (by omega) (by omega) rfl) ?_ | refine Calls.mono (H1.out.next h0.out _ (by assumption) (by omega) (by omega) (by omega) rfl) ?_); rintro e w2 ⟨rfl, h2⟩; have H2 := Lib.hid h2; clear c20; have c20 := h2.st.c20; clear h2)
        | ((first | refine Calls.mono (h.out.nextB h0.out _ hb (by omega) (by omega) (by omega) rfl) ?_ | refine Calls.mono (h.out.next h0.out _ (by assumption) (by omega) (by omega) (by omega) rfl) ?_); rintro e w1 ⟨rfl, h1⟩; have H1 := Lib.hid h1; clear c20; have c20 := h1.st.c20; clear h1))
    | (go_at_call 70; refine Calls.mono (in_any _ _ _ _ rfl) ?_; rintro e w9 ⟨rfl, rfl⟩))
  all_goals
    go_ret
    first
      | exact ⟨_, _, rfl, H2.out, Lib.hid (by simp_all [arithmF47])⟩
      | exact ⟨_, _, rfl, H1.out, Lib.hid (by simp_all [arithmF47])⟩

set_option maxHeartbeats 4000000 in
set_option maxRecDepth 100000 in
theorem arithmToken_94 {B b rb sb fb m cap : Nat} {f : Nat → Int} {l : Int} {ea : Addr} {w0 w : World} (h0 : Hid (Src0 B m f w0)) (h : Hid (Tk B b rb sb fb m cap f l ea w0 0 w)) (hs : Rn f m 0 = 94) :
    Calls Tryf.prog 47 #[.pointer (some ⟨b, 0, none⟩), .int .i32 (Rn f m 0)] w fun e w' => ∃ tok k, e = .returned (.int .u32 tok) ∧ Tk B b rb sb fb m cap f l ea w0 k w' ∧ Hid (arithmF94 (Rn f m) l = (tok, k)) := by
  have c20 := h.out.st.c20
  have hb : (Rn f m 0 == 94) = true := by simp [hs]
  rw [hs]
  go_enter Tryf.func47, Tryf.ntmps47
  go_wp2_with (first
    | (go_at_call 43; first
        | ((first | refine Calls.mono (H2.out.nextB h0.out _ (by assumption) (by omega) (by omega) (by omega) rfl) ?_ | refine Calls.mono (H2.out.next h0.out _ (by assumption) (by omega) (by omega) (by omega) rfl) ?_); rintro e w3 ⟨rfl, h3⟩; have H3 := Lib.hid h3; clear c20; have c20 := h3.st.c20; clear h3)
        | ((first | refine Calls.mono (H1.out.nextB h0.out _ (by assumption) (by omega) (by omega) (by omega) rfl) ?_ | refine Calls.mono (H1.out.next h0.out _ (by assumption) (by omega) (by omega) (by omega) rfl) ?_); rintro e w2 ⟨rfl, h2⟩; have H2 := Lib.hid h2; clear c20; have c20 := h2.st.c20; clear h2)
        | ((first | refine Calls.mono (h.out.nextB h0.out _ hb (by omega) (by omega) (by omega) rfl) ?_ | refine Calls.mono (h.out.next h0.out _ (by assumption) (by omega) (by omega) (by omega) rfl) ?_); rintro e w1 ⟨rfl, h1⟩; have H1 := Lib.hid h1; clear c20; have c20 := h1.st.c20; clear h1))
    | (go_at_call 70; refine Calls.mono (in_any _ _ _ _ rfl) ?_; rintro e w9 ⟨rfl, rfl⟩))
  all_goals
    go_ret
    first
      | exact ⟨_, _, rfl, H3.out, Lib.hid (by simp_all [arithmF94])⟩
      | exact ⟨_, _, rfl, H2.out, Lib.hid (by simp_all [arithmF94])⟩
      | exact ⟨_, _, rfl, H1.out, Lib.hid (by simp_all [arithmF94])⟩

set_option maxHeartbeats 4000000 in
set_option maxRecDepth 100000 in
theorem arithmToken_91 {B b rb sb fb m cap : Nat} {f : Nat → Int} {l : Int} {ea : Addr} {w0 w : World} (h0 : Hid (Src0 B m f w0)) (h : Hid (Tk B b rb sb fb m cap f l ea w0 0 w)) (hs : Rn f m 0 = 91) :
    Calls Tryf.prog 47 #[.pointer (some ⟨b, 0, none⟩), .int .i32 (Rn f m 0)] w fun e w' => ∃ tok k, e = .returned (.int .u32 tok) ∧ Tk B b rb sb fb m cap f l ea w0 k w' ∧ Hid (arithmF91 (Rn f m) l = (tok, k)) := by
  have c20 := h.out.st.c20
  have hb : (Rn f m 0 == 91) = true := by simp [hs]
  rw [hs]
  go_enter Tryf.func47, Tryf.ntmps47
  go_wp2_with (first
    | (go_at_call 43; first
        | ((first | refine Calls.mono (h.out.nextB h0.out _ hb (by omega) (by omega) (by omega) rfl) ?_ | refine Calls.mono (h.out.next h0.out _ (by assumption) (by omega) (by omega) (by omega) rfl) ?_); rintro e w1 ⟨rfl, h1⟩; have H1 := Lib.hid h1; clear c20; have c20 := h1.st.c20; clear h1))
    | (go_at_call 70; refine Calls.mono (in_any _ _ _ _ rfl) ?_; rintro e w9 ⟨rfl, rfl⟩))
  all_goals
    go_ret
    first
      | exact ⟨_, _, rfl, H1.out, Lib.hid (by simp_all [arithmF91])⟩

set_option maxHeartbeats 4000000 in
set_option maxRecDepth 100000 in
theorem arithmToken_93 {B b rb sb fb m cap : Nat} {f : Nat → Int} {l : Int} {ea : Addr} {w0 w : World} (h0 : Hid (Src0 B m f w0)) (h : Hid (Tk B b rb sb fb m cap f l ea w0 0 w)) (hs : Rn f m 0 = 93) :
    Calls Tryf.prog 47 #[.pointer (some ⟨b, 0, none⟩), .int .i32 (Rn f m 0)] w fun e w' => ∃ tok k, e = .returned (.int .u32 tok) ∧ Tk B b rb sb fb m cap f l ea w0 k w' ∧ Hid (arithmF93 (Rn f m) l = (tok, k)) := by
  have c20 := h.out.st.c20
  have hb : (Rn f m 0 == 93) = true := by simp [hs]
  rw [hs]
  go_enter Tryf.func47, Tryf.ntmps47
  go_wp2_with (first
    | (go_at_call 43; first
        | ((first | refine Calls.mono (h.out.nextB h0.out _ hb (by omega) (by omega) (by omega) rfl) ?_ | refine Calls.mono (h.out.next h0.out _ (by assumption) (by omega) (by omega) (by omega) rfl) ?_); rintro e w1 ⟨rfl, h1⟩; have H1 := Lib.hid h1; clear c20; have c20 := h1.st.c20; clear h1))
    | (go_at_call 70; refine Calls.mono (in_any _ _ _ _ rfl) ?_; rintro e w9 ⟨rfl, rfl⟩))
  all_goals
    go_ret
    first
      | exact ⟨_, _, rfl, H1.out, Lib.hid (by simp_all [arithmF93])⟩

set_option maxHeartbeats 4000000 in
set_option maxRecDepth 100000 in
theorem arithmToken_44 {B b rb sb fb m cap : Nat} {f : Nat → Int} {l : Int} {ea : Addr} {w0 w : World} (h0 : Hid (Src0 B m f w0)) (h : Hid (Tk B b rb sb fb m cap f l ea w0 0 w)) (hs : Rn f m 0 = 44) :
    Calls Tryf.prog 47 #[.pointer (some ⟨b, 0, none⟩), .int .i32 (Rn f m 0)] w fun e w' => ∃ tok k, e = .returned (.int .u32 tok) ∧ Tk B b rb sb fb m cap f l ea w0 k w' ∧ Hid (arithmF44 (Rn f m) l = (tok, k)) := by
  have c20 := h.out.st.c20
  have hb : (Rn f m 0 == 44) = true := by simp [hs]
  rw [hs]
  go_enter Tryf.func47, Tryf.ntmps47
  go_wp2_with (first
    | (go_at_call 43; first
        | ((first | refine Calls.mono (h.out.nextB h0.out _ hb (by omega) (by omega) (by omega) rfl) ?_ | refine Calls.mono (h.out.next h0.out _ (by assumption) (by omega) (by omega) (by omega) rfl) ?_); rintro e w1 ⟨rfl, h1⟩; have H1 := Lib.hid h1; clear c20; have c20 := h1.st.c20; clear h1))
    | (go_at_call 70; refine Calls.mono (in_any _ _ _ _ rfl) ?_; rintro e w9 ⟨rfl, rfl⟩))
  all_goals
    go_ret
    first
      | exact ⟨_, _, rfl, H1.out, Lib.hid (by simp_all [arithmF44])⟩

set_option maxHeartbeats 4000000 in
set_option maxRecDepth 100000 in
theorem arithmToken_63 {B b rb sb fb m cap : Nat} {f : Nat → Int} {l : Int} {ea : Addr} {w0 w : World} (h0 : Hid (Src0 B m f w0)) (h : Hid (Tk B b rb sb fb m cap f l ea w0 0 w)) (hs : Rn f m 0 = 63) :
    Calls Tryf.prog 47 #[.pointer (some ⟨b, 0, none⟩), .int .i32 (Rn f m 0)] w fun e w' => ∃ tok k, e = .returned (.int .u32 tok) ∧ Tk B b rb sb fb m cap f l ea w0 k w' ∧ Hid (arithmF63 (Rn f m) l = (tok, k)) := by
  have c20 := h.out.st.c20
  have hb : (Rn f m 0 == 63) = true := by simp [hs]
  rw [hs]
  go_enter Tryf.func47, Tryf.ntmps47
  go_wp2_with (first
    | (go_at_call 43; first
        | ((first | refine Calls.mono (h.out.nextB h0.out _ hb (by omega) (by omega) (by omega) rfl) ?_ | refine Calls.mono (h.out.next h0.out _ (by assumption) (by omega) (by omega) (by omega) rfl) ?_); rintro e w1 ⟨rfl, h1⟩; have H1 := Lib.hid h1; clear c20; have c20 := h1.st.c20; clear h1))
    | (go_at_call 70; refine Calls.mono (in_any _ _ _ _ rfl) ?_; rintro e w9 ⟨rfl, rfl⟩))
  all_goals
    go_ret
    first
      | exact ⟨_, _, rfl, H1.out, Lib.hid (by simp_all [arithmF63])⟩

set_option maxHeartbeats 4000000 in
set_option maxRecDepth 100000 in
theorem arithmToken_58 {B b rb sb fb m cap : Nat} {f : Nat → Int} {l : Int} {ea : Addr} {w0 w : World} (h0 : Hid (Src0 B m f w0)) (h : Hid (Tk B b rb sb fb m cap f l ea w0 0 w)) (hs : Rn f m 0 = 58) :
    Calls Tryf.prog 47 #[.pointer (some ⟨b, 0, none⟩), .int .i32 (Rn f m 0)] w fun e w' => ∃ tok k, e = .returned (.int .u32 tok) ∧ Tk B b rb sb fb m cap f l ea w0 k w' ∧ Hid (arithmF58 (Rn f m) l = (tok, k)) := by
  have c20 := h.out.st.c20
  have hb : (Rn f m 0 == 58) = true := by simp [hs]
  rw [hs]
  go_enter Tryf.func47, Tryf.ntmps47
  go_wp2_with (first
    | (go_at_call 43; first
        | ((first | refine Calls.mono (h.out.nextB h0.out _ hb (by omega) (by omega) (by omega) rfl) ?_ | refine Calls.mono (h.out.next h0.out _ (by assumption) (by omega) (by omega) (by omega) rfl) ?_); rintro e w1 ⟨rfl, h1⟩; have H1 := Lib.hid h1; clear c20; have c20 := h1.st.c20; clear h1))
    | (go_at_call 70; refine Calls.mono (in_any _ _ _ _ rfl) ?_; rintro e w9 ⟨rfl, rfl⟩))
  all_goals
    go_ret
    first
      | exact ⟨_, _, rfl, H1.out, Lib.hid (by simp_all [arithmF58])⟩

set_option maxHeartbeats 4000000 in
set_option maxRecDepth 100000 in
theorem arithmToken_35 {B b rb sb fb m cap : Nat} {f : Nat → Int} {l : Int} {ea : Addr} {w0 w : World} (h0 : Hid (Src0 B m f w0)) (h : Hid (Tk B b rb sb fb m cap f l ea w0 0 w)) (hs : Rn f m 0 = 35) :
    Calls Tryf.prog 47 #[.pointer (some ⟨b, 0, none⟩), .int .i32 (Rn f m 0)] w fun e w' => ∃ tok k, e = .returned (.int .u32 tok) ∧ Tk B b rb sb fb m cap f l ea w0 k w' ∧ Hid (arithmF35 (Rn f m) l = (tok, k)) := by
  have c20 := h.out.st.c20
  have hb : (Rn f m 0 == 35) = true := by simp [hs]
  rw [hs]
  go_enter Tryf.func47, Tryf.ntmps47
  go_wp2_with (first
    | (go_at_call 43; first
        | ((first | refine Calls.mono (h.out.nextB h0.out _ hb (by omega) (by omega) (by omega) rfl) ?_ | refine Calls.mono (h.out.next h0.out _ (by assumption) (by omega) (by omega) (by omega) rfl) ?_); rintro e w1 ⟨rfl, h1⟩; have H1 := Lib.hid h1; clear c20; have c20 := h1.st.c20; clear h1))
    | (go_at_call 70; refine Calls.mono (in_any _ _ _ _ rfl) ?_; rintro e w9 ⟨rfl, rfl⟩))
  all_goals
    go_ret
    first
      | exact ⟨_, _, rfl, H1.out, Lib.hid (by simp_all [arithmF35])⟩

set_option maxHeartbeats 4000000 in
set_option maxRecDepth 100000 in
theorem arithmToken_46 {B b rb sb fb m cap : Nat} {f : Nat → Int} {l : Int} {ea : Addr} {w0 w : World} (h0 : Hid (Src0 B m f w0)) (h : Hid (Tk B b rb sb fb m cap f l ea w0 0 w)) (hs : Rn f m 0 = 46) :
    Calls Tryf.prog 47 #[.pointer (some ⟨b, 0, none⟩), .int .i32 (Rn f m 0)] w fun e w' => ∃ tok k, e = .returned (.int .u32 tok) ∧ Tk B b rb sb fb m cap f l ea w0 k w' ∧ Hid (arithmF46 (Rn f m) l = (tok, k)) := by
  have c20 := h.out.st.c20
  have hb : (Rn f m 0 == 46) = true := by simp [hs]
  rw [hs]
  go_enter Tryf.func47, Tryf.ntmps47
  go_wp2_with (first
    | (go_at_call 43; first
        | ((first | refine Calls.mono (h.out.nextB h0.out _ hb (by omega) (by omega) (by omega) rfl) ?_ | refine Calls.mono (h.out.next h0.out _ (by assumption) (by omega) (by omega) (by omega) rfl) ?_); rintro e w1 ⟨rfl, h1⟩; have H1 := Lib.hid h1; clear c20; have c20 := h1.st.c20; clear h1))
    | (go_at_call 70; refine Calls.mono (in_any _ _ _ _ rfl) ?_; rintro e w9 ⟨rfl, rfl⟩))
  all_goals
    go_ret
    first
      | exact ⟨_, _, rfl, H1.out, Lib.hid (by simp_all [arithmF46])⟩

end Go.Proofs.YtgcjaijakbejjaaFmt

/- What regToken does by rune's contract. Conditions: rune's. -/
namespace Go.Proofs.YtgcjaijakbejjaaFmt
open Go.RowKit

set_option linter.unusedVariables false
set_option linter.unusedSimpArgs false
def regF39 (R : Nat → Int) (l : Int) : Int × Nat := (7, 1)
def regF34 (R : Nat → Int) (l : Int) : Int × Nat := (8, 1)
def regF38 (R : Nat → Int) (l : Int) : Int × Nat := if R 1 == 38 then ((11, 2)) else (if R 1 == 62 then (if R 2 == 124 then ((75, 3)) else (if R 2 == 33 then (if inL l 16 then (75, 3) else (74, 2)) else (if R 2 == 62 then (if R 3 == 124 then ((77, 4)) else (if R 3 == 33 then (if inL l 16 then (77, 4) else (76, 3)) else ((76, 3)))) else ((74, 2))))) else (if R 1 == 124 then (if inL l 16 then (15, 2) else (10, 1)) else (if R 1 == 33 then (if inL l 16 then (16, 2) else (10, 1)) else ((10, 1)))))
def regF124 (R : Nat → Int) (l : Int) : Int × Nat := if R 1 == 124 then ((12, 2)) else (if R 1 == 38 then (if inL l 29 then (14, 2) else (13, 1)) else ((13, 1)))
def regF36 (R : Nat → Int) (l : Int) : Int × Nat := if R 1 == 39 then (if inL l 29 then (18, 2) else (17, 1)) else (if R 1 == 34 then (if inL l 13 then (19, 2) else (17, 1)) else (if R 1 == 123 then ((20, 2)) else (if R 1 == 91 then (if inL l 9 then (21, 2) else (17, 1)) else (if R 1 == 40 then (if R 2 == 40 then ((23, 3)) else ((22, 2))) else ((17, 1))))))
def regF40 (R : Nat → Int) (l : Int) : Int × Nat := if R 1 == 40 then (if inL l 29 then (28, 2) else (27, 1)) else ((27, 1))
def regF41 (R : Nat → Int) (l : Int) : Int × Nat := (32, 1)
def regF59 (R : Nat → Int) (l : Int) : Int × Nat := if R 1 == 59 then (if R 2 == 38 then (if inL l 9 then (37, 3) else (35, 2)) else ((35, 2))) else (if R 1 == 38 then (if inL l 29 then (36, 2) else (34, 1)) else (if R 1 == 124 then (if inL l 20 then (38, 2) else (34, 1)) else ((34, 1))))
def regF60 (R : Nat → Int) (l : Int) : Int × Nat := if R 1 == 60 then (if R 2 == 45 then ((72, 3)) else (if R 2 == 60 then ((73, 3)) else ((71, 2)))) else (if R 1 == 62 then ((66, 2)) else (if R 1 == 38 then ((67, 2)) else (if R 1 == 40 then (if inL l 25 then (78, 2) else (65, 1)) else ((65, 1)))))
def regF62 (R : Nat → Int) (l : Int) : Int × Nat := if R 1 == 62 then (if R 2 == 124 then ((70, 3)) else (if R 2 == 33 then (if inL l 16 then (70, 3) else (64, 2)) else (if R 2 == 38 then (if inL l 16 then if R 3 == 124 then ((77, 4)) else (if R 3 == 33 then ((77, 4)) else ((76, 3))) else (64, 2)) else ((64, 2))))) else (if R 1 == 38 then (if R 2 == 124 then (if inL l 16 then (75, 3) else (68, 2)) else (if R 2 == 33 then (if inL l 16 then (75, 3) else (68, 2)) else ((68, 2)))) else (if R 1 == 124 then ((69, 2)) else (if R 1 == 33 then (if inL l 16 then (69, 2) else (63, 1)) else (if R 1 == 40 then (if inL l 25 then (80, 2) else (63, 1)) else ((63, 1))))))
/-- What regToken answers. -/
def regF (R : Nat → Int) (l : Int) : Int × Nat :=
  if R 0 == 96 then (9, 0) else if R 0 == 39 then regF39 R l else if R 0 == 34 then regF34 R l else if R 0 == 38 then regF38 R l else if R 0 == 124 then regF124 R l else if R 0 == 36 then regF36 R l else if R 0 == 40 then regF40 R l else if R 0 == 41 then regF41 R l else if R 0 == 59 then regF59 R l else if R 0 == 60 then regF60 R l else if R 0 == 62 then regF62 R l else (0, 0)

set_option maxHeartbeats 4000000 in
set_option maxRecDepth 100000 in
theorem regToken_39 {B b rb sb fb m cap : Nat} {f : Nat → Int} {l : Int} {ea : Addr} {w0 w : World} (h0 : Hid (Src0 B m f w0)) (h : Hid (Tk B b rb sb fb m cap f l ea w0 0 w)) (hs : Rn f m 0 = 39) :
    Calls Tryf.prog 44 #[.pointer (some ⟨b, 0, none⟩), .int .i32 (Rn f m 0)] w fun e w' => ∃ tok k, e = .returned (.int .u32 tok) ∧ Tk B b rb sb fb m cap f l ea w0 k w' ∧ Hid (regF39 (Rn f m) l = (tok, k)) := by
  have c20 := h.out.st.c20
  have hb : (Rn f m 0 == 39) = true := by simp [hs]
  rw [hs]
  go_enter Tryf.func44, Tryf.ntmps44
  go_wp2_with (first
    | (go_at_call 43; first
        | ((first | refine Calls.mono (h.out.nextB h0.out _ hb (by omega) (by omega) (by omega) rfl) ?_ | refine Calls.mono (h.out.next h0.out _ (by assumption) (by omega) (by omega) (by omega) rfl) ?_); rintro e w1 ⟨rfl, h1⟩; have H1 := Lib.hid h1; clear c20; have c20 := h1.st.c20; clear h1))
    | (go_at_call 70; refine Calls.mono (in_any _ _ _ _ rfl) ?_; rintro e w9 ⟨rfl, rfl⟩))
  all_goals
    go_ret
    first
      | exact ⟨_, _, rfl, H1.out, Lib.hid (by simp_all [regF39])⟩

set_option maxHeartbeats 4000000 in
set_option maxRecDepth 100000 in
theorem regToken_34 {B b rb sb fb m cap : Nat} {f : Nat → Int} {l : Int} {ea : Addr} {w0 w : World} (h0 : Hid (Src0 B m f w0)) (h : Hid (Tk B b rb sb fb m cap f l ea w0 0 w)) (hs : Rn f m 0 = 34) :
    Calls Tryf.prog 44 #[.pointer (some ⟨b, 0, none⟩), .int .i32 (Rn f m 0)] w fun e w' => ∃ tok k, e = .returned (.int .u32 tok) ∧ Tk B b rb sb fb m cap f l ea w0 k w' ∧ Hid (regF34 (Rn f m) l = (tok, k)) := by
  have c20 := h.out.st.c20
  have hb : (Rn f m 0 == 34) = true := by simp [hs]
  rw [hs]
  go_enter Tryf.func44, Tryf.ntmps44
  go_wp2_with (first
    | (go_at_call 43; first
        | ((first | refine Calls.mono (h.out.nextB h0.out _ hb (by omega) (by omega) (by omega) rfl) ?_ | refine Calls.mono (h.out.next h0.out _ (by assumption) (by omega) (by omega) (by omega) rfl) ?_); rintro e w1 ⟨rfl, h1⟩; have H1 := Lib.hid h1; clear c20; have c20 := h1.st.c20; clear h1))
    | (go_at_call 70; refine Calls.mono (in_any _ _ _ _ rfl) ?_; rintro e w9 ⟨rfl, rfl⟩))
  all_goals
    go_ret
    first
      | exact ⟨_, _, rfl, H1.out, Lib.hid (by simp_all [regF34])⟩

set_option maxHeartbeats 4000000 in
set_option maxRecDepth 100000 in
theorem regToken_38 {B b rb sb fb m cap : Nat} {f : Nat → Int} {l : Int} {ea : Addr} {w0 w : World} (h0 : Hid (Src0 B m f w0)) (h : Hid (Tk B b rb sb fb m cap f l ea w0 0 w)) (hs : Rn f m 0 = 38) :
    Calls Tryf.prog 44 #[.pointer (some ⟨b, 0, none⟩), .int .i32 (Rn f m 0)] w fun e w' => ∃ tok k, e = .returned (.int .u32 tok) ∧ Tk B b rb sb fb m cap f l ea w0 k w' ∧ Hid (regF38 (Rn f m) l = (tok, k)) := by
  have c20 := h.out.st.c20
  have hb : (Rn f m 0 == 38) = true := by simp [hs]
  rw [hs]
  go_enter Tryf.func44, Tryf.ntmps44
  go_wp2_with (first
    | (go_at_call 43; first
        | ((first | refine Calls.mono (H3.out.nextB h0.out _ (by assumption) (by omega) (by omega) (by omega) rfl) ?_ | refine Calls.mono (H3.out.next h0.out _ (by assumption) (by omega) (by omega) (by omega) rfl) ?_); rintro e w4 ⟨rfl, h4⟩; have H4 := Lib.hid h4; clear c20; have c20 := h4.st.c20; clear h4)
        | ((first | refine Calls.mono (H2.out.nextB h0.out _ (by assumption) (by omega) (by omega) (by omega) rfl) ?_ | refine Calls.mono (H2.out.next h0.out _ (by assumption) (by omega) (by omega) (by omega) rfl) ?_); rintro e w3 ⟨rfl, h3⟩; have H3 := Lib.hid h3; clear c20; have c20 := h3.st.c20; clear h3)
        | ((first | refine Calls.mono (H1.out.nextB h0.out _ (by assumption) (by omega) (by omega) (by omega) rfl) ?_ | refine Calls.mono (H1.out.next h0.out _ (by assumption) (by omega) (by omega) (by omega) rfl) ?_); rintro e w2 ⟨rfl, h2⟩; have H2 := Lib.hid h2; clear c20; have c20 := h2.st.c20; clear h2)
        | ((first | refine Calls.mono (h.out.nextB h0.out _ hb (by omega) (by omega) (by omega) rfl) ?_ | refine Calls.mono (h.out.next h0.out _ (by assumption) (by omega) (by omega) (by omega) rfl) ?_); rintro e w1 ⟨rfl, h1⟩; have H1 := Lib.hid h1; clear c20; have c20 := h1.st.c20; clear h1))
    | (go_at_call 70; refine Calls.mono (in_any _ _ _ _ rfl) ?_; rintro e w9 ⟨rfl, rfl⟩))
  all_goals
    go_ret
    first
      | exact ⟨_, _, rfl, H4.out, Lib.hid (by simp_all [regF38])⟩
      | exact ⟨_, _, rfl, H3.out, Lib.hid (by simp_all [regF38])⟩
      | exact ⟨_, _, rfl, H2.out, Lib.hid (by simp_all [regF38])⟩
      | exact ⟨_, _, rfl, H1.out, Lib.hid (by simp_all [regF38])⟩

set_option maxHeartbeats 4000000 in
set_option maxRecDepth 100000 in
theorem regToken_124 {B b rb sb fb m cap : Nat} {f : Nat → Int} {l : Int} {ea : Addr} {w0 w : World} (h0 : Hid (Src0 B m f w0)) (h : Hid (Tk B b rb sb fb m cap f l ea w0 0 w)) (hs : Rn f m 0 = 124) :
    Calls Tryf.prog 44 #[.pointer (some ⟨b, 0, none⟩), .int .i32 (Rn f m 0)] w fun e w' => ∃ tok k, e = .returned (.int .u32 tok) ∧ Tk B b rb sb fb m cap f l ea w0 k w' ∧ Hid (regF124 (Rn f m) l = (tok, k)) := by
  have c20 := h.out.st.c20
  have hb : (Rn f m 0 == 124) = true := by simp [hs]
  rw [hs]
  go_enter Tryf.func44, Tryf.ntmps44
  go_wp2_with (first
    | (go_at_call 43; first
        | ((first | refine Calls.mono (H1.out.nextB h0.out _ (by assumption) (by omega) (by omega) (by omega) rfl) ?_ | refine Calls.mono (H1.out.next h0.out _ (by assumption) (by omega) (by omega) (by omega) rfl) ?_); rintro e w2 ⟨rfl, h2⟩; have H2 := Lib.hid h2; clear c20; have c20 := h2.st.c20; clear h2)
        | ((first | refine Calls.mono (h.out.nextB h0.out _ hb (by omega) (by omega) (by omega) rfl) ?_ | refine Calls.mono (h.out.next h0.out _ (by assumption) (by omega) (by omega) (by omega) rfl) ?_); rintro e w1 ⟨rfl, h1⟩; have H1 := Lib.hid h1; clear c20; have c20 := h1.st.c20; clear h1))
    | (go_at_call 70; refine Calls.mono (in_any _ _ _ _ rfl) ?_; rintro e w9 ⟨rfl, rfl⟩))
  all_goals
    go_ret
    first
      | exact ⟨_, _, rfl, H2.out, Lib.hid (by simp_all [regF124])⟩
      | exact ⟨_, _, rfl, H1.out, Lib.hid (by simp_all [regF124])⟩

set_option maxHeartbeats 4000000 in
set_option maxRecDepth 100000 in
theorem regToken_36 {B b rb sb fb m cap : Nat} {f : Nat → Int} {l : Int} {ea : Addr} {w0 w : World} (h0 : Hid (Src0 B m f w0)) (h : Hid (Tk B b rb sb fb m cap f l ea w0 0 w)) (hs : Rn f m 0 = 36) :
    Calls Tryf.prog 44 #[.pointer (some ⟨b, 0, none⟩), .int .i32 (Rn f m 0)] w fun e w' => ∃ tok k, e = .returned (.int .u32 tok) ∧ Tk B b rb sb fb m cap f l ea w0 k w' ∧ Hid (regF36 (Rn f m) l = (tok, k)) := by
  have c20 := h.out.st.c20
  have hb : (Rn f m 0 == 36) = true := by simp [hs]
  rw [hs]
  go_enter Tryf.func44, Tryf.ntmps44
  go_wp2_with (first
    | (go_at_call 43; first
        | ((first | refine Calls.mono (H2.out.nextB h0.out _ (by assumption) (by omega) (by omega) (by omega) rfl) ?_ | refine Calls.mono (H2.out.next h0.out _ (by assumption) (by omega) (by omega) (by omega) rfl) ?_); rintro e w3 ⟨rfl, h3⟩; have H3 := Lib.hid h3; clear c20; have c20 := h3.st.c20; clear h3)
        | ((first | refine Calls.mono (H1.out.nextB h0.out _ (by assumption) (by omega) (by omega) (by omega) rfl) ?_ | refine Calls.mono (H1.out.next h0.out _ (by assumption) (by omega) (by omega) (by omega) rfl) ?_); rintro e w2 ⟨rfl, h2⟩; have H2 := Lib.hid h2; clear c20; have c20 := h2.st.c20; clear h2)
        | ((first | refine Calls.mono (h.out.nextB h0.out _ hb (by omega) (by omega) (by omega) rfl) ?_ | refine Calls.mono (h.out.next h0.out _ (by assumption) (by omega) (by omega) (by omega) rfl) ?_); rintro e w1 ⟨rfl, h1⟩; have H1 := Lib.hid h1; clear c20; have c20 := h1.st.c20; clear h1))
    | (go_at_call 70; refine Calls.mono (in_any _ _ _ _ rfl) ?_; rintro e w9 ⟨rfl, rfl⟩))
  all_goals
    go_ret
    first
      | exact ⟨_, _, rfl, H3.out, Lib.hid (by simp_all [regF36])⟩
      | exact ⟨_, _, rfl, H2.out, Lib.hid (by simp_all [regF36])⟩
      | exact ⟨_, _, rfl, H1.out, Lib.hid (by simp_all [regF36])⟩

set_option maxHeartbeats 4000000 in
set_option maxRecDepth 100000 in
theorem regToken_40 {B b rb sb fb m cap : Nat} {f : Nat → Int} {l : Int} {ea : Addr} {w0 w : World} (h0 : Hid (Src0 B m f w0)) (h : Hid (Tk B b rb sb fb m cap f l ea w0 0 w)) (hs : Rn f m 0 = 40) :
    Calls Tryf.prog 44 #[.pointer (some ⟨b, 0, none⟩), .int .i32 (Rn f m 0)] w fun e w' => ∃ tok k, e = .returned (.int .u32 tok) ∧ Tk B b rb sb fb m cap f l ea w0 k w' ∧ Hid (regF40 (Rn f m) l = (tok, k)) := by
  have c20 := h.out.st.c20
  have hb : (Rn f m 0 == 40) = true := by simp [hs]
  rw [hs]
  go_enter Tryf.func44, Tryf.ntmps44
  go_wp2_with (first
    | (go_at_call 43; first
        | ((first | refine Calls.mono (H1.out.nextB h0.out _ (by assumption) (by omega) (by omega) (by omega) rfl) ?_ | refine Calls.mono (H1.out.next h0.out _ (by assumption) (by omega) (by omega) (by omega) rfl) ?_); rintro e w2 ⟨rfl, h2⟩; have H2 := Lib.hid h2; clear c20; have c20 := h2.st.c20; clear h2)
        | ((first | refine Calls.mono (h.out.nextB h0.out _ hb (by omega) (by omega) (by omega) rfl) ?_ | refine Calls.mono (h.out.next h0.out _ (by assumption) (by omega) (by omega) (by omega) rfl) ?_); rintro e w1 ⟨rfl, h1⟩; have H1 := Lib.hid h1; clear c20; have c20 := h1.st.c20; clear h1))
    | (go_at_call 70; refine Calls.mono (in_any _ _ _ _ rfl) ?_; rintro e w9 ⟨rfl, rfl⟩; have c17 := H1.out.c17 h0.out 40 (by first | assumption | simp_all) (by omega) (by omega)))
  all_goals
    go_ret
    first
      | exact ⟨_, _, rfl, H2.out, Lib.hid (by simp_all [regF40])⟩
      | exact ⟨_, _, rfl, H1.out, Lib.hid (by simp_all [regF40])⟩

set_option maxHeartbeats 4000000 in
set_option maxRecDepth 100000 in
theorem regToken_41 {B b rb sb fb m cap : Nat} {f : Nat → Int} {l : Int} {ea : Addr} {w0 w : World} (h0 : Hid (Src0 B m f w0)) (h : Hid (Tk B b rb sb fb m cap f l ea w0 0 w)) (hs : Rn f m 0 = 41) :
    Calls Tryf.prog 44 #[.pointer (some ⟨b, 0, none⟩), .int .i32 (Rn f m 0)] w fun e w' => ∃ tok k, e = .returned (.int .u32 tok) ∧ Tk B b rb sb fb m cap f l ea w0 k w' ∧ Hid (regF41 (Rn f m) l = (tok, k)) := by
  have c20 := h.out.st.c20
  have hb : (Rn f m 0 == 41) = true := by simp [hs]
  rw [hs]
  go_enter Tryf.func44, Tryf.ntmps44
  go_wp2_with (first
    | (go_at_call 43; first
        | ((first | refine Calls.mono (h.out.nextB h0.out _ hb (by omega) (by omega) (by omega) rfl) ?_ | refine Calls.mono (h.out.next h0.out _ (by assumption) (by omega) (by omega) (by omega) rfl) ?_); rintro e w1 ⟨rfl, h1⟩; have H1 := Lib.hid h1; clear c20; have c20 := h1.st.c20; clear h1))
    | (go_at_call 70; refine Calls.mono (in_any _ _ _ _ rfl) ?_; rintro e w9 ⟨rfl, rfl⟩))
  all_goals
    go_ret
    first
      | exact ⟨_, _, rfl, H1.out, Lib.hid (by simp_all [regF41])⟩

set_option maxHeartbeats 4000000 in
set_option maxRecDepth 100000 in
theorem regToken_59 {B b rb sb fb m cap : Nat} {f : Nat → Int} {l : Int} {ea : Addr} {w0 w : World} (h0 : Hid (Src0 B m f w0)) (h : Hid (Tk B b rb sb fb m cap f l ea w0 0 w)) (hs : Rn f m 0 = 59) :
    Calls Tryf.prog 44 #[.pointer (some ⟨b, 0, none⟩), .int .i32 (Rn f m 0)] w fun e w' => ∃ tok k, e = .returned (.int .u32 tok) ∧ Tk B b rb sb fb m cap f l ea w0 k w' ∧ Hid (regF59 (Rn f m) l = (tok, k)) := by
  have c20 := h.out.st.c20
  have hb : (Rn f m 0 == 59) = true := by simp [hs]
  rw [hs]
  go_enter Tryf.func44, Tryf.ntmps44
  go_wp2_with (first
    | (go_at_call 43; first
        | ((first | refine Calls.mono (H2.out.nextB h0.out _ (by assumption) (by omega) (by omega) (by omega) rfl) ?_ | refine Calls.mono (H2.out.next h0.out _ (by assumption) (by omega) (by omega) (by omega) rfl) ?_); rintro e w3 ⟨rfl, h3⟩; have H3 := Lib.hid h3; clear c20; have c20 := h3.st.c20; clear h3)
        | ((first | refine Calls.mono (H1.out.nextB h0.out _ (by assumption) (by omega) (by omega) (by omega) rfl) ?_ | refine Calls.mono (H1.out.next h0.out _ (by assumption) (by omega) (by omega) (by omega) rfl) ?_); rintro e w2 ⟨rfl, h2⟩; have H2 := Lib.hid h2; clear c20; have c20 := h2.st.c20; clear h2)
        | ((first | refine Calls.mono (h.out.nextB h0.out _ hb (by omega) (by omega) (by omega) rfl) ?_ | refine Calls.mono (h.out.next h0.out _ (by assumption) (by omega) (by omega) (by omega) rfl) ?_); rintro e w1 ⟨rfl, h1⟩; have H1 := Lib.hid h1; clear c20; have c20 := h1.st.c20; clear h1))
    | (go_at_call 70; refine Calls.mono (in_any _ _ _ _ rfl) ?_; rintro e w9 ⟨rfl, rfl⟩))
  all_goals
    go_ret
    first
      | exact ⟨_, _, rfl, H3.out, Lib.hid (by simp_all [regF59])⟩
      | exact ⟨_, _, rfl, H2.out, Lib.hid (by simp_all [regF59])⟩
      | exact ⟨_, _, rfl, H1.out, Lib.hid (by simp_all [regF59])⟩

set_option maxHeartbeats 4000000 in
set_option maxRecDepth 100000 in
theorem regToken_60 {B b rb sb fb m cap : Nat} {f : Nat → Int} {l : Int} {ea : Addr} {w0 w : World} (h0 : Hid (Src0 B m f w0)) (h : Hid (Tk B b rb sb fb m cap f l ea w0 0 w)) (hs : Rn f m 0 = 60) :
    Calls Tryf.prog 44 #[.pointer (some ⟨b, 0, none⟩), .int .i32 (Rn f m 0)] w fun e w' => ∃ tok k, e = .returned (.int .u32 tok) ∧ Tk B b rb sb fb m cap f l ea w0 k w' ∧ Hid (regF60 (Rn f m) l = (tok, k)) := by
  have c20 := h.out.st.c20
  have hb : (Rn f m 0 == 60) = true := by simp [hs]
  rw [hs]
  go_enter Tryf.func44, Tryf.ntmps44
  go_wp2_with (first
    | (go_at_call 43; first
        | ((first | refine Calls.mono (H2.out.nextB h0.out _ (by assumption) (by omega) (by omega) (by omega) rfl) ?_ | refine Calls.mono (H2.out.next h0.out _ (by assumption) (by omega) (by omega) (by omega) rfl) ?_); rintro e w3 ⟨rfl, h3⟩; have H3 := Lib.hid h3; clear c20; have c20 := h3.st.c20; clear h3)
        | ((first | refine Calls.mono (H1.out.nextB h0.out _ (by assumption) (by omega) (by omega) (by omega) rfl) ?_ | refine Calls.mono (H1.out.next h0.out _ (by assumption) (by omega) (by omega) (by omega) rfl) ?_); rintro e w2 ⟨rfl, h2⟩; have H2 := Lib.hid h2; clear c20; have c20 := h2.st.c20; clear h2)
        | ((first | refine Calls.mono (h.out.nextB h0.out _ hb (by omega) (by omega) (by omega) rfl) ?_ | refine Calls.mono (h.out.next h0.out _ (by assumption) (by omega) (by omega) (by omega) rfl) ?_); rintro e w1 ⟨rfl, h1⟩; have H1 := Lib.hid h1; clear c20; have c20 := h1.st.c20; clear h1))
    | (go_at_call 70; refine Calls.mono (in_any _ _ _ _ rfl) ?_; rintro e w9 ⟨rfl, rfl⟩))
  all_goals
    go_ret
    first
      | exact ⟨_, _, rfl, H3.out, Lib.hid (by simp_all [regF60])⟩
      | exact ⟨_, _, rfl, H2.out, Lib.hid (by simp_all [regF60])⟩
      | exact ⟨_, _, rfl, H1.out, Lib.hid (by simp_all [regF60])⟩

set_option maxHeartbeats 4000000 in
set_option maxRecDepth 100000 in
theorem regToken_62 {B b rb sb fb m cap : Nat} {f : Nat → Int} {l : Int} {ea : Addr} {w0 w : World} (h0 : Hid (Src0 B m f w0)) (h : Hid (Tk B b rb sb fb m cap f l ea w0 0 w)) (hs : Rn f m 0 = 62) :
    Calls Tryf.prog 44 #[.pointer (some ⟨b, 0, none⟩), .int .i32 (Rn f m 0)] w fun e w' => ∃ tok k, e = .returned (.int .u32 tok) ∧ Tk B b rb sb fb m cap f l ea w0 k w' ∧ Hid (regF62 (Rn f m) l = (tok, k)) := by
  have c20 := h.out.st.c20
  have hb : (Rn f m 0 == 62) = true := by simp [hs]
  rw [hs]
  go_enter Tryf.func44, Tryf.ntmps44
  go_wp2_with (first
    | (go_at_call 43; first
        | ((first | refine Calls.mono (H3.out.nextB h0.out _ (by assumption) (by omega) (by omega) (by omega) rfl) ?_ | refine Calls.mono (H3.out.next h0.out _ (by assumption) (by omega) (by omega) (by omega) rfl) ?_); rintro e w4 ⟨rfl, h4⟩; have H4 := Lib.hid h4; clear c20; have c20 := h4.st.c20; clear h4)
        | ((first | refine Calls.mono (H2.out.nextB h0.out _ (by assumption) (by omega) (by omega) (by omega) rfl) ?_ | refine Calls.mono (H2.out.next h0.out _ (by assumption) (by omega) (by omega) (by omega) rfl) ?_); rintro e w3 ⟨rfl, h3⟩; have H3 := Lib.hid h3; clear c20; have c20 := h3.st.c20; clear h3)
        | ((first | refine Calls.mono (H1.out.nextB h0.out _ (by assumption) (by omega) (by omega) (by omega) rfl) ?_ | refine Calls.mono (H1.out.next h0.out _ (by assumption) (by omega) (by omega) (by omega) rfl) ?_); rintro e w2 ⟨rfl, h2⟩; have H2 := Lib.hid h2; clear c20; have c20 := h2.st.c20; clear h2)
        | ((first | refine Calls.mono (h.out.nextB h0.out _ hb (by omega) (by omega) (by omega) rfl) ?_ | refine Calls.mono (h.out.next h0.out _ (by assumption) (by omega) (by omega) (by omega) rfl) ?_); rintro e w1 ⟨rfl, h1⟩; have H1 := Lib.hid h1; clear c20; have c20 := h1.st.c20; clear h1))
    | (go_at_call 70; refine Calls.mono (in_any _ _ _ _ rfl) ?_; rintro e w9 ⟨rfl, rfl⟩))
  all_goals
    go_ret
    first
      | exact ⟨_, _, rfl, H4.out, Lib.hid (by simp_all [regF62])⟩
      | exact ⟨_, _, rfl, H3.out, Lib.hid (by simp_all [regF62])⟩
      | exact ⟨_, _, rfl, H2.out, Lib.hid (by simp_all [regF62])⟩
      | exact ⟨_, _, rfl, H1.out, Lib.hid (by simp_all [regF62])⟩

end Go.Proofs.YtgcjaijakbejjaaFmt

/- What paramToken does where no operator begins, and regToken at a backquote. Conditions: rune's. -/
namespace Go.Proofs.YtgcjaijakbejjaaFmt
open Go.RowKit

set_option maxHeartbeats 1000000 in
set_option maxRecDepth 100000 in
theorem paramToken_eof {b : Nat} {w : World} : Calls Tryf.prog 46 #[.pointer (some ⟨b, 0, none⟩), .int .i32 1114112] w fun e w' => e = .returned (.int .u32 1) ∧ w' = w := by
  go_enter Tryf.func46, Tryf.ntmps46
  go_wp2
  go_ret
  exact ⟨rfl, rfl⟩

set_option maxHeartbeats 1000000 in
set_option maxRecDepth 100000 in
theorem paramToken_none {b : Nat} {w : World} (r : Int) (h125 : (r == 125) = false) (h58 : (r == 58) = false) (h43 : (r == 43) = false) (h45 : (r == 45) = false) (h63 : (r == 63) = false) (h61 : (r == 61) = false) (h37 : (r == 37) = false) (h35 : (r == 35) = false) (h33 : (r == 33) = false) (h93 : (r == 93) = false) (h47 : (r == 47) = false) (h94 : (r == 94) = false) (h44 : (r == 44) = false) (h64 : (r == 64) = false) (h42 : (r == 42) = false) (h1114112 : (r == 1114112) = false) :
    Calls Tryf.prog 46 #[.pointer (some ⟨b, 0, none⟩), .int .i32 r] w fun e w' => e = .returned (.int .u32 0) ∧ w' = w := by
  go_enter Tryf.func46, Tryf.ntmps46
  go_wp2
  go_ret
  exact ⟨rfl, rfl⟩

set_option maxHeartbeats 1000000 in
set_option maxRecDepth 100000 in
theorem regToken_96 {b : Nat} {w : World} : Calls Tryf.prog 44 #[.pointer (some ⟨b, 0, none⟩), .int .i32 96] w fun e w' => e = .returned (.int .u32 9) ∧ w' = w := by
  go_enter Tryf.func44, Tryf.ntmps44
  go_wp2
  go_ret
  exact ⟨rfl, rfl⟩
end Go.Proofs.YtgcjaijakbejjaaFmt
