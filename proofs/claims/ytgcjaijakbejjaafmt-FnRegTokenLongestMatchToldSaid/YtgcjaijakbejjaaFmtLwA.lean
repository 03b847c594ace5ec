/- The four token laws, walked: each returns true. Conditions: the listed variables as laid ('Beg'). PRINTED by lwa_print.py. -/
import Derived.Test.YtgcjaijakbejjaaFmtGg
import Derived.Test.YtgcjaijakbejjaaFmtGh
namespace Go.Proofs.YtgcjaijakbejjaaFmt
open Go.RowKit Go.Proofs.YtgcjaijakbejjaaFmtW.PrintWords Go.Proofs.YtgcjaijakbejjaaFmt.PFnDqTokenLongestMatch

theorem Rn_far (f : Nat → Int) (m j : Nat) (hj : j < m) (h8 : 128 ≤ f j) (hk : 1024 ≤ j) : Rn f m j = 65533 := by
  have e : decAt f m j = (65533, 0) := by
    unfold decAt Lib.decodeGo
    rw [tailOf_size, if_pos (by omega)]
  unfold Rn
  rw [if_neg (by omega), if_neg (by omega), e]
  rfl
theorem shows_Rn (s : ByteArray) : Shows (Rn (sF s) s.size) s := by
  intro j c h0 h1
  rw [bt_sF]
  have hF := sF_byte s
  constructor
  · intro h
    by_cases hm : s.size ≤ j
    · have : Rn (sF s) s.size j = 1114112 := by unfold Rn; rw [if_pos hm]
      omega
    · by_cases h8 : sF s j < 128
      · rw [Rn_ascii (by omega) h8] at h
        exact ⟨by omega, h⟩
      · by_cases hk : 1024 ≤ j
        · have := Rn_far (sF s) s.size j (by omega) (by omega) hk; omega
        · have := Rn_wide hF (m := s.size) (j := j) (Or.inr (by omega)) (by omega); omega
  · rintro ⟨hj, h⟩
    rw [Rn_ascii hj (by omega), h]

theorem mfold_none {R : Nat → Int} {bit : Int} : ∀ (L : List (List Int × Int × Int)), L.all (fun e => !e.1.isEmpty) = true → L.filter (hd (R 0)) = [] → mfold R bit L (-1) 0 = (0, 0, false) := by
  intro L h hf
  rw [mfold_hd R bit (R 0) rfl L _ _ h, hf]
  rfl

theorem rok0 (s : ByteArray) (h : 0 < s.size) : ∃ r, n010_119_zzB1RuneOK.f 20 s = some r ∧ (r = true → Rn (sF s) s.size 0 ≠ 1114112) ∧ (r = false → Rn (sF s) s.size 0 = 1114112) := by
  by_cases h8 : 128 ≤ sF s 0
  · obtain ⟨r, hr, h1, h2⟩ := Rn_ok s 0 (by omega) h h8
    have e : s.extract 0 s.size = s := by simp
    rw [e] at hr
    exact ⟨r, hr, fun q => by have := h1 q; omega, h2⟩
  · have hb : bt s 0 = sF s 0 := bt_sF s 0
    refine ⟨true, ?_, fun _ => ?_, fun q => by cases q⟩
    · unfold n010_119_zzB1RuneOK.f
      rw [if_pos (by omega), if_pos (by omega)]
    · have hv := sF_byte s 0 h
      rw [Rn_ascii h (by omega)]; omega

theorem beg_below {w w' : World} {ea : Addr} (h : Beg w ea) (hb : Below w.heap.size w w') : Beg w' ea :=
  ⟨by have := hb.size; have := h.size; omega, tabs_below h.size h.tabs hb, (hb.cell (p := ⟨0, 0, none⟩) (by have := h.size; show 0 < _; omega)).trans h.eof⟩

theorem start9_is (c : Int) (b : Bool) (h : start9 c = b) (w : World) : Calls Tryf.prog 9 #[.int .u8 c] w fun e w' => e = .returned (.bool b) ∧ w' = w := by
  rw [← h]; exact start9_any c w w rfl
theorem start15_is (c : Int) (b : Bool) (h : start15 c = b) (w : World) : Calls Tryf.prog 15 #[.int .u8 c] w fun e w' => e = .returned (.bool b) ∧ w' = w := by
  rw [← h]; exact start15_any c w w rfl
theorem start17_is (c : Int) (b : Bool) (h : start17 c = b) (w : World) : Calls Tryf.prog 17 #[.int .u8 c] w fun e w' => e = .returned (.bool b) ∧ w' = w := by
  rw [← h]; exact start17_any c w w rfl
theorem reg_mod {s : ByteArray} (hs : s.size ≤ 1048576) {i : Int} (hi0 : 0 ≤ i) (hi4 : i ≤ 4) (hst : Rn (sF s) s.size 0 = 39 ∨ Rn (sF s) s.size 0 = 34 ∨ Rn (sF s) s.size 0 = 38 ∨ Rn (sF s) s.size 0 = 124 ∨ Rn (sF s) s.size 0 = 36 ∨ Rn (sF s) s.size 0 = 40 ∨ Rn (sF s) s.size 0 = 41 ∨ Rn (sF s) s.size 0 = 59 ∨ Rn (sF s) s.size 0 = 60 ∨ Rn (sF s) s.size 0 = 62) {tok : Int} {k : Nat} (hF : regF (Rn (sF s) s.size) (langOf i) = (tok, k)) : n010_119_zzB1Model.f 200 0 i s = some (tok, (k : Int), true) := by
  rw [reg_model (shows_Rn s) (by omega) i hi0 hi4]
  rcases hst with h | h | h | h | h | h | h | h | h | h
  · rw [show regF (Rn (sF s) s.size) (langOf i) = regF39 (Rn (sF s) s.size) (langOf i) by simp [regF, h]] at hF
    rw [reg_law39 _ h i hi0 hi4, hF]
  · rw [show regF (Rn (sF s) s.size) (langOf i) = regF34 (Rn (sF s) s.size) (langOf i) by simp [regF, h]] at hF
    rw [reg_law34 _ h i hi0 hi4, hF]
  · rw [show regF (Rn (sF s) s.size) (langOf i) = regF38 (Rn (sF s) s.size) (langOf i) by simp [regF, h]] at hF
    rw [reg_law38 _ h i hi0 hi4, hF]
  · rw [show regF (Rn (sF s) s.size) (langOf i) = regF124 (Rn (sF s) s.size) (langOf i) by simp [regF, h]] at hF
    rw [reg_law124 _ h i hi0 hi4, hF]
  · rw [show regF (Rn (sF s) s.size) (langOf i) = regF36 (Rn (sF s) s.size) (langOf i) by simp [regF, h]] at hF
    rw [reg_law36 _ h i hi0 hi4, hF]
  · rw [show regF (Rn (sF s) s.size) (langOf i) = regF40 (Rn (sF s) s.size) (langOf i) by simp [regF, h]] at hF
    rw [reg_law40 _ h i hi0 hi4, hF]
  · rw [show regF (Rn (sF s) s.size) (langOf i) = regF41 (Rn (sF s) s.size) (langOf i) by simp [regF, h]] at hF
    rw [reg_law41 _ h i hi0 hi4, hF]
  · rw [show regF (Rn (sF s) s.size) (langOf i) = regF59 (Rn (sF s) s.size) (langOf i) by simp [regF, h]] at hF
    rw [reg_law59 _ h i hi0 hi4, hF]
  · rw [show regF (Rn (sF s) s.size) (langOf i) = regF60 (Rn (sF s) s.size) (langOf i) by simp [regF, h]] at hF
    rw [reg_law60 _ h i hi0 hi4, hF]
  · rw [show regF (Rn (sF s) s.size) (langOf i) = regF62 (Rn (sF s) s.size) (langOf i) by simp [regF, h]] at hF
    rw [reg_law62 _ h i hi0 hi4, hF]
theorem dq_mod {s : ByteArray} (hs : s.size ≤ 1048576) {i : Int} (hi0 : 0 ≤ i) (hi4 : i ≤ 4) (hst : Rn (sF s) s.size 0 = 34 ∨ Rn (sF s) s.size 0 = 36) {tok : Int} {k : Nat} (hF : dqF (Rn (sF s) s.size) (langOf i) = (tok, k)) : n010_119_zzB1Model.f 200 1 i s = some (tok, (k : Int), true) := by
  rw [dq_model (shows_Rn s) (by omega) i hi0 hi4]
  rcases hst with h | h
  · rw [dq_law34 _ h i hi0 hi4, hF]
  · rw [dq_law36 _ h i hi0 hi4, hF]
theorem arithm_mod {s : ByteArray} (hs : s.size ≤ 1048576) {i : Int} (hi0 : 0 ≤ i) (hi4 : i ≤ 4) (hst : Rn (sF s) s.size 0 = 33 ∨ Rn (sF s) s.size 0 = 61 ∨ Rn (sF s) s.size 0 = 126 ∨ Rn (sF s) s.size 0 = 40 ∨ Rn (sF s) s.size 0 = 41 ∨ Rn (sF s) s.size 0 = 38 ∨ Rn (sF s) s.size 0 = 124 ∨ Rn (sF s) s.size 0 = 60 ∨ Rn (sF s) s.size 0 = 62 ∨ Rn (sF s) s.size 0 = 43 ∨ Rn (sF s) s.size 0 = 45 ∨ Rn (sF s) s.size 0 = 37 ∨ Rn (sF s) s.size 0 = 42 ∨ Rn (sF s) s.size 0 = 47 ∨ Rn (sF s) s.size 0 = 94 ∨ Rn (sF s) s.size 0 = 91 ∨ Rn (sF s) s.size 0 = 93 ∨ Rn (sF s) s.size 0 = 44 ∨ Rn (sF s) s.size 0 = 63 ∨ Rn (sF s) s.size 0 = 58 ∨ Rn (sF s) s.size 0 = 35 ∨ Rn (sF s) s.size 0 = 46) {tok : Int} {k : Nat} (hF : arithmF (Rn (sF s) s.size) (langOf i) = (tok, k)) : n010_119_zzB1Model.f 200 3 i s = some (tok, (k : Int), true) := by
  rw [arithm_model (shows_Rn s) (by omega) i hi0 hi4]
  rcases hst with h | h | h | h | h | h | h | h | h | h | h | h | h | h | h | h | h | h | h | h | h | h
  · rw [show arithmF (Rn (sF s) s.size) (langOf i) = arithmF33 (Rn (sF s) s.size) (langOf i) by simp [arithmF, h]] at hF
    rw [arithm_law33 _ h i hi0 hi4, hF]
  · rw [show arithmF (Rn (sF s) s.size) (langOf i) = arithmF61 (Rn (sF s) s.size) (langOf i) by simp [arithmF, h]] at hF
    rw [arithm_law61 _ h i hi0 hi4, hF]
  · rw [show arithmF (Rn (sF s) s.size) (langOf i) = arithmF126 (Rn (sF s) s.size) (langOf i) by simp [arithmF, h]] at hF
    rw [arithm_law126 _ h i hi0 hi4, hF]
  · rw [show arithmF (Rn (sF s) s.size) (langOf i) = arithmF40 (Rn (sF s) s.size) (langOf i) by simp [arithmF, h]] at hF
    rw [arithm_law40 _ h i hi0 hi4, hF]
  · rw [show arithmF (Rn (sF s) s.size) (langOf i) = arithmF41 (Rn (sF s) s.size) (langOf i) by simp [arithmF, h]] at hF
    rw [arithm_law41 _ h i hi0 hi4, hF]
  · rw [show arithmF (Rn (sF s) s.size) (langOf i) = arithmF38 (Rn (sF s) s.size) (langOf i) by simp [arithmF, h]] at hF
    rw [arithm_law38 _ h i hi0 hi4, hF]
  · rw [show arithmF (Rn (sF s) s.size) (langOf i) = arithmF124 (Rn (sF s) s.size) (langOf i) by simp [arithmF, h]] at hF
    rw [arithm_law124 _ h i hi0 hi4, hF]
  · rw [show arithmF (Rn (sF s) s.size) (langOf i) = arithmF60 (Rn (sF s) s.size) (langOf i) by simp [arithmF, h]] at hF
    rw [arithm_law60 _ h i hi0 hi4, hF]
  · rw [show arithmF (Rn (sF s) s.size) (langOf i) = arithmF62 (Rn (sF s) s.size) (langOf i) by simp [arithmF, h]] at hF
    rw [arithm_law62 _ h i hi0 hi4, hF]
  · rw [show arithmF (Rn (sF s) s.size) (langOf i) = arithmF43 (Rn (sF s) s.size) (langOf i) by simp [arithmF, h]] at hF
    rw [arithm_law43 _ h i hi0 hi4, hF]
  · rw [show arithmF (Rn (sF s) s.size) (langOf i) = arithmF45 (Rn (sF s) s.size) (langOf i) by simp [arithmF, h]] at hF
    rw [arithm_law45 _ h i hi0 hi4, hF]
  · rw [show arithmF (Rn (sF s) s.size) (langOf i) = arithmF37 (Rn (sF s) s.size) (langOf i) by simp [arithmF, h]] at hF
    rw [arithm_law37 _ h i hi0 hi4, hF]
  · rw [show arithmF (Rn (sF s) s.size) (langOf i) = arithmF42 (Rn (sF s) s.size) (langOf i) by simp [arithmF, h]] at hF
    rw [arithm_law42 _ h i hi0 hi4, hF]
  · rw [show arithmF (Rn (sF s) s.size) (langOf i) = arithmF47 (Rn (sF s) s.size) (langOf i) by simp [arithmF, h]] at hF
    rw [arithm_law47 _ h i hi0 hi4, hF]
  · rw [show arithmF (Rn (sF s) s.size) (langOf i) = arithmF94 (Rn (sF s) s.size) (langOf i) by simp [arithmF, h]] at hF
    rw [arithm_law94 _ h i hi0 hi4, hF]
  · rw [show arithmF (Rn (sF s) s.size) (langOf i) = arithmF91 (Rn (sF s) s.size) (langOf i) by simp [arithmF, h]] at hF
    rw [arithm_law91 _ h i hi0 hi4, hF]
  · rw [show arithmF (Rn (sF s) s.size) (langOf i) = arithmF93 (Rn (sF s) s.size) (langOf i) by simp [arithmF, h]] at hF
    rw [arithm_law93 _ h i hi0 hi4, hF]
  · rw [show arithmF (Rn (sF s) s.size) (langOf i) = arithmF44 (Rn (sF s) s.size) (langOf i) by simp [arithmF, h]] at hF
    rw [arithm_law44 _ h i hi0 hi4, hF]
  · rw [show arithmF (Rn (sF s) s.size) (langOf i) = arithmF63 (Rn (sF s) s.size) (langOf i) by simp [arithmF, h]] at hF
    rw [arithm_law63 _ h i hi0 hi4, hF]
  · rw [show arithmF (Rn (sF s) s.size) (langOf i) = arithmF58 (Rn (sF s) s.size) (langOf i) by simp [arithmF, h]] at hF
    rw [arithm_law58 _ h i hi0 hi4, hF]
  · rw [show arithmF (Rn (sF s) s.size) (langOf i) = arithmF35 (Rn (sF s) s.size) (langOf i) by simp [arithmF, h]] at hF
    rw [arithm_law35 _ h i hi0 hi4, hF]
  · rw [show arithmF (Rn (sF s) s.size) (langOf i) = arithmF46 (Rn (sF s) s.size) (langOf i) by simp [arithmF, h]] at hF
    rw [arithm_law46 _ h i hi0 hi4, hF]
theorem param_mod {s : ByteArray} (hs : s.size ≤ 1048576) {i : Int} (hi0 : 0 ≤ i) (hi4 : i ≤ 4) (he : Rn (sF s) s.size 0 ≠ 1114112) {tok : Int} {k : Nat} (hF : paramF (Rn (sF s) s.size) (langOf i) = (tok, k)) : n010_119_zzB1Model.f 200 2 i s = some (tok, (k : Int), true) ∨ (n010_119_zzB1Model.f 200 2 i s = some (0, 0, false) ∧ tok = 0 ∧ k = 0) := by
  rw [param_model (shows_Rn s) (by omega) i hi0 hi4]
  generalize Rn (sF s) s.size = R at *
  by_cases h125 : R 0 = 125
  · left
    rw [show paramF R (langOf i) = paramF125 R (langOf i) by simp [paramF, h125]] at hF
    rw [param_law125 _ h125 i hi0 hi4, hF]
  by_cases h58 : R 0 = 58
  · left
    rw [show paramF R (langOf i) = paramF58 R (langOf i) by simp [paramF, h58]] at hF
    rw [param_law58 _ h58 i hi0 hi4, hF]
  by_cases h43 : R 0 = 43
  · left
    rw [show paramF R (langOf i) = paramF43 R (langOf i) by simp [paramF, h43]] at hF
    rw [param_law43 _ h43 i hi0 hi4, hF]
  by_cases h45 : R 0 = 45
  · left
    rw [show paramF R (langOf i) = paramF45 R (langOf i) by simp [paramF, h45]] at hF
    rw [param_law45 _ h45 i hi0 hi4, hF]
  by_cases h63 : R 0 = 63
  · left
    rw [show paramF R (langOf i) = paramF63 R (langOf i) by simp [paramF, h63]] at hF
    rw [param_law63 _ h63 i hi0 hi4, hF]
  by_cases h61 : R 0 = 61
  · left
    rw [show paramF R (langOf i) = paramF61 R (langOf i) by simp [paramF, h61]] at hF
    rw [param_law61 _ h61 i hi0 hi4, hF]
  by_cases h37 : R 0 = 37
  · left
    rw [show paramF R (langOf i) = paramF37 R (langOf i) by simp [paramF, h37]] at hF
    rw [param_law37 _ h37 i hi0 hi4, hF]
  by_cases h35 : R 0 = 35
  · left
    rw [show paramF R (langOf i) = paramF35 R (langOf i) by simp [paramF, h35]] at hF
    rw [param_law35 _ h35 i hi0 hi4, hF]
  by_cases h33 : R 0 = 33
  · left
    rw [show paramF R (langOf i) = paramF33 R (langOf i) by simp [paramF, h33]] at hF
    rw [param_law33 _ h33 i hi0 hi4, hF]
  by_cases h93 : R 0 = 93
  · left
    rw [show paramF R (langOf i) = paramF93 R (langOf i) by simp [paramF, h93]] at hF
    rw [param_law93 _ h93 i hi0 hi4, hF]
  by_cases h47 : R 0 = 47
  · left
    rw [show paramF R (langOf i) = paramF47 R (langOf i) by simp [paramF, h47]] at hF
    rw [param_law47 _ h47 i hi0 hi4, hF]
  by_cases h94 : R 0 = 94
  · left
    rw [show paramF R (langOf i) = paramF94 R (langOf i) by simp [paramF, h94]] at hF
    rw [param_law94 _ h94 i hi0 hi4, hF]
  by_cases h44 : R 0 = 44
  · left
    rw [show paramF R (langOf i) = paramF44 R (langOf i) by simp [paramF, h44]] at hF
    rw [param_law44 _ h44 i hi0 hi4, hF]
  by_cases h64 : R 0 = 64
  · left
    rw [show paramF R (langOf i) = paramF64 R (langOf i) by simp [paramF, h64]] at hF
    rw [param_law64 _ h64 i hi0 hi4, hF]
  by_cases h42 : R 0 = 42
  · left
    rw [show paramF R (langOf i) = paramF42 R (langOf i) by simp [paramF, h42]] at hF
    rw [param_law42 _ h42 i hi0 hi4, hF]
  right
  have e : paramF R (langOf i) = (0, 0) := by simp [paramF, he, h125, h58, h43, h45, h63, h61, h37, h35, h33, h93, h47, h94, h44, h64, h42]
  rw [e, Prod.mk.injEq] at hF
  refine ⟨?_, hF.1.symm, hF.2.symm⟩
  congr 1
  have hall : paramL.all (fun e => match e.1.head? with | some c => ([125, 58, 43, 45, 63, 61, 37, 35, 33, 93, 47, 94, 44, 64, 42] : List Int).contains c | none => false) = true := by kernel_rfl
  refine mfold_none paramL (by kernel_rfl) (List.filter_eq_nil_iff.2 (fun x hx hh => ?_))
  have h1 := List.all_eq_true.1 hall x hx
  have h2 : x.1.head? = some (R 0) := by simpa [hd] using hh
  rw [h2] at h1
  have h3 : R 0 ∈ ([125, 58, 43, 45, 63, 61, 37, 35, 33, 93, 47, 94, 44, 64, 42] : List Int) := by simpa using h1
  simp only [List.mem_cons, List.not_mem_nil, or_false] at h3
  omega

theorem run_reg_is {s : ByteArray} {w : World} {ea : Addr} {i : Int} (h : Hid (Beg w ea)) (hs : s.size ≤ 1048576) (hc : Hid (Clean (sF s) s.size)) (hst : Hid (Rn (sF s) s.size 0 = 96 ∨ Rn (sF s) s.size 0 = 39 ∨ Rn (sF s) s.size 0 = 34 ∨ Rn (sF s) s.size 0 = 38 ∨ Rn (sF s) s.size 0 = 124 ∨ Rn (sF s) s.size 0 = 36 ∨ Rn (sF s) s.size 0 = 40 ∨ Rn (sF s) s.size 0 = 41 ∨ Rn (sF s) s.size 0 = 59 ∨ Rn (sF s) s.size 0 = 60 ∨ Rn (sF s) s.size 0 = 62)) {tok K N : Int} {k : Nat} (hF : Hid (regF (Rn (sF s) s.size) (langOf i) = (tok, k))) (hK : Hid ((k : Int) = K)) (hN : Hid (Rn (sF s) s.size k = N)) :
    Calls Tryf.prog 11 #[.int .i64 0, .int .i64 i, .string s] w fun e w' => e = .returned (.tuple #[.int .u32 tok, .int .i64 K, .int .i32 N]) ∧ Below w.heap.size w w' := by
  refine (run_reg h hs hc hst).mono ?_
  rintro e w' ⟨tok', k', rfl, hF', hb⟩
  have e1 := hF.out.symm.trans hF'.out
  rw [Prod.mk.injEq] at e1
  obtain ⟨rfl, rfl⟩ := e1
  rw [hK.out, hN.out]
  exact ⟨rfl, hb⟩
theorem run_dq_is {s : ByteArray} {w : World} {ea : Addr} {i : Int} (h : Hid (Beg w ea)) (hs : s.size ≤ 1048576) (hc : Hid (Clean (sF s) s.size)) (hst : Hid (Rn (sF s) s.size 0 = 34 ∨ Rn (sF s) s.size 0 = 96 ∨ Rn (sF s) s.size 0 = 36)) {tok K N : Int} {k : Nat} (hF : Hid (dqF (Rn (sF s) s.size) (langOf i) = (tok, k))) (hK : Hid ((k : Int) = K)) (hN : Hid (Rn (sF s) s.size k = N)) :
    Calls Tryf.prog 11 #[.int .i64 1, .int .i64 i, .string s] w fun e w' => e = .returned (.tuple #[.int .u32 tok, .int .i64 K, .int .i32 N]) ∧ Below w.heap.size w w' := by
  refine (run_dq h hs hc hst).mono ?_
  rintro e w' ⟨tok', k', rfl, hF', hb⟩
  have e1 := hF.out.symm.trans hF'.out
  rw [Prod.mk.injEq] at e1
  obtain ⟨rfl, rfl⟩ := e1
  rw [hK.out, hN.out]
  exact ⟨rfl, hb⟩
theorem run_param_is {s : ByteArray} {w : World} {ea : Addr} {i : Int} (h : Hid (Beg w ea)) (hs : s.size ≤ 1048576) (hc : Hid (Clean (sF s) s.size)) {tok K N : Int} {k : Nat} (hF : Hid (paramF (Rn (sF s) s.size) (langOf i) = (tok, k))) (hK : Hid ((k : Int) = K)) (hN : Hid (Rn (sF s) s.size k = N)) :
    Calls Tryf.prog 11 #[.int .i64 2, .int .i64 i, .string s] w fun e w' => e = .returned (.tuple #[.int .u32 tok, .int .i64 K, .int .i32 N]) ∧ Below w.heap.size w w' := by
  refine (run_param h hs hc).mono ?_
  rintro e w' ⟨tok', k', rfl, hF', hb⟩
  have e1 := hF.out.symm.trans hF'.out
  rw [Prod.mk.injEq] at e1
  obtain ⟨rfl, rfl⟩ := e1
  rw [hK.out, hN.out]
  exact ⟨rfl, hb⟩
theorem run_arithm_is {s : ByteArray} {w : World} {ea : Addr} {i : Int} (h : Hid (Beg w ea)) (hs : s.size ≤ 1048576) (hc : Hid (Clean (sF s) s.size)) (hst : Hid (Rn (sF s) s.size 0 = 33 ∨ Rn (sF s) s.size 0 = 61 ∨ Rn (sF s) s.size 0 = 126 ∨ Rn (sF s) s.size 0 = 40 ∨ Rn (sF s) s.size 0 = 41 ∨ Rn (sF s) s.size 0 = 38 ∨ Rn (sF s) s.size 0 = 124 ∨ Rn (sF s) s.size 0 = 60 ∨ Rn (sF s) s.size 0 = 62 ∨ Rn (sF s) s.size 0 = 43 ∨ Rn (sF s) s.size 0 = 45 ∨ Rn (sF s) s.size 0 = 37 ∨ Rn (sF s) s.size 0 = 42 ∨ Rn (sF s) s.size 0 = 47 ∨ Rn (sF s) s.size 0 = 94 ∨ Rn (sF s) s.size 0 = 91 ∨ Rn (sF s) s.size 0 = 93 ∨ Rn (sF s) s.size 0 = 44 ∨ Rn (sF s) s.size 0 = 63 ∨ Rn (sF s) s.size 0 = 58 ∨ Rn (sF s) s.size 0 = 35 ∨ Rn (sF s) s.size 0 = 46)) {tok K N : Int} {k : Nat} (hF : Hid (arithmF (Rn (sF s) s.size) (langOf i) = (tok, k))) (hK : Hid ((k : Int) = K)) (hN : Hid (Rn (sF s) s.size k = N)) :
    Calls Tryf.prog 11 #[.int .i64 3, .int .i64 i, .string s] w fun e w' => e = .returned (.tuple #[.int .u32 tok, .int .i64 K, .int .i32 N]) ∧ Below w.heap.size w w' := by
  refine (run_arithm h hs hc hst).mono ?_
  rintro e w' ⟨tok', k', rfl, hF', hb⟩
  have e1 := hF.out.symm.trans hF'.out
  rw [Prod.mk.injEq] at e1
  obtain ⟨rfl, rfl⟩ := e1
  rw [hK.out, hN.out]
  exact ⟨rfl, hb⟩
end Go.Proofs.YtgcjaijakbejjaaFmt
