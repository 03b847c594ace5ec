/- Proved: contracts of the written model as a fold, and that the token functions' answers are the model's. Conditions: as each theorem says. -/
import Derived.Test.YtgcjaijakbejjaaFmtPFnDqTokenLongestMatchx5
import Derived.Test.YtgcjaijakbejjaaFmtGf
import Derived.Test.YtgcjaijakbejjaaFmtGe
/- The written model of the laws (the longest spelling that is a prefix), as a fold over a list. Conditions: the spellings' bytes are below 128. -/
namespace Go.Proofs.YtgcjaijakbejjaaFmt
open Go.RowKit Go.Proofs.YtgcjaijakbejjaaFmtW.PrintWords Go.Proofs.YtgcjaijakbejjaaFmt.PFnDqTokenLongestMatch

/-- The spelling, from its place j on, lies at place j of the lookaheads. -/
def pfx (R : Nat → Int) : Nat → List Int → Bool
  | _, [] => true
  | j, c :: cs => R j == c && pfx R (j + 1) cs

/-- R is what s shows: at a byte below 128 it is that byte and nothing else is. -/
def Shows (R : Nat → Int) (s : ByteArray) : Prop := ∀ (j : Nat) (c : Int), 0 ≤ c → c < 128 → (R j = c ↔ (j < s.size ∧ bt s j = c))

theorem pfx_len {R : Nat → Int} {s : ByteArray} (hR : Shows R s) : ∀ (cs : List Int) (j : Nat), (∀ c ∈ cs, 0 ≤ c ∧ c < 128) → j ≤ s.size → pfx R j cs = true → j + cs.length ≤ s.size
  | [], j, _, hj, _ => by simpa using hj
  | c :: cs, j, hc, _, h => by
    simp only [pfx, Bool.and_eq_true, beq_iff_eq] at h
    have h0 := hc c (List.mem_cons_self ..)
    have h1 := (hR j c h0.1 h0.2).1 h.1
    have := pfx_len hR cs (j + 1) (fun x hx => hc x (List.mem_cons_of_mem _ hx)) (by omega) h.2
    simp only [List.length_cons]
    omega

theorem hp_l0 {R : Nat → Int} {s p : ByteArray} (hR : Shows R s) (hs : s.size < 1000000000) (hp : p.size ≤ s.size) : ∀ (cs : List Int) (i k : Nat), i + cs.length = p.size → (∀ c ∈ cs, 0 ≤ c ∧ c < 128) → (∀ j c, cs[j]? = some c → bt p ((i + j : Nat) : Int) = c) → cs.length < k →
    n010_119_zzB1HasPrefix.l0 k s p i = some (pfx R i cs)
  | [], i, k, hi, _, _, hk => by
    obtain ⟨k, rfl⟩ : ∃ k', k = k' + 1 := ⟨k - 1, by omega⟩
    unfold n010_119_zzB1HasPrefix.l0
    simp only [List.length_nil] at hi
    rw [if_neg (by omega)]
    rfl
  | c :: cs, i, k, hi, hc, hb, hk => by
    obtain ⟨k, rfl⟩ : ∃ k', k = k' + 1 := ⟨k - 1, by omega⟩
    unfold n010_119_zzB1HasPrefix.l0
    simp only [List.length_cons] at hi hk
    rw [if_pos (by omega), if_pos (by omega), if_pos (by omega)]
    have h0 := hc c (List.mem_cons_self ..)
    have hbc : bt p (i : Int) = c := hb 0 c rfl
    rw [hbc]
    by_cases h : bt s (i : Int) = c
    · rw [if_pos h]
      have hr : R i = c := (hR i c h0.1 h0.2).2 ⟨by omega, h⟩
      have hw : wrap64 ((i : Int) + 1) = ((i + 1 : Nat) : Int) := by unfold wrap64; omega
      rw [hw, hp_l0 hR hs hp cs (i + 1) k (by omega) (fun x hx => hc x (List.mem_cons_of_mem _ hx)) (fun j x hx => by
        have := hb (j + 1) x (by simpa using hx)
        rw [← this]; congr 1; omega) (by omega)]
      simp [pfx, hr]
    · rw [if_neg h]
      have hr : ¬ R i = c := fun e => h ((hR i c h0.1 h0.2).1 e).2
      simp [pfx, hr]

theorem hp_f {R : Nat → Int} {s p : ByteArray} (hR : Shows R s) (hs : s.size < 1000000000) (cs : List Int) (k : Nat) (hi : cs.length = p.size) (hc : ∀ c ∈ cs, 0 ≤ c ∧ c < 128) (hb : ∀ j c, cs[j]? = some c → bt p ((j : Nat) : Int) = c) (hk : cs.length < k) :
    n010_119_zzB1HasPrefix.f k s p = some (pfx R 0 cs) := by
  unfold n010_119_zzB1HasPrefix.f
  by_cases h : (p.size : Int) > (s.size : Int)
  · rw [if_pos h]
    cases hx : pfx R 0 cs with
    | false => rfl
    | true => have := pfx_len hR cs 0 hc (Nat.zero_le _) hx; omega
  · rw [if_neg h]
    exact hp_l0 hR hs (by omega) cs 0 k (by omega) hc (fun j c hj => by simpa using hb j c hj) hk

/-- The model's fold. -/
def mfold (R : Nat → Int) (bit : Int) : List (List Int × Int × Int) → Int → Int → Int × Int × Bool
  | [], best, tok => if best < 0 then (0, 0, false) else (tok, best, true)
  | (p, t, m) :: rest, best, tok =>
    if bits .and .i64 m bit = 0 ∨ pfx R 0 p = false then mfold R bit rest best tok
    else if (p.length : Int) > best then mfold R bit rest p.length t else mfold R bit rest best tok

/-- What one entry of the table says. -/
def Entry (kind : Int) (i : Nat) (e : List Int × Int × Int) : Prop :=
  ∃ p : ByteArray, n010_119_zzB1Spell.f kind i = some (p, e.2.1, e.2.2, true) ∧ e.1.length = p.size ∧ e.1.length ≤ 8 ∧ (∀ c ∈ e.1, 0 ≤ c ∧ c < 128) ∧ (∀ j c, e.1[j]? = some c → bt p ((j : Nat) : Int) = c)
def Last (kind : Int) (i : Nat) : Prop := ∃ x, n010_119_zzB1Spell.f kind i = some x ∧ x.2.2.2 = false

theorem model_l0 {R : Nat → Int} {s : ByteArray} (hR : Shows R s) (hs : s.size < 1000000000) (kind li : Int) (hl : 0 ≤ li) (hl' : li ≤ 4) : ∀ (L : List (List Int × Int × Int)) (i k : Nat) (best tok : Int), (∀ j e, L[j]? = some e → Entry kind (i + j) e) → Last kind (i + L.length) → i + L.length < 80 → 2 * L.length + 12 < k →
    n010_119_zzB1Model.l0 k kind li s best tok i = some (mfold R (shl .i64 1 li) L best tok)
  | [], i, k, best, tok, _, hlast, hi, hk => by
    obtain ⟨k, rfl⟩ : ∃ k', k = k' + 1 := ⟨k - 1, by omega⟩
    unfold n010_119_zzB1Model.l0
    simp only [List.length_nil, Nat.add_zero] at hlast hi
    obtain ⟨x, hx, hx'⟩ := hlast
    rw [if_pos (by omega), hx]
    simp only [Option.bind_some]
    rw [if_neg (by rw [hx']; exact Bool.false_ne_true)]
    unfold mfold
    split <;> rfl
  | (cs, t, m) :: L, i, k, best, tok, he, hlast, hi, hk => by
    obtain ⟨k, rfl⟩ : ∃ k', k = k' + 2 := ⟨k - 2, by simp only [List.length_cons] at hk; omega⟩
    unfold n010_119_zzB1Model.l0
    simp only [List.length_cons] at hlast hi hk
    obtain ⟨p, h1, h2, h3, h4, h5⟩ := he 0 _ rfl
    simp only [Nat.add_zero] at h1 h2 h3 h4 h5
    have hu : IntKind.u64.wrap li = li := IntWalk.u64_in _ (by omega)
    have hw : wrap64 ((i : Int) + 1) = ((i + 1 : Nat) : Int) := by unfold wrap64; omega
    rw [if_pos (by omega), h1]
    simp only [Option.bind_some, if_true]
    rw [hu, if_pos hl, hp_f hR hs cs (k + 1) h2 h4 h5 (by omega)]
    simp only [Option.bind_some]
    have ih := fun b t => model_l0 hR hs kind li hl hl' L (i + 1) k b t (fun j e hj => by
      have := he (j + 1) e (by simpa using hj)
      rwa [show i + (j + 1) = i + 1 + j by omega] at this) (by rwa [show i + (L.length + 1) = i + 1 + L.length by omega] at hlast) (by omega) (by omega)
    by_cases hb : bits .and .i64 m (shl .i64 1 li) = 0
    · rw [if_pos hb]
      unfold n010_119_zzB1Model.j1
      rw [if_pos rfl, hw, ih]
      unfold mfold
      rw [if_pos (Or.inl hb)]
      cases L <;> rfl
    · rw [if_neg hb]
      unfold n010_119_zzB1Model.j1
      cases hp : pfx R 0 cs with
      | false =>
        simp only [Bool.not_false, if_true]
        rw [hw, ih]
        conv => rhs; unfold mfold
        rw [if_pos (Or.inr hp)]
      | true =>
        simp only [Bool.not_true, Bool.false_eq_true, if_false]
        rw [hw, ih, ih]
        conv => rhs; unfold mfold
        have hn : ¬ (bits .and .i64 m (shl .i64 1 li) = 0 ∨ pfx R 0 cs = false) := by rw [hp]; simp [hb]
        simp only [if_neg hn, h2]
        split <;> rfl

theorem model_f {R : Nat → Int} {s : ByteArray} (hR : Shows R s) (hs : s.size < 1000000000) (kind li : Int) (hl : 0 ≤ li) (hl' : li ≤ 4) (L : List (List Int × Int × Int)) (he : ∀ j e, L[j]? = some e → Entry kind j e) (hlast : Last kind L.length) (hn : L.length < 80) :
    n010_119_zzB1Model.f 200 kind li s = some (mfold R (shl .i64 1 li) L (-1) 0) :=
  model_l0 hR hs kind li hl hl' L 0 200 (-1) 0 (fun j e hj => by simpa using he j e hj) (by simpa using hlast) (by omega) (by omega)
end Go.Proofs.YtgcjaijakbejjaaFmt

/- The tables of spellings as lists, and: the token functions' plain answers are the model's (the longest spelling). PRINTED by mo_print.py. Conditions: the first byte is one of the listed. -/
namespace Go.Proofs.YtgcjaijakbejjaaFmt
open Go.RowKit Go.Proofs.YtgcjaijakbejjaaFmtW.PrintWords Go.Proofs.YtgcjaijakbejjaaFmt.PFnDqTokenLongestMatch

set_option linter.unusedSimpArgs false
set_option linter.unusedVariables false
def entryOK (kind : Int) (i : Nat) (e : List Int × Int × Int) : Bool :=
  match n010_119_zzB1Spell.f kind i with
  | some (p, t, m, true) => t == e.2.1 && m == e.2.2 && (p.data.toList.map (fun b => ((b.toNat : Nat) : Int))) == e.1 && decide (e.1.length ≤ 8) && e.1.all (fun c => decide (0 ≤ c) && decide (c < 128))
  | _ => false
theorem bt_list (p : ByteArray) (j : Nat) (c : Int) (h : (p.data.toList.map (fun b => ((b.toNat : Nat) : Int)))[j]? = some c) : bt p (j : Int) = c := by
  rw [List.getElem?_map] at h
  cases hx : p.data.toList[j]? with
  | none => rw [hx] at h; simp at h
  | some b =>
    rw [hx] at h
    simp only [Option.map_some, Option.some.injEq] at h
    have hj : j < p.size := by
      have := (List.getElem?_eq_some_iff.1 hx).1
      simpa using this
    unfold bt
    simp only [Int.toNat_natCast]
    rw [dif_pos hj, ← h]
    have h2 := (List.getElem?_eq_some_iff.1 hx).2
    have h3 : p[j]'hj = p.data.toList[j]'(by simpa using hj) := by simp [ByteArray.getElem_eq_getElem_data]
    rw [h3, h2]
theorem Entry.of {kind : Int} {i : Nat} {e : List Int × Int × Int} (h : entryOK kind i e = true) : Entry kind i e := by
  unfold entryOK at h
  split at h
  · rename_i p t m hx
    simp only [Bool.and_eq_true, beq_iff_eq, decide_eq_true_eq, List.all_eq_true] at h
    obtain ⟨⟨⟨⟨h1, h2⟩, h3⟩, h4⟩, h5⟩ := h
    refine ⟨p, by rw [hx, h1, h2], ?_, h4, h5, fun j c hj => bt_list p j c (by rw [h3]; exact hj)⟩
    rw [← h3]; simp
  · exact absurd h (by simp)
def entriesOK (kind : Int) : Nat → List (List Int × Int × Int) → Bool
  | _, [] => true
  | i, e :: L => entryOK kind i e && entriesOK kind (i + 1) L
theorem entries_of {kind : Int} : ∀ (L : List (List Int × Int × Int)) (i : Nat), entriesOK kind i L = true → ∀ j e, L[j]? = some e → Entry kind (i + j) e
  | [], _, _, j, e, h => by simp at h
  | x :: L, i, h, j, e, he => by
    simp only [entriesOK, Bool.and_eq_true] at h
    cases j with
    | zero => simp at he; subst he; exact Entry.of h.1
    | succ j =>
      have := entries_of L (i + 1) h.2 j e (by simpa using he)
      rwa [show i + (j + 1) = i + 1 + j by omega]
def lastOK (kind : Int) (i : Nat) : Bool :=
  match n010_119_zzB1Spell.f kind i with
  | some (_, _, _, false) => true
  | _ => false
theorem Last.of {kind : Int} {i : Nat} (h : lastOK kind i = true) : Last kind i := by
  unfold lastOK at h
  split at h
  · rename_i hx; exact ⟨_, hx, rfl⟩
  · exact absurd h (by simp)

/-- The lookaheads, by their first four. -/
def Rf (c0 a b c : Int) : Nat → Int
  | 0 => c0 | 1 => a | 2 => b | 3 => c | _ => 0
def nz (A : List Int) (x : Int) : Int := if A.contains x then x else 0
theorem nz_mem (A : List Int) (x : Int) : nz A x ∈ (0 :: A) := by
  unfold nz
  split
  · rename_i h; exact List.mem_cons_of_mem _ (by simpa using h)
  · exact List.mem_cons_self ..
theorem nz_beq {A : List Int} (x : Int) {c : Int} (h : (A.contains c && !(c == 0)) = true) : (nz A x == c) = (x == c) := by
  simp only [Bool.and_eq_true, Bool.not_eq_true', beq_eq_false_iff_ne] at h
  unfold nz
  by_cases hx : A.contains x = true
  · rw [if_pos hx]
  · rw [if_neg hx]
    have h1 : ¬ x = c := fun e => hx (by rw [e]; exact h.1)
    have h2 : ¬ (0 : Int) = c := fun e => h.2 e.symm
    rw [beq_eq_false_iff_ne.2 h1, beq_eq_false_iff_ne.2 h2]
def okC (A : List Int) (c : Int) : Bool := A.contains c && !(c == 0)
def okE (A1 A2 A3 : List Int) : List Int → Bool
  | [_] => true
  | [_, a] => okC A1 a
  | [_, a, b] => okC A1 a && okC A2 b
  | [_, a, b, c] => okC A1 a && okC A2 b && okC A3 c
  | _ => false
def nR (A1 A2 A3 : List Int) (R : Nat → Int) : Nat → Int := Rf (R 0) (nz A1 (R 1)) (nz A2 (R 2)) (nz A3 (R 3))
theorem pfx_nR {A1 A2 A3 : List Int} (R : Nat → Int) : ∀ {p : List Int}, okE A1 A2 A3 p = true → pfx (nR A1 A2 A3 R) 0 p = pfx R 0 p
  | [_], _ => by simp [pfx, nR, Rf]
  | [_, a], h => by simp only [okE] at h; simp [pfx, nR, Rf, nz_beq _ h]
  | [_, a, b], h => by simp only [okE, Bool.and_eq_true] at h; simp [pfx, nR, Rf, nz_beq _ h.1, nz_beq _ h.2]
  | [_, a, b, c], h => by simp only [okE, Bool.and_eq_true] at h; simp [pfx, nR, Rf, nz_beq _ h.1.1, nz_beq _ h.1.2, nz_beq _ h.2]
  | [], h => by simp [okE] at h
  | _ :: _ :: _ :: _ :: _ :: _, h => by simp [okE] at h
theorem mfold_nR {A1 A2 A3 : List Int} (R : Nat → Int) (bit : Int) : ∀ (L : List (List Int × Int × Int)) (best tok : Int), L.all (fun e => okE A1 A2 A3 e.1) = true → mfold (nR A1 A2 A3 R) bit L best tok = mfold R bit L best tok
  | [], _, _, _ => rfl
  | (p, t, m) :: L, best, tok, h => by
    simp only [List.all_cons, Bool.and_eq_true] at h
    unfold mfold
    rw [pfx_nR R h.1, mfold_nR R bit L best tok h.2, mfold_nR R bit L _ t h.2]
/-- The entries that begin with c0. -/
def hd (c0 : Int) (e : List Int × Int × Int) : Bool := e.1.head? == some c0
theorem mfold_hd (R : Nat → Int) (bit c0 : Int) (h0 : R 0 = c0) : ∀ (L : List (List Int × Int × Int)) (best tok : Int), L.all (fun e => !e.1.isEmpty) = true → mfold R bit L best tok = mfold R bit (L.filter (hd c0)) best tok
  | [], _, _, _ => rfl
  | (p, t, m) :: L, best, tok, h => by
    simp only [List.all_cons, Bool.and_eq_true] at h
    have ih := fun b t => mfold_hd R bit c0 h0 L b t h.2
    cases p with
    | nil => simp at h
    | cons c p =>
      by_cases hc : c = c0
      · have e : hd c0 (c :: p, t, m) = true := by simp [hd, hc]
        rw [List.filter_cons_of_pos e]
        unfold mfold
        rw [ih, ih]
      · have e : ¬ hd c0 (c :: p, t, m) = true := by simp [hd, hc]
        rw [List.filter_cons_of_neg e, ← ih]
        conv => lhs; unfold mfold
        rw [if_pos (Or.inr _)]
        simp only [pfx, h0, Bool.and_eq_false_iff]
        left
        exact beq_eq_false_iff_ne.2 (fun x => hc x.symm)
def chk (c0 : Int) (A1 A2 A3 : List Int) (L : List (List Int × Int × Int)) (F : (Nat → Int) → Int → Int × Nat) : Bool :=
  (0 :: A1).all fun a => (0 :: A2).all fun b => (0 :: A3).all fun c => [0, 1, 2, 3, 4].all fun li =>
    mfold (Rf c0 a b c) (shl .i64 1 li) (L.filter (hd c0)) (-1) 0 == ((F (Rf c0 a b c) (langOf li)).1, ((F (Rf c0 a b c) (langOf li)).2 : Int), true)
theorem chk_law {c0 : Int} {A1 A2 A3 : List Int} {L : List (List Int × Int × Int)} {F : (Nat → Int) → Int → Int × Nat} (h1 : L.all (fun e => !e.1.isEmpty) = true) (h2 : (L.filter (hd c0)).all (fun e => okE A1 A2 A3 e.1) = true) (h3 : chk c0 A1 A2 A3 L F = true)
    (hF : ∀ R l, R 0 = c0 → F (nR A1 A2 A3 R) l = F R l) (R : Nat → Int) (h0 : R 0 = c0) (li : Int) (hl : 0 ≤ li) (hl' : li ≤ 4) :
    mfold R (shl .i64 1 li) L (-1) 0 = ((F R (langOf li)).1, ((F R (langOf li)).2 : Int), true) := by
  rw [mfold_hd R _ c0 h0 L _ _ h1, ← mfold_nR R _ _ _ _ h2, ← hF R _ h0]
  simp only [chk, List.all_eq_true] at h3
  have hli : li ∈ [(0 : Int), 1, 2, 3, 4] := by simp only [List.mem_cons, List.not_mem_nil, or_false]; omega
  have := h3 _ (nz_mem A1 (R 1)) _ (nz_mem A2 (R 2)) _ (nz_mem A3 (R 3)) li hli
  have e : nR A1 A2 A3 R = Rf c0 (nz A1 (R 1)) (nz A2 (R 2)) (nz A3 (R 3)) := by unfold nR; rw [h0]
  rw [e]
  exact eq_of_beq this

def regL : List (List Int × Int × Int) := [([39], 7, 31), ([34], 8, 31), ([38], 10, 31), ([38, 38], 11, 31), ([38, 62], 74, 31), ([38, 62, 124], 75, 31), ([38, 62, 33], 75, 16), ([38, 62, 62], 76, 31), ([38, 62, 62, 124], 77, 31), ([38, 62, 62, 33], 77, 16), ([38, 124], 15, 16), ([38, 33], 16, 16), ([124], 13, 31), ([124, 124], 12, 31), ([124, 38], 14, 29), ([36], 17, 31), ([36, 39], 18, 29), ([36, 34], 19, 13), ([36, 123], 20, 31), ([36, 91], 21, 9), ([36, 40], 22, 31), ([36, 40, 40], 23, 31), ([40], 27, 31), ([40, 40], 28, 29), ([41], 32, 31), ([59], 34, 31), ([59, 59], 35, 31), ([59, 59, 38], 37, 9), ([59, 38], 36, 29), ([59, 124], 38, 20), ([60], 65, 31), ([60, 60], 71, 31), ([60, 60, 45], 72, 31), ([60, 60, 60], 73, 31), ([60, 62], 66, 31), ([60, 38], 67, 31), ([60, 40], 78, 25), ([62], 63, 31), ([62, 62], 64, 31), ([62, 62, 124], 70, 31), ([62, 62, 33], 70, 16), ([62, 62, 38], 76, 16), ([62, 62, 38, 124], 77, 16), ([62, 62, 38, 33], 77, 16), ([62, 38], 68, 31), ([62, 38, 124], 75, 16), ([62, 38, 33], 75, 16), ([62, 124], 69, 31), ([62, 33], 69, 16), ([62, 40], 80, 25)]
theorem regL_ok : entriesOK 0 0 regL = true := by kernel_rfl
theorem regL_last : lastOK 0 50 = true := by kernel_rfl
theorem reg_model {R : Nat → Int} {s : ByteArray} (hR : Shows R s) (hs : s.size < 1000000000) (li : Int) (hl : 0 ≤ li) (hl' : li ≤ 4) : n010_119_zzB1Model.f 200 0 li s = some (mfold R (shl .i64 1 li) regL (-1) 0) :=
  model_f hR hs 0 li hl hl' regL (fun j e h => by simpa using entries_of regL 0 regL_ok j e h) (Last.of regL_last) (by simp [regL])
theorem reg_law34 (R : Nat → Int) (h0 : R 0 = 34) (li : Int) (hl : 0 ≤ li) (hl' : li ≤ 4) : mfold R (shl .i64 1 li) regL (-1) 0 = ((regF34 R (langOf li)).1, ((regF34 R (langOf li)).2 : Int), true) :=
  chk_law (c0 := 34) (A1 := []) (A2 := []) (A3 := []) (by kernel_rfl) (by kernel_rfl) (by kernel_rfl) (fun R l h => by
    simp only [regF34, nR, Rf]) R h0 li hl hl'
theorem reg_law36 (R : Nat → Int) (h0 : R 0 = 36) (li : Int) (hl : 0 ≤ li) (hl' : li ≤ 4) : mfold R (shl .i64 1 li) regL (-1) 0 = ((regF36 R (langOf li)).1, ((regF36 R (langOf li)).2 : Int), true) :=
  chk_law (c0 := 36) (A1 := [34, 39, 40, 91, 123]) (A2 := [40]) (A3 := []) (by kernel_rfl) (by kernel_rfl) (by kernel_rfl) (fun R l h => by
    simp only [regF36, nR, Rf, @nz_beq [34, 39, 40, 91, 123] (R 1) 34 (by decide), @nz_beq [34, 39, 40, 91, 123] (R 1) 39 (by decide), @nz_beq [34, 39, 40, 91, 123] (R 1) 40 (by decide), @nz_beq [34, 39, 40, 91, 123] (R 1) 91 (by decide), @nz_beq [34, 39, 40, 91, 123] (R 1) 123 (by decide), @nz_beq [40] (R 2) 40 (by decide)]) R h0 li hl hl'
theorem reg_law38 (R : Nat → Int) (h0 : R 0 = 38) (li : Int) (hl : 0 ≤ li) (hl' : li ≤ 4) : mfold R (shl .i64 1 li) regL (-1) 0 = ((regF38 R (langOf li)).1, ((regF38 R (langOf li)).2 : Int), true) :=
  chk_law (c0 := 38) (A1 := [33, 38, 62, 124]) (A2 := [33, 62, 124]) (A3 := [33, 124]) (by kernel_rfl) (by kernel_rfl) (by kernel_rfl) (fun R l h => by
    simp only [regF38, nR, Rf, @nz_beq [33, 38, 62, 124] (R 1) 33 (by decide), @nz_beq [33, 38, 62, 124] (R 1) 38 (by decide), @nz_beq [33, 38, 62, 124] (R 1) 62 (by decide), @nz_beq [33, 38, 62, 124] (R 1) 124 (by decide), @nz_beq [33, 62, 124] (R 2) 33 (by decide), @nz_beq [33, 62, 124] (R 2) 62 (by decide), @nz_beq [33, 62, 124] (R 2) 124 (by decide), @nz_beq [33, 124] (R 3) 33 (by decide), @nz_beq [33, 124] (R 3) 124 (by decide)]) R h0 li hl hl'
theorem reg_law39 (R : Nat → Int) (h0 : R 0 = 39) (li : Int) (hl : 0 ≤ li) (hl' : li ≤ 4) : mfold R (shl .i64 1 li) regL (-1) 0 = ((regF39 R (langOf li)).1, ((regF39 R (langOf li)).2 : Int), true) :=
  chk_law (c0 := 39) (A1 := []) (A2 := []) (A3 := []) (by kernel_rfl) (by kernel_rfl) (by kernel_rfl) (fun R l h => by
    simp only [regF39, nR, Rf]) R h0 li hl hl'
theorem reg_law40 (R : Nat → Int) (h0 : R 0 = 40) (li : Int) (hl : 0 ≤ li) (hl' : li ≤ 4) : mfold R (shl .i64 1 li) regL (-1) 0 = ((regF40 R (langOf li)).1, ((regF40 R (langOf li)).2 : Int), true) :=
  chk_law (c0 := 40) (A1 := [40]) (A2 := []) (A3 := []) (by kernel_rfl) (by kernel_rfl) (by kernel_rfl) (fun R l h => by
    simp only [regF40, nR, Rf, @nz_beq [40] (R 1) 40 (by decide)]) R h0 li hl hl'
theorem reg_law41 (R : Nat → Int) (h0 : R 0 = 41) (li : Int) (hl : 0 ≤ li) (hl' : li ≤ 4) : mfold R (shl .i64 1 li) regL (-1) 0 = ((regF41 R (langOf li)).1, ((regF41 R (langOf li)).2 : Int), true) :=
  chk_law (c0 := 41) (A1 := []) (A2 := []) (A3 := []) (by kernel_rfl) (by kernel_rfl) (by kernel_rfl) (fun R l h => by
    simp only [regF41, nR, Rf]) R h0 li hl hl'
theorem reg_law59 (R : Nat → Int) (h0 : R 0 = 59) (li : Int) (hl : 0 ≤ li) (hl' : li ≤ 4) : mfold R (shl .i64 1 li) regL (-1) 0 = ((regF59 R (langOf li)).1, ((regF59 R (langOf li)).2 : Int), true) :=
  chk_law (c0 := 59) (A1 := [38, 59, 124]) (A2 := [38]) (A3 := []) (by kernel_rfl) (by kernel_rfl) (by kernel_rfl) (fun R l h => by
    simp only [regF59, nR, Rf, @nz_beq [38, 59, 124] (R 1) 38 (by decide), @nz_beq [38, 59, 124] (R 1) 59 (by decide), @nz_beq [38, 59, 124] (R 1) 124 (by decide), @nz_beq [38] (R 2) 38 (by decide)]) R h0 li hl hl'
theorem reg_law60 (R : Nat → Int) (h0 : R 0 = 60) (li : Int) (hl : 0 ≤ li) (hl' : li ≤ 4) : mfold R (shl .i64 1 li) regL (-1) 0 = ((regF60 R (langOf li)).1, ((regF60 R (langOf li)).2 : Int), true) :=
  chk_law (c0 := 60) (A1 := [38, 40, 60, 62]) (A2 := [45, 60]) (A3 := []) (by kernel_rfl) (by kernel_rfl) (by kernel_rfl) (fun R l h => by
    simp only [regF60, nR, Rf, @nz_beq [38, 40, 60, 62] (R 1) 38 (by decide), @nz_beq [38, 40, 60, 62] (R 1) 40 (by decide), @nz_beq [38, 40, 60, 62] (R 1) 60 (by decide), @nz_beq [38, 40, 60, 62] (R 1) 62 (by decide), @nz_beq [45, 60] (R 2) 45 (by decide), @nz_beq [45, 60] (R 2) 60 (by decide)]) R h0 li hl hl'
theorem reg_law62 (R : Nat → Int) (h0 : R 0 = 62) (li : Int) (hl : 0 ≤ li) (hl' : li ≤ 4) : mfold R (shl .i64 1 li) regL (-1) 0 = ((regF62 R (langOf li)).1, ((regF62 R (langOf li)).2 : Int), true) :=
  chk_law (c0 := 62) (A1 := [33, 38, 40, 62, 124]) (A2 := [33, 38, 124]) (A3 := [33, 124]) (by kernel_rfl) (by kernel_rfl) (by kernel_rfl) (fun R l h => by
    simp only [regF62, nR, Rf, @nz_beq [33, 38, 40, 62, 124] (R 1) 33 (by decide), @nz_beq [33, 38, 40, 62, 124] (R 1) 38 (by decide), @nz_beq [33, 38, 40, 62, 124] (R 1) 40 (by decide), @nz_beq [33, 38, 40, 62, 124] (R 1) 62 (by decide), @nz_beq [33, 38, 40, 62, 124] (R 1) 124 (by decide), @nz_beq [33, 38, 124] (R 2) 33 (by decide), @nz_beq [33, 38, 124] (R 2) 38 (by decide), @nz_beq [33, 38, 124] (R 2) 124 (by decide), @nz_beq [33, 124] (R 3) 33 (by decide), @nz_beq [33, 124] (R 3) 124 (by decide)]) R h0 li hl hl'
theorem reg_law124 (R : Nat → Int) (h0 : R 0 = 124) (li : Int) (hl : 0 ≤ li) (hl' : li ≤ 4) : mfold R (shl .i64 1 li) regL (-1) 0 = ((regF124 R (langOf li)).1, ((regF124 R (langOf li)).2 : Int), true) :=
  chk_law (c0 := 124) (A1 := [38, 124]) (A2 := []) (A3 := []) (by kernel_rfl) (by kernel_rfl) (by kernel_rfl) (fun R l h => by
    simp only [regF124, nR, Rf, @nz_beq [38, 124] (R 1) 38 (by decide), @nz_beq [38, 124] (R 1) 124 (by decide)]) R h0 li hl hl'
def dqL : List (List Int × Int × Int) := [([34], 8, 31), ([36], 17, 31), ([36, 123], 20, 31), ([36, 91], 21, 9), ([36, 40], 22, 31), ([36, 40, 40], 23, 31)]
theorem dqL_ok : entriesOK 1 0 dqL = true := by kernel_rfl
theorem dqL_last : lastOK 1 6 = true := by kernel_rfl
theorem dq_model {R : Nat → Int} {s : ByteArray} (hR : Shows R s) (hs : s.size < 1000000000) (li : Int) (hl : 0 ≤ li) (hl' : li ≤ 4) : n010_119_zzB1Model.f 200 1 li s = some (mfold R (shl .i64 1 li) dqL (-1) 0) :=
  model_f hR hs 1 li hl hl' dqL (fun j e h => by simpa using entries_of dqL 0 dqL_ok j e h) (Last.of dqL_last) (by simp [dqL])
theorem dq_law34 (R : Nat → Int) (h0 : R 0 = 34) (li : Int) (hl : 0 ≤ li) (hl' : li ≤ 4) : mfold R (shl .i64 1 li) dqL (-1) 0 = ((dqF R (langOf li)).1, ((dqF R (langOf li)).2 : Int), true) :=
  chk_law (c0 := 34) (A1 := []) (A2 := []) (A3 := []) (by kernel_rfl) (by kernel_rfl) (by kernel_rfl) (fun R l h => by
    simp [dqF, nR, Rf, h]) R h0 li hl hl'
theorem dq_law36 (R : Nat → Int) (h0 : R 0 = 36) (li : Int) (hl : 0 ≤ li) (hl' : li ≤ 4) : mfold R (shl .i64 1 li) dqL (-1) 0 = ((dqF R (langOf li)).1, ((dqF R (langOf li)).2 : Int), true) :=
  chk_law (c0 := 36) (A1 := [40, 91, 123]) (A2 := [40]) (A3 := []) (by kernel_rfl) (by kernel_rfl) (by kernel_rfl) (fun R l h => by
    simp [dqF, nR, Rf, h, @nz_beq [40, 91, 123] (R 1) 40 (by decide), @nz_beq [40, 91, 123] (R 1) 91 (by decide), @nz_beq [40, 91, 123] (R 1) 123 (by decide), @nz_beq [40] (R 2) 40 (by decide)]) R h0 li hl hl'
def paramL : List (List Int × Int × Int) := [([125], 29, 31), ([58], 104, 31), ([58, 43], 82, 31), ([58, 45], 84, 31), ([58, 63], 86, 31), ([58, 61], 88, 31), ([58, 35], 93, 31), ([58, 124], 94, 31), ([58, 42], 95, 31), ([43], 81, 31), ([45], 83, 31), ([63], 85, 31), ([61], 87, 31), ([37], 89, 31), ([37, 37], 90, 31), ([35], 91, 31), ([35, 35], 92, 31), ([33], 39, 31), ([93], 30, 31), ([47], 101, 31), ([47, 47], 102, 31), ([94], 96, 31), ([94, 94], 97, 31), ([44], 98, 31), ([44, 44], 99, 31), ([64], 100, 31), ([42], 43, 31)]
theorem paramL_ok : entriesOK 2 0 paramL = true := by kernel_rfl
theorem paramL_last : lastOK 2 27 = true := by kernel_rfl
theorem param_model {R : Nat → Int} {s : ByteArray} (hR : Shows R s) (hs : s.size < 1000000000) (li : Int) (hl : 0 ≤ li) (hl' : li ≤ 4) : n010_119_zzB1Model.f 200 2 li s = some (mfold R (shl .i64 1 li) paramL (-1) 0) :=
  model_f hR hs 2 li hl hl' paramL (fun j e h => by simpa using entries_of paramL 0 paramL_ok j e h) (Last.of paramL_last) (by simp [paramL])
theorem param_law33 (R : Nat → Int) (h0 : R 0 = 33) (li : Int) (hl : 0 ≤ li) (hl' : li ≤ 4) : mfold R (shl .i64 1 li) paramL (-1) 0 = ((paramF33 R (langOf li)).1, ((paramF33 R (langOf li)).2 : Int), true) :=
  chk_law (c0 := 33) (A1 := []) (A2 := []) (A3 := []) (by kernel_rfl) (by kernel_rfl) (by kernel_rfl) (fun R l h => by
    simp only [paramF33, nR, Rf]) R h0 li hl hl'
theorem param_law35 (R : Nat → Int) (h0 : R 0 = 35) (li : Int) (hl : 0 ≤ li) (hl' : li ≤ 4) : mfold R (shl .i64 1 li) paramL (-1) 0 = ((paramF35 R (langOf li)).1, ((paramF35 R (langOf li)).2 : Int), true) :=
  chk_law (c0 := 35) (A1 := [35]) (A2 := []) (A3 := []) (by kernel_rfl) (by kernel_rfl) (by kernel_rfl) (fun R l h => by
    simp only [paramF35, nR, Rf, @nz_beq [35] (R 1) 35 (by decide)]) R h0 li hl hl'
theorem param_law37 (R : Nat → Int) (h0 : R 0 = 37) (li : Int) (hl : 0 ≤ li) (hl' : li ≤ 4) : mfold R (shl .i64 1 li) paramL (-1) 0 = ((paramF37 R (langOf li)).1, ((paramF37 R (langOf li)).2 : Int), true) :=
  chk_law (c0 := 37) (A1 := [37]) (A2 := []) (A3 := []) (by kernel_rfl) (by kernel_rfl) (by kernel_rfl) (fun R l h => by
    simp only [paramF37, nR, Rf, @nz_beq [37] (R 1) 37 (by decide)]) R h0 li hl hl'
theorem param_law42 (R : Nat → Int) (h0 : R 0 = 42) (li : Int) (hl : 0 ≤ li) (hl' : li ≤ 4) : mfold R (shl .i64 1 li) paramL (-1) 0 = ((paramF42 R (langOf li)).1, ((paramF42 R (langOf li)).2 : Int), true) :=
  chk_law (c0 := 42) (A1 := []) (A2 := []) (A3 := []) (by kernel_rfl) (by kernel_rfl) (by kernel_rfl) (fun R l h => by
    simp only [paramF42, nR, Rf]) R h0 li hl hl'
theorem param_law43 (R : Nat → Int) (h0 : R 0 = 43) (li : Int) (hl : 0 ≤ li) (hl' : li ≤ 4) : mfold R (shl .i64 1 li) paramL (-1) 0 = ((paramF43 R (langOf li)).1, ((paramF43 R (langOf li)).2 : Int), true) :=
  chk_law (c0 := 43) (A1 := []) (A2 := []) (A3 := []) (by kernel_rfl) (by kernel_rfl) (by kernel_rfl) (fun R l h => by
    simp only [paramF43, nR, Rf]) R h0 li hl hl'
theorem param_law44 (R : Nat → Int) (h0 : R 0 = 44) (li : Int) (hl : 0 ≤ li) (hl' : li ≤ 4) : mfold R (shl .i64 1 li) paramL (-1) 0 = ((paramF44 R (langOf li)).1, ((paramF44 R (langOf li)).2 : Int), true) :=
  chk_law (c0 := 44) (A1 := [44]) (A2 := []) (A3 := []) (by kernel_rfl) (by kernel_rfl) (by kernel_rfl) (fun R l h => by
    simp only [paramF44, nR, Rf, @nz_beq [44] (R 1) 44 (by decide)]) R h0 li hl hl'
theorem param_law45 (R : Nat → Int) (h0 : R 0 = 45) (li : Int) (hl : 0 ≤ li) (hl' : li ≤ 4) : mfold R (shl .i64 1 li) paramL (-1) 0 = ((paramF45 R (langOf li)).1, ((paramF45 R (langOf li)).2 : Int), true) :=
  chk_law (c0 := 45) (A1 := []) (A2 := []) (A3 := []) (by kernel_rfl) (by kernel_rfl) (by kernel_rfl) (fun R l h => by
    simp only [paramF45, nR, Rf]) R h0 li hl hl'
theorem param_law47 (R : Nat → Int) (h0 : R 0 = 47) (li : Int) (hl : 0 ≤ li) (hl' : li ≤ 4) : mfold R (shl .i64 1 li) paramL (-1) 0 = ((paramF47 R (langOf li)).1, ((paramF47 R (langOf li)).2 : Int), true) :=
  chk_law (c0 := 47) (A1 := [47]) (A2 := []) (A3 := []) (by kernel_rfl) (by kernel_rfl) (by kernel_rfl) (fun R l h => by
    simp only [paramF47, nR, Rf, @nz_beq [47] (R 1) 47 (by decide)]) R h0 li hl hl'
theorem param_law58 (R : Nat → Int) (h0 : R 0 = 58) (li : Int) (hl : 0 ≤ li) (hl' : li ≤ 4) : mfold R (shl .i64 1 li) paramL (-1) 0 = ((paramF58 R (langOf li)).1, ((paramF58 R (langOf li)).2 : Int), true) :=
  chk_law (c0 := 58) (A1 := [35, 42, 43, 45, 61, 63, 124]) (A2 := []) (A3 := []) (by kernel_rfl) (by kernel_rfl) (by kernel_rfl) (fun R l h => by
    simp only [paramF58, nR, Rf, @nz_beq [35, 42, 43, 45, 61, 63, 124] (R 1) 35 (by decide), @nz_beq [35, 42, 43, 45, 61, 63, 124] (R 1) 42 (by decide), @nz_beq [35, 42, 43, 45, 61, 63, 124] (R 1) 43 (by decide), @nz_beq [35, 42, 43, 45, 61, 63, 124] (R 1) 45 (by decide), @nz_beq [35, 42, 43, 45, 61, 63, 124] (R 1) 61 (by decide), @nz_beq [35, 42, 43, 45, 61, 63, 124] (R 1) 63 (by decide), @nz_beq [35, 42, 43, 45, 61, 63, 124] (R 1) 124 (by decide)]) R h0 li hl hl'
theorem param_law61 (R : Nat → Int) (h0 : R 0 = 61) (li : Int) (hl : 0 ≤ li) (hl' : li ≤ 4) : mfold R (shl .i64 1 li) paramL (-1) 0 = ((paramF61 R (langOf li)).1, ((paramF61 R (langOf li)).2 : Int), true) :=
  chk_law (c0 := 61) (A1 := []) (A2 := []) (A3 := []) (by kernel_rfl) (by kernel_rfl) (by kernel_rfl) (fun R l h => by
    simp only [paramF61, nR, Rf]) R h0 li hl hl'
theorem param_law63 (R : Nat → Int) (h0 : R 0 = 63) (li : Int) (hl : 0 ≤ li) (hl' : li ≤ 4) : mfold R (shl .i64 1 li) paramL (-1) 0 = ((paramF63 R (langOf li)).1, ((paramF63 R (langOf li)).2 : Int), true) :=
  chk_law (c0 := 63) (A1 := []) (A2 := []) (A3 := []) (by kernel_rfl) (by kernel_rfl) (by kernel_rfl) (fun R l h => by
    simp only [paramF63, nR, Rf]) R h0 li hl hl'
theorem param_law64 (R : Nat → Int) (h0 : R 0 = 64) (li : Int) (hl : 0 ≤ li) (hl' : li ≤ 4) : mfold R (shl .i64 1 li) paramL (-1) 0 = ((paramF64 R (langOf li)).1, ((paramF64 R (langOf li)).2 : Int), true) :=
  chk_law (c0 := 64) (A1 := []) (A2 := []) (A3 := []) (by kernel_rfl) (by kernel_rfl) (by kernel_rfl) (fun R l h => by
    simp only [paramF64, nR, Rf]) R h0 li hl hl'
theorem param_law93 (R : Nat → Int) (h0 : R 0 = 93) (li : Int) (hl : 0 ≤ li) (hl' : li ≤ 4) : mfold R (shl .i64 1 li) paramL (-1) 0 = ((paramF93 R (langOf li)).1, ((paramF93 R (langOf li)).2 : Int), true) :=
  chk_law (c0 := 93) (A1 := []) (A2 := []) (A3 := []) (by kernel_rfl) (by kernel_rfl) (by kernel_rfl) (fun R l h => by
    simp only [paramF93, nR, Rf]) R h0 li hl hl'
theorem param_law94 (R : Nat → Int) (h0 : R 0 = 94) (li : Int) (hl : 0 ≤ li) (hl' : li ≤ 4) : mfold R (shl .i64 1 li) paramL (-1) 0 = ((paramF94 R (langOf li)).1, ((paramF94 R (langOf li)).2 : Int), true) :=
  chk_law (c0 := 94) (A1 := [94]) (A2 := []) (A3 := []) (by kernel_rfl) (by kernel_rfl) (by kernel_rfl) (fun R l h => by
    simp only [paramF94, nR, Rf, @nz_beq [94] (R 1) 94 (by decide)]) R h0 li hl hl'
theorem param_law125 (R : Nat → Int) (h0 : R 0 = 125) (li : Int) (hl : 0 ≤ li) (hl' : li ≤ 4) : mfold R (shl .i64 1 li) paramL (-1) 0 = ((paramF125 R (langOf li)).1, ((paramF125 R (langOf li)).2 : Int), true) :=
  chk_law (c0 := 125) (A1 := []) (A2 := []) (A3 := []) (by kernel_rfl) (by kernel_rfl) (by kernel_rfl) (fun R l h => by
    simp only [paramF125, nR, Rf]) R h0 li hl hl'
def arithmL : List (List Int × Int × Int) := [([33], 39, 31), ([33, 61], 46, 31), ([61], 87, 31), ([61, 61], 45, 31), ([126], 40, 31), ([40], 27, 31), ([41], 32, 31), ([38], 10, 31), ([38, 38], 11, 31), ([38, 38, 61], 59, 16), ([38, 61], 54, 31), ([124], 13, 31), ([124, 124], 12, 31), ([124, 124, 61], 60, 16), ([124, 61], 55, 31), ([60], 65, 31), ([60, 60], 71, 31), ([60, 60, 61], 57, 31), ([60, 61], 47, 31), ([62], 63, 31), ([62, 62], 64, 31), ([62, 62, 61], 58, 31), ([62, 61], 48, 31), ([43], 81, 31), ([43, 43], 41, 31), ([43, 61], 49, 31), ([45], 83, 31), ([45, 45], 42, 31), ([45, 61], 50, 31), ([37], 89, 31), ([37, 61], 53, 31), ([42], 43, 31), ([42, 42], 44, 31), ([42, 42, 61], 62, 16), ([42, 61], 51, 31), ([47], 101, 31), ([47, 61], 52, 31), ([94], 96, 31), ([94, 94], 97, 31), ([94, 94, 61], 61, 16), ([94, 61], 56, 31), ([91], 25, 31), ([93], 30, 31), ([44], 98, 31), ([63], 85, 31), ([58], 104, 31), ([35], 91, 31), ([46], 103, 31)]
theorem arithmL_ok : entriesOK 3 0 arithmL = true := by kernel_rfl
theorem arithmL_last : lastOK 3 48 = true := by kernel_rfl
theorem arithm_model {R : Nat → Int} {s : ByteArray} (hR : Shows R s) (hs : s.size < 1000000000) (li : Int) (hl : 0 ≤ li) (hl' : li ≤ 4) : n010_119_zzB1Model.f 200 3 li s = some (mfold R (shl .i64 1 li) arithmL (-1) 0) :=
  model_f hR hs 3 li hl hl' arithmL (fun j e h => by simpa using entries_of arithmL 0 arithmL_ok j e h) (Last.of arithmL_last) (by simp [arithmL])
theorem arithm_law33 (R : Nat → Int) (h0 : R 0 = 33) (li : Int) (hl : 0 ≤ li) (hl' : li ≤ 4) : mfold R (shl .i64 1 li) arithmL (-1) 0 = ((arithmF33 R (langOf li)).1, ((arithmF33 R (langOf li)).2 : Int), true) :=
  chk_law (c0 := 33) (A1 := [61]) (A2 := []) (A3 := []) (by kernel_rfl) (by kernel_rfl) (by kernel_rfl) (fun R l h => by
    simp only [arithmF33, nR, Rf, @nz_beq [61] (R 1) 61 (by decide)]) R h0 li hl hl'
theorem arithm_law35 (R : Nat → Int) (h0 : R 0 = 35) (li : Int) (hl : 0 ≤ li) (hl' : li ≤ 4) : mfold R (shl .i64 1 li) arithmL (-1) 0 = ((arithmF35 R (langOf li)).1, ((arithmF35 R (langOf li)).2 : Int), true) :=
  chk_law (c0 := 35) (A1 := []) (A2 := []) (A3 := []) (by kernel_rfl) (by kernel_rfl) (by kernel_rfl) (fun R l h => by
    simp only [arithmF35, nR, Rf]) R h0 li hl hl'
theorem arithm_law37 (R : Nat → Int) (h0 : R 0 = 37) (li : Int) (hl : 0 ≤ li) (hl' : li ≤ 4) : mfold R (shl .i64 1 li) arithmL (-1) 0 = ((arithmF37 R (langOf li)).1, ((arithmF37 R (langOf li)).2 : Int), true) :=
  chk_law (c0 := 37) (A1 := [61]) (A2 := []) (A3 := []) (by kernel_rfl) (by kernel_rfl) (by kernel_rfl) (fun R l h => by
    simp only [arithmF37, nR, Rf, @nz_beq [61] (R 1) 61 (by decide)]) R h0 li hl hl'
theorem arithm_law38 (R : Nat → Int) (h0 : R 0 = 38) (li : Int) (hl : 0 ≤ li) (hl' : li ≤ 4) : mfold R (shl .i64 1 li) arithmL (-1) 0 = ((arithmF38 R (langOf li)).1, ((arithmF38 R (langOf li)).2 : Int), true) :=
  chk_law (c0 := 38) (A1 := [38, 61]) (A2 := [61]) (A3 := []) (by kernel_rfl) (by kernel_rfl) (by kernel_rfl) (fun R l h => by
    simp only [arithmF38, nR, Rf, @nz_beq [38, 61] (R 1) 38 (by decide), @nz_beq [38, 61] (R 1) 61 (by decide), @nz_beq [61] (R 2) 61 (by decide)]) R h0 li hl hl'
theorem arithm_law40 (R : Nat → Int) (h0 : R 0 = 40) (li : Int) (hl : 0 ≤ li) (hl' : li ≤ 4) : mfold R (shl .i64 1 li) arithmL (-1) 0 = ((arithmF40 R (langOf li)).1, ((arithmF40 R (langOf li)).2 : Int), true) :=
  chk_law (c0 := 40) (A1 := []) (A2 := []) (A3 := []) (by kernel_rfl) (by kernel_rfl) (by kernel_rfl) (fun R l h => by
    simp only [arithmF40, nR, Rf]) R h0 li hl hl'
theorem arithm_law41 (R : Nat → Int) (h0 : R 0 = 41) (li : Int) (hl : 0 ≤ li) (hl' : li ≤ 4) : mfold R (shl .i64 1 li) arithmL (-1) 0 = ((arithmF41 R (langOf li)).1, ((arithmF41 R (langOf li)).2 : Int), true) :=
  chk_law (c0 := 41) (A1 := []) (A2 := []) (A3 := []) (by kernel_rfl) (by kernel_rfl) (by kernel_rfl) (fun R l h => by
    simp only [arithmF41, nR, Rf]) R h0 li hl hl'
theorem arithm_law42 (R : Nat → Int) (h0 : R 0 = 42) (li : Int) (hl : 0 ≤ li) (hl' : li ≤ 4) : mfold R (shl .i64 1 li) arithmL (-1) 0 = ((arithmF42 R (langOf li)).1, ((arithmF42 R (langOf li)).2 : Int), true) :=
  chk_law (c0 := 42) (A1 := [42, 61]) (A2 := [61]) (A3 := []) (by kernel_rfl) (by kernel_rfl) (by kernel_rfl) (fun R l h => by
    simp only [arithmF42, nR, Rf, @nz_beq [42, 61] (R 1) 42 (by decide), @nz_beq [42, 61] (R 1) 61 (by decide), @nz_beq [61] (R 2) 61 (by decide)]) R h0 li hl hl'
theorem arithm_law43 (R : Nat → Int) (h0 : R 0 = 43) (li : Int) (hl : 0 ≤ li) (hl' : li ≤ 4) : mfold R (shl .i64 1 li) arithmL (-1) 0 = ((arithmF43 R (langOf li)).1, ((arithmF43 R (langOf li)).2 : Int), true) :=
  chk_law (c0 := 43) (A1 := [43, 61]) (A2 := []) (A3 := []) (by kernel_rfl) (by kernel_rfl) (by kernel_rfl) (fun R l h => by
    simp only [arithmF43, nR, Rf, @nz_beq [43, 61] (R 1) 43 (by decide), @nz_beq [43, 61] (R 1) 61 (by decide)]) R h0 li hl hl'
theorem arithm_law44 (R : Nat → Int) (h0 : R 0 = 44) (li : Int) (hl : 0 ≤ li) (hl' : li ≤ 4) : mfold R (shl .i64 1 li) arithmL (-1) 0 = ((arithmF44 R (langOf li)).1, ((arithmF44 R (langOf li)).2 : Int), true) :=
  chk_law (c0 := 44) (A1 := []) (A2 := []) (A3 := []) (by kernel_rfl) (by kernel_rfl) (by kernel_rfl) (fun R l h => by
    simp only [arithmF44, nR, Rf]) R h0 li hl hl'
theorem arithm_law45 (R : Nat → Int) (h0 : R 0 = 45) (li : Int) (hl : 0 ≤ li) (hl' : li ≤ 4) : mfold R (shl .i64 1 li) arithmL (-1) 0 = ((arithmF45 R (langOf li)).1, ((arithmF45 R (langOf li)).2 : Int), true) :=
  chk_law (c0 := 45) (A1 := [45, 61]) (A2 := []) (A3 := []) (by kernel_rfl) (by kernel_rfl) (by kernel_rfl) (fun R l h => by
    simp only [arithmF45, nR, Rf, @nz_beq [45, 61] (R 1) 45 (by decide), @nz_beq [45, 61] (R 1) 61 (by decide)]) R h0 li hl hl'
theorem arithm_law46 (R : Nat → Int) (h0 : R 0 = 46) (li : Int) (hl : 0 ≤ li) (hl' : li ≤ 4) : mfold R (shl .i64 1 li) arithmL (-1) 0 = ((arithmF46 R (langOf li)).1, ((arithmF46 R (langOf li)).2 : Int), true) :=
  chk_law (c0 := 46) (A1 := []) (A2 := []) (A3 := []) (by kernel_rfl) (by kernel_rfl) (by kernel_rfl) (fun R l h => by
    simp only [arithmF46, nR, Rf]) R h0 li hl hl'
theorem arithm_law47 (R : Nat → Int) (h0 : R 0 = 47) (li : Int) (hl : 0 ≤ li) (hl' : li ≤ 4) : mfold R (shl .i64 1 li) arithmL (-1) 0 = ((arithmF47 R (langOf li)).1, ((arithmF47 R (langOf li)).2 : Int), true) :=
  chk_law (c0 := 47) (A1 := [61]) (A2 := []) (A3 := []) (by kernel_rfl) (by kernel_rfl) (by kernel_rfl) (fun R l h => by
    simp only [arithmF47, nR, Rf, @nz_beq [61] (R 1) 61 (by decide)]) R h0 li hl hl'
theorem arithm_law58 (R : Nat → Int) (h0 : R 0 = 58) (li : Int) (hl : 0 ≤ li) (hl' : li ≤ 4) : mfold R (shl .i64 1 li) arithmL (-1) 0 = ((arithmF58 R (langOf li)).1, ((arithmF58 R (langOf li)).2 : Int), true) :=
  chk_law (c0 := 58) (A1 := []) (A2 := []) (A3 := []) (by kernel_rfl) (by kernel_rfl) (by kernel_rfl) (fun R l h => by
    simp only [arithmF58, nR, Rf]) R h0 li hl hl'
theorem arithm_law60 (R : Nat → Int) (h0 : R 0 = 60) (li : Int) (hl : 0 ≤ li) (hl' : li ≤ 4) : mfold R (shl .i64 1 li) arithmL (-1) 0 = ((arithmF60 R (langOf li)).1, ((arithmF60 R (langOf li)).2 : Int), true) :=
  chk_law (c0 := 60) (A1 := [60, 61]) (A2 := [61]) (A3 := []) (by kernel_rfl) (by kernel_rfl) (by kernel_rfl) (fun R l h => by
    simp only [arithmF60, nR, Rf, @nz_beq [60, 61] (R 1) 60 (by decide), @nz_beq [60, 61] (R 1) 61 (by decide), @nz_beq [61] (R 2) 61 (by decide)]) R h0 li hl hl'
theorem arithm_law61 (R : Nat → Int) (h0 : R 0 = 61) (li : Int) (hl : 0 ≤ li) (hl' : li ≤ 4) : mfold R (shl .i64 1 li) arithmL (-1) 0 = ((arithmF61 R (langOf li)).1, ((arithmF61 R (langOf li)).2 : Int), true) :=
  chk_law (c0 := 61) (A1 := [61]) (A2 := []) (A3 := []) (by kernel_rfl) (by kernel_rfl) (by kernel_rfl) (fun R l h => by
    simp only [arithmF61, nR, Rf, @nz_beq [61] (R 1) 61 (by decide)]) R h0 li hl hl'
theorem arithm_law62 (R : Nat → Int) (h0 : R 0 = 62) (li : Int) (hl : 0 ≤ li) (hl' : li ≤ 4) : mfold R (shl .i64 1 li) arithmL (-1) 0 = ((arithmF62 R (langOf li)).1, ((arithmF62 R (langOf li)).2 : Int), true) :=
  chk_law (c0 := 62) (A1 := [61, 62]) (A2 := [61]) (A3 := []) (by kernel_rfl) (by kernel_rfl) (by kernel_rfl) (fun R l h => by
    simp only [arithmF62, nR, Rf, @nz_beq [61, 62] (R 1) 61 (by decide), @nz_beq [61, 62] (R 1) 62 (by decide), @nz_beq [61] (R 2) 61 (by decide)]) R h0 li hl hl'
theorem arithm_law63 (R : Nat → Int) (h0 : R 0 = 63) (li : Int) (hl : 0 ≤ li) (hl' : li ≤ 4) : mfold R (shl .i64 1 li) arithmL (-1) 0 = ((arithmF63 R (langOf li)).1, ((arithmF63 R (langOf li)).2 : Int), true) :=
  chk_law (c0 := 63) (A1 := []) (A2 := []) (A3 := []) (by kernel_rfl) (by kernel_rfl) (by kernel_rfl) (fun R l h => by
    simp only [arithmF63, nR, Rf]) R h0 li hl hl'
theorem arithm_law91 (R : Nat → Int) (h0 : R 0 = 91) (li : Int) (hl : 0 ≤ li) (hl' : li ≤ 4) : mfold R (shl .i64 1 li) arithmL (-1) 0 = ((arithmF91 R (langOf li)).1, ((arithmF91 R (langOf li)).2 : Int), true) :=
  chk_law (c0 := 91) (A1 := []) (A2 := []) (A3 := []) (by kernel_rfl) (by kernel_rfl) (by kernel_rfl) (fun R l h => by
    simp only [arithmF91, nR, Rf]) R h0 li hl hl'
theorem arithm_law93 (R : Nat → Int) (h0 : R 0 = 93) (li : Int) (hl : 0 ≤ li) (hl' : li ≤ 4) : mfold R (shl .i64 1 li) arithmL (-1) 0 = ((arithmF93 R (langOf li)).1, ((arithmF93 R (langOf li)).2 : Int), true) :=
  chk_law (c0 := 93) (A1 := []) (A2 := []) (A3 := []) (by kernel_rfl) (by kernel_rfl) (by kernel_rfl) (fun R l h => by
    simp only [arithmF93, nR, Rf]) R h0 li hl hl'
theorem arithm_law94 (R : Nat → Int) (h0 : R 0 = 94) (li : Int) (hl : 0 ≤ li) (hl' : li ≤ 4) : mfold R (shl .i64 1 li) arithmL (-1) 0 = ((arithmF94 R (langOf li)).1, ((arithmF94 R (langOf li)).2 : Int), true) :=
  chk_law (c0 := 94) (A1 := [61, 94]) (A2 := [61]) (A3 := []) (by kernel_rfl) (by kernel_rfl) (by kernel_rfl) (fun R l h => by
    simp only [arithmF94, nR, Rf, @nz_beq [61, 94] (R 1) 61 (by decide), @nz_beq [61, 94] (R 1) 94 (by decide), @nz_beq [61] (R 2) 61 (by decide)]) R h0 li hl hl'
theorem arithm_law124 (R : Nat → Int) (h0 : R 0 = 124) (li : Int) (hl : 0 ≤ li) (hl' : li ≤ 4) : mfold R (shl .i64 1 li) arithmL (-1) 0 = ((arithmF124 R (langOf li)).1, ((arithmF124 R (langOf li)).2 : Int), true) :=
  chk_law (c0 := 124) (A1 := [61, 124]) (A2 := [61]) (A3 := []) (by kernel_rfl) (by kernel_rfl) (by kernel_rfl) (fun R l h => by
    simp only [arithmF124, nR, Rf, @nz_beq [61, 124] (R 1) 61 (by decide), @nz_beq [61, 124] (R 1) 124 (by decide), @nz_beq [61] (R 2) 61 (by decide)]) R h0 li hl hl'
theorem arithm_law126 (R : Nat → Int) (h0 : R 0 = 126) (li : Int) (hl : 0 ≤ li) (hl' : li ≤ 4) : mfold R (shl .i64 1 li) arithmL (-1) 0 = ((arithmF126 R (langOf li)).1, ((arithmF126 R (langOf li)).2 : Int), true) :=
  chk_law (c0 := 126) (A1 := []) (A2 := []) (A3 := []) (by kernel_rfl) (by kernel_rfl) (by kernel_rfl) (fun R l h => by
    simp only [arithmF126, nR, Rf]) R h0 li hl hl'
end Go.Proofs.YtgcjaijakbejjaaFmt
