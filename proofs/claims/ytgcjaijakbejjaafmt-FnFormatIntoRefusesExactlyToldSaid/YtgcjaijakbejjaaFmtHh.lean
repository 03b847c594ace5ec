/- Proved: contracts of the law FnFormatIntoRefusesExactly, walked. Conditions: as each theorem says. -/
import Derived.Test.YtgcjaijakbejjaaFmtHg
import Derived.Test.YtgcjaijakbejjaaFmtHc
import Derived.Test.YtgcjaijakbejjaaFmtHa
/- Proved: the law n010_84.FnFormatIntoRefusesExactly returns true at every text, byte and argument list, and what was there stands. Conditions: the argument list reads as strings; strconv's error variables hold interface values; fmt's texts as told. PRINTED by law_gen.py. -/
namespace Go.Proofs.YtgcjaijakbejjaaFmt
open Go.RowKit Go.Proofs.YtgcjaijakbejjaaFmtW.PrintWords
set_option linter.unusedVariables false

theorem mk36 (n : Nat) (hn : n ≤ 1048576) (W : World) : ∃ w', (Instr.makeSlice 36 (.int .i64 0) (.int .i64 ((n : Int) + 2))).run Tryf.prog W = .ok (.slice (some ⟨W.heap.size, 0, none⟩) 0 (n + 2)) w' ∧ w'.ownsRow W.heap.size 5 1 (.slice (some ⟨W.heap.size, 0, none⟩) 0 (n + 2)) 0 [] ∧ W.grownBy w' none := by
  obtain ⟨i0, hi, hz0, hz1, hz2⟩ := info_parts bd_byte
  have h := run_makeSlice_owned W W.heap.size 36 5 i0 _ 1 Tryf.underlying36 hi hz0 hz1 .i64 .i64 (n + 2) (by omega) (by rw [hz2]; omega) (by unfold maxLen; omega) (Nat.le_refl _)
  have e : (((n + 2 : Nat) : Int)) = (n : Int) + 2 := by omega
  rw [e] at h
  exact h
theorem new2 (W : World) (u v : Value) (t : TypeId) : ∀ j q, [u, v][j]? = some q → (W.alloc (.cells #[u, v] t)).cell? ((⟨W.heap.size, 0, none⟩ : Addr).add j) = some q := by
  intro j q hj
  have hb := World.new_at W (.cells #[u, v] t)
  have e1 : (⟨W.heap.size, 0, none⟩ : Addr).add j = ⟨W.heap.size, j, none⟩ := by
    simp [Addr.add]
    try omega
  rw [e1, blk_cell hb]
  match j, hj with
  | 0, hj => simpa using hj
  | 1, hj => simpa using hj
/-- What ZZformatInto answers: the count, the error. -/
def RR (x : Int) (m : Nat) (z : Int) (ev : Value) : Prop := (vAcc x = true ∧ z = ((took x m : Nat) : Int) ∧ ev = .nilIface) ∨ (vAcc x = false ∧ z = 0 ∧ ∃ t v, ev = .iface t v)
theorem RR.acc {x : Int} {m : Nat} {z : Int} {ev : Value} (h : RR x m z ev) (hv : vAcc x = true) (k : Int) (hk : ((took x m : Nat) : Int) = k) : z = k ∧ ev = .nilIface := by
  rcases h with ⟨_, h1, h2⟩ | ⟨h1, _⟩
  · exact ⟨by omega, h2⟩
  · rw [hv] at h1; cases h1
theorem RR.ref {x : Int} {m : Nat} {z : Int} {ev : Value} (h : RR x m z ev) (hv : vAcc x = false) : z = 0 ∧ ∃ t v, ev = .iface t v := by
  rcases h with ⟨h1, _⟩ | ⟨_, h1, h2⟩
  · rw [hv] at h1; cases h1
  · exact ⟨h1, h2⟩
theorem verb_r (x : Int) (r : Bool) (hr : vAcc x = r) (w : World) : Calls Tryf.prog 25 #[.int .u8 x] w fun e w' => e = .returned (.bool r) ∧ w' = w := by
  subst hr
  exact verb_k x w
theorem evs_new {W : World} (h : Hid (Evs W)) (o : Obj) : Hid (Evs (W.alloc o)) := Lib.hid (h.out.below ((Below.refl _ W).alloc (Nat.le_refl _) o))
theorem zz_args (lit : ByteArray) (x : Int) (g m : Nat) (W : World) (hlit : lit.size ≤ 1048576) (hx0 : 0 ≤ x) (hx1 : x < 256) (hm : m ≤ 1048576) (hE : Hid (Evs W)) (hT : Hid (Tld W))
    (h37 : ∀ j, j < lit.size → bt lit (j : Int) ≠ 37) (h92 : ∀ j, j < lit.size → bt lit (j : Int) ≠ 92)
    (hg : 0 < m → g < W.heap.size ∧ ∃ (cs : Array Value) (t : ByteArray), W.heap[g]? = some (.cells cs 9 (0, 0)) ∧ cs[0]? = some (.string t) ∧ t.size ≤ 1048576) :
    Calls Tryf.prog 24 #[.string (fmtOf lit x), .slice (some ⟨g, 0, none⟩) m m] W (TextNumErr (RR x m) W) := by
  have hsz := fmtOf_size lit x
  refine zz_any (fmtOf lit x) _ (0 + 16000000) (RR x m) W ?_
  refine Calls.mono (fi_args W.heap.size W.heap.size 0 (fmtOf lit x) ⟨g, 0, none⟩ m m x (by omega) (by omega) hm (Nat.le_refl _) hx0 hx1 (by omega) _ (bd_new W) (Nat.le_refl _) (by simp) (evs_new hE _) hE.out.size (Lib.hid (hT.out.of rfl)) ?_ ?_ ?_ ?_) ?_
  · intro h0
    obtain ⟨hlt, cs, t, h1, h2, h3⟩ := hg h0
    exact ⟨cs, t, (Below.heap_alloc _ _ _ hlt).trans h1, h2, rfl, h3, by show g ≠ W.heap.size; omega⟩
  · intro k h hk
    rw [fmtOf_lit lit x k h (by omega)]
    exact ⟨h37 k (by omega), h92 k (by omega)⟩
  · intro k h hk
    exact fmtOf_pct lit x k h (by omega)
  · intro k h hk
    exact fmtOf_last lit x hx0 hx1 k h (by omega)
  · rintro e w' ⟨h, hbd, hbel, _⟩
    rcases h with ⟨hv, rfl⟩ | ⟨hv, t, v, rfl⟩
    · exact ⟨_, _, rfl, .inl ⟨hv, rfl, rfl⟩, hbd, hbel⟩
    · exact ⟨_, _, rfl, .inr ⟨hv, rfl, t, v, rfl⟩, hbd, hbel⟩
theorem zz_nil (lit : ByteArray) (x : Int) (W : World) (hlit : lit.size ≤ 1048576) (hE : Hid (Evs W)) :
    Calls Tryf.prog 24 #[.string (fmtOf lit x), .slice none 0 0] W (TextNumErr (fun z ev => z = 0 ∧ ev = .nilIface) W) := by
  have hsz := fmtOf_size lit x
  refine zz_any (fmtOf lit x) _ (0 + 4 * (fmtOf lit x).size + 8) _ W ?_
  refine Calls.mono (fi_nil W.heap.size W.heap.size 0 (fmtOf lit x) (by omega) (by omega) _ (bd_new W) (Nat.le_refl _) (by simp) (evs_new hE _) hE.out.size) ?_
  rintro e w' ⟨rfl, hbd, hbel, _⟩
  exact ⟨_, _, rfl, ⟨rfl, rfl⟩, hbd, hbel⟩
end Go.Proofs.YtgcjaijakbejjaaFmt

/- Proved: the law n010_84.FnFormatIntoRefusesExactly returns true at every text, byte and argument list, and what was there stands. Conditions: the argument list reads as strings; strconv's error variables hold interface values; fmt's texts as told. PRINTED by law2_gen.py. -/
namespace Go.Proofs.YtgcjaijakbejjaaFmt
open Go.RowKit Go.Proofs.YtgcjaijakbejjaaFmtW.PrintWords
set_option linter.unusedVariables false

theorem args_fact {w4 w5 w8 : World} {l : List ByteArray} (cp : Cpy w4 l l.length w5) (hb : Below w5.heap.size w5 w8) (hls : 0 < l.length → (rdOf ByteArray.empty l 0).size ≤ 1048576) :
    0 < l.length → w4.heap.size < w8.heap.size ∧ ∃ (cs : Array Value) (t : ByteArray), w8.heap[w4.heap.size]? = some (.cells cs 9 (0, 0)) ∧ cs[0]? = some (.string t) ∧ t.size ≤ 1048576 := by
  intro h0
  obtain ⟨cs, h1, h2, h3⟩ := cp.blk
  have hlt := blk_lt h1
  exact ⟨Nat.lt_of_lt_of_le hlt hb.size, cs, _, (hb.block _ hlt).trans h1, h3 h0, hls h0⟩
/-- The law's answer: true; what was there stands. -/
def LawRes (w : World) (e : Ending) (w' : World) : Prop := e = .returned (.bool true) ∧ Below w.heap.size w w'
set_option maxHeartbeats 4000000 in
set_option maxRecDepth 100000 in
theorem law7_nil_a (lit : ByteArray) (x : Int) (w : World) (hC : Kd.C Kd.string w none ([] : List ByteArray).length []) (hc : ([] : List ByteArray).length ≤ 0) (hlz : lit.size < 9223372036854775807) (hl9 : ([] : List ByteArray).length < 9223372036854775807) (h20 : zzOk lit ([] : List ByteArray) = false) : Calls Tryf.prog 7 #[.string lit, .int .u8 x, .slice none 0 0] w (LawRes w) := by
  go_enter Tryf.func7, Tryf.ntmps7
  go_wp2_with (first
    | (go_at_call 20; refine Calls.mono (zz_k lit x none 0 ([] : List ByteArray) false w hC hlz hl9 h20) ?_; rintro e w1 ⟨rfl, e1⟩; have b1 : Below w.heap.size w w1 := (by rw [e1]; exact Below.refl _ _); clear e1))
  all_goals
    go_ret
    exact ⟨rfl, b1⟩
set_option maxHeartbeats 4000000 in
set_option maxRecDepth 100000 in
theorem law7_nil_b (lit : ByteArray) (x : Int) (w : World) (hC : Kd.C Kd.string w none ([] : List ByteArray).length []) (hc : ([] : List ByteArray).length ≤ 0) (hlz : lit.size < 9223372036854775807) (hl9 : ([] : List ByteArray).length < 9223372036854775807) (hs : lit.size ≤ 1048576) (h20 : zzOk lit ([] : List ByteArray) = true) (r21 : Int) (h21 : Hid (([] : List ByteArray).length ≤ 1048576 ∧ psum ([] : List ByteArray) ([] : List ByteArray).length ≤ 1048576 ∧ ((16 * ([] : List ByteArray).length + psum ([] : List ByteArray) ([] : List ByteArray).length : Nat) : Int) = r21)) (hz : decide ((1048576 : Int) < r21) = true) : Calls Tryf.prog 7 #[.string lit, .int .u8 x, .slice none 0 0] w (LawRes w) := by
  have hsb : decide ((1048576 : Int) < (lit.size : Int)) = false := decide_eq_false (by omega)
  go_enter Tryf.func7, Tryf.ntmps7
  go_wp2_with (first
    | (go_at_call 20; refine Calls.mono (zz_k lit x none 0 ([] : List ByteArray) true w hC hlz hl9 h20) ?_; rintro e w1 ⟨rfl, e1⟩; have b1 : Below w.heap.size w w1 := (by rw [e1]; exact Below.refl _ _); clear e1)
    | (go_at_call 21; refine Calls.mono (strs_k none 0 ([] : List ByteArray) r21 w1 (Kd.C_below hC b1) h21.out.1 h21.out.2.1 h21.out.2.2) ?_; rintro e w2 ⟨rfl, e2⟩; have b2 : Below w.heap.size w w2 := (by rw [e2]; exact b1); clear e2))
  all_goals
    go_ret
    exact ⟨rfl, b2⟩
set_option maxHeartbeats 4000000 in
set_option maxRecDepth 100000 in
theorem law7_nil_c (lit : ByteArray) (x : Int) (w : World) (hC : Kd.C Kd.string w none ([] : List ByteArray).length []) (hc : ([] : List ByteArray).length ≤ 0) (hlz : lit.size < 9223372036854775807) (hl9 : ([] : List ByteArray).length < 9223372036854775807) (hs : lit.size ≤ 1048576) (h20 : zzOk lit ([] : List ByteArray) = true) (r21 : Int) (h21 : Hid (([] : List ByteArray).length ≤ 1048576 ∧ psum ([] : List ByteArray) ([] : List ByteArray).length ≤ 1048576 ∧ ((16 * ([] : List ByteArray).length + psum ([] : List ByteArray) ([] : List ByteArray).length : Nat) : Int) = r21)) (hz : decide ((1048576 : Int) < r21) = false) (h22a : hasB lit 37 = true) : Calls Tryf.prog 7 #[.string lit, .int .u8 x, .slice none 0 0] w (LawRes w) := by
  have hsb : decide ((1048576 : Int) < (lit.size : Int)) = false := decide_eq_false (by omega)
  go_enter Tryf.func7, Tryf.ntmps7
  go_wp2_with (first
    | (go_at_call 20; refine Calls.mono (zz_k lit x none 0 ([] : List ByteArray) true w hC hlz hl9 h20) ?_; rintro e w1 ⟨rfl, e1⟩; have b1 : Below w.heap.size w w1 := (by rw [e1]; exact Below.refl _ _); clear e1)
    | (go_at_call 21; refine Calls.mono (strs_k none 0 ([] : List ByteArray) r21 w1 (Kd.C_below hC b1) h21.out.1 h21.out.2.1 h21.out.2.2) ?_; rintro e w2 ⟨rfl, e2⟩; have b2 : Below w.heap.size w w2 := (by rw [e2]; exact b1); clear e2)
    | (go_at_call 22; first | (refine Calls.mono (has_k lit 92 false w3 (by omega) h22a) ?_; rintro e w4 ⟨rfl, e4⟩; have b4 : Below w.heap.size w w4 := (by rw [e4]; exact b3); clear e4) | (refine Calls.mono (has_k lit 37 true w2 (by omega) h22a) ?_; rintro e w3 ⟨rfl, e3⟩; have b3 : Below w.heap.size w w3 := (by rw [e3]; exact b2); clear e3)))
  all_goals
    go_ret
    exact ⟨rfl, b3⟩
set_option maxHeartbeats 4000000 in
set_option maxRecDepth 100000 in
theorem law7_nil_d (lit : ByteArray) (x : Int) (w : World) (hC : Kd.C Kd.string w none ([] : List ByteArray).length []) (hc : ([] : List ByteArray).length ≤ 0) (hlz : lit.size < 9223372036854775807) (hl9 : ([] : List ByteArray).length < 9223372036854775807) (hs : lit.size ≤ 1048576) (h20 : zzOk lit ([] : List ByteArray) = true) (r21 : Int) (h21 : Hid (([] : List ByteArray).length ≤ 1048576 ∧ psum ([] : List ByteArray) ([] : List ByteArray).length ≤ 1048576 ∧ ((16 * ([] : List ByteArray).length + psum ([] : List ByteArray) ([] : List ByteArray).length : Nat) : Int) = r21)) (hz : decide ((1048576 : Int) < r21) = false) (h22a : hasB lit 37 = false) (h22b : hasB lit 92 = true) : Calls Tryf.prog 7 #[.string lit, .int .u8 x, .slice none 0 0] w (LawRes w) := by
  have hsb : decide ((1048576 : Int) < (lit.size : Int)) = false := decide_eq_false (by omega)
  go_enter Tryf.func7, Tryf.ntmps7
  go_wp2_with (first
    | (go_at_call 20; refine Calls.mono (zz_k lit x none 0 ([] : List ByteArray) true w hC hlz hl9 h20) ?_; rintro e w1 ⟨rfl, e1⟩; have b1 : Below w.heap.size w w1 := (by rw [e1]; exact Below.refl _ _); clear e1)
    | (go_at_call 21; refine Calls.mono (strs_k none 0 ([] : List ByteArray) r21 w1 (Kd.C_below hC b1) h21.out.1 h21.out.2.1 h21.out.2.2) ?_; rintro e w2 ⟨rfl, e2⟩; have b2 : Below w.heap.size w w2 := (by rw [e2]; exact b1); clear e2)
    | (go_at_call 22; first | (refine Calls.mono (has_k lit 92 true w3 (by omega) h22b) ?_; rintro e w4 ⟨rfl, e4⟩; have b4 : Below w.heap.size w w4 := (by rw [e4]; exact b3); clear e4) | (refine Calls.mono (has_k lit 37 false w2 (by omega) h22a) ?_; rintro e w3 ⟨rfl, e3⟩; have b3 : Below w.heap.size w w3 := (by rw [e3]; exact b2); clear e3)))
  all_goals
    go_ret
    exact ⟨rfl, b4⟩
set_option maxHeartbeats 4000000 in
set_option maxRecDepth 100000 in
theorem law7_nil_main (lit : ByteArray) (x : Int) (w : World) (hC : Kd.C Kd.string w none ([] : List ByteArray).length []) (hc : ([] : List ByteArray).length ≤ 0) (hlz : lit.size < 9223372036854775807) (hl9 : ([] : List ByteArray).length < 9223372036854775807) (hs : lit.size ≤ 1048576) (h20 : zzOk lit ([] : List ByteArray) = true) (r21 : Int) (h21 : Hid (([] : List ByteArray).length ≤ 1048576 ∧ psum ([] : List ByteArray) ([] : List ByteArray).length ≤ 1048576 ∧ ((16 * ([] : List ByteArray).length + psum ([] : List ByteArray) ([] : List ByteArray).length : Nat) : Int) = r21)) (hz : decide ((1048576 : Int) < r21) = false) (h22a : hasB lit 37 = false) (h22b : hasB lit 92 = false) (h37 : ∀ j, j < lit.size → bt lit (j : Int) ≠ 37) (h92 : ∀ j, j < lit.size → bt lit (j : Int) ≠ 92) (hx0 : 0 ≤ x) (hx1 : x < 256) (hE : Hid (Evs w)) (hT : Hid (Tld w))  : Calls Tryf.prog 7 #[.string lit, .int .u8 x, .slice none 0 0] w (LawRes w) := by
  have hsb : decide ((1048576 : Int) < (lit.size : Int)) = false := decide_eq_false (by omega)
  obtain ⟨i0, hi, hz0, hz1, hz2⟩ := info_parts bd_byte
  have hneq : ∀ W, (binOp .eql 31 (.slice none 0 0) (.slice none 0 0)).run Tryf.prog W = .ok (.bool true) W := fun W => run_eql_slice_nil W 31 9 none 0 0 Tryf.underlying31
  have hnee : ∀ W, (binOp .neq 31 (.slice none 0 0) (.slice none 0 0)).run Tryf.prog W = .ok (.bool false) W := fun W => run_neq_slice_nil W 31 9 none 0 0 Tryf.underlying31
  go_enter Tryf.func7, Tryf.ntmps7
  go_wp2_with (first
    | (go_at_call 20; refine Calls.mono (zz_k lit x none 0 ([] : List ByteArray) true w hC hlz hl9 h20) ?_; rintro e w1 ⟨rfl, e1⟩; have b1 : Below w.heap.size w w1 := (by rw [e1]; exact Below.refl _ _); clear e1)
    | (go_at_call 21; refine Calls.mono (strs_k none 0 ([] : List ByteArray) r21 w1 (Kd.C_below hC b1) h21.out.1 h21.out.2.1 h21.out.2.2) ?_; rintro e w2 ⟨rfl, e2⟩; have b2 : Below w.heap.size w w2 := (by rw [e2]; exact b1); clear e2)
    | (go_at_call 22; first | (refine Calls.mono (has_k lit 92 false w3 (by omega) h22b) ?_; rintro e w4 ⟨rfl, e4⟩; have b4 : Below w.heap.size w w4 := (by rw [e4]; exact b3); clear e4) | (refine Calls.mono (has_k lit 37 false w2 (by omega) h22a) ?_; rintro e w3 ⟨rfl, e3⟩; have b3 : Below w.heap.size w w3 := (by rw [e3]; exact b2); clear e3))
    | (go_at_call 23; refine Calls.mono (clone_nil w4) ?_; rintro e w5 ⟨rfl, e5⟩; have b5 : Below w.heap.size w w5 := (by rw [e5]; exact b4); clear e5; obtain ⟨w6, hmk, hown6, hg6⟩ := mk36 lit.size hs w5; have b6 := b5.grown hg6 (by have := b5.size; omega) (fun k hk => by cases hk); have c6 := (Below.refl w5.heap.size w5).grown hg6 (Nat.le_refl _) (fun k hk => by cases hk))
    | (at_builtin; refine Lib.wpList_append_own_string _ rfl _ _ 36 9 rfl w5.heap.size 5 i0 Tryf.underlying36 Tryf.underlying9 hi hz0 hz1 hz2 _ 0 [] rfl hown6 lit rfl (by unfold maxLen; omega) (by omega) hg6.size ?_; intro v7 w7 hown7 hg7 hn7; have b7 := b6.grown hg7 (by have := b6.size; omega) (fun k hk => by have := (hown6.lt k hk).1; have := b5.size; omega); have c7 := c6.grown hg7 hg6.size (fun k hk => (hown6.lt k hk).1))
    | (at_builtin; refine wpList_append_own_at _ rfl _ _ 36 rfl w5.heap.size 5 i0 (.int .u8 0) 1 1 Tryf.underlying36 hi hz0 hz1 hz2 rfl (by decide) _ (0 + lit.size) _ rfl (hown7.alloc _) ⟨w7.heap.size, 0, none⟩ 2 2 [.int .u8 37, .int .u8 x] rfl rfl (new2 w7 (.int .u8 37) (.int .u8 x) 5) (by intro u hu; simp at hu; rcases hu with rfl | rfl <;> rfl) (by unfold maxLen; omega) (by omega) (by have := hg6.size; have := hg7.size; simp; omega) ?_; intro v8 w8 hown8 hg8 hn8 ho8; have b8 := (b7.alloc (by have := b7.size; omega) _).grown hg8 (by have := b7.size; simp; omega) (fun k hk => by have := (hown7.lt k hk).1; have := b5.size; omega); have c8b := (c7.alloc (by have := hg6.size; have := hg7.size; omega) _).grown hg8 (by have := hg6.size; have := hg7.size; simp; omega) (fun k hk => (hown7.lt k hk).1); rw [List.nil_append, strCells_nums] at hown8; obtain ⟨A8, c8, rfl, hr8⟩ := own_reads (k := .u8) (xs := litNums lit ++ [37, x]) (by have e : nums .u8 (litNums lit ++ [37, x]) = nums .u8 (litNums lit) ++ [.int .u8 37, .int .u8 x] := (by simp [nums]); rw [e]; exact hown8); have hcv := string_of_reads (src := 36) (dst := 9) (c := c8) Tryf.underlying36 Tryf.underlying5 Tryf.underlying9 hr8; rw [Nat.zero_add] at hcv; have hE8 := Lib.hid (hE.out.below b8); have hzz := zz_nil lit x w8 hs hE8)
    | (go_at_call 24; refine Calls.mono hzz ?_; rintro e w9 ⟨t9, z9, ev9, rfl, ⟨rfl, rfl⟩, b9⟩; have b9w := b8.trans (b9.mono b8.size)))
  go_ret
  exact ⟨rfl, b9w⟩
set_option maxHeartbeats 4000000 in
set_option maxRecDepth 100000 in
theorem law7_args_a (lit : ByteArray) (x : Int) (A : Addr) (c : Nat) (l : List ByteArray) (w : World) (hC : Kd.C Kd.string w (some A) l.length l) (hc : l.length ≤ c) (hlz : lit.size < 9223372036854775807) (hl9 : l.length < 9223372036854775807) (h20 : zzOk lit l = false) : Calls Tryf.prog 7 #[.string lit, .int .u8 x, .slice (some A) l.length c] w (LawRes w) := by
  go_enter Tryf.func7, Tryf.ntmps7
  go_wp2_with (first
    | (go_at_call 20; refine Calls.mono (zz_k lit x (some A) c l false w hC hlz hl9 h20) ?_; rintro e w1 ⟨rfl, e1⟩; have b1 : Below w.heap.size w w1 := (by rw [e1]; exact Below.refl _ _); clear e1))
  all_goals
    go_ret
    exact ⟨rfl, b1⟩
set_option maxHeartbeats 4000000 in
set_option maxRecDepth 100000 in
theorem law7_args_b (lit : ByteArray) (x : Int) (A : Addr) (c : Nat) (l : List ByteArray) (w : World) (hC : Kd.C Kd.string w (some A) l.length l) (hc : l.length ≤ c) (hlz : lit.size < 9223372036854775807) (hl9 : l.length < 9223372036854775807) (hs : lit.size ≤ 1048576) (h20 : zzOk lit l = true) (r21 : Int) (h21 : Hid (l.length ≤ 1048576 ∧ psum l l.length ≤ 1048576 ∧ ((16 * l.length + psum l l.length : Nat) : Int) = r21)) (hz : decide ((1048576 : Int) < r21) = true) : Calls Tryf.prog 7 #[.string lit, .int .u8 x, .slice (some A) l.length c] w (LawRes w) := by
  have hsb : decide ((1048576 : Int) < (lit.size : Int)) = false := decide_eq_false (by omega)
  go_enter Tryf.func7, Tryf.ntmps7
  go_wp2_with (first
    | (go_at_call 20; refine Calls.mono (zz_k lit x (some A) c l true w hC hlz hl9 h20) ?_; rintro e w1 ⟨rfl, e1⟩; have b1 : Below w.heap.size w w1 := (by rw [e1]; exact Below.refl _ _); clear e1)
    | (go_at_call 21; refine Calls.mono (strs_k (some A) c l r21 w1 (Kd.C_below hC b1) h21.out.1 h21.out.2.1 h21.out.2.2) ?_; rintro e w2 ⟨rfl, e2⟩; have b2 : Below w.heap.size w w2 := (by rw [e2]; exact b1); clear e2))
  all_goals
    go_ret
    exact ⟨rfl, b2⟩
set_option maxHeartbeats 4000000 in
set_option maxRecDepth 100000 in
theorem law7_args_c (lit : ByteArray) (x : Int) (A : Addr) (c : Nat) (l : List ByteArray) (w : World) (hC : Kd.C Kd.string w (some A) l.length l) (hc : l.length ≤ c) (hlz : lit.size < 9223372036854775807) (hl9 : l.length < 9223372036854775807) (hs : lit.size ≤ 1048576) (h20 : zzOk lit l = true) (r21 : Int) (h21 : Hid (l.length ≤ 1048576 ∧ psum l l.length ≤ 1048576 ∧ ((16 * l.length + psum l l.length : Nat) : Int) = r21)) (hz : decide ((1048576 : Int) < r21) = false) (h22a : hasB lit 37 = true) : Calls Tryf.prog 7 #[.string lit, .int .u8 x, .slice (some A) l.length c] w (LawRes w) := by
  have hsb : decide ((1048576 : Int) < (lit.size : Int)) = false := decide_eq_false (by omega)
  go_enter Tryf.func7, Tryf.ntmps7
  go_wp2_with (first
    | (go_at_call 20; refine Calls.mono (zz_k lit x (some A) c l true w hC hlz hl9 h20) ?_; rintro e w1 ⟨rfl, e1⟩; have b1 : Below w.heap.size w w1 := (by rw [e1]; exact Below.refl _ _); clear e1)
    | (go_at_call 21; refine Calls.mono (strs_k (some A) c l r21 w1 (Kd.C_below hC b1) h21.out.1 h21.out.2.1 h21.out.2.2) ?_; rintro e w2 ⟨rfl, e2⟩; have b2 : Below w.heap.size w w2 := (by rw [e2]; exact b1); clear e2)
    | (go_at_call 22; first | (refine Calls.mono (has_k lit 92 false w3 (by omega) h22a) ?_; rintro e w4 ⟨rfl, e4⟩; have b4 : Below w.heap.size w w4 := (by rw [e4]; exact b3); clear e4) | (refine Calls.mono (has_k lit 37 true w2 (by omega) h22a) ?_; rintro e w3 ⟨rfl, e3⟩; have b3 : Below w.heap.size w w3 := (by rw [e3]; exact b2); clear e3)))
  all_goals
    go_ret
    exact ⟨rfl, b3⟩
set_option maxHeartbeats 4000000 in
set_option maxRecDepth 100000 in
theorem law7_args_d (lit : ByteArray) (x : Int) (A : Addr) (c : Nat) (l : List ByteArray) (w : World) (hC : Kd.C Kd.string w (some A) l.length l) (hc : l.length ≤ c) (hlz : lit.size < 9223372036854775807) (hl9 : l.length < 9223372036854775807) (hs : lit.size ≤ 1048576) (h20 : zzOk lit l = true) (r21 : Int) (h21 : Hid (l.length ≤ 1048576 ∧ psum l l.length ≤ 1048576 ∧ ((16 * l.length + psum l l.length : Nat) : Int) = r21)) (hz : decide ((1048576 : Int) < r21) = false) (h22a : hasB lit 37 = false) (h22b : hasB lit 92 = true) : Calls Tryf.prog 7 #[.string lit, .int .u8 x, .slice (some A) l.length c] w (LawRes w) := by
  have hsb : decide ((1048576 : Int) < (lit.size : Int)) = false := decide_eq_false (by omega)
  go_enter Tryf.func7, Tryf.ntmps7
  go_wp2_with (first
    | (go_at_call 20; refine Calls.mono (zz_k lit x (some A) c l true w hC hlz hl9 h20) ?_; rintro e w1 ⟨rfl, e1⟩; have b1 : Below w.heap.size w w1 := (by rw [e1]; exact Below.refl _ _); clear e1)
    | (go_at_call 21; refine Calls.mono (strs_k (some A) c l r21 w1 (Kd.C_below hC b1) h21.out.1 h21.out.2.1 h21.out.2.2) ?_; rintro e w2 ⟨rfl, e2⟩; have b2 : Below w.heap.size w w2 := (by rw [e2]; exact b1); clear e2)
    | (go_at_call 22; first | (refine Calls.mono (has_k lit 92 true w3 (by omega) h22b) ?_; rintro e w4 ⟨rfl, e4⟩; have b4 : Below w.heap.size w w4 := (by rw [e4]; exact b3); clear e4) | (refine Calls.mono (has_k lit 37 false w2 (by omega) h22a) ?_; rintro e w3 ⟨rfl, e3⟩; have b3 : Below w.heap.size w w3 := (by rw [e3]; exact b2); clear e3)))
  all_goals
    go_ret
    exact ⟨rfl, b4⟩
set_option maxHeartbeats 4000000 in
set_option maxRecDepth 100000 in
theorem law7_args_main_37 (lit : ByteArray) (x : Int) (A : Addr) (c : Nat) (l : List ByteArray) (w : World) (hC : Kd.C Kd.string w (some A) l.length l) (hc : l.length ≤ c) (hlz : lit.size < 9223372036854775807) (hl9 : l.length < 9223372036854775807) (hs : lit.size ≤ 1048576) (h20 : zzOk lit l = true) (r21 : Int) (h21 : Hid (l.length ≤ 1048576 ∧ psum l l.length ≤ 1048576 ∧ ((16 * l.length + psum l l.length : Nat) : Int) = r21)) (hz : decide ((1048576 : Int) < r21) = false) (h22a : hasB lit 37 = false) (h22b : hasB lit 92 = false) (h37 : ∀ j, j < lit.size → bt lit (j : Int) ≠ 37) (h92 : ∀ j, j < lit.size → bt lit (j : Int) ≠ 92) (hx0 : 0 ≤ x) (hx1 : x < 256) (hE : Hid (Evs w)) (hT : Hid (Tld w)) (hl : l.length ≤ 1048576) (hls : 0 < l.length → (rdOf ByteArray.empty l 0).size ≤ 1048576) (hv : vAcc x = true) (hx : x = 37) : Calls Tryf.prog 7 #[.string lit, .int .u8 x, .slice (some A) l.length c] w (LawRes w) := by
  have hsb : decide ((1048576 : Int) < (lit.size : Int)) = false := decide_eq_false (by omega)
  obtain ⟨i0, hi, hz0, hz1, hz2⟩ := info_parts bd_byte
  have hneq : ∀ (g : Nat) W, (binOp .eql 31 (.slice (some ⟨g, 0, none⟩) l.length l.length) (.slice none 0 0)).run Tryf.prog W = .ok (.bool false) W := fun g W => run_eql_slice_nil W 31 9 (some ⟨g, 0, none⟩) l.length l.length Tryf.underlying31
  have hnee : ∀ (g : Nat) W, (binOp .neq 31 (.slice (some ⟨g, 0, none⟩) l.length l.length) (.slice none 0 0)).run Tryf.prog W = .ok (.bool true) W := fun g W => run_neq_slice_nil W 31 9 (some ⟨g, 0, none⟩) l.length l.length Tryf.underlying31
  have htk : ((took x l.length : Nat) : Int) = 0 := by simp [took, hx]
  have hxb : (x == 37) = true := by simp [hx]
  have hxn : (x != 37) = false := by simp [hx]
  clear hx
  go_enter Tryf.func7, Tryf.ntmps7
  go_wp2_with (first
    | (go_at_call 20; refine Calls.mono (zz_k lit x (some A) c l true w hC hlz hl9 h20) ?_; rintro e w1 ⟨rfl, e1⟩; have b1 : Below w.heap.size w w1 := (by rw [e1]; exact Below.refl _ _); clear e1)
    | (go_at_call 21; refine Calls.mono (strs_k (some A) c l r21 w1 (Kd.C_below hC b1) h21.out.1 h21.out.2.1 h21.out.2.2) ?_; rintro e w2 ⟨rfl, e2⟩; have b2 : Below w.heap.size w w2 := (by rw [e2]; exact b1); clear e2)
    | (go_at_call 22; first | (refine Calls.mono (has_k lit 92 false w3 (by omega) h22b) ?_; rintro e w4 ⟨rfl, e4⟩; have b4 : Below w.heap.size w w4 := (by rw [e4]; exact b3); clear e4) | (refine Calls.mono (has_k lit 37 false w2 (by omega) h22a) ?_; rintro e w3 ⟨rfl, e3⟩; have b3 : Below w.heap.size w w3 := (by rw [e3]; exact b2); clear e3))
    | (go_at_call 23; refine Calls.mono (clone_k A c l w4 (Kd.C_below hC b4) hl) ?_; rintro e w5 ⟨rfl, cp⟩; have b5 := b4.trans (cp.bel.mono b4.size); obtain ⟨w6, hmk, hown6, hg6⟩ := mk36 lit.size hs w5; have b6 := b5.grown hg6 (by have := b5.size; omega) (fun k hk => by cases hk); have c6 := (Below.refl w5.heap.size w5).grown hg6 (Nat.le_refl _) (fun k hk => by cases hk))
    | (at_builtin; refine Lib.wpList_append_own_string _ rfl _ _ 36 9 rfl w5.heap.size 5 i0 Tryf.underlying36 Tryf.underlying9 hi hz0 hz1 hz2 _ 0 [] rfl hown6 lit rfl (by unfold maxLen; omega) (by omega) hg6.size ?_; intro v7 w7 hown7 hg7 hn7; have b7 := b6.grown hg7 (by have := b6.size; omega) (fun k hk => by have := (hown6.lt k hk).1; have := b5.size; omega); have c7 := c6.grown hg7 hg6.size (fun k hk => (hown6.lt k hk).1))
    | (at_builtin; refine wpList_append_own_at _ rfl _ _ 36 rfl w5.heap.size 5 i0 (.int .u8 0) 1 1 Tryf.underlying36 hi hz0 hz1 hz2 rfl (by decide) _ (0 + lit.size) _ rfl (hown7.alloc _) ⟨w7.heap.size, 0, none⟩ 2 2 [.int .u8 37, .int .u8 x] rfl rfl (new2 w7 (.int .u8 37) (.int .u8 x) 5) (by intro u hu; simp at hu; rcases hu with rfl | rfl <;> rfl) (by unfold maxLen; omega) (by omega) (by have := hg6.size; have := hg7.size; simp; omega) ?_; intro v8 w8 hown8 hg8 hn8 ho8; have b8 := (b7.alloc (by have := b7.size; omega) _).grown hg8 (by have := b7.size; simp; omega) (fun k hk => by have := (hown7.lt k hk).1; have := b5.size; omega); have c8b := (c7.alloc (by have := hg6.size; have := hg7.size; omega) _).grown hg8 (by have := hg6.size; have := hg7.size; simp; omega) (fun k hk => (hown7.lt k hk).1); rw [List.nil_append, strCells_nums] at hown8; obtain ⟨A8, c8, rfl, hr8⟩ := own_reads (k := .u8) (xs := litNums lit ++ [37, x]) (by have e : nums .u8 (litNums lit ++ [37, x]) = nums .u8 (litNums lit) ++ [.int .u8 37, .int .u8 x] := (by simp [nums]); rw [e]; exact hown8); have hcv := string_of_reads (src := 36) (dst := 9) (c := c8) Tryf.underlying36 Tryf.underlying5 Tryf.underlying9 hr8; rw [Nat.zero_add] at hcv; have hE8 := Lib.hid (hE.out.below b8); have hT8 := Lib.hid (hT.out.of b8.tape); have hzz := zz_args lit x w4.heap.size l.length w8 hs hx0 hx1 hl hE8 hT8 h37 h92 (args_fact cp c8b hls))
    | (go_at_call 24; refine Calls.mono hzz ?_; rintro e w9 ⟨t9, z9, ev9, rfl, hR, b9⟩; have b9w := b8.trans (b9.mono b8.size); obtain ⟨rfl, rfl⟩ := hR.acc hv 0 htk)
    | (go_at_call 25; refine Calls.mono (verb_r x true hv _) ?_; rintro e w10 ⟨rfl, rfl⟩))
  all_goals
    go_ret
    exact ⟨rfl, b9w⟩
set_option maxHeartbeats 4000000 in
set_option maxRecDepth 100000 in
theorem law7_args_main_none (lit : ByteArray) (x : Int) (A : Addr) (c : Nat) (l : List ByteArray) (w : World) (hC : Kd.C Kd.string w (some A) l.length l) (hc : l.length ≤ c) (hlz : lit.size < 9223372036854775807) (hl9 : l.length < 9223372036854775807) (hs : lit.size ≤ 1048576) (h20 : zzOk lit l = true) (r21 : Int) (h21 : Hid (l.length ≤ 1048576 ∧ psum l l.length ≤ 1048576 ∧ ((16 * l.length + psum l l.length : Nat) : Int) = r21)) (hz : decide ((1048576 : Int) < r21) = false) (h22a : hasB lit 37 = false) (h22b : hasB lit 92 = false) (h37 : ∀ j, j < lit.size → bt lit (j : Int) ≠ 37) (h92 : ∀ j, j < lit.size → bt lit (j : Int) ≠ 92) (hx0 : 0 ≤ x) (hx1 : x < 256) (hE : Hid (Evs w)) (hT : Hid (Tld w)) (hl : l.length ≤ 1048576) (hls : 0 < l.length → (rdOf ByteArray.empty l 0).size ≤ 1048576) (hv : vAcc x = true) (hx : x ≠ 37) (hl0 : l.length = 0) : Calls Tryf.prog 7 #[.string lit, .int .u8 x, .slice (some A) l.length c] w (LawRes w) := by
  have hsb : decide ((1048576 : Int) < (lit.size : Int)) = false := decide_eq_false (by omega)
  obtain ⟨i0, hi, hz0, hz1, hz2⟩ := info_parts bd_byte
  have hneq : ∀ (g : Nat) W, (binOp .eql 31 (.slice (some ⟨g, 0, none⟩) l.length l.length) (.slice none 0 0)).run Tryf.prog W = .ok (.bool false) W := fun g W => run_eql_slice_nil W 31 9 (some ⟨g, 0, none⟩) l.length l.length Tryf.underlying31
  have hnee : ∀ (g : Nat) W, (binOp .neq 31 (.slice (some ⟨g, 0, none⟩) l.length l.length) (.slice none 0 0)).run Tryf.prog W = .ok (.bool true) W := fun g W => run_neq_slice_nil W 31 9 (some ⟨g, 0, none⟩) l.length l.length Tryf.underlying31
  have htk : ((took x l.length : Nat) : Int) = 0 := by simp [took, hl0]
  have hxb : (x == 37) = false := by simp [hx]
  have hxn : (x != 37) = true := by simp [hx]
  have hlb : decide ((0 : Int) < (l.length : Int)) = false := decide_eq_false (by omega)
  have HL := Lib.hid hl0
  clear hx hl0
  go_enter Tryf.func7, Tryf.ntmps7
  go_wp2_with (first
    | (go_at_call 20; refine Calls.mono (zz_k lit x (some A) c l true w hC hlz hl9 h20) ?_; rintro e w1 ⟨rfl, e1⟩; have b1 : Below w.heap.size w w1 := (by rw [e1]; exact Below.refl _ _); clear e1)
    | (go_at_call 21; refine Calls.mono (strs_k (some A) c l r21 w1 (Kd.C_below hC b1) h21.out.1 h21.out.2.1 h21.out.2.2) ?_; rintro e w2 ⟨rfl, e2⟩; have b2 : Below w.heap.size w w2 := (by rw [e2]; exact b1); clear e2)
    | (go_at_call 22; first | (refine Calls.mono (has_k lit 92 false w3 (by omega) h22b) ?_; rintro e w4 ⟨rfl, e4⟩; have b4 : Below w.heap.size w w4 := (by rw [e4]; exact b3); clear e4) | (refine Calls.mono (has_k lit 37 false w2 (by omega) h22a) ?_; rintro e w3 ⟨rfl, e3⟩; have b3 : Below w.heap.size w w3 := (by rw [e3]; exact b2); clear e3))
    | (go_at_call 23; refine Calls.mono (clone_k A c l w4 (Kd.C_below hC b4) hl) ?_; rintro e w5 ⟨rfl, cp⟩; have b5 := b4.trans (cp.bel.mono b4.size); obtain ⟨w6, hmk, hown6, hg6⟩ := mk36 lit.size hs w5; have b6 := b5.grown hg6 (by have := b5.size; omega) (fun k hk => by cases hk); have c6 := (Below.refl w5.heap.size w5).grown hg6 (Nat.le_refl _) (fun k hk => by cases hk))
    | (at_builtin; refine Lib.wpList_append_own_string _ rfl _ _ 36 9 rfl w5.heap.size 5 i0 Tryf.underlying36 Tryf.underlying9 hi hz0 hz1 hz2 _ 0 [] rfl hown6 lit rfl (by unfold maxLen; omega) (by omega) hg6.size ?_; intro v7 w7 hown7 hg7 hn7; have b7 := b6.grown hg7 (by have := b6.size; omega) (fun k hk => by have := (hown6.lt k hk).1; have := b5.size; omega); have c7 := c6.grown hg7 hg6.size (fun k hk => (hown6.lt k hk).1))
    | (at_builtin; refine wpList_append_own_at _ rfl _ _ 36 rfl w5.heap.size 5 i0 (.int .u8 0) 1 1 Tryf.underlying36 hi hz0 hz1 hz2 rfl (by decide) _ (0 + lit.size) _ rfl (hown7.alloc _) ⟨w7.heap.size, 0, none⟩ 2 2 [.int .u8 37, .int .u8 x] rfl rfl (new2 w7 (.int .u8 37) (.int .u8 x) 5) (by intro u hu; simp at hu; rcases hu with rfl | rfl <;> rfl) (by unfold maxLen; omega) (by omega) (by have := hg6.size; have := hg7.size; simp; omega) ?_; intro v8 w8 hown8 hg8 hn8 ho8; have b8 := (b7.alloc (by have := b7.size; omega) _).grown hg8 (by have := b7.size; simp; omega) (fun k hk => by have := (hown7.lt k hk).1; have := b5.size; omega); have c8b := (c7.alloc (by have := hg6.size; have := hg7.size; omega) _).grown hg8 (by have := hg6.size; have := hg7.size; simp; omega) (fun k hk => (hown7.lt k hk).1); rw [List.nil_append, strCells_nums] at hown8; obtain ⟨A8, c8, rfl, hr8⟩ := own_reads (k := .u8) (xs := litNums lit ++ [37, x]) (by have e : nums .u8 (litNums lit ++ [37, x]) = nums .u8 (litNums lit) ++ [.int .u8 37, .int .u8 x] := (by simp [nums]); rw [e]; exact hown8); have hcv := string_of_reads (src := 36) (dst := 9) (c := c8) Tryf.underlying36 Tryf.underlying5 Tryf.underlying9 hr8; rw [Nat.zero_add] at hcv; have hE8 := Lib.hid (hE.out.below b8); have hT8 := Lib.hid (hT.out.of b8.tape); have hzz := zz_args lit x w4.heap.size l.length w8 hs hx0 hx1 hl hE8 hT8 h37 h92 (args_fact cp c8b hls))
    | (go_at_call 24; refine Calls.mono hzz ?_; rintro e w9 ⟨t9, z9, ev9, rfl, hR, b9⟩; have b9w := b8.trans (b9.mono b8.size); obtain ⟨rfl, rfl⟩ := hR.acc hv 0 htk)
    | (go_at_call 25; refine Calls.mono (verb_r x true hv _) ?_; rintro e w10 ⟨rfl, rfl⟩))
  all_goals
    first
      | (exfalso; have := HL.out; omega)
      | (go_ret; exact ⟨rfl, b9w⟩)
set_option maxHeartbeats 4000000 in
set_option maxRecDepth 100000 in
theorem law7_args_main_one (lit : ByteArray) (x : Int) (A : Addr) (c : Nat) (l : List ByteArray) (w : World) (hC : Kd.C Kd.string w (some A) l.length l) (hc : l.length ≤ c) (hlz : lit.size < 9223372036854775807) (hl9 : l.length < 9223372036854775807) (hs : lit.size ≤ 1048576) (h20 : zzOk lit l = true) (r21 : Int) (h21 : Hid (l.length ≤ 1048576 ∧ psum l l.length ≤ 1048576 ∧ ((16 * l.length + psum l l.length : Nat) : Int) = r21)) (hz : decide ((1048576 : Int) < r21) = false) (h22a : hasB lit 37 = false) (h22b : hasB lit 92 = false) (h37 : ∀ j, j < lit.size → bt lit (j : Int) ≠ 37) (h92 : ∀ j, j < lit.size → bt lit (j : Int) ≠ 92) (hx0 : 0 ≤ x) (hx1 : x < 256) (hE : Hid (Evs w)) (hT : Hid (Tld w)) (hl : l.length ≤ 1048576) (hls : 0 < l.length → (rdOf ByteArray.empty l 0).size ≤ 1048576) (hv : vAcc x = true) (hx : x ≠ 37) (hl0 : 0 < l.length) : Calls Tryf.prog 7 #[.string lit, .int .u8 x, .slice (some A) l.length c] w (LawRes w) := by
  have hsb : decide ((1048576 : Int) < (lit.size : Int)) = false := decide_eq_false (by omega)
  obtain ⟨i0, hi, hz0, hz1, hz2⟩ := info_parts bd_byte
  have hneq : ∀ (g : Nat) W, (binOp .eql 31 (.slice (some ⟨g, 0, none⟩) l.length l.length) (.slice none 0 0)).run Tryf.prog W = .ok (.bool false) W := fun g W => run_eql_slice_nil W 31 9 (some ⟨g, 0, none⟩) l.length l.length Tryf.underlying31
  have hnee : ∀ (g : Nat) W, (binOp .neq 31 (.slice (some ⟨g, 0, none⟩) l.length l.length) (.slice none 0 0)).run Tryf.prog W = .ok (.bool true) W := fun g W => run_neq_slice_nil W 31 9 (some ⟨g, 0, none⟩) l.length l.length Tryf.underlying31
  have htk : ((took x l.length : Nat) : Int) = 1 := by
    have : l.length ≠ 0 := by omega
    unfold took
    rw [if_neg (by omega)]
    rfl
  have hxb : (x == 37) = false := by simp [hx]
  have hxn : (x != 37) = true := by simp [hx]
  have hlb : decide ((0 : Int) < (l.length : Int)) = true := decide_eq_true (by omega)
  go_enter Tryf.func7, Tryf.ntmps7
  go_wp2_with (first
    | (go_at_call 20; refine Calls.mono (zz_k lit x (some A) c l true w hC hlz hl9 h20) ?_; rintro e w1 ⟨rfl, e1⟩; have b1 : Below w.heap.size w w1 := (by rw [e1]; exact Below.refl _ _); clear e1)
    | (go_at_call 21; refine Calls.mono (strs_k (some A) c l r21 w1 (Kd.C_below hC b1) h21.out.1 h21.out.2.1 h21.out.2.2) ?_; rintro e w2 ⟨rfl, e2⟩; have b2 : Below w.heap.size w w2 := (by rw [e2]; exact b1); clear e2)
    | (go_at_call 22; first | (refine Calls.mono (has_k lit 92 false w3 (by omega) h22b) ?_; rintro e w4 ⟨rfl, e4⟩; have b4 : Below w.heap.size w w4 := (by rw [e4]; exact b3); clear e4) | (refine Calls.mono (has_k lit 37 false w2 (by omega) h22a) ?_; rintro e w3 ⟨rfl, e3⟩; have b3 : Below w.heap.size w w3 := (by rw [e3]; exact b2); clear e3))
    | (go_at_call 23; refine Calls.mono (clone_k A c l w4 (Kd.C_below hC b4) hl) ?_; rintro e w5 ⟨rfl, cp⟩; have b5 := b4.trans (cp.bel.mono b4.size); obtain ⟨w6, hmk, hown6, hg6⟩ := mk36 lit.size hs w5; have b6 := b5.grown hg6 (by have := b5.size; omega) (fun k hk => by cases hk); have c6 := (Below.refl w5.heap.size w5).grown hg6 (Nat.le_refl _) (fun k hk => by cases hk))
    | (at_builtin; refine Lib.wpList_append_own_string _ rfl _ _ 36 9 rfl w5.heap.size 5 i0 Tryf.underlying36 Tryf.underlying9 hi hz0 hz1 hz2 _ 0 [] rfl hown6 lit rfl (by unfold maxLen; omega) (by omega) hg6.size ?_; intro v7 w7 hown7 hg7 hn7; have b7 := b6.grown hg7 (by have := b6.size; omega) (fun k hk => by have := (hown6.lt k hk).1; have := b5.size; omega); have c7 := c6.grown hg7 hg6.size (fun k hk => (hown6.lt k hk).1))
    | (at_builtin; refine wpList_append_own_at _ rfl _ _ 36 rfl w5.heap.size 5 i0 (.int .u8 0) 1 1 Tryf.underlying36 hi hz0 hz1 hz2 rfl (by decide) _ (0 + lit.size) _ rfl (hown7.alloc _) ⟨w7.heap.size, 0, none⟩ 2 2 [.int .u8 37, .int .u8 x] rfl rfl (new2 w7 (.int .u8 37) (.int .u8 x) 5) (by intro u hu; simp at hu; rcases hu with rfl | rfl <;> rfl) (by unfold maxLen; omega) (by omega) (by have := hg6.size; have := hg7.size; simp; omega) ?_; intro v8 w8 hown8 hg8 hn8 ho8; have b8 := (b7.alloc (by have := b7.size; omega) _).grown hg8 (by have := b7.size; simp; omega) (fun k hk => by have := (hown7.lt k hk).1; have := b5.size; omega); have c8b := (c7.alloc (by have := hg6.size; have := hg7.size; omega) _).grown hg8 (by have := hg6.size; have := hg7.size; simp; omega) (fun k hk => (hown7.lt k hk).1); rw [List.nil_append, strCells_nums] at hown8; obtain ⟨A8, c8, rfl, hr8⟩ := own_reads (k := .u8) (xs := litNums lit ++ [37, x]) (by have e : nums .u8 (litNums lit ++ [37, x]) = nums .u8 (litNums lit) ++ [.int .u8 37, .int .u8 x] := (by simp [nums]); rw [e]; exact hown8); have hcv := string_of_reads (src := 36) (dst := 9) (c := c8) Tryf.underlying36 Tryf.underlying5 Tryf.underlying9 hr8; rw [Nat.zero_add] at hcv; have hE8 := Lib.hid (hE.out.below b8); have hT8 := Lib.hid (hT.out.of b8.tape); have hzz := zz_args lit x w4.heap.size l.length w8 hs hx0 hx1 hl hE8 hT8 h37 h92 (args_fact cp c8b hls))
    | (go_at_call 24; refine Calls.mono hzz ?_; rintro e w9 ⟨t9, z9, ev9, rfl, hR, b9⟩; have b9w := b8.trans (b9.mono b8.size); obtain ⟨rfl, rfl⟩ := hR.acc hv 1 htk)
    | (go_at_call 25; refine Calls.mono (verb_r x true hv _) ?_; rintro e w10 ⟨rfl, rfl⟩))
  all_goals
    go_ret
    exact ⟨rfl, b9w⟩
set_option maxHeartbeats 4000000 in
set_option maxRecDepth 100000 in
theorem law7_args_main_ref (lit : ByteArray) (x : Int) (A : Addr) (c : Nat) (l : List ByteArray) (w : World) (hC : Kd.C Kd.string w (some A) l.length l) (hc : l.length ≤ c) (hlz : lit.size < 9223372036854775807) (hl9 : l.length < 9223372036854775807) (hs : lit.size ≤ 1048576) (h20 : zzOk lit l = true) (r21 : Int) (h21 : Hid (l.length ≤ 1048576 ∧ psum l l.length ≤ 1048576 ∧ ((16 * l.length + psum l l.length : Nat) : Int) = r21)) (hz : decide ((1048576 : Int) < r21) = false) (h22a : hasB lit 37 = false) (h22b : hasB lit 92 = false) (h37 : ∀ j, j < lit.size → bt lit (j : Int) ≠ 37) (h92 : ∀ j, j < lit.size → bt lit (j : Int) ≠ 92) (hx0 : 0 ≤ x) (hx1 : x < 256) (hE : Hid (Evs w)) (hT : Hid (Tld w)) (hl : l.length ≤ 1048576) (hls : 0 < l.length → (rdOf ByteArray.empty l 0).size ≤ 1048576) (hv : vAcc x = false) : Calls Tryf.prog 7 #[.string lit, .int .u8 x, .slice (some A) l.length c] w (LawRes w) := by
  have hsb : decide ((1048576 : Int) < (lit.size : Int)) = false := decide_eq_false (by omega)
  obtain ⟨i0, hi, hz0, hz1, hz2⟩ := info_parts bd_byte
  have hneq : ∀ (g : Nat) W, (binOp .eql 31 (.slice (some ⟨g, 0, none⟩) l.length l.length) (.slice none 0 0)).run Tryf.prog W = .ok (.bool false) W := fun g W => run_eql_slice_nil W 31 9 (some ⟨g, 0, none⟩) l.length l.length Tryf.underlying31
  have hnee : ∀ (g : Nat) W, (binOp .neq 31 (.slice (some ⟨g, 0, none⟩) l.length l.length) (.slice none 0 0)).run Tryf.prog W = .ok (.bool true) W := fun g W => run_neq_slice_nil W 31 9 (some ⟨g, 0, none⟩) l.length l.length Tryf.underlying31
  go_enter Tryf.func7, Tryf.ntmps7
  go_wp2_with (first
    | (go_at_call 20; refine Calls.mono (zz_k lit x (some A) c l true w hC hlz hl9 h20) ?_; rintro e w1 ⟨rfl, e1⟩; have b1 : Below w.heap.size w w1 := (by rw [e1]; exact Below.refl _ _); clear e1)
    | (go_at_call 21; refine Calls.mono (strs_k (some A) c l r21 w1 (Kd.C_below hC b1) h21.out.1 h21.out.2.1 h21.out.2.2) ?_; rintro e w2 ⟨rfl, e2⟩; have b2 : Below w.heap.size w w2 := (by rw [e2]; exact b1); clear e2)
    | (go_at_call 22; first | (refine Calls.mono (has_k lit 92 false w3 (by omega) h22b) ?_; rintro e w4 ⟨rfl, e4⟩; have b4 : Below w.heap.size w w4 := (by rw [e4]; exact b3); clear e4) | (refine Calls.mono (has_k lit 37 false w2 (by omega) h22a) ?_; rintro e w3 ⟨rfl, e3⟩; have b3 : Below w.heap.size w w3 := (by rw [e3]; exact b2); clear e3))
    | (go_at_call 23; refine Calls.mono (clone_k A c l w4 (Kd.C_below hC b4) hl) ?_; rintro e w5 ⟨rfl, cp⟩; have b5 := b4.trans (cp.bel.mono b4.size); obtain ⟨w6, hmk, hown6, hg6⟩ := mk36 lit.size hs w5; have b6 := b5.grown hg6 (by have := b5.size; omega) (fun k hk => by cases hk); have c6 := (Below.refl w5.heap.size w5).grown hg6 (Nat.le_refl _) (fun k hk => by cases hk))
    | (at_builtin; refine Lib.wpList_append_own_string _ rfl _ _ 36 9 rfl w5.heap.size 5 i0 Tryf.underlying36 Tryf.underlying9 hi hz0 hz1 hz2 _ 0 [] rfl hown6 lit rfl (by unfold maxLen; omega) (by omega) hg6.size ?_; intro v7 w7 hown7 hg7 hn7; have b7 := b6.grown hg7 (by have := b6.size; omega) (fun k hk => by have := (hown6.lt k hk).1; have := b5.size; omega); have c7 := c6.grown hg7 hg6.size (fun k hk => (hown6.lt k hk).1))
    | (at_builtin; refine wpList_append_own_at _ rfl _ _ 36 rfl w5.heap.size 5 i0 (.int .u8 0) 1 1 Tryf.underlying36 hi hz0 hz1 hz2 rfl (by decide) _ (0 + lit.size) _ rfl (hown7.alloc _) ⟨w7.heap.size, 0, none⟩ 2 2 [.int .u8 37, .int .u8 x] rfl rfl (new2 w7 (.int .u8 37) (.int .u8 x) 5) (by intro u hu; simp at hu; rcases hu with rfl | rfl <;> rfl) (by unfold maxLen; omega) (by omega) (by have := hg6.size; have := hg7.size; simp; omega) ?_; intro v8 w8 hown8 hg8 hn8 ho8; have b8 := (b7.alloc (by have := b7.size; omega) _).grown hg8 (by have := b7.size; simp; omega) (fun k hk => by have := (hown7.lt k hk).1; have := b5.size; omega); have c8b := (c7.alloc (by have := hg6.size; have := hg7.size; omega) _).grown hg8 (by have := hg6.size; have := hg7.size; simp; omega) (fun k hk => (hown7.lt k hk).1); rw [List.nil_append, strCells_nums] at hown8; obtain ⟨A8, c8, rfl, hr8⟩ := own_reads (k := .u8) (xs := litNums lit ++ [37, x]) (by have e : nums .u8 (litNums lit ++ [37, x]) = nums .u8 (litNums lit) ++ [.int .u8 37, .int .u8 x] := (by simp [nums]); rw [e]; exact hown8); have hcv := string_of_reads (src := 36) (dst := 9) (c := c8) Tryf.underlying36 Tryf.underlying5 Tryf.underlying9 hr8; rw [Nat.zero_add] at hcv; have hE8 := Lib.hid (hE.out.below b8); have hT8 := Lib.hid (hT.out.of b8.tape); have hzz := zz_args lit x w4.heap.size l.length w8 hs hx0 hx1 hl hE8 hT8 h37 h92 (args_fact cp c8b hls))
    | (go_at_call 24; refine Calls.mono hzz ?_; rintro e w9 ⟨t9, z9, ev9, rfl, hR, b9⟩; have b9w := b8.trans (b9.mono b8.size); obtain ⟨rfl, t10, v10, rfl⟩ := hR.ref hv)
    | (go_at_call 25; refine Calls.mono (verb_r x false hv _) ?_; rintro e w10 ⟨rfl, rfl⟩))
  all_goals
    go_ret
    exact ⟨rfl, b9w⟩
end Go.Proofs.YtgcjaijakbejjaaFmt

/- Proved: the law n010_84.FnFormatIntoRefusesExactly returns true at every text, byte and argument list, and what was there stands. Conditions: the argument list reads as strings; lengths below 2^63 - 1; strconv's error variables hold interface values; fmt's texts as told. -/
namespace Go.Proofs.YtgcjaijakbejjaaFmt
open Go.RowKit Go.Proofs.YtgcjaijakbejjaaFmtW.PrintWords

theorem law7_args (lit : ByteArray) (x : Int) (A : Addr) (c : Nat) (l : List ByteArray) (w : World) (hC : Kd.C Kd.string w (some A) l.length l) (hc : l.length ≤ c) (hx0 : 0 ≤ x) (hx1 : x < 256) (hE : Hid (Evs w)) (hT : Hid (Tld w)) (hls : lit.size < 9223372036854775807) (hl9 : l.length < 9223372036854775807) :
    Calls Tryf.prog 7 #[.string lit, .int .u8 x, .slice (some A) l.length c] w (LawRes w) := by
  cases h20 : zzOk lit l with
  | false => exact law7_args_a lit x A c l w hC hc hls hl9 h20
  | true =>
    obtain ⟨s1, s2, s3, s4⟩ := zzOk_true h20
    obtain ⟨r21, h21⟩ : ∃ r : Int, ((16 * l.length + psum l l.length : Nat) : Int) = r := ⟨_, rfl⟩
    have H21 := Lib.hid (And.intro s2 (And.intro s3 h21))
    cases hz : decide ((1048576 : Int) < r21) with
    | true => exact law7_args_b lit x A c l w hC hc hls hl9 s1 h20 r21 H21 hz
    | false =>
      cases h1 : hasB lit 37 with
      | true => exact law7_args_c lit x A c l w hC hc hls hl9 s1 h20 r21 H21 hz h1
      | false =>
        cases h2 : hasB lit 92 with
        | true => exact law7_args_d lit x A c l w hC hc hls hl9 s1 h20 r21 H21 hz h1 h2
        | false =>
          have hs0 : 0 < l.length → (rdOf ByteArray.empty l 0).size ≤ 1048576 := fun h => s4 0 h
          by_cases hv : vAcc x = true
          · by_cases hx : x = 37
            · exact law7_args_main_37 lit x A c l w hC hc hls hl9 s1 h20 r21 H21 hz h1 h2 (hasB_false h1) (hasB_false h2) hx0 hx1 hE hT s2 hs0 hv hx
            · by_cases hl0 : l.length = 0
              · exact law7_args_main_none lit x A c l w hC hc hls hl9 s1 h20 r21 H21 hz h1 h2 (hasB_false h1) (hasB_false h2) hx0 hx1 hE hT s2 hs0 hv hx hl0
              · exact law7_args_main_one lit x A c l w hC hc hls hl9 s1 h20 r21 H21 hz h1 h2 (hasB_false h1) (hasB_false h2) hx0 hx1 hE hT s2 hs0 hv hx (by omega)
          · exact law7_args_main_ref lit x A c l w hC hc hls hl9 s1 h20 r21 H21 hz h1 h2 (hasB_false h1) (hasB_false h2) hx0 hx1 hE hT s2 hs0 (by simpa using hv)

theorem law7_nil (lit : ByteArray) (x : Int) (w : World) (hx0 : 0 ≤ x) (hx1 : x < 256) (hE : Hid (Evs w)) (hT : Hid (Tld w)) (hls : lit.size < 9223372036854775807) :
    Calls Tryf.prog 7 #[.string lit, .int .u8 x, .slice none 0 0] w (LawRes w) := by
  have hC : Kd.C Kd.string w none ([] : List ByteArray).length [] := Kd.C_nil Kd.string w
  have hc : ([] : List ByteArray).length ≤ 0 := Nat.le_refl _
  have hl9 : ([] : List ByteArray).length < 9223372036854775807 := by decide
  cases h20 : zzOk lit [] with
  | false => exact law7_nil_a lit x w hC hc hls hl9 h20
  | true =>
    obtain ⟨s1, s2, s3, s4⟩ := zzOk_true h20
    obtain ⟨r21, h21⟩ : ∃ r : Int, ((16 * ([] : List ByteArray).length + psum [] ([] : List ByteArray).length : Nat) : Int) = r := ⟨_, rfl⟩
    have H21 := Lib.hid (And.intro s2 (And.intro s3 h21))
    cases hz : decide ((1048576 : Int) < r21) with
    | true => exact law7_nil_b lit x w hC hc hls hl9 s1 h20 r21 H21 hz
    | false =>
      cases h1 : hasB lit 37 with
      | true => exact law7_nil_c lit x w hC hc hls hl9 s1 h20 r21 H21 hz h1
      | false =>
        cases h2 : hasB lit 92 with
        | true => exact law7_nil_d lit x w hC hc hls hl9 s1 h20 r21 H21 hz h1 h2
        | false => exact law7_nil_main lit x w hC hc hls hl9 s1 h20 r21 H21 hz h1 h2 (hasB_false h1) (hasB_false h2) hx0 hx1 hE hT
end Go.Proofs.YtgcjaijakbejjaaFmt
