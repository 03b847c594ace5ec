/- Proved: contracts of the lexer's position, errors, and rune at ASCII and at the end. Conditions: as each theorem says. -/
import Derived.Test.YtgcjaijakbejjaaFmtGa
import Derived.RegionTactic
import Derived.BigRegion
import Derived.Stop.CallBack
import Derived.Deep.RegionHeld3
/- What posErr does to the parser at a malformed byte (its error and EOF laid), and nextPos before it. Conditions: the parser's state; fmt's answer is any. -/
namespace Go.Proofs.YtgcjaijakbejjaaFmt
open Go.RowKit Go.Extern.Stop Go.Stop Go.Extern

def SomePos (e : Ending) : Prop := ∃ x y : Int, e = .returned (.agg #[.int .u32 x, .int .u32 y])

set_option maxHeartbeats 1000000 in
theorem nextPos_any (b : Nat) (w : World) (offs bsp wd line col : Int) (h12 : w.cell? ⟨b, 12, none⟩ = some (.int .i64 offs)) (h2 : w.cell? ⟨b, 2, none⟩ = some (.int .u64 bsp)) (h4 : w.cell? ⟨b, 4, none⟩ = some (.int .i64 wd))
  (h13 : w.cell? ⟨b, 13, none⟩ = some (.int .i64 line)) (h14 : w.cell? ⟨b, 14, none⟩ = some (.int .i64 col)) (ho : 0 ≤ offs) (ho' : offs ≤ 1000) (hb : 0 ≤ bsp) (hb' : bsp ≤ 2000) (hw : 0 ≤ wd) (hw' : wd ≤ offs + bsp) (hl : 0 ≤ line) (hl' : line ≤ 1000) (hc : 0 ≤ col) (hc' : col ≤ 1000) :
   Calls Tryf.prog 69 #[.pointer (some ⟨b, 0, none⟩)] w fun e w' => SomePos e ∧ Below w.heap.size w w' := by
  have hbl : b < w.heap.size := World.block_lt_of_cell? _ _ h2
  go_enter Tryf.func69, Tryf.ntmps69
  go_wp2
  go_quiet (fail)
  go_wp2
  go_returns
  exact ⟨⟨_, _, rfl⟩, ((((below_drewN _ ((Below.refl _ w).alloc (Nat.le_refl _) _)).setCell (Nat.le_refl _) _).setCell (Nat.le_refl _) _).alloc (by simp [World.drewN]) _)⟩

theorem call59 (args : Array Value) (w : World) : (callFunc 59 args).run Tryf.prog w = (FmtCalls.sprintf #[9, 113] #[9] args).run Tryf.prog w :=
  run_callFunc_next Tryf.func59 (by kernel_rfl) (by kernel_rfl) (by kernel_rfl) args w
def utfMsg : ByteArray := ⟨#[105, 110, 118, 97, 108, 105, 100, 32, 85, 84, 70, 45, 56, 32, 101, 110, 99, 111, 100, 105, 110, 103]⟩
theorem nextTurns : Extern.next FmtCalls.turnsRow = some (FmtCalls.begun #[] #[]) := by kernel_rfl
theorem sp59 (w : World) : (callFunc 59 #[.string ⟨#[105, 110, 118, 97, 108, 105, 100, 32, 85, 84, 70, 45, 56, 32, 101, 110, 99, 111, 100, 105, 110, 103]⟩, .slice none 0 0]).run Tryf.prog w = .ok (.row FmtCalls.turnsRow (FmtCalls.save 0 0 (.slice none 0 0) utfMsg [] [])) w := by
  rw [call59]
  kernel_rfl
/-- fmt's answer: some text, one draw. -/
theorem sp_rows (W : World) (R : Value → World → Prop) (h : ∀ t : ByteArray, R (.string t) W.drew) : Rows Tryf.prog FmtCalls.turnsRow (FmtCalls.save 0 0 (.slice none 0 0) utfMsg [] []) W R := by
  refine rows_value nextTurns (v := .string (FmtStop.textOf (W.tape W.drawn (.extern (word "fmt.Sprintf" [utfMsg.data.toList] 0) 0)))) (w' := W.drew) ?_ (h _)
  kernel_rfl

/-- What an ended parser still shows: the lookahead, the column. -/
structure Dn (b : Nat) (l r col : Int) (w : World) : Prop where
  c3 : w.cell? ⟨b, 3, none⟩ = some (.int .i32 r)
  c4 : ∃ x, w.cell? ⟨b, 4, none⟩ = some (.int .i64 x)
  c14 : w.cell? ⟨b, 14, none⟩ = some (.int .i64 col)
  c20 : w.cell? ⟨b, 20, none⟩ = some (.int .i64 l)
  free : Free w b

def errWorld (w : World) (b n : Nat) (v : Value) : World := ((((w.setCell ⟨b, 7, none⟩ v).setCell ⟨b, 2, none⟩ (.int .u64 (n + 1))).setCell ⟨b, 3, none⟩ (.int .i32 1114112)).setCell ⟨b, 4, none⟩ (.int .i64 1)).setCell ⟨b, 10, none⟩ (.int .u32 1)

set_option maxHeartbeats 1000000 in
theorem errPass_any (b n k : Nat) (a : Option Addr) (x : Value) (bsp r wd t : Int) (w : World) (c7 : w.cell? ⟨b, 7, none⟩ = some .nilIface) (c1 : w.cell? ⟨b, 1, none⟩ = some (.slice a n k)) (c2 : w.cell? ⟨b, 2, none⟩ = some (.int .u64 bsp))
    (c3 : w.cell? ⟨b, 3, none⟩ = some (.int .i32 r)) (c4 : w.cell? ⟨b, 4, none⟩ = some (.int .i64 wd)) (c10 : w.cell? ⟨b, 10, none⟩ = some (.int .u32 t)) (hf : Free w b) (hn : n ≤ 2000) :
    Calls Tryf.prog 79 #[.pointer (some ⟨b, 0, none⟩), .iface 124 x] w fun e w' => e = .returned (.tuple #[]) ∧ w' = errWorld w b n (.iface 124 x) := by
  have f7 := hf 7; have f2 := hf 2; have f3 := hf 3; have f4 := hf 4; have f10 := hf 10
  have hi := eofI
  have hn1 : (n : Int) ≤ 2000 := by omega
  clear hf
  go_enter Tryf.func79, Tryf.ntmps79
  go_wp2
  go_end0
  exact ⟨rfl, rfl⟩

theorem errWorld_dn {B b n : Nat} {v : Value} {r wd col l : Int} {w : World} (hB : B ≤ b)
    (c3 : w.cell? ⟨b, 3, none⟩ = some (.int .i32 r)) (c4 : w.cell? ⟨b, 4, none⟩ = some (.int .i64 wd)) (c14 : w.cell? ⟨b, 14, none⟩ = some (.int .i64 col)) (c20 : w.cell? ⟨b, 20, none⟩ = some (.int .i64 l)) (hf : Free w b) :
    Below B w (errWorld w b n v) ∧ Dn b l 1114112 col (errWorld w b n v) := by
  unfold errWorld
  refine ⟨(((((Below.refl B w).setCell (p := ⟨b, 7, none⟩) hB _).setCell (p := ⟨b, 2, none⟩) hB _).setCell (p := ⟨b, 3, none⟩) hB _).setCell (p := ⟨b, 4, none⟩) hB _).setCell (p := ⟨b, 10, none⟩) hB _, ?_, ?_, ?_, ?_, ?_⟩
  · rw [cs_ne _ _ _ _ _ (by omega), cs_ne _ _ _ _ _ (by omega)]
    exact cs_eq _ _ _ _ (.int .i32 r) (by rw [cs_ne _ _ _ _ _ (by omega), cs_ne _ _ _ _ _ (by omega)]; exact c3)
  · refine ⟨1, ?_⟩
    rw [cs_ne _ _ _ _ _ (by omega)]
    exact cs_eq _ _ _ _ (.int .i64 wd) (by rw [cs_ne _ _ _ _ _ (by omega), cs_ne _ _ _ _ _ (by omega), cs_ne _ _ _ _ _ (by omega)]; exact c4)
  · rw [cs_ne _ _ _ _ _ (by omega), cs_ne _ _ _ _ _ (by omega), cs_ne _ _ _ _ _ (by omega), cs_ne _ _ _ _ _ (by omega), cs_ne _ _ _ _ _ (by omega)]
    exact c14
  · rw [cs_ne _ _ _ _ _ (by omega), cs_ne _ _ _ _ _ (by omega), cs_ne _ _ _ _ _ (by omega), cs_ne _ _ _ _ _ (by omega), cs_ne _ _ _ _ _ (by omega)]
    exact c20
  · intro k
    rw [World.frozen?_setCell, World.frozen?_setCell, World.frozen?_setCell, World.frozen?_setCell, World.frozen?_setCell]
    exact hf k

def Held (b fb : Nat) (p1 p2 : Int) (w w' : World) : Prop := w'.cell? ⟨b, 5, none⟩ = some (.pointer (some ⟨fb, 0, none⟩)) ∧ w'.cell? ⟨fb, 0, none⟩ = some (.string ⟨#[]⟩) ∧ w'.cell? ⟨w.heap.size, 0, none⟩ = some (.int .u32 p1) ∧ w'.cell? ⟨w.heap.size, 1, none⟩ = some (.int .u32 p2)
theorem held_alloc {b fb : Nat} {w : World} (c5 : w.cell? ⟨b, 5, none⟩ = some (.pointer (some ⟨fb, 0, none⟩))) (f0 : w.cell? ⟨fb, 0, none⟩ = some (.string ⟨#[]⟩)) (p1 p2 : Int) : Held b fb p1 p2 w (w.alloc (.cells #[.int .u32 p1, .int .u32 p2] 71)) :=
  ⟨(World.cell?_alloc_lt w _ (a := ⟨b, 5, none⟩) (World.block_lt_of_cell? _ _ c5)).trans c5, (World.cell?_alloc_lt w _ (a := ⟨fb, 0, none⟩) (World.block_lt_of_cell? _ _ f0)).trans f0, by simp, by simp⟩
theorem held_err {b fb n : Nat} {w W : World} {v : Value} {p1 p2 : Int} (hb : b < w.heap.size) (hne : fb ≠ b) (h : Held b fb p1 p2 w W) : Held b fb p1 p2 w (errWorld W.drew.drew b n v) := by
  obtain ⟨h1, h2, h3, h4⟩ := h
  have e : ∀ q j, q ≠ b → (errWorld W.drew.drew b n v).cell? ⟨q, j, none⟩ = W.cell? ⟨q, j, none⟩ := by
    intro q j hq
    unfold errWorld
    rw [cs_nb _ _ _ _ _ _ hq, cs_nb _ _ _ _ _ _ hq, cs_nb _ _ _ _ _ _ hq, cs_nb _ _ _ _ _ _ hq, cs_nb _ _ _ _ _ _ hq]
    rfl
  refine ⟨?_, (e fb 0 hne).trans h2, (e _ 0 (by omega)).trans h3, (e _ 1 (by omega)).trans h4⟩
  unfold errWorld
  rw [cs_ne _ _ _ _ _ (by omega), cs_ne _ _ _ _ _ (by omega), cs_ne _ _ _ _ _ (by omega), cs_ne _ _ _ _ _ (by omega), cs_ne _ _ _ _ _ (by omega)]
  exact h1

set_option linter.unusedSimpArgs false
set_option linter.unusedVariables false
set_option maxHeartbeats 1000000 in
set_option maxRecDepth 100000 in
theorem posErr_any (B b fb n k : Nat) (a : Option Addr) (p1 p2 bsp r wd col l : Int) (w : World) (hB : B ≤ b) (c7 : w.cell? ⟨b, 7, none⟩ = some .nilIface) (c1 : w.cell? ⟨b, 1, none⟩ = some (.slice a n k)) (c2 : w.cell? ⟨b, 2, none⟩ = some (.int .u64 bsp))
    (c3 : w.cell? ⟨b, 3, none⟩ = some (.int .i32 r)) (c4 : w.cell? ⟨b, 4, none⟩ = some (.int .i64 wd)) (c10 : w.cell? ⟨b, 10, none⟩ = some (.int .u32 0)) (c5 : w.cell? ⟨b, 5, none⟩ = some (.pointer (some ⟨fb, 0, none⟩))) (f0 : w.cell? ⟨fb, 0, none⟩ = some (.string ⟨#[]⟩))
    (c14 : w.cell? ⟨b, 14, none⟩ = some (.int .i64 col)) (c20 : w.cell? ⟨b, 20, none⟩ = some (.int .i64 l)) (hf : Free w b) (hn : n ≤ 2000) (hne : fb ≠ b) :
    Calls Tryf.prog 68 #[.pointer (some ⟨b, 0, none⟩), .agg #[.int .u32 p1, .int .u32 p2], .string utfMsg, .slice none 0 0] w fun e w' => e = .returned (.tuple #[]) ∧ Below B w w' ∧ Dn b l 1114112 col w' := by
  have hb : b < w.heap.size := World.block_lt_of_cell? _ _ c1
  have hfb : fb < w.heap.size := World.block_lt_of_cell? _ _ f0
  have hs := sp59
  unfold utfMsg
  go_enter Tryf.func68, Tryf.ntmps68
  go_wp2
  have A : Hid (∀ o : Obj, (w.alloc o).drew.drew.cell? ⟨b, 7, none⟩ = some .nilIface ∧ (w.alloc o).drew.drew.cell? ⟨b, 1, none⟩ = some (.slice a n k) ∧ (w.alloc o).drew.drew.cell? ⟨b, 2, none⟩ = some (.int .u64 bsp) ∧ (w.alloc o).drew.drew.cell? ⟨b, 3, none⟩ = some (.int .i32 r) ∧
      (w.alloc o).drew.drew.cell? ⟨b, 4, none⟩ = some (.int .i64 wd) ∧ (w.alloc o).drew.drew.cell? ⟨b, 10, none⟩ = some (.int .u32 0) ∧ Free (w.alloc o).drew.drew b) := by
    intro o
    have e : ∀ j, (w.alloc o).drew.drew.cell? ⟨b, j, none⟩ = w.cell? ⟨b, j, none⟩ := fun j => World.cell?_alloc_lt w o (a := ⟨b, j, none⟩) hb
    exact ⟨(e 7).trans c7, (e 1).trans c1, (e 2).trans c2, (e 3).trans c3, (e 4).trans c4, (e 10).trans c10, fun j => (World.frozen?_alloc_old w o (a := ⟨b, j, none⟩) (Nat.ne_of_lt hb)).trans (hf j)⟩
  have HD : Hid (∀ (o : Obj) (v : Value), Below B w (errWorld (w.alloc o).drew.drew b n v) ∧ Dn b l 1114112 col (errWorld (w.alloc o).drew.drew b n v)) := by
    intro o v
    have e : ∀ j, (w.alloc o).drew.drew.cell? ⟨b, j, none⟩ = w.cell? ⟨b, j, none⟩ := fun j => World.cell?_alloc_lt w o (a := ⟨b, j, none⟩) hb
    have h := errWorld_dn (B := B) (b := b) (n := n) (v := v) (w := (w.alloc o).drew.drew) hB ((e 3).trans c3) ((e 4).trans c4) ((e 14).trans c14) ((e 20).trans c20) (fun j => (World.frozen?_alloc_old w o (a := ⟨b, j, none⟩) (Nat.ne_of_lt hb)).trans (hf j))
    exact ⟨((((Below.refl B w).alloc (by omega) o).drew).drew).trans h.1, h.2⟩
  have hbn : ∀ o : Obj, (w.alloc o).cell? ⟨b, 10, none⟩ = some (.int .u32 0) := fun o => (World.cell?_alloc_lt w o (a := ⟨b, 10, none⟩) hb).trans c10
  have SB : Hid (Held b fb p1 p2 w (w.alloc (.cells #[.int .u32 p1, .int .u32 p2] 71))) := held_alloc c5 f0 p1 p2
  have SA : Hid (∀ (v : Value), Held b fb p1 p2 w (errWorld (w.alloc (.cells #[.int .u32 p1, .int .u32 p2] 71)).drew.drew b n v)) := fun v => held_err hb hne SB.out
  clear c7 c1 c2 c3 c4 c14 c20 hf c5 f0 c10
  refine wp_region_held_drew (S := fun w' => w'.cell? ⟨b, 5, none⟩ = some (.pointer (some ⟨fb, 0, none⟩)) ∧ w'.cell? ⟨fb, 0, none⟩ = some (.string ⟨#[]⟩) ∧ w'.cell? ⟨w.heap.size, 0, none⟩ = some (.int .u32 p1) ∧ w'.cell? ⟨w.heap.size, 1, none⟩ = some (.int .u32 p2)) (by kernel_rfl) SB.out (fun hHeld => ?_)
  refine wpAnyH_take (i := 0) (v := ?_) rfl (by kernel_rfl) (by kernel_rfl) (by kernel_rfl) (fun _ _ _ h => h) (Or.inl ⟨by rfl, ?_⟩) hHeld ?_
  rotate_left
  · intro w' hSw
    try dsimp only at hSw
    obtain ⟨x1, x2, x3, x4⟩ := hSw
    go_simp
    try with_reducible rfl
  try simp only [Act.put, List.setIfInBounds_toArray, List.set_cons_zero, List.set_cons_succ]
  refine wpAnyH_take (i := 1) (v := ?_) rfl (by kernel_rfl) (by kernel_rfl) (by kernel_rfl) (fun _ _ _ h => h) (Or.inl ⟨by rfl, ?_⟩) hHeld ?_
  rotate_left
  · intro w' hSw
    try dsimp only at hSw
    obtain ⟨x1, x2, x3, x4⟩ := hSw
    go_simp
    try with_reducible rfl
  try simp only [Act.put, List.setIfInBounds_toArray, List.set_cons_zero, List.set_cons_succ]
  refine wpAnyH_take (i := 2) (v := ?_) rfl (by kernel_rfl) (by kernel_rfl) (by kernel_rfl) (fun _ _ _ h => h) (Or.inl ⟨by rfl, ?_⟩) hHeld ?_
  rotate_left
  · intro w' hSw
    try dsimp only at hSw
    obtain ⟨x1, x2, x3, x4⟩ := hSw
    go_simp
    try with_reducible rfl
  try simp only [Act.put, List.setIfInBounds_toArray, List.set_cons_zero, List.set_cons_succ]
  refine wpAnyH_take (i := 3) (v := ?_) rfl (by kernel_rfl) (by kernel_rfl) (by kernel_rfl) (fun _ _ _ h => h) (Or.inl ⟨by rfl, ?_⟩) hHeld ?_
  rotate_left
  · intro w' hSw
    try dsimp only at hSw
    obtain ⟨x1, x2, x3, x4⟩ := hSw
    go_simp
    try with_reducible rfl
  try simp only [Act.put, List.setIfInBounds_toArray, List.set_cons_zero, List.set_cons_succ]
  refine wpAnyH_take (i := 4) (v := ?_) rfl (by kernel_rfl) (by kernel_rfl) (by kernel_rfl) (fun _ _ _ h => h) (Or.inl ⟨by rfl, ?_⟩) hHeld ?_
  rotate_left
  · intro w' hSw
    try dsimp only at hSw
    obtain ⟨x1, x2, x3, x4⟩ := hSw
    go_simp
    try with_reducible rfl
  try simp only [Act.put, List.setIfInBounds_toArray, List.set_cons_zero, List.set_cons_succ]
  refine wpAnyH_take (i := 5) (v := ?_) rfl (by kernel_rfl) (by kernel_rfl) (by kernel_rfl) (fun _ _ _ h => h) (Or.inl ⟨by rfl, ?_⟩) hHeld ?_
  rotate_left
  · intro w' hSw
    try dsimp only at hSw
    obtain ⟨x1, x2, x3, x4⟩ := hSw
    go_simp
    try with_reducible rfl
  try simp only [Act.put, List.setIfInBounds_toArray, List.set_cons_zero, List.set_cons_succ]
  refine wpAnyH_take (i := 6) (v := ?_) rfl (by kernel_rfl) (by kernel_rfl) (by kernel_rfl) (fun _ _ _ h => h) (Or.inl ⟨by rfl, ?_⟩) hHeld ?_
  rotate_left
  · intro w' hSw
    try dsimp only at hSw
    obtain ⟨x1, x2, x3, x4⟩ := hSw
    go_simp
    try with_reducible rfl
  try simp only [Act.put, List.setIfInBounds_toArray, List.set_cons_zero, List.set_cons_succ]
  refine wpAnyH_take (i := 7) (v := ?_) rfl (by kernel_rfl) (by kernel_rfl) (by kernel_rfl) (fun _ _ _ h => h) (Or.inl ⟨by rfl, ?_⟩) hHeld ?_
  rotate_left
  · intro w' hSw
    try dsimp only at hSw
    obtain ⟨x1, x2, x3, x4⟩ := hSw
    go_simp
    try with_reducible rfl
  try simp only [Act.put, List.setIfInBounds_toArray, List.set_cons_zero, List.set_cons_succ]
  refine wpAnyH_take (i := 8) (v := ?_) rfl (by kernel_rfl) (by kernel_rfl) (by kernel_rfl) (fun _ _ _ h => h) (Or.inl ⟨by rfl, ?_⟩) hHeld ?_
  rotate_left
  · intro w' hSw
    try dsimp only at hSw
    obtain ⟨x1, x2, x3, x4⟩ := hSw
    go_simp
    try with_reducible rfl
  try simp only [Act.put, List.setIfInBounds_toArray, List.set_cons_zero, List.set_cons_succ]
  refine wpAnyH_take (i := 9) (v := ?_) rfl (by kernel_rfl) (by kernel_rfl) (by kernel_rfl) (fun _ _ _ h => h) (Or.inl ⟨by rfl, ?_⟩) hHeld ?_
  rotate_left
  · intro w' hSw
    try dsimp only at hSw
    obtain ⟨x1, x2, x3, x4⟩ := hSw
    go_simp
    try with_reducible rfl
  try simp only [Act.put, List.setIfInBounds_toArray, List.set_cons_zero, List.set_cons_succ]
  refine wpAnyH_take (i := 10) (v := ?_) rfl (by kernel_rfl) (by kernel_rfl) (by kernel_rfl) (fun _ _ _ h => h) (Or.inl ⟨by rfl, ?_⟩) hHeld ?_
  rotate_left
  · intro w' hSw
    try dsimp only at hSw
    obtain ⟨x1, x2, x3, x4⟩ := hSw
    go_simp
    try with_reducible rfl
  try simp only [Act.put, List.setIfInBounds_toArray, List.set_cons_zero, List.set_cons_succ]
  refine wpAnyH_take (i := 12) (v := ?_) rfl (by kernel_rfl) (by kernel_rfl) (by kernel_rfl) (fun _ _ _ h => h) (Or.inl ⟨by rfl, ?_⟩) hHeld ?_
  rotate_left
  · intro w' hSw
    try dsimp only at hSw
    obtain ⟨x1, x2, x3, x4⟩ := hSw
    go_simp
    try with_reducible rfl
  try simp only [Act.put, List.setIfInBounds_toArray, List.set_cons_zero, List.set_cons_succ]
  refine wpAnyH_take (i := 13) (v := ?_) rfl (by kernel_rfl) (by kernel_rfl) (by kernel_rfl) (fun _ _ _ h => h) (Or.inl ⟨by rfl, ?_⟩) hHeld ?_
  rotate_left
  · intro w' hSw
    try dsimp only at hSw
    obtain ⟨x1, x2, x3, x4⟩ := hSw
    go_simp
    try with_reducible rfl
  try simp only [Act.put, List.setIfInBounds_toArray, List.set_cons_zero, List.set_cons_succ]
  refine wpAnyH_take (i := 14) (v := ?_) rfl (by kernel_rfl) (by kernel_rfl) (by kernel_rfl) (fun _ _ _ h => h) (Or.inl ⟨by rfl, ?_⟩) hHeld ?_
  rotate_left
  · intro w' hSw
    try dsimp only at hSw
    obtain ⟨x1, x2, x3, x4⟩ := hSw
    go_simp
    try with_reducible rfl
  try simp only [Act.put, List.setIfInBounds_toArray, List.set_cons_zero, List.set_cons_succ]
  refine wpAnyH_ready (rs := [11, 15]) (by kernel_rfl) (by simp) ?_
  refine AllReadyH.cons rfl (fun K hK => ?_) ?_
  · go_simp
    refine sp_rows _ _ (fun t => ?_)
    refine hK.out _ _ SB.out (fun hHeld => ?_)
    clear hK K
    try simp only [Act.put, List.setIfInBounds_toArray, List.set_cons_zero, List.set_cons_succ]
    refine wpAnyH_ready (rs := [15]) (by kernel_rfl) (by simp) ?_
    refine AllReadyH.cons rfl (fun K hK => ?_) ?_
    · go_simp
      refine hK.out _ _ SB.out (fun hHeld => ?_)
      clear hK K
      try simp only [Act.put, List.setIfInBounds_toArray, List.set_cons_zero, List.set_cons_succ]
      refine wpAnyH_take (i := 16) (v := ?_) rfl (by kernel_rfl) (by kernel_rfl) (by kernel_rfl) (fun _ _ _ h => h) (Or.inl ⟨by rfl, ?_⟩) hHeld ?_
      rotate_left
      · intro w' hSw
        try dsimp only at hSw
        obtain ⟨x1, x2, x3, x4⟩ := hSw
        go_simp
        try with_reducible rfl
      try simp only [Act.put, List.setIfInBounds_toArray, List.set_cons_zero, List.set_cons_succ]
      refine wpAnyH_take (i := 17) (v := ?_) rfl (by kernel_rfl) (by kernel_rfl) (by kernel_rfl) (fun _ _ _ h => h) (Or.inl ⟨by rfl, ?_⟩) hHeld ?_
      rotate_left
      · intro w' hSw
        try dsimp only at hSw
        obtain ⟨x1, x2, x3, x4⟩ := hSw
        go_simp
        try with_reducible rfl
      try simp only [Act.put, List.setIfInBounds_toArray, List.set_cons_zero, List.set_cons_succ]
      refine wpAnyH_take (i := 18) (v := undef) rfl (by kernel_rfl) (by kernel_rfl) (by kernel_rfl) (fun _ _ _ h => h) (Or.inr ⟨by rfl, rfl⟩) hHeld ?_
      try simp only [Act.put, List.setIfInBounds_toArray, List.set_cons_zero, List.set_cons_succ]
      refine wpAnyH_take (i := 19) (v := undef) rfl (by kernel_rfl) (by kernel_rfl) (by kernel_rfl) (fun _ _ _ h => h) (Or.inr ⟨by rfl, rfl⟩) hHeld ?_
      try simp only [Act.put, List.setIfInBounds_toArray, List.set_cons_zero, List.set_cons_succ]
      refine wpAnyH_take (i := 20) (v := ?_) rfl (by kernel_rfl) (by kernel_rfl) (by kernel_rfl) (fun _ _ _ h => h) (Or.inl ⟨by rfl, ?_⟩) hHeld ?_
      rotate_left
      · intro w' hSw
        try dsimp only at hSw
        obtain ⟨x1, x2, x3, x4⟩ := hSw
        go_simp
        try with_reducible rfl
      try simp only [Act.put, List.setIfInBounds_toArray, List.set_cons_zero, List.set_cons_succ]
      refine wpAnyH_take (i := 21) (v := ?_) rfl (by kernel_rfl) (by kernel_rfl) (by kernel_rfl) (fun _ _ _ h => h) (Or.inl ⟨by rfl, ?_⟩) hHeld ?_
      rotate_left
      · intro w' hSw
        try dsimp only at hSw
        obtain ⟨x1, x2, x3, x4⟩ := hSw
        go_simp
        try with_reducible rfl
      try simp only [Act.put, List.setIfInBounds_toArray, List.set_cons_zero, List.set_cons_succ]
      refine wpAnyH_take (i := 22) (v := ?_) rfl (by kernel_rfl) (by kernel_rfl) (by kernel_rfl) (fun _ _ _ h => h) (Or.inl ⟨by rfl, ?_⟩) hHeld ?_
      rotate_left
      · intro w' hSw
        try dsimp only at hSw
        obtain ⟨x1, x2, x3, x4⟩ := hSw
        go_simp
        try with_reducible rfl
      try simp only [Act.put, List.setIfInBounds_toArray, List.set_cons_zero, List.set_cons_succ]
      refine wpAnyH_ready (rs := [23]) (by kernel_rfl) (by simp) ?_
      refine AllReadyH.cons rfl (fun K hK => ?_) ?_
      · go_simp
        go_at_call 79
        refine (errPass_any b n k a _ bsp r wd 0 _ (A.out _).1 (A.out _).2.1 (A.out _).2.2.1 (A.out _).2.2.2.1 (A.out _).2.2.2.2.1 (A.out _).2.2.2.2.2.1 (A.out _).2.2.2.2.2.2 hn).mono ?_
        rintro e w1 ⟨rfl, rfl⟩
        refine hK.out _ _ (SA.out _) (fun hHeld => ?_)
        clear hK K
        refine wpAnyH_done (by kernel_rfl) ?_ _
        go_wp2
        go_end0
        exact ⟨rfl, HD.out _ _⟩
      exact AllReadyH.nil
    exact AllReadyH.nil
  refine AllReadyH.cons rfl (fun K hK => ?_) ?_
  · go_simp
    refine hK.out _ _ SB.out (fun hHeld => ?_)
    clear hK K
    try simp only [Act.put, List.setIfInBounds_toArray, List.set_cons_zero, List.set_cons_succ]
    refine wpAnyH_take (i := 16) (v := ?_) rfl (by kernel_rfl) (by kernel_rfl) (by kernel_rfl) (fun _ _ _ h => h) (Or.inl ⟨by rfl, ?_⟩) hHeld ?_
    rotate_left
    · intro w' hSw
      try dsimp only at hSw
      obtain ⟨x1, x2, x3, x4⟩ := hSw
      go_simp
      try with_reducible rfl
    try simp only [Act.put, List.setIfInBounds_toArray, List.set_cons_zero, List.set_cons_succ]
    refine wpAnyH_ready (rs := [11]) (by kernel_rfl) (by simp) ?_
    refine AllReadyH.cons rfl (fun K hK => ?_) ?_
    · go_simp
      refine sp_rows _ _ (fun t => ?_)
      refine hK.out _ _ SB.out (fun hHeld => ?_)
      clear hK K
      try simp only [Act.put, List.setIfInBounds_toArray, List.set_cons_zero, List.set_cons_succ]
      refine wpAnyH_take (i := 17) (v := ?_) rfl (by kernel_rfl) (by kernel_rfl) (by kernel_rfl) (fun _ _ _ h => h) (Or.inl ⟨by rfl, ?_⟩) hHeld ?_
      rotate_left
      · intro w' hSw
        try dsimp only at hSw
        obtain ⟨x1, x2, x3, x4⟩ := hSw
        go_simp
        try with_reducible rfl
      try simp only [Act.put, List.setIfInBounds_toArray, List.set_cons_zero, List.set_cons_succ]
      refine wpAnyH_take (i := 18) (v := undef) rfl (by kernel_rfl) (by kernel_rfl) (by kernel_rfl) (fun _ _ _ h => h) (Or.inr ⟨by rfl, rfl⟩) hHeld ?_
      try simp only [Act.put, List.setIfInBounds_toArray, List.set_cons_zero, List.set_cons_succ]
      refine wpAnyH_take (i := 19) (v := undef) rfl (by kernel_rfl) (by kernel_rfl) (by kernel_rfl) (fun _ _ _ h => h) (Or.inr ⟨by rfl, rfl⟩) hHeld ?_
      try simp only [Act.put, List.setIfInBounds_toArray, List.set_cons_zero, List.set_cons_succ]
      refine wpAnyH_take (i := 20) (v := ?_) rfl (by kernel_rfl) (by kernel_rfl) (by kernel_rfl) (fun _ _ _ h => h) (Or.inl ⟨by rfl, ?_⟩) hHeld ?_
      rotate_left
      · intro w' hSw
        try dsimp only at hSw
        obtain ⟨x1, x2, x3, x4⟩ := hSw
        go_simp
        try with_reducible rfl
      try simp only [Act.put, List.setIfInBounds_toArray, List.set_cons_zero, List.set_cons_succ]
      refine wpAnyH_take (i := 21) (v := ?_) rfl (by kernel_rfl) (by kernel_rfl) (by kernel_rfl) (fun _ _ _ h => h) (Or.inl ⟨by rfl, ?_⟩) hHeld ?_
      rotate_left
      · intro w' hSw
        try dsimp only at hSw
        obtain ⟨x1, x2, x3, x4⟩ := hSw
        go_simp
        try with_reducible rfl
      try simp only [Act.put, List.setIfInBounds_toArray, List.set_cons_zero, List.set_cons_succ]
      refine wpAnyH_take (i := 22) (v := ?_) rfl (by kernel_rfl) (by kernel_rfl) (by kernel_rfl) (fun _ _ _ h => h) (Or.inl ⟨by rfl, ?_⟩) hHeld ?_
      rotate_left
      · intro w' hSw
        try dsimp only at hSw
        obtain ⟨x1, x2, x3, x4⟩ := hSw
        go_simp
        try with_reducible rfl
      try simp only [Act.put, List.setIfInBounds_toArray, List.set_cons_zero, List.set_cons_succ]
      refine wpAnyH_ready (rs := [23]) (by kernel_rfl) (by simp) ?_
      refine AllReadyH.cons rfl (fun K hK => ?_) ?_
      · go_simp
        go_at_call 79
        refine (errPass_any b n k a _ bsp r wd 0 _ (A.out _).1 (A.out _).2.1 (A.out _).2.2.1 (A.out _).2.2.2.1 (A.out _).2.2.2.2.1 (A.out _).2.2.2.2.2.1 (A.out _).2.2.2.2.2.2 hn).mono ?_
        rintro e w1 ⟨rfl, rfl⟩
        refine hK.out _ _ (SA.out _) (fun hHeld => ?_)
        clear hK K
        refine wpAnyH_done (by kernel_rfl) ?_ _
        go_wp2
        go_end0
        exact ⟨rfl, HD.out _ _⟩
      exact AllReadyH.nil
    exact AllReadyH.nil
  exact AllReadyH.nil
end Go.Proofs.YtgcjaijakbejjaaFmt

/- What the lexer's rune does at an ASCII byte that is no NUL, CR or backslash. Conditions: the parser's state. -/
namespace Go.Proofs.YtgcjaijakbejjaaFmt
open Go.RowKit

/-- Every cell of the state but cells 2, 3, 4, 14, 32 is handed on. -/
theorem Lx.move {B b rb sb fb m cap : Nat} {f : Nat → Int} {l : Int} {ea : Addr} {g ri : Nat} {bs : Value} {bsp r wd col offs : Int} {re : Value} {ef : Bool} {w w' : World}
    (h : Lx B b rb sb fb m cap f l ea g ri bs bsp r wd col offs re ef w) (bsp' r' wd' col' : Int)
    (hk : ∀ k, k ≠ 2 → k ≠ 3 → k ≠ 4 → k ≠ 14 → k ≠ 32 → w'.cell? ⟨b, k, none⟩ = w.cell? ⟨b, k, none⟩)
    (ho : ∀ q k, q ≠ b → w'.cell? ⟨q, k, none⟩ = w.cell? ⟨q, k, none⟩) (hf : ∀ q k, w'.frozen? ⟨q, k, none⟩ = w.frozen? ⟨q, k, none⟩)
    (c2 : w'.cell? ⟨b, 2, none⟩ = some (.int .u64 bsp')) (c3 : w'.cell? ⟨b, 3, none⟩ = some (.int .i32 r')) (c4 : w'.cell? ⟨b, 4, none⟩ = some (.int .i64 wd')) (c14 : w'.cell? ⟨b, 14, none⟩ = some (.int .i64 col')) (c32 : w'.cell? ⟨b, 32, none⟩ = some (.int .i64 0)) :
    Lx B b rb sb fb m cap f l ea g ri bs bsp' r' wd' col' offs re ef w' := by
  have N := h.nums
  have n1 := N.n1; have n2 := N.n2; have n3 := N.n3; have q0 := N.b0; have q1 := N.b1
  have K : ∀ k, k ≠ 2 ∧ k ≠ 3 ∧ k ≠ 4 ∧ k ≠ 14 ∧ k ≠ 32 → w'.cell? ⟨b, k, none⟩ = w.cell? ⟨b, k, none⟩ := fun k e => hk k e.1 e.2.1 e.2.2.1 e.2.2.2.1 e.2.2.2.2
  exact ⟨N, h.gm, h.g1, (K 0 (by omega)).trans h.c0, (K 1 (by omega)).trans h.c1, c2, c3, c4, (K 5 (by omega)).trans h.c5, (K 7 (by omega)).trans h.c7, (K 8 (by omega)).trans h.c8, (K 9 (by omega)).trans h.c9, (K 10 (by omega)).trans h.c10,
    (K 12 (by omega)).trans h.c12, (K 13 (by omega)).trans h.c13, c14, (K 17 (by omega)).trans h.c17, (K 20 (by omega)).trans h.c20, (K 29 (by omega)).trans h.c29, (K 30 (by omega)).trans h.c30, (K 31 (by omega)).trans h.c31, c32, (K 2087 (by omega)).trans h.c2087,
    (ho rb 0 (Ne.symm n1)).trans h.r0, (ho rb 1 (Ne.symm n1)).trans h.r1, (ho rb 2 (Ne.symm n1)).trans h.r2, (ho fb 0 (Ne.symm n3)).trans h.f0, (ho 0 0 (by omega)).trans h.eof, h.src.cells (fun k => ho sb k (Ne.symm n2)),
    fun j hj => (K (39 + j) (by omega)).trans (h.got j hj), fun j hj => by rw [K (39 + j) (by omega)]; exact h.buf j hj, fun k => (hf b k).trans (h.free k), fun k => (hf rb k).trans (h.freeR k)⟩

/-- A store to one cell of the parser: what it leaves, cell by cell. -/
structure Chg (B b : Nat) (S : Nat → Prop) (w w' : World) : Prop where
  below : Below B w w'
  cell : ∀ k, ¬ S k → w'.cell? ⟨b, k, none⟩ = w.cell? ⟨b, k, none⟩
  others : ∀ q k, q ≠ b → w'.cell? ⟨q, k, none⟩ = w.cell? ⟨q, k, none⟩
  frozen : ∀ q k, w'.frozen? ⟨q, k, none⟩ = w.frozen? ⟨q, k, none⟩
theorem Chg.refl (B b : Nat) (S : Nat → Prop) (w : World) : Chg B b S w w := ⟨Below.refl B w, fun _ _ => rfl, fun _ _ _ => rfl, fun _ _ => rfl⟩
theorem Chg.set {B b : Nat} {S : Nat → Prop} {w w' : World} (h : Chg B b S w w') (hB : B ≤ b) (k : Nat) (hS : S k) (v : Value) : Chg B b S w (w'.setCell ⟨b, k, none⟩ v) :=
  ⟨h.below.setCell (p := ⟨b, k, none⟩) hB v, fun j hj => (cs_ne _ _ _ _ _ (fun (e : k = j) => hj (e ▸ hS))).trans (h.cell j hj), fun q j hq => (cs_nb _ _ _ _ _ _ hq).trans (h.others q j hq), fun q j => (World.frozen?_setCell _ _ _ _).trans (h.frozen q j)⟩
theorem Chg.drewN {B b : Nat} {S : Nat → Prop} {w w' : World} (h : Chg B b S w w') (n : Nat) : Chg B b S w (w'.drewN n) := ⟨below_drewN n h.below, h.cell, h.others, h.frozen⟩

def MoveS (k : Nat) : Prop := k = 2 ∨ k = 3 ∨ k = 4 ∨ k = 14 ∨ k = 32

theorem Lx.chg {B b rb sb fb m cap : Nat} {f : Nat → Int} {l : Int} {ea : Addr} {g ri : Nat} {bs : Value} {bsp r wd col offs : Int} {re : Value} {ef : Bool} {w w' : World}
    (h : Lx B b rb sb fb m cap f l ea g ri bs bsp r wd col offs re ef w) (c : Chg B b MoveS w w') (bsp' r' wd' col' : Int)
    (c2 : w'.cell? ⟨b, 2, none⟩ = some (.int .u64 bsp')) (c3 : w'.cell? ⟨b, 3, none⟩ = some (.int .i32 r')) (c4 : w'.cell? ⟨b, 4, none⟩ = some (.int .i64 wd')) (c14 : w'.cell? ⟨b, 14, none⟩ = some (.int .i64 col')) (c32 : w'.cell? ⟨b, 32, none⟩ = some (.int .i64 0)) :
    Lx B b rb sb fb m cap f l ea g ri bs bsp' r' wd' col' offs re ef w' :=
  h.move bsp' r' wd' col' (fun k h2 h3 h4 h14 h32 => c.cell k (fun e => by rcases e with e | e | e | e | e <;> contradiction)) c.others c.frozen c2 c3 c4 c14 c32

theorem ascii_end0 {B b rb sb fb m cap : Nat} {f : Nat → Int} {l : Int} {ea : Addr} {g ri : Nat} {bs : Value} {p r wd col offs x : Int} {re : Value} {ef : Bool} {w : World}
    (h : Lx B b rb sb fb m cap f l ea g ri bs p r wd col offs re ef w) (hx : x = 1 + p) (N : Nat) (c : Int) (p' : Nat) (hp' : p + 1 = p') :
    Below B w (((((w.setCell ⟨b, 14, none⟩ (.int .i64 x)).drewN N).setCell ⟨b, 2, none⟩ (.int .u64 (p + 1))).setCell ⟨b, 4, none⟩ (.int .i64 1)).setCell ⟨b, 3, none⟩ (.int .i32 c)) ∧
    Lx B b rb sb fb m cap f l ea g ri bs (p' : Int) c 1 (1 + p) offs re ef (((((w.setCell ⟨b, 14, none⟩ (.int .i64 x)).drewN N).setCell ⟨b, 2, none⟩ (.int .u64 (p + 1))).setCell ⟨b, 4, none⟩ (.int .i64 1)).setCell ⟨b, 3, none⟩ (.int .i32 c)) := by
  subst hx
  rw [hp']
  have hB := h.nums.b1
  have C : Chg B b MoveS w (((((w.setCell ⟨b, 14, none⟩ (.int .i64 (1 + p))).drewN N).setCell ⟨b, 2, none⟩ (.int .u64 p')).setCell ⟨b, 4, none⟩ (.int .i64 1)).setCell ⟨b, 3, none⟩ (.int .i32 c)) :=
    (((((Chg.refl B b MoveS w).set hB 14 (by simp [MoveS]) _).drewN N).set hB 2 (by simp [MoveS]) _).set hB 4 (by simp [MoveS]) _).set hB 3 (by simp [MoveS]) _
  refine ⟨C.below, h.chg C _ _ _ _ ?_ ?_ ?_ ?_ ?_⟩
  · rw [cs_ne _ _ _ _ _ (by omega), cs_ne _ _ _ _ _ (by omega)]
    exact cs_eq _ _ _ _ _ ((cs_ne _ _ _ _ _ (by omega)).trans h.c2)
  · exact cs_eq _ _ _ _ _ (by rw [cs_ne _ _ _ _ _ (by omega), cs_ne _ _ _ _ _ (by omega)]; exact (cs_ne _ _ _ _ _ (by omega)).trans h.c3)
  · rw [cs_ne _ _ _ _ _ (by omega)]
    exact cs_eq _ _ _ _ _ (by rw [cs_ne _ _ _ _ _ (by omega)]; exact (cs_ne _ _ _ _ _ (by omega)).trans h.c4)
  · rw [cs_ne _ _ _ _ _ (by omega), cs_ne _ _ _ _ _ (by omega), cs_ne _ _ _ _ _ (by omega)]
    exact cs_eq _ _ _ _ _ h.c14
  · rw [cs_ne _ _ _ _ _ (by omega), cs_ne _ _ _ _ _ (by omega), cs_ne _ _ _ _ _ (by omega)]
    exact (cs_ne _ _ _ _ _ (by omega)).trans h.c32
theorem ascii_end1 {B b rb sb fb m cap : Nat} {f : Nat → Int} {l : Int} {ea : Addr} {g ri : Nat} {bs : Value} {p r wd col offs x : Int} {re : Value} {ef : Bool} {w : World}
    (h : Lx B b rb sb fb m cap f l ea g ri bs p r wd col offs re ef w) (hx : x = 1 + p) (N : Nat) (c : Int) (p' : Nat) (hp' : p + 1 = p') :
    Below B w ((((((w.setCell ⟨b, 14, none⟩ (.int .i64 x)).drewN N).setCell ⟨b, 2, none⟩ (.int .u64 (p + 1))).setCell ⟨b, 32, none⟩ (.int .i64 0)).setCell ⟨b, 4, none⟩ (.int .i64 1)).setCell ⟨b, 3, none⟩ (.int .i32 c)) ∧
    Lx B b rb sb fb m cap f l ea g ri bs (p' : Int) c 1 (1 + p) offs re ef ((((((w.setCell ⟨b, 14, none⟩ (.int .i64 x)).drewN N).setCell ⟨b, 2, none⟩ (.int .u64 (p + 1))).setCell ⟨b, 32, none⟩ (.int .i64 0)).setCell ⟨b, 4, none⟩ (.int .i64 1)).setCell ⟨b, 3, none⟩ (.int .i32 c)) := by
  subst hx
  rw [hp']
  have hB := h.nums.b1
  have C : Chg B b MoveS w ((((((w.setCell ⟨b, 14, none⟩ (.int .i64 (1 + p))).drewN N).setCell ⟨b, 2, none⟩ (.int .u64 p')).setCell ⟨b, 32, none⟩ (.int .i64 0)).setCell ⟨b, 4, none⟩ (.int .i64 1)).setCell ⟨b, 3, none⟩ (.int .i32 c)) :=
    ((((((Chg.refl B b MoveS w).set hB 14 (by simp [MoveS]) _).drewN N).set hB 2 (by simp [MoveS]) _).set hB 32 (by simp [MoveS]) _).set hB 4 (by simp [MoveS]) _).set hB 3 (by simp [MoveS]) _
  refine ⟨C.below, h.chg C _ _ _ _ ?_ ?_ ?_ ?_ ?_⟩
  · rw [cs_ne _ _ _ _ _ (by omega), cs_ne _ _ _ _ _ (by omega), cs_ne _ _ _ _ _ (by omega)]
    exact cs_eq _ _ _ _ _ ((cs_ne _ _ _ _ _ (by omega)).trans h.c2)
  · exact cs_eq _ _ _ _ _ (by rw [cs_ne _ _ _ _ _ (by omega), cs_ne _ _ _ _ _ (by omega), cs_ne _ _ _ _ _ (by omega)]; exact (cs_ne _ _ _ _ _ (by omega)).trans h.c3)
  · rw [cs_ne _ _ _ _ _ (by omega)]
    exact cs_eq _ _ _ _ _ (by rw [cs_ne _ _ _ _ _ (by omega), cs_ne _ _ _ _ _ (by omega)]; exact (cs_ne _ _ _ _ _ (by omega)).trans h.c4)
  · rw [cs_ne _ _ _ _ _ (by omega), cs_ne _ _ _ _ _ (by omega), cs_ne _ _ _ _ _ (by omega), cs_ne _ _ _ _ _ (by omega)]
    exact cs_eq _ _ _ _ _ h.c14
  · rw [cs_ne _ _ _ _ _ (by omega), cs_ne _ _ _ _ _ (by omega)]
    exact cs_eq _ _ _ _ _ (by rw [cs_ne _ _ _ _ _ (by omega)]; exact (cs_ne _ _ _ _ _ (by omega)).trans h.c32)

set_option maxHeartbeats 1000000 in
set_option maxRecDepth 100000 in
theorem rune_ascii0 {B b rb sb fb m cap : Nat} {f : Nat → Int} {l : Int} {ea : Addr} {n p : Nat} {r wd col c : Int} {w : World} (h : Lx B b rb sb fb m cap f l ea n n (.slice (some ⟨b, 39, none⟩) n 1024) p r wd col 0 .nilIface false w)
    (hp : p < n) (hr1 : (r == 10) = false) (hr2 : (r == 1114113) = false) (hcw : Hid (col + wd = 1 + p)) (hcol : 0 ≤ col) (hcol' : col ≤ 1000) (hwd : 0 ≤ wd) (hwd' : wd ≤ 1000)
    (hc : f p = c) (h0 : 0 < c) (h1 : c < 128) (h2 : (c == 13) = false) (h3 : (c == 92) = false) (h4 : (c == 96) = false) :
    Calls Tryf.prog 43 #[.pointer (some ⟨b, 0, none⟩)] w fun e w' => e = .returned (.int .i32 c) ∧ Below B w w' ∧ Lx B b rb sb fb m cap f l ea n n (.slice (some ⟨b, 39, none⟩) n 1024) ((p + 1 : Nat) : Int) c 1 (1 + p) 0 .nilIface false w' := by
  have H := Lib.hid h
  have c1 := h.c1; have c2 := h.c2; have c3 := h.c3; have c4 := h.c4; have c9 := h.c9; have c13 := h.c13; have c14 := h.c14; have c30 := h.c30; have c32 := h.c32; have c2087 := h.c2087
  have cb : w.cell? ⟨b, 39 + p, none⟩ = some (.int .u8 c) := by rw [← hc]; exact h.got p hp
  have f2 := h.free 2; have f3 := h.free 3; have f4 := h.free 4; have f14 := h.free 14; have f9 := h.free 9; have f32 := h.free 32
  have hn := h.g1
  have hp1 : (p : Int) < n := by omega
  have hp2 : decide ((n : Int) ≤ p) = false := by simp; omega
  have hp4 : decide (n ≤ p) = false := by simp; omega
  have hp3 : (n : Int) ≤ 1024 := by omega
  have h00 : (c == 0) = false := by simp; omega
  clear h hc
  go_enter Tryf.func43, Tryf.ntmps43
  go_wp2
  go_step3
  go_wp2
  go_region
  go_wp2
  go_step3
  go_wp2
  go_quiet (fail)
  go_wp2
  go_quiet (fail)
  go_wp2
  rw [Exit.noGoto_ret]
  go_ret
  exact ⟨rfl, ascii_end0 H.out hcw.out _ _ _ rfl⟩

set_option maxHeartbeats 1000000 in
set_option maxRecDepth 100000 in
theorem rune_ascii1 {B b rb sb fb m cap : Nat} {f : Nat → Int} {l : Int} {ea : Addr} {n p : Nat} {r wd col c : Int} {w : World} (h : Lx B b rb sb fb m cap f l ea n n (.slice (some ⟨b, 39, none⟩) n 1024) p r wd col 0 .nilIface false w)
    (hp : p < n) (hr1 : (r == 10) = false) (hr2 : (r == 1114113) = false) (hcw : Hid (col + wd = 1 + p)) (hcol : 0 ≤ col) (hcol' : col ≤ 1000) (hwd : 0 ≤ wd) (hwd' : wd ≤ 1000)
    (hc : f p = c) (h0 : 0 < c) (h1 : c < 128) (h2 : (c == 13) = false) (h3 : (c == 92) = false) (h4 : (c == 96) = true) :
    Calls Tryf.prog 43 #[.pointer (some ⟨b, 0, none⟩)] w fun e w' => e = .returned (.int .i32 c) ∧ Below B w w' ∧ Lx B b rb sb fb m cap f l ea n n (.slice (some ⟨b, 39, none⟩) n 1024) ((p + 1 : Nat) : Int) c 1 (1 + p) 0 .nilIface false w' := by
  have H := Lib.hid h
  have c1 := h.c1; have c2 := h.c2; have c3 := h.c3; have c4 := h.c4; have c9 := h.c9; have c13 := h.c13; have c14 := h.c14; have c30 := h.c30; have c32 := h.c32; have c2087 := h.c2087
  have cb : w.cell? ⟨b, 39 + p, none⟩ = some (.int .u8 c) := by rw [← hc]; exact h.got p hp
  have f2 := h.free 2; have f3 := h.free 3; have f4 := h.free 4; have f14 := h.free 14; have f9 := h.free 9; have f32 := h.free 32
  have hn := h.g1
  have hp1 : (p : Int) < n := by omega
  have hp2 : decide ((n : Int) ≤ p) = false := by simp; omega
  have hp4 : decide (n ≤ p) = false := by simp; omega
  have hp3 : (n : Int) ≤ 1024 := by omega
  have h00 : (c == 0) = false := by simp; omega
  clear h hc
  go_enter Tryf.func43, Tryf.ntmps43
  go_wp2
  go_step3
  go_wp2
  go_region
  go_wp2
  go_step3
  go_wp2
  go_quiet (fail)
  go_wp2
  go_quiet (fail)
  go_wp2
  rw [Exit.noGoto_ret]
  go_ret
  exact ⟨rfl, ascii_end1 H.out hcw.out _ _ _ rfl⟩
end Go.Proofs.YtgcjaijakbejjaaFmt

/- What the lexer's rune does at the input's end, and at the first call on an ASCII byte. Conditions: the parser's state. -/
namespace Go.Proofs.YtgcjaijakbejjaaFmt
open Go.RowKit

theorem col_at {B b rb sb fb m cap : Nat} {f : Nat → Int} {l : Int} {ea : Addr} {g ri : Nat} {bs : Value} {bsp r wd col offs : Int} {re : Value} {ef : Bool} {w : World}
    (h : Lx B b rb sb fb m cap f l ea g ri bs bsp r wd col offs re ef w) (x : Int) (N : Nat) :
    Below B w ((w.setCell ⟨b, 14, none⟩ (.int .i64 x)).drewN N) ∧ Lx B b rb sb fb m cap f l ea g ri bs bsp r wd x offs re ef ((w.setCell ⟨b, 14, none⟩ (.int .i64 x)).drewN N) := by
  have C : Chg B b MoveS w ((w.setCell ⟨b, 14, none⟩ (.int .i64 x)).drewN N) := ((Chg.refl B b MoveS w).set h.nums.b1 14 (by simp [MoveS]) _).drewN N
  refine ⟨C.below, h.chg C _ _ _ _ ?_ ?_ ?_ ?_ ?_⟩
  · exact (cs_ne _ _ _ _ _ (by omega)).trans h.c2
  · exact (cs_ne _ _ _ _ _ (by omega)).trans h.c3
  · exact (cs_ne _ _ _ _ _ (by omega)).trans h.c4
  · exact cs_eq _ _ _ _ _ h.c14
  · exact (cs_ne _ _ _ _ _ (by omega)).trans h.c32

theorem col_at2 {B b rb sb fb m cap : Nat} {f : Nat → Int} {l : Int} {ea : Addr} {g ri : Nat} {bs : Value} {bsp r wd col offs : Int} {re : Value} {ef : Bool} {w : World}
    (h : Lx B b rb sb fb m cap f l ea g ri bs bsp r wd col offs re ef w) (x : Int) :
    Below B w ((w.setCell ⟨b, 14, none⟩ (.int .i64 x)).drew.drew) ∧ Lx B b rb sb fb m cap f l ea g ri bs bsp r wd x offs re ef ((w.setCell ⟨b, 14, none⟩ (.int .i64 x)).drew.drew) := col_at h x 2

theorem eof_dn {B b rb sb fb m cap : Nat} {f : Nat → Int} {l : Int} {ea : Addr} {g ri : Nat} {bs : Value} {bsp r wd x offs k : Int} {re : Value} {ef : Bool} {w W w1 : World} (h0 : Below B w W) (h1 : Below B W w1)
    (h : Lx B b rb sb fb m cap f l ea g ri bs bsp r wd x offs re ef w1) (hx : x = 1 + k) :
    Below B w (((w1.setCell ⟨b, 2, none⟩ (.int .u64 1)).setCell ⟨b, 3, none⟩ (.int .i32 1114112)).setCell ⟨b, 4, none⟩ (.int .i64 1)) ∧ Dn b l 1114112 (1 + k) (((w1.setCell ⟨b, 2, none⟩ (.int .u64 1)).setCell ⟨b, 3, none⟩ (.int .i32 1114112)).setCell ⟨b, 4, none⟩ (.int .i64 1)) := by
  subst hx
  have hB := h.nums.b1
  refine ⟨(((h0.trans h1).setCell (p := ⟨b, 2, none⟩) hB _).setCell (p := ⟨b, 3, none⟩) hB _).setCell (p := ⟨b, 4, none⟩) hB _, ?_, ?_, ?_, ?_, ?_⟩
  · rw [cs_ne _ _ _ _ _ (by omega)]
    exact cs_eq _ _ _ _ _ ((cs_ne _ _ _ _ _ (by omega)).trans h.c3)
  · exact ⟨_, cs_eq _ _ _ _ _ (by rw [cs_ne _ _ _ _ _ (by omega), cs_ne _ _ _ _ _ (by omega)]; exact h.c4)⟩
  · rw [cs_ne _ _ _ _ _ (by omega), cs_ne _ _ _ _ _ (by omega), cs_ne _ _ _ _ _ (by omega)]
    exact h.c14
  · rw [cs_ne _ _ _ _ _ (by omega), cs_ne _ _ _ _ _ (by omega), cs_ne _ _ _ _ _ (by omega)]
    exact h.c20
  · intro j
    rw [World.frozen?_setCell, World.frozen?_setCell, World.frozen?_setCell]
    exact h.free j

set_option maxHeartbeats 1000000 in
set_option maxRecDepth 100000 in
theorem rune_eof {B b rb sb fb m cap : Nat} {f : Nat → Int} {l : Int} {ea : Addr} {g k k' : Nat} {a : Option Addr} {r wd col : Int} {w : World} (h : Lx B b rb sb fb m cap f l ea g m (.slice a k k') k r wd col 0 .nilIface false w)
    (hk : k < 1024) (hr1 : (r == 10) = false) (hr2 : (r == 1114113) = false) (hr : (r == 1114112) = false) (hcw : Hid (col + wd = 1 + k)) (hcol : 0 ≤ col) (hcol' : col ≤ 1000) (hwd : 0 ≤ wd) (hwd' : wd ≤ 1000) :
    Calls Tryf.prog 43 #[.pointer (some ⟨b, 0, none⟩)] w fun e w' => e = .returned (.int .i32 1114112) ∧ Below B w w' ∧ Dn b l 1114112 (1 + k) w' := by
  have H := Lib.hid h
  have c1 := h.c1; have c2 := h.c2; have c3 := h.c3; have c4 := h.c4; have c14 := h.c14
  have f14 := h.free 14
  have hk1 : decide (k ≤ k) = true := by simp
  have hk2 : (k : Int) < 1024 := by omega
  have hkw : IntKind.u64.wrap (k : Int) = k := IntWalk.u64_in _ (by omega)
  have hk3 : decide ((k : Int) ≤ k) = true := by simp
  clear h
  go_enter Tryf.func43, Tryf.ntmps43
  go_wp2
  go_step3
  go_wp2
  go_region
  go_wp2
  go_step3
  go_wp2
  first | (go_region_with (go_at_call 62; refine (fill_eof (col_at2 H.out _).2 hk hr (by omega) (by omega)).mono ?_; rintro e w1 ⟨rfl, hb1, hl1⟩)) | skip
  all_goals
    have d1 := hl1.c1; have d2 := hl1.c2; have d3 := hl1.c3; have d4 := hl1.c4
    have g2 := hl1.free 2; have g3 := hl1.free 3; have g4 := hl1.free 4
    have HL1 := Lib.hid hl1
    have HB1 := Lib.hid hb1
    clear hl1 hb1 c1 c2 c3 c4 c14 f14
    go_wp2
    rw [Exit.noGoto_ret]
    go_ret
    refine ⟨rfl, ?_⟩
    exact eof_dn (col_at2 H.out _).1 HB1.out HL1.out hcw.out
end Go.Proofs.YtgcjaijakbejjaaFmt

/- What the lexer's rune does at its first call on an ASCII byte. Conditions: the parser's state. -/
namespace Go.Proofs.YtgcjaijakbejjaaFmt
open Go.RowKit

theorem first_end0 {B b rb sb fb m cap : Nat} {f : Nat → Int} {l : Int} {ea : Addr} {g ri : Nat} {bs : Value} {bsp r wd x offs : Int} {re : Value} {ef : Bool} {w W w1 : World} (h0 : Below B w W) (h1 : Below B W w1)
    (h : Lx B b rb sb fb m cap f l ea g ri bs bsp r wd x offs re ef w1) (q : Nat) (c : Int) :
    Below B w ((((w1.drewN q).setCell ⟨b, 2, none⟩ (.int .u64 1)).setCell ⟨b, 4, none⟩ (.int .i64 1)).setCell ⟨b, 3, none⟩ (.int .i32 c)) ∧
    Lx B b rb sb fb m cap f l ea g ri bs 1 c 1 x offs re ef ((((w1.drewN q).setCell ⟨b, 2, none⟩ (.int .u64 1)).setCell ⟨b, 4, none⟩ (.int .i64 1)).setCell ⟨b, 3, none⟩ (.int .i32 c)) := by
  have hB := h.nums.b1
  have C : Chg B b MoveS w1 ((((w1.drewN q).setCell ⟨b, 2, none⟩ (.int .u64 1)).setCell ⟨b, 4, none⟩ (.int .i64 1)).setCell ⟨b, 3, none⟩ (.int .i32 c)) := ((((Chg.refl B b MoveS w1).drewN q).set hB 2 (by simp [MoveS]) _).set hB 4 (by simp [MoveS]) _).set hB 3 (by simp [MoveS]) _
  refine ⟨(h0.trans h1).trans C.below, h.chg C _ _ _ _ ?_ ?_ ?_ ?_ ?_⟩
  · rw [cs_ne _ _ _ _ _ (by omega), cs_ne _ _ _ _ _ (by omega)]
    exact cs_eq _ _ _ _ _ h.c2
  · exact cs_eq _ _ _ _ _ (by rw [cs_ne _ _ _ _ _ (by omega)]; exact (cs_ne _ _ _ _ _ (by omega)).trans h.c3)
  · rw [cs_ne _ _ _ _ _ (by omega)]
    exact cs_eq _ _ _ _ _ (by exact (cs_ne _ _ _ _ _ (by omega)).trans h.c4)
  · rw [cs_ne _ _ _ _ _ (by omega), cs_ne _ _ _ _ _ (by omega)]
    exact (cs_ne _ _ _ _ _ (by omega)).trans h.c14
  · rw [cs_ne _ _ _ _ _ (by omega), cs_ne _ _ _ _ _ (by omega)]
    exact (cs_ne _ _ _ _ _ (by omega)).trans h.c32

theorem first_end1 {B b rb sb fb m cap : Nat} {f : Nat → Int} {l : Int} {ea : Addr} {g ri : Nat} {bs : Value} {bsp r wd x offs : Int} {re : Value} {ef : Bool} {w W w1 : World} (h0 : Below B w W) (h1 : Below B W w1)
    (h : Lx B b rb sb fb m cap f l ea g ri bs bsp r wd x offs re ef w1) (q : Nat) (c : Int) :
    Below B w (((((w1.drewN q).setCell ⟨b, 2, none⟩ (.int .u64 1)).setCell ⟨b, 32, none⟩ (.int .i64 0)).setCell ⟨b, 4, none⟩ (.int .i64 1)).setCell ⟨b, 3, none⟩ (.int .i32 c)) ∧
    Lx B b rb sb fb m cap f l ea g ri bs 1 c 1 x offs re ef (((((w1.drewN q).setCell ⟨b, 2, none⟩ (.int .u64 1)).setCell ⟨b, 32, none⟩ (.int .i64 0)).setCell ⟨b, 4, none⟩ (.int .i64 1)).setCell ⟨b, 3, none⟩ (.int .i32 c)) := by
  have hB := h.nums.b1
  have C : Chg B b MoveS w1 (((((w1.drewN q).setCell ⟨b, 2, none⟩ (.int .u64 1)).setCell ⟨b, 32, none⟩ (.int .i64 0)).setCell ⟨b, 4, none⟩ (.int .i64 1)).setCell ⟨b, 3, none⟩ (.int .i32 c)) := (((((Chg.refl B b MoveS w1).drewN q).set hB 2 (by simp [MoveS]) _).set hB 32 (by simp [MoveS]) _).set hB 4 (by simp [MoveS]) _).set hB 3 (by simp [MoveS]) _
  refine ⟨(h0.trans h1).trans C.below, h.chg C _ _ _ _ ?_ ?_ ?_ ?_ ?_⟩
  · rw [cs_ne _ _ _ _ _ (by omega), cs_ne _ _ _ _ _ (by omega), cs_ne _ _ _ _ _ (by omega)]
    exact cs_eq _ _ _ _ _ h.c2
  · exact cs_eq _ _ _ _ _ (by rw [cs_ne _ _ _ _ _ (by omega), cs_ne _ _ _ _ _ (by omega)]; exact (cs_ne _ _ _ _ _ (by omega)).trans h.c3)
  · rw [cs_ne _ _ _ _ _ (by omega)]
    exact cs_eq _ _ _ _ _ (by rw [cs_ne _ _ _ _ _ (by omega)]; exact (cs_ne _ _ _ _ _ (by omega)).trans h.c4)
  · rw [cs_ne _ _ _ _ _ (by omega), cs_ne _ _ _ _ _ (by omega), cs_ne _ _ _ _ _ (by omega)]
    exact (cs_ne _ _ _ _ _ (by omega)).trans h.c14
  · rw [cs_ne _ _ _ _ _ (by omega), cs_ne _ _ _ _ _ (by omega)]
    exact cs_eq _ _ _ _ _ ((cs_ne _ _ _ _ _ (by omega)).trans h.c32)

set_option maxHeartbeats 1000000 in
set_option maxRecDepth 100000 in
theorem rune_first0 {B b rb sb fb m cap : Nat} {f : Nat → Int} {l : Int} {ea : Addr} {n : Nat} {c : Int} {w : World} (h : Lx B b rb sb fb m cap f l ea 0 0 (.slice none 0 0) 0 0 0 1 0 .nilIface false w)
    (hn : Hid (n = min m 1024)) (hm : 0 < m)
    (hc : Hid (f 0 = c)) (h0 : 0 < c) (h1 : c < 128) (h2 : (c == 13) = false) (h3 : (c == 92) = false) (h4 : (c == 96) = false) :
    Calls Tryf.prog 43 #[.pointer (some ⟨b, 0, none⟩)] w fun e w' => e = .returned (.int .i32 c) ∧ Below B w w' ∧ Lx B b rb sb fb m cap f l ea n n (.slice (some ⟨b, 39, none⟩) n 1024) 1 c 1 1 0 .nilIface false w' := by
  have H := Lib.hid h
  have c1 := h.c1; have c2 := h.c2; have c3 := h.c3; have c4 := h.c4; have c14 := h.c14
  have f14 := h.free 14
  have hn0 : 0 < n := by have := hn.out; omega
  have hn1 : (0 : Int) < n := by omega
  have hn2 : ((n : Int) == 0) = false := by simp; omega
  have hn3 : (n == 0) = false := by simp; omega
  have h00 : (c == 0) = false := by simp; omega
  clear h
  go_enter Tryf.func43, Tryf.ntmps43
  go_wp2
  go_step3
  go_wp2
  go_region
  go_wp2
  go_step3
  go_wp2
  first | (go_region_with (go_at_call 62; refine (fill_first (col_at2 H.out _).2 n hn hm).mono ?_; rintro e w1 ⟨rfl, hb1, hl1⟩)) | skip
  all_goals
    have d1 := hl1.c1; have d2 := hl1.c2; have d3 := hl1.c3; have d4 := hl1.c4; have d30 := hl1.c30; have d32 := hl1.c32; have d2087 := hl1.c2087
    have cb : w1.cell? ⟨b, 39, none⟩ = some (.int .u8 c) := by rw [← hc.out]; exact hl1.got 0 hn0
    have g2 := hl1.free 2; have g3 := hl1.free 3; have g4 := hl1.free 4; have g32 := hl1.free 32
    have HL1 := Lib.hid hl1
    have HB1 := Lib.hid hb1
    clear hl1 hb1 c1 c2 c3 c4 c14 f14
    go_wp2
    go_quiet (fail)
    go_wp2
    rw [Exit.noGoto_ret]
    go_ret
    exact ⟨rfl, first_end0 (col_at2 H.out _).1 HB1.out HL1.out _ _⟩

set_option maxHeartbeats 1000000 in
set_option maxRecDepth 100000 in
theorem rune_first1 {B b rb sb fb m cap : Nat} {f : Nat → Int} {l : Int} {ea : Addr} {n : Nat} {c : Int} {w : World} (h : Lx B b rb sb fb m cap f l ea 0 0 (.slice none 0 0) 0 0 0 1 0 .nilIface false w)
    (hn : Hid (n = min m 1024)) (hm : 0 < m)
    (hc : Hid (f 0 = c)) (h0 : 0 < c) (h1 : c < 128) (h2 : (c == 13) = false) (h3 : (c == 92) = false) (h4 : (c == 96) = true) :
    Calls Tryf.prog 43 #[.pointer (some ⟨b, 0, none⟩)] w fun e w' => e = .returned (.int .i32 c) ∧ Below B w w' ∧ Lx B b rb sb fb m cap f l ea n n (.slice (some ⟨b, 39, none⟩) n 1024) 1 c 1 1 0 .nilIface false w' := by
  have H := Lib.hid h
  have c1 := h.c1; have c2 := h.c2; have c3 := h.c3; have c4 := h.c4; have c14 := h.c14
  have f14 := h.free 14
  have hn0 : 0 < n := by have := hn.out; omega
  have hn1 : (0 : Int) < n := by omega
  have hn2 : ((n : Int) == 0) = false := by simp; omega
  have hn3 : (n == 0) = false := by simp; omega
  have h00 : (c == 0) = false := by simp; omega
  clear h
  go_enter Tryf.func43, Tryf.ntmps43
  go_wp2
  go_step3
  go_wp2
  go_region
  go_wp2
  go_step3
  go_wp2
  first | (go_region_with (go_at_call 62; refine (fill_first (col_at2 H.out _).2 n hn hm).mono ?_; rintro e w1 ⟨rfl, hb1, hl1⟩)) | skip
  all_goals
    have d1 := hl1.c1; have d2 := hl1.c2; have d3 := hl1.c3; have d4 := hl1.c4; have d30 := hl1.c30; have d32 := hl1.c32; have d2087 := hl1.c2087
    have cb : w1.cell? ⟨b, 39, none⟩ = some (.int .u8 c) := by rw [← hc.out]; exact hl1.got 0 hn0
    have g2 := hl1.free 2; have g3 := hl1.free 3; have g4 := hl1.free 4; have g32 := hl1.free 32
    have HL1 := Lib.hid hl1
    have HB1 := Lib.hid hb1
    clear hl1 hb1 c1 c2 c3 c4 c14 f14
    go_wp2
    go_quiet (fail)
    go_wp2
    rw [Exit.noGoto_ret]
    go_ret
    exact ⟨rfl, first_end1 (col_at2 H.out _).1 HB1.out HL1.out _ _⟩
end Go.Proofs.YtgcjaijakbejjaaFmt
