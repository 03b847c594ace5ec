/- Proved: contracts of utf8.DecodeRune and FullRune on cells. Conditions: as each theorem says. -/
import Derived.Shelf.Spec.DecodeRune
import Derived.Test.YtgcjaijakbejjaaFmtProg
import Derived.Test.YtgcjaijakbejjaaFmtGa
import Derived.RegionTactic
import Derived.BigRegion
/-
  DERIVED: THE SHELF's CONTRACTS AT THIS DUMP, IN PLAIN WORDS (tools/lay-plain.mjs out of 'TryfShelf.lean', which tools/lay-shelf.mjs wrote): THE SAME DECLARATIONS UNDER THE SAME NAMES: 'import', 'namespace', 'open', 'def', 'theorem' AND NOTHING ELSE: no command of the shelf's: FOR A HAND-IN. Each laying: the table of numbers ('.._ren') and one theorem, a field a fact of the dump's own or the kernel's comparison; each contract: ONE APPLICATION.
-/
namespace Go.Proofs
open Go.Shelf
def Tryf.lays32_ren : Go.Shelf.Ren := ⟨fun | 32 => 66 | 49 => 78 | n => n, fun | 30 => 36 | 21 => 21 | 3 => 3 | 0 => 0 | 5 => 5 | 4 => 4 | 33 => 105 | 66 => 117 | 25 => 50 | 69 => 120 | 68 => 119 | n => n, fun | 2 => 1 | 3 => 2 | n => n⟩
theorem Tryf.lays32 : Go.Proofs.Lays7.n32 Tryf.prog Tryf.lays32_ren := {
  mixed := by kernel_rfl
  f32 := Tryf.func66.trans (congrArg some (by kernel_rfl))
  f49 := Tryf.func78.trans (congrArg some (by kernel_rfl))
  t0 := Tryf.underlying0
  a0 := Tryf.isAgg0
  z0 := Tryf.sizeOf0
  v0 := Tryf.zeroValue0
  i0 := by kernel_rfl
  t3 := Tryf.underlying3
  a3 := Tryf.isAgg3
  z3 := Tryf.sizeOf3
  v3 := Tryf.zeroValue3
  i3 := by kernel_rfl
  t4 := Tryf.underlying4
  a4 := Tryf.isAgg4
  z4 := Tryf.sizeOf4
  v4 := Tryf.zeroValue4
  i4 := by kernel_rfl
  t5 := Tryf.underlying5
  a5 := Tryf.isAgg5
  z5 := Tryf.sizeOf5
  v5 := Tryf.zeroValue5
  i5 := by kernel_rfl
  t21 := Tryf.underlying21
  a21 := Tryf.isAgg21
  z21 := Tryf.sizeOf21
  v21 := Tryf.zeroValue21
  i21 := by kernel_rfl
  t25 := Tryf.underlying50
  a25 := Tryf.isAgg50
  z25 := Tryf.sizeOf50
  v25 := Tryf.zeroValue50
  i25 := by kernel_rfl
  t30 := Tryf.underlying36
  a30 := Tryf.isAgg36
  z30 := Tryf.sizeOf36
  v30 := Tryf.zeroValue36
  i30 := by kernel_rfl
  t33 := Tryf.underlying105
  a33 := Tryf.isAgg105
  z33 := Tryf.sizeOf105
  v33 := Tryf.zeroValue105
  i33 := by kernel_rfl
  t66 := Tryf.underlying117
  a66 := Tryf.isAgg117
  z66 := Tryf.sizeOf117
  t68 := Tryf.underlying119
  a68 := Tryf.isAgg119
  z68 := Tryf.sizeOf119
  v68 := Tryf.zeroValue119
  i68 := by kernel_rfl
  t69 := Tryf.underlying120
  a69 := Tryf.isAgg120
  z69 := Tryf.sizeOf120
  v69 := Tryf.zeroValue120
  i69 := by kernel_rfl
  g2 := by kernel_rfl
  g3 := by kernel_rfl }
end Go.Proofs

/- What utf8.DecodeRune and utf8.FullRune give at this program: DecodeRune is the model's own decoding (the library's contract); FullRune is true of four bytes or more, and some bool of one to three. Conditions: the two tables of unicode/utf8 as laid; the bytes' cells. -/
namespace Go.Proofs.YtgcjaijakbejjaaFmt
open Go.RowKit

theorem decodeRune_any (s : ByteArray) (b off cap : Nat) (w : World) (hT : Lib.Utf8Tabs 1 2 w) (hp : ∀ j, j < s.size → w.cell? ⟨b, off + j, none⟩ = some (.int .u8 (s.get! j).toNat)) :
    Calls Tryf.prog 66 #[.slice (some ⟨b, off, none⟩) s.size cap] w fun e w' => e = .returned (.tuple #[.int .i32 (Lib.decodeGo s).1, .int .i64 (Lib.decodeGo s).2]) ∧ Below w.heap.size w w' :=
  Any7.utf8_DecodeRune Tryf.lays32 s b off cap w hT hp

set_option maxHeartbeats 1000000 in
set_option maxRecDepth 100000 in
theorem fullRune_long (n x0 b off cap : Nat) (w : World) (hT : Lib.Utf8Tabs 1 2 w) (hn : 4 ≤ n) (hx : x0 < 256) (h0 : w.cell? ⟨b, off, none⟩ = some (.int .u8 x0)) :
    Calls Tryf.prog 67 #[.slice (some ⟨b, off, none⟩) n cap] w fun e w' => e = .returned (.bool true) ∧ w = w' := by
  have hc0 := hT.1 x0 hx
  have hn1 : (0 : Int) < n := by omega
  have hn2 : ¬ (n : Int) = 0 := by omega
  have hn4 : (4 : Int) ≤ n := by omega
  have hn3 : (3 : Int) ≤ n := by omega
  have hn5 : (2 : Int) ≤ n := by omega
  have hn6 : (1 : Int) ≤ n := by omega
  have hx' : (x0 : Int) < 256 := by omega
  rcases Lib.firstT_cases x0 with hX | hX | hX | hX | hX | hX | hX | hX | hX
  all_goals
    rw [hX] at hc0
    clear hT hX
    go_enter Tryf.func67, Tryf.ntmps67
    go_wp2
    go_ret
    exact ⟨rfl, rfl⟩

def SomeBool (e : Ending) : Prop := ∃ t : Bool, e = .returned (.bool t)

set_option maxHeartbeats 4000000 in
set_option maxRecDepth 100000 in
theorem fullRune_one (x0 b off cap : Nat) (w : World) (hT : Lib.Utf8Tabs 1 2 w) (hx : x0 < 256) (h0 : w.cell? ⟨b, off, none⟩ = some (.int .u8 x0)) :
    Calls Tryf.prog 67 #[.slice (some ⟨b, off, none⟩) 1 cap] w fun e w' => SomeBool e ∧ Below w.heap.size w w' := by
  have hc0 := hT.1 x0 hx
  have hx' : (x0 : Int) < 256 := by omega
  have hb : b < w.heap.size := World.block_lt_of_cell? _ _ h0
  rcases Lib.firstT_cases x0 with hX | hX | hX | hX | hX | hX | hX | hX | hX
  all_goals
    rw [hX] at hc0
    have a00 := (hT.2 0 (by omega)).1
    have a01 := (hT.2 0 (by omega)).2
    have a10 := (hT.2 1 (by omega)).1
    have a11 := (hT.2 1 (by omega)).2
    have a20 := (hT.2 2 (by omega)).1
    have a21 := (hT.2 2 (by omega)).2
    have a30 := (hT.2 3 (by omega)).1
    have a31 := (hT.2 3 (by omega)).2
    have a40 := (hT.2 4 (by omega)).1
    have a41 := (hT.2 4 (by omega)).2
    simp only [Lib.accLo, Lib.accHi, Nat.reduceMul, Nat.reduceAdd, Nat.reduceEqDiff, if_true, if_false] at a00 a01 a10 a11 a20 a21 a30 a31 a40 a41
    clear hT hX
    go_enter Tryf.func67, Tryf.ntmps67
    go_wp2
    first
      | (go_ret; exact ⟨⟨_, rfl⟩, Below.refl _ _⟩)
      | (go_quiet (fail); go_wp2; all_goals (go_ret; exact ⟨⟨_, rfl⟩, by (repeat (first | exact Below.refl _ _ | refine below_drewN _ ?_ | refine Below.drew ?_ | refine Below.alloc ?_ (Nat.le_refl _) _ | refine Below.setCell ?_ (Nat.le_refl _) _))⟩))

set_option maxHeartbeats 4000000 in
set_option maxRecDepth 100000 in
theorem fullRune_two (x0 x1 b off cap : Nat) (w : World) (hT : Lib.Utf8Tabs 1 2 w) (hx : x0 < 256) (h0 : w.cell? ⟨b, off, none⟩ = some (.int .u8 x0)) (h1 : w.cell? ⟨b, off + 1, none⟩ = some (.int .u8 x1)) :
    Calls Tryf.prog 67 #[.slice (some ⟨b, off, none⟩) 2 cap] w fun e w' => SomeBool e ∧ Below w.heap.size w w' := by
  have hc0 := hT.1 x0 hx
  have hx' : (x0 : Int) < 256 := by omega
  have hb : b < w.heap.size := World.block_lt_of_cell? _ _ h0
  rcases Lib.firstT_cases x0 with hX | hX | hX | hX | hX | hX | hX | hX | hX
  · rw [hX] at hc0
    clear hT hX
    go_enter Tryf.func67, Tryf.ntmps67
    go_wp2
    go_ret
    exact ⟨⟨_, rfl⟩, Below.refl _ _⟩
  · rw [hX] at hc0
    clear hT hX
    go_enter Tryf.func67, Tryf.ntmps67
    go_wp2
    go_ret
    exact ⟨⟨_, rfl⟩, Below.refl _ _⟩
  · rw [hX] at hc0
    have a0 : w.cell? ⟨2, 0, none⟩ = some (.int .u8 128) := (hT.2 0 (by omega)).1
    have a1 : w.cell? ⟨2, 1, none⟩ = some (.int .u8 191) := (hT.2 0 (by omega)).2
    clear hT hX
    by_cases g1 : x1 < 128
    · have e1 : decide ((x1 : Int) < 128) = true := by simp <;> omega
      go_enter Tryf.func67, Tryf.ntmps67
      go_wp2
      first
        | (go_ret; exact ⟨⟨_, rfl⟩, Below.refl _ _⟩)
        | (go_quiet (fail); go_wp2; first | (go_ret; exact ⟨⟨_, rfl⟩, by (repeat (first | exact Below.refl _ _ | refine below_drewN _ ?_ | refine Below.drew ?_ | refine Below.alloc ?_ (Nat.le_refl _) _ | refine Below.setCell ?_ (Nat.le_refl _) _))⟩) | (go_quiet (fail); go_wp2; go_ret; exact ⟨⟨_, rfl⟩, by (repeat (first | exact Below.refl _ _ | refine below_drewN _ ?_ | refine Below.drew ?_ | refine Below.alloc ?_ (Nat.le_refl _) _ | refine Below.setCell ?_ (Nat.le_refl _) _))⟩))
    · have e1 : decide ((x1 : Int) < 128) = false := by simp <;> omega
      by_cases g2 : 191 < x1
      · have e2 : decide ((191 : Int) < x1) = true := by simp <;> omega
        go_enter Tryf.func67, Tryf.ntmps67
        go_wp2
        first
          | (go_ret; exact ⟨⟨_, rfl⟩, Below.refl _ _⟩)
          | (go_quiet (fail); go_wp2; first | (go_ret; exact ⟨⟨_, rfl⟩, by (repeat (first | exact Below.refl _ _ | refine below_drewN _ ?_ | refine Below.drew ?_ | refine Below.alloc ?_ (Nat.le_refl _) _ | refine Below.setCell ?_ (Nat.le_refl _) _))⟩) | (go_quiet (fail); go_wp2; go_ret; exact ⟨⟨_, rfl⟩, by (repeat (first | exact Below.refl _ _ | refine below_drewN _ ?_ | refine Below.drew ?_ | refine Below.alloc ?_ (Nat.le_refl _) _ | refine Below.setCell ?_ (Nat.le_refl _) _))⟩))
      · have e2 : decide ((191 : Int) < x1) = false := by simp <;> omega
        go_enter Tryf.func67, Tryf.ntmps67
        go_wp2
        first
          | (go_ret; exact ⟨⟨_, rfl⟩, Below.refl _ _⟩)
          | (go_quiet (fail); go_wp2; first | (go_ret; exact ⟨⟨_, rfl⟩, by (repeat (first | exact Below.refl _ _ | refine below_drewN _ ?_ | refine Below.drew ?_ | refine Below.alloc ?_ (Nat.le_refl _) _ | refine Below.setCell ?_ (Nat.le_refl _) _))⟩) | (go_quiet (fail); go_wp2; go_ret; exact ⟨⟨_, rfl⟩, by (repeat (first | exact Below.refl _ _ | refine below_drewN _ ?_ | refine Below.drew ?_ | refine Below.alloc ?_ (Nat.le_refl _) _ | refine Below.setCell ?_ (Nat.le_refl _) _))⟩))
  · rw [hX] at hc0
    have a0 : w.cell? ⟨2, 2, none⟩ = some (.int .u8 160) := (hT.2 1 (by omega)).1
    have a1 : w.cell? ⟨2, 3, none⟩ = some (.int .u8 191) := (hT.2 1 (by omega)).2
    clear hT hX
    by_cases g1 : x1 < 160
    · have e1 : decide ((x1 : Int) < 160) = true := by simp <;> omega
      go_enter Tryf.func67, Tryf.ntmps67
      go_wp2
      first
        | (go_ret; exact ⟨⟨_, rfl⟩, Below.refl _ _⟩)
        | (go_quiet (fail); go_wp2; first | (go_ret; exact ⟨⟨_, rfl⟩, by (repeat (first | exact Below.refl _ _ | refine below_drewN _ ?_ | refine Below.drew ?_ | refine Below.alloc ?_ (Nat.le_refl _) _ | refine Below.setCell ?_ (Nat.le_refl _) _))⟩) | (go_quiet (fail); go_wp2; go_ret; exact ⟨⟨_, rfl⟩, by (repeat (first | exact Below.refl _ _ | refine below_drewN _ ?_ | refine Below.drew ?_ | refine Below.alloc ?_ (Nat.le_refl _) _ | refine Below.setCell ?_ (Nat.le_refl _) _))⟩))
    · have e1 : decide ((x1 : Int) < 160) = false := by simp <;> omega
      by_cases g2 : 191 < x1
      · have e2 : decide ((191 : Int) < x1) = true := by simp <;> omega
        go_enter Tryf.func67, Tryf.ntmps67
        go_wp2
        first
          | (go_ret; exact ⟨⟨_, rfl⟩, Below.refl _ _⟩)
          | (go_quiet (fail); go_wp2; first | (go_ret; exact ⟨⟨_, rfl⟩, by (repeat (first | exact Below.refl _ _ | refine below_drewN _ ?_ | refine Below.drew ?_ | refine Below.alloc ?_ (Nat.le_refl _) _ | refine Below.setCell ?_ (Nat.le_refl _) _))⟩) | (go_quiet (fail); go_wp2; go_ret; exact ⟨⟨_, rfl⟩, by (repeat (first | exact Below.refl _ _ | refine below_drewN _ ?_ | refine Below.drew ?_ | refine Below.alloc ?_ (Nat.le_refl _) _ | refine Below.setCell ?_ (Nat.le_refl _) _))⟩))
      · have e2 : decide ((191 : Int) < x1) = false := by simp <;> omega
        go_enter Tryf.func67, Tryf.ntmps67
        go_wp2
        first
          | (go_ret; exact ⟨⟨_, rfl⟩, Below.refl _ _⟩)
          | (go_quiet (fail); go_wp2; first | (go_ret; exact ⟨⟨_, rfl⟩, by (repeat (first | exact Below.refl _ _ | refine below_drewN _ ?_ | refine Below.drew ?_ | refine Below.alloc ?_ (Nat.le_refl _) _ | refine Below.setCell ?_ (Nat.le_refl _) _))⟩) | (go_quiet (fail); go_wp2; go_ret; exact ⟨⟨_, rfl⟩, by (repeat (first | exact Below.refl _ _ | refine below_drewN _ ?_ | refine Below.drew ?_ | refine Below.alloc ?_ (Nat.le_refl _) _ | refine Below.setCell ?_ (Nat.le_refl _) _))⟩))
  · rw [hX] at hc0
    have a0 : w.cell? ⟨2, 0, none⟩ = some (.int .u8 128) := (hT.2 0 (by omega)).1
    have a1 : w.cell? ⟨2, 1, none⟩ = some (.int .u8 191) := (hT.2 0 (by omega)).2
    clear hT hX
    by_cases g1 : x1 < 128
    · have e1 : decide ((x1 : Int) < 128) = true := by simp <;> omega
      go_enter Tryf.func67, Tryf.ntmps67
      go_wp2
      first
        | (go_ret; exact ⟨⟨_, rfl⟩, Below.refl _ _⟩)
        | (go_quiet (fail); go_wp2; first | (go_ret; exact ⟨⟨_, rfl⟩, by (repeat (first | exact Below.refl _ _ | refine below_drewN _ ?_ | refine Below.drew ?_ | refine Below.alloc ?_ (Nat.le_refl _) _ | refine Below.setCell ?_ (Nat.le_refl _) _))⟩) | (go_quiet (fail); go_wp2; go_ret; exact ⟨⟨_, rfl⟩, by (repeat (first | exact Below.refl _ _ | refine below_drewN _ ?_ | refine Below.drew ?_ | refine Below.alloc ?_ (Nat.le_refl _) _ | refine Below.setCell ?_ (Nat.le_refl _) _))⟩))
    · have e1 : decide ((x1 : Int) < 128) = false := by simp <;> omega
      by_cases g2 : 191 < x1
      · have e2 : decide ((191 : Int) < x1) = true := by simp <;> omega
        go_enter Tryf.func67, Tryf.ntmps67
        go_wp2
        first
          | (go_ret; exact ⟨⟨_, rfl⟩, Below.refl _ _⟩)
          | (go_quiet (fail); go_wp2; first | (go_ret; exact ⟨⟨_, rfl⟩, by (repeat (first | exact Below.refl _ _ | refine below_drewN _ ?_ | refine Below.drew ?_ | refine Below.alloc ?_ (Nat.le_refl _) _ | refine Below.setCell ?_ (Nat.le_refl _) _))⟩) | (go_quiet (fail); go_wp2; go_ret; exact ⟨⟨_, rfl⟩, by (repeat (first | exact Below.refl _ _ | refine below_drewN _ ?_ | refine Below.drew ?_ | refine Below.alloc ?_ (Nat.le_refl _) _ | refine Below.setCell ?_ (Nat.le_refl _) _))⟩))
      · have e2 : decide ((191 : Int) < x1) = false := by simp <;> omega
        go_enter Tryf.func67, Tryf.ntmps67
        go_wp2
        first
          | (go_ret; exact ⟨⟨_, rfl⟩, Below.refl _ _⟩)
          | (go_quiet (fail); go_wp2; first | (go_ret; exact ⟨⟨_, rfl⟩, by (repeat (first | exact Below.refl _ _ | refine below_drewN _ ?_ | refine Below.drew ?_ | refine Below.alloc ?_ (Nat.le_refl _) _ | refine Below.setCell ?_ (Nat.le_refl _) _))⟩) | (go_quiet (fail); go_wp2; go_ret; exact ⟨⟨_, rfl⟩, by (repeat (first | exact Below.refl _ _ | refine below_drewN _ ?_ | refine Below.drew ?_ | refine Below.alloc ?_ (Nat.le_refl _) _ | refine Below.setCell ?_ (Nat.le_refl _) _))⟩))
  · rw [hX] at hc0
    have a0 : w.cell? ⟨2, 4, none⟩ = some (.int .u8 128) := (hT.2 2 (by omega)).1
    have a1 : w.cell? ⟨2, 5, none⟩ = some (.int .u8 159) := (hT.2 2 (by omega)).2
    clear hT hX
    by_cases g1 : x1 < 128
    · have e1 : decide ((x1 : Int) < 128) = true := by simp <;> omega
      go_enter Tryf.func67, Tryf.ntmps67
      go_wp2
      first
        | (go_ret; exact ⟨⟨_, rfl⟩, Below.refl _ _⟩)
        | (go_quiet (fail); go_wp2; first | (go_ret; exact ⟨⟨_, rfl⟩, by (repeat (first | exact Below.refl _ _ | refine below_drewN _ ?_ | refine Below.drew ?_ | refine Below.alloc ?_ (Nat.le_refl _) _ | refine Below.setCell ?_ (Nat.le_refl _) _))⟩) | (go_quiet (fail); go_wp2; go_ret; exact ⟨⟨_, rfl⟩, by (repeat (first | exact Below.refl _ _ | refine below_drewN _ ?_ | refine Below.drew ?_ | refine Below.alloc ?_ (Nat.le_refl _) _ | refine Below.setCell ?_ (Nat.le_refl _) _))⟩))
    · have e1 : decide ((x1 : Int) < 128) = false := by simp <;> omega
      by_cases g2 : 159 < x1
      · have e2 : decide ((159 : Int) < x1) = true := by simp <;> omega
        go_enter Tryf.func67, Tryf.ntmps67
        go_wp2
        first
          | (go_ret; exact ⟨⟨_, rfl⟩, Below.refl _ _⟩)
          | (go_quiet (fail); go_wp2; first | (go_ret; exact ⟨⟨_, rfl⟩, by (repeat (first | exact Below.refl _ _ | refine below_drewN _ ?_ | refine Below.drew ?_ | refine Below.alloc ?_ (Nat.le_refl _) _ | refine Below.setCell ?_ (Nat.le_refl _) _))⟩) | (go_quiet (fail); go_wp2; go_ret; exact ⟨⟨_, rfl⟩, by (repeat (first | exact Below.refl _ _ | refine below_drewN _ ?_ | refine Below.drew ?_ | refine Below.alloc ?_ (Nat.le_refl _) _ | refine Below.setCell ?_ (Nat.le_refl _) _))⟩))
      · have e2 : decide ((159 : Int) < x1) = false := by simp <;> omega
        go_enter Tryf.func67, Tryf.ntmps67
        go_wp2
        first
          | (go_ret; exact ⟨⟨_, rfl⟩, Below.refl _ _⟩)
          | (go_quiet (fail); go_wp2; first | (go_ret; exact ⟨⟨_, rfl⟩, by (repeat (first | exact Below.refl _ _ | refine below_drewN _ ?_ | refine Below.drew ?_ | refine Below.alloc ?_ (Nat.le_refl _) _ | refine Below.setCell ?_ (Nat.le_refl _) _))⟩) | (go_quiet (fail); go_wp2; go_ret; exact ⟨⟨_, rfl⟩, by (repeat (first | exact Below.refl _ _ | refine below_drewN _ ?_ | refine Below.drew ?_ | refine Below.alloc ?_ (Nat.le_refl _) _ | refine Below.setCell ?_ (Nat.le_refl _) _))⟩))
  · rw [hX] at hc0
    have a0 : w.cell? ⟨2, 6, none⟩ = some (.int .u8 144) := (hT.2 3 (by omega)).1
    have a1 : w.cell? ⟨2, 7, none⟩ = some (.int .u8 191) := (hT.2 3 (by omega)).2
    clear hT hX
    by_cases g1 : x1 < 144
    · have e1 : decide ((x1 : Int) < 144) = true := by simp <;> omega
      go_enter Tryf.func67, Tryf.ntmps67
      go_wp2
      first
        | (go_ret; exact ⟨⟨_, rfl⟩, Below.refl _ _⟩)
        | (go_quiet (fail); go_wp2; first | (go_ret; exact ⟨⟨_, rfl⟩, by (repeat (first | exact Below.refl _ _ | refine below_drewN _ ?_ | refine Below.drew ?_ | refine Below.alloc ?_ (Nat.le_refl _) _ | refine Below.setCell ?_ (Nat.le_refl _) _))⟩) | (go_quiet (fail); go_wp2; go_ret; exact ⟨⟨_, rfl⟩, by (repeat (first | exact Below.refl _ _ | refine below_drewN _ ?_ | refine Below.drew ?_ | refine Below.alloc ?_ (Nat.le_refl _) _ | refine Below.setCell ?_ (Nat.le_refl _) _))⟩))
    · have e1 : decide ((x1 : Int) < 144) = false := by simp <;> omega
      by_cases g2 : 191 < x1
      · have e2 : decide ((191 : Int) < x1) = true := by simp <;> omega
        go_enter Tryf.func67, Tryf.ntmps67
        go_wp2
        first
          | (go_ret; exact ⟨⟨_, rfl⟩, Below.refl _ _⟩)
          | (go_quiet (fail); go_wp2; first | (go_ret; exact ⟨⟨_, rfl⟩, by (repeat (first | exact Below.refl _ _ | refine below_drewN _ ?_ | refine Below.drew ?_ | refine Below.alloc ?_ (Nat.le_refl _) _ | refine Below.setCell ?_ (Nat.le_refl _) _))⟩) | (go_quiet (fail); go_wp2; go_ret; exact ⟨⟨_, rfl⟩, by (repeat (first | exact Below.refl _ _ | refine below_drewN _ ?_ | refine Below.drew ?_ | refine Below.alloc ?_ (Nat.le_refl _) _ | refine Below.setCell ?_ (Nat.le_refl _) _))⟩))
      · have e2 : decide ((191 : Int) < x1) = false := by simp <;> omega
        go_enter Tryf.func67, Tryf.ntmps67
        go_wp2
        first
          | (go_ret; exact ⟨⟨_, rfl⟩, Below.refl _ _⟩)
          | (go_quiet (fail); go_wp2; first | (go_ret; exact ⟨⟨_, rfl⟩, by (repeat (first | exact Below.refl _ _ | refine below_drewN _ ?_ | refine Below.drew ?_ | refine Below.alloc ?_ (Nat.le_refl _) _ | refine Below.setCell ?_ (Nat.le_refl _) _))⟩) | (go_quiet (fail); go_wp2; go_ret; exact ⟨⟨_, rfl⟩, by (repeat (first | exact Below.refl _ _ | refine below_drewN _ ?_ | refine Below.drew ?_ | refine Below.alloc ?_ (Nat.le_refl _) _ | refine Below.setCell ?_ (Nat.le_refl _) _))⟩))
  · rw [hX] at hc0
    have a0 : w.cell? ⟨2, 0, none⟩ = some (.int .u8 128) := (hT.2 0 (by omega)).1
    have a1 : w.cell? ⟨2, 1, none⟩ = some (.int .u8 191) := (hT.2 0 (by omega)).2
    clear hT hX
    by_cases g1 : x1 < 128
    · have e1 : decide ((x1 : Int) < 128) = true := by simp <;> omega
      go_enter Tryf.func67, Tryf.ntmps67
      go_wp2
      first
        | (go_ret; exact ⟨⟨_, rfl⟩, Below.refl _ _⟩)
        | (go_quiet (fail); go_wp2; first | (go_ret; exact ⟨⟨_, rfl⟩, by (repeat (first | exact Below.refl _ _ | refine below_drewN _ ?_ | refine Below.drew ?_ | refine Below.alloc ?_ (Nat.le_refl _) _ | refine Below.setCell ?_ (Nat.le_refl _) _))⟩) | (go_quiet (fail); go_wp2; go_ret; exact ⟨⟨_, rfl⟩, by (repeat (first | exact Below.refl _ _ | refine below_drewN _ ?_ | refine Below.drew ?_ | refine Below.alloc ?_ (Nat.le_refl _) _ | refine Below.setCell ?_ (Nat.le_refl _) _))⟩))
    · have e1 : decide ((x1 : Int) < 128) = false := by simp <;> omega
      by_cases g2 : 191 < x1
      · have e2 : decide ((191 : Int) < x1) = true := by simp <;> omega
        go_enter Tryf.func67, Tryf.ntmps67
        go_wp2
        first
          | (go_ret; exact ⟨⟨_, rfl⟩, Below.refl _ _⟩)
          | (go_quiet (fail); go_wp2; first | (go_ret; exact ⟨⟨_, rfl⟩, by (repeat (first | exact Below.refl _ _ | refine below_drewN _ ?_ | refine Below.drew ?_ | refine Below.alloc ?_ (Nat.le_refl _) _ | refine Below.setCell ?_ (Nat.le_refl _) _))⟩) | (go_quiet (fail); go_wp2; go_ret; exact ⟨⟨_, rfl⟩, by (repeat (first | exact Below.refl _ _ | refine below_drewN _ ?_ | refine Below.drew ?_ | refine Below.alloc ?_ (Nat.le_refl _) _ | refine Below.setCell ?_ (Nat.le_refl _) _))⟩))
      · have e2 : decide ((191 : Int) < x1) = false := by simp <;> omega
        go_enter Tryf.func67, Tryf.ntmps67
        go_wp2
        first
          | (go_ret; exact ⟨⟨_, rfl⟩, Below.refl _ _⟩)
          | (go_quiet (fail); go_wp2; first | (go_ret; exact ⟨⟨_, rfl⟩, by (repeat (first | exact Below.refl _ _ | refine below_drewN _ ?_ | refine Below.drew ?_ | refine Below.alloc ?_ (Nat.le_refl _) _ | refine Below.setCell ?_ (Nat.le_refl _) _))⟩) | (go_quiet (fail); go_wp2; go_ret; exact ⟨⟨_, rfl⟩, by (repeat (first | exact Below.refl _ _ | refine below_drewN _ ?_ | refine Below.drew ?_ | refine Below.alloc ?_ (Nat.le_refl _) _ | refine Below.setCell ?_ (Nat.le_refl _) _))⟩))
  · rw [hX] at hc0
    have a0 : w.cell? ⟨2, 8, none⟩ = some (.int .u8 128) := (hT.2 4 (by omega)).1
    have a1 : w.cell? ⟨2, 9, none⟩ = some (.int .u8 143) := (hT.2 4 (by omega)).2
    clear hT hX
    by_cases g1 : x1 < 128
    · have e1 : decide ((x1 : Int) < 128) = true := by simp <;> omega
      go_enter Tryf.func67, Tryf.ntmps67
      go_wp2
      first
        | (go_ret; exact ⟨⟨_, rfl⟩, Below.refl _ _⟩)
        | (go_quiet (fail); go_wp2; first | (go_ret; exact ⟨⟨_, rfl⟩, by (repeat (first | exact Below.refl _ _ | refine below_drewN _ ?_ | refine Below.drew ?_ | refine Below.alloc ?_ (Nat.le_refl _) _ | refine Below.setCell ?_ (Nat.le_refl _) _))⟩) | (go_quiet (fail); go_wp2; go_ret; exact ⟨⟨_, rfl⟩, by (repeat (first | exact Below.refl _ _ | refine below_drewN _ ?_ | refine Below.drew ?_ | refine Below.alloc ?_ (Nat.le_refl _) _ | refine Below.setCell ?_ (Nat.le_refl _) _))⟩))
    · have e1 : decide ((x1 : Int) < 128) = false := by simp <;> omega
      by_cases g2 : 143 < x1
      · have e2 : decide ((143 : Int) < x1) = true := by simp <;> omega
        go_enter Tryf.func67, Tryf.ntmps67
        go_wp2
        first
          | (go_ret; exact ⟨⟨_, rfl⟩, Below.refl _ _⟩)
          | (go_quiet (fail); go_wp2; first | (go_ret; exact ⟨⟨_, rfl⟩, by (repeat (first | exact Below.refl _ _ | refine below_drewN _ ?_ | refine Below.drew ?_ | refine Below.alloc ?_ (Nat.le_refl _) _ | refine Below.setCell ?_ (Nat.le_refl _) _))⟩) | (go_quiet (fail); go_wp2; go_ret; exact ⟨⟨_, rfl⟩, by (repeat (first | exact Below.refl _ _ | refine below_drewN _ ?_ | refine Below.drew ?_ | refine Below.alloc ?_ (Nat.le_refl _) _ | refine Below.setCell ?_ (Nat.le_refl _) _))⟩))
      · have e2 : decide ((143 : Int) < x1) = false := by simp <;> omega
        go_enter Tryf.func67, Tryf.ntmps67
        go_wp2
        first
          | (go_ret; exact ⟨⟨_, rfl⟩, Below.refl _ _⟩)
          | (go_quiet (fail); go_wp2; first | (go_ret; exact ⟨⟨_, rfl⟩, by (repeat (first | exact Below.refl _ _ | refine below_drewN _ ?_ | refine Below.drew ?_ | refine Below.alloc ?_ (Nat.le_refl _) _ | refine Below.setCell ?_ (Nat.le_refl _) _))⟩) | (go_quiet (fail); go_wp2; go_ret; exact ⟨⟨_, rfl⟩, by (repeat (first | exact Below.refl _ _ | refine below_drewN _ ?_ | refine Below.drew ?_ | refine Below.alloc ?_ (Nat.le_refl _) _ | refine Below.setCell ?_ (Nat.le_refl _) _))⟩))

set_option maxHeartbeats 4000000 in
set_option maxRecDepth 100000 in
theorem fullRune_three (x0 x1 x2 b off cap : Nat) (w : World) (hT : Lib.Utf8Tabs 1 2 w) (hx : x0 < 256) (h0 : w.cell? ⟨b, off, none⟩ = some (.int .u8 x0)) (h1 : w.cell? ⟨b, off + 1, none⟩ = some (.int .u8 x1)) (h2 : w.cell? ⟨b, off + 2, none⟩ = some (.int .u8 x2)) :
    Calls Tryf.prog 67 #[.slice (some ⟨b, off, none⟩) 3 cap] w fun e w' => SomeBool e ∧ Below w.heap.size w w' := by
  have hc0 := hT.1 x0 hx
  have hx' : (x0 : Int) < 256 := by omega
  have hb : b < w.heap.size := World.block_lt_of_cell? _ _ h0
  rcases Lib.firstT_cases x0 with hX | hX | hX | hX | hX | hX | hX | hX | hX
  · rw [hX] at hc0
    clear hT hX
    go_enter Tryf.func67, Tryf.ntmps67
    go_wp2
    go_ret
    exact ⟨⟨_, rfl⟩, Below.refl _ _⟩
  · rw [hX] at hc0
    clear hT hX
    go_enter Tryf.func67, Tryf.ntmps67
    go_wp2
    go_ret
    exact ⟨⟨_, rfl⟩, Below.refl _ _⟩
  · rw [hX] at hc0
    have a0 : w.cell? ⟨2, 0, none⟩ = some (.int .u8 128) := (hT.2 0 (by omega)).1
    have a1 : w.cell? ⟨2, 1, none⟩ = some (.int .u8 191) := (hT.2 0 (by omega)).2
    clear hT hX
    by_cases g1 : x1 < 128
    · have e1 : decide ((x1 : Int) < 128) = true := by simp <;> omega
      go_enter Tryf.func67, Tryf.ntmps67
      go_wp2
      first
        | (go_ret; exact ⟨⟨_, rfl⟩, Below.refl _ _⟩)
        | (go_quiet (fail); go_wp2; first | (go_ret; exact ⟨⟨_, rfl⟩, by (repeat (first | exact Below.refl _ _ | refine below_drewN _ ?_ | refine Below.drew ?_ | refine Below.alloc ?_ (Nat.le_refl _) _ | refine Below.setCell ?_ (Nat.le_refl _) _))⟩) | (go_quiet (fail); go_wp2; go_ret; exact ⟨⟨_, rfl⟩, by (repeat (first | exact Below.refl _ _ | refine below_drewN _ ?_ | refine Below.drew ?_ | refine Below.alloc ?_ (Nat.le_refl _) _ | refine Below.setCell ?_ (Nat.le_refl _) _))⟩))
    · have e1 : decide ((x1 : Int) < 128) = false := by simp <;> omega
      by_cases g2 : 191 < x1
      · have e2 : decide ((191 : Int) < x1) = true := by simp <;> omega
        go_enter Tryf.func67, Tryf.ntmps67
        go_wp2
        first
          | (go_ret; exact ⟨⟨_, rfl⟩, Below.refl _ _⟩)
          | (go_quiet (fail); go_wp2; first | (go_ret; exact ⟨⟨_, rfl⟩, by (repeat (first | exact Below.refl _ _ | refine below_drewN _ ?_ | refine Below.drew ?_ | refine Below.alloc ?_ (Nat.le_refl _) _ | refine Below.setCell ?_ (Nat.le_refl _) _))⟩) | (go_quiet (fail); go_wp2; go_ret; exact ⟨⟨_, rfl⟩, by (repeat (first | exact Below.refl _ _ | refine below_drewN _ ?_ | refine Below.drew ?_ | refine Below.alloc ?_ (Nat.le_refl _) _ | refine Below.setCell ?_ (Nat.le_refl _) _))⟩))
      · have e2 : decide ((191 : Int) < x1) = false := by simp <;> omega
        by_cases g3 : x2 < 128
        · have i1 : decide ((x2 : Int) < 128) = true := by simp <;> omega
          go_enter Tryf.func67, Tryf.ntmps67
          go_wp2
          first
            | (go_ret; exact ⟨⟨_, rfl⟩, Below.refl _ _⟩)
            | (go_quiet (fail); go_wp2; first | (go_ret; exact ⟨⟨_, rfl⟩, by (repeat (first | exact Below.refl _ _ | refine below_drewN _ ?_ | refine Below.drew ?_ | refine Below.alloc ?_ (Nat.le_refl _) _ | refine Below.setCell ?_ (Nat.le_refl _) _))⟩) | (go_quiet (fail); go_wp2; go_ret; exact ⟨⟨_, rfl⟩, by (repeat (first | exact Below.refl _ _ | refine below_drewN _ ?_ | refine Below.drew ?_ | refine Below.alloc ?_ (Nat.le_refl _) _ | refine Below.setCell ?_ (Nat.le_refl _) _))⟩))
        · have i1 : decide ((x2 : Int) < 128) = false := by simp <;> omega
          by_cases g4 : 191 < x2
          · have i2 : decide ((191 : Int) < x2) = true := by simp <;> omega
            go_enter Tryf.func67, Tryf.ntmps67
            go_wp2
            first
              | (go_ret; exact ⟨⟨_, rfl⟩, Below.refl _ _⟩)
              | (go_quiet (fail); go_wp2; first | (go_ret; exact ⟨⟨_, rfl⟩, by (repeat (first | exact Below.refl _ _ | refine below_drewN _ ?_ | refine Below.drew ?_ | refine Below.alloc ?_ (Nat.le_refl _) _ | refine Below.setCell ?_ (Nat.le_refl _) _))⟩) | (go_quiet (fail); go_wp2; go_ret; exact ⟨⟨_, rfl⟩, by (repeat (first | exact Below.refl _ _ | refine below_drewN _ ?_ | refine Below.drew ?_ | refine Below.alloc ?_ (Nat.le_refl _) _ | refine Below.setCell ?_ (Nat.le_refl _) _))⟩))
          · have i2 : decide ((191 : Int) < x2) = false := by simp <;> omega
            go_enter Tryf.func67, Tryf.ntmps67
            go_wp2
            first
              | (go_ret; exact ⟨⟨_, rfl⟩, Below.refl _ _⟩)
              | (go_quiet (fail); go_wp2; first | (go_ret; exact ⟨⟨_, rfl⟩, by (repeat (first | exact Below.refl _ _ | refine below_drewN _ ?_ | refine Below.drew ?_ | refine Below.alloc ?_ (Nat.le_refl _) _ | refine Below.setCell ?_ (Nat.le_refl _) _))⟩) | (go_quiet (fail); go_wp2; go_ret; exact ⟨⟨_, rfl⟩, by (repeat (first | exact Below.refl _ _ | refine below_drewN _ ?_ | refine Below.drew ?_ | refine Below.alloc ?_ (Nat.le_refl _) _ | refine Below.setCell ?_ (Nat.le_refl _) _))⟩))
  · rw [hX] at hc0
    have a0 : w.cell? ⟨2, 2, none⟩ = some (.int .u8 160) := (hT.2 1 (by omega)).1
    have a1 : w.cell? ⟨2, 3, none⟩ = some (.int .u8 191) := (hT.2 1 (by omega)).2
    clear hT hX
    by_cases g1 : x1 < 160
    · have e1 : decide ((x1 : Int) < 160) = true := by simp <;> omega
      go_enter Tryf.func67, Tryf.ntmps67
      go_wp2
      first
        | (go_ret; exact ⟨⟨_, rfl⟩, Below.refl _ _⟩)
        | (go_quiet (fail); go_wp2; first | (go_ret; exact ⟨⟨_, rfl⟩, by (repeat (first | exact Below.refl _ _ | refine below_drewN _ ?_ | refine Below.drew ?_ | refine Below.alloc ?_ (Nat.le_refl _) _ | refine Below.setCell ?_ (Nat.le_refl _) _))⟩) | (go_quiet (fail); go_wp2; go_ret; exact ⟨⟨_, rfl⟩, by (repeat (first | exact Below.refl _ _ | refine below_drewN _ ?_ | refine Below.drew ?_ | refine Below.alloc ?_ (Nat.le_refl _) _ | refine Below.setCell ?_ (Nat.le_refl _) _))⟩))
    · have e1 : decide ((x1 : Int) < 160) = false := by simp <;> omega
      by_cases g2 : 191 < x1
      · have e2 : decide ((191 : Int) < x1) = true := by simp <;> omega
        go_enter Tryf.func67, Tryf.ntmps67
        go_wp2
        first
          | (go_ret; exact ⟨⟨_, rfl⟩, Below.refl _ _⟩)
          | (go_quiet (fail); go_wp2; first | (go_ret; exact ⟨⟨_, rfl⟩, by (repeat (first | exact Below.refl _ _ | refine below_drewN _ ?_ | refine Below.drew ?_ | refine Below.alloc ?_ (Nat.le_refl _) _ | refine Below.setCell ?_ (Nat.le_refl _) _))⟩) | (go_quiet (fail); go_wp2; go_ret; exact ⟨⟨_, rfl⟩, by (repeat (first | exact Below.refl _ _ | refine below_drewN _ ?_ | refine Below.drew ?_ | refine Below.alloc ?_ (Nat.le_refl _) _ | refine Below.setCell ?_ (Nat.le_refl _) _))⟩))
      · have e2 : decide ((191 : Int) < x1) = false := by simp <;> omega
        by_cases g3 : x2 < 128
        · have i1 : decide ((x2 : Int) < 128) = true := by simp <;> omega
          go_enter Tryf.func67, Tryf.ntmps67
          go_wp2
          first
            | (go_ret; exact ⟨⟨_, rfl⟩, Below.refl _ _⟩)
            | (go_quiet (fail); go_wp2; first | (go_ret; exact ⟨⟨_, rfl⟩, by (repeat (first | exact Below.refl _ _ | refine below_drewN _ ?_ | refine Below.drew ?_ | refine Below.alloc ?_ (Nat.le_refl _) _ | refine Below.setCell ?_ (Nat.le_refl _) _))⟩) | (go_quiet (fail); go_wp2; go_ret; exact ⟨⟨_, rfl⟩, by (repeat (first | exact Below.refl _ _ | refine below_drewN _ ?_ | refine Below.drew ?_ | refine Below.alloc ?_ (Nat.le_refl _) _ | refine Below.setCell ?_ (Nat.le_refl _) _))⟩))
        · have i1 : decide ((x2 : Int) < 128) = false := by simp <;> omega
          by_cases g4 : 191 < x2
          · have i2 : decide ((191 : Int) < x2) = true := by simp <;> omega
            go_enter Tryf.func67, Tryf.ntmps67
            go_wp2
            first
              | (go_ret; exact ⟨⟨_, rfl⟩, Below.refl _ _⟩)
              | (go_quiet (fail); go_wp2; first | (go_ret; exact ⟨⟨_, rfl⟩, by (repeat (first | exact Below.refl _ _ | refine below_drewN _ ?_ | refine Below.drew ?_ | refine Below.alloc ?_ (Nat.le_refl _) _ | refine Below.setCell ?_ (Nat.le_refl _) _))⟩) | (go_quiet (fail); go_wp2; go_ret; exact ⟨⟨_, rfl⟩, by (repeat (first | exact Below.refl _ _ | refine below_drewN _ ?_ | refine Below.drew ?_ | refine Below.alloc ?_ (Nat.le_refl _) _ | refine Below.setCell ?_ (Nat.le_refl _) _))⟩))
          · have i2 : decide ((191 : Int) < x2) = false := by simp <;> omega
            go_enter Tryf.func67, Tryf.ntmps67
            go_wp2
            first
              | (go_ret; exact ⟨⟨_, rfl⟩, Below.refl _ _⟩)
              | (go_quiet (fail); go_wp2; first | (go_ret; exact ⟨⟨_, rfl⟩, by (repeat (first | exact Below.refl _ _ | refine below_drewN _ ?_ | refine Below.drew ?_ | refine Below.alloc ?_ (Nat.le_refl _) _ | refine Below.setCell ?_ (Nat.le_refl _) _))⟩) | (go_quiet (fail); go_wp2; go_ret; exact ⟨⟨_, rfl⟩, by (repeat (first | exact Below.refl _ _ | refine below_drewN _ ?_ | refine Below.drew ?_ | refine Below.alloc ?_ (Nat.le_refl _) _ | refine Below.setCell ?_ (Nat.le_refl _) _))⟩))
  · rw [hX] at hc0
    have a0 : w.cell? ⟨2, 0, none⟩ = some (.int .u8 128) := (hT.2 0 (by omega)).1
    have a1 : w.cell? ⟨2, 1, none⟩ = some (.int .u8 191) := (hT.2 0 (by omega)).2
    clear hT hX
    by_cases g1 : x1 < 128
    · have e1 : decide ((x1 : Int) < 128) = true := by simp <;> omega
      go_enter Tryf.func67, Tryf.ntmps67
      go_wp2
      first
        | (go_ret; exact ⟨⟨_, rfl⟩, Below.refl _ _⟩)
        | (go_quiet (fail); go_wp2; first | (go_ret; exact ⟨⟨_, rfl⟩, by (repeat (first | exact Below.refl _ _ | refine below_drewN _ ?_ | refine Below.drew ?_ | refine Below.alloc ?_ (Nat.le_refl _) _ | refine Below.setCell ?_ (Nat.le_refl _) _))⟩) | (go_quiet (fail); go_wp2; go_ret; exact ⟨⟨_, rfl⟩, by (repeat (first | exact Below.refl _ _ | refine below_drewN _ ?_ | refine Below.drew ?_ | refine Below.alloc ?_ (Nat.le_refl _) _ | refine Below.setCell ?_ (Nat.le_refl _) _))⟩))
    · have e1 : decide ((x1 : Int) < 128) = false := by simp <;> omega
      by_cases g2 : 191 < x1
      · have e2 : decide ((191 : Int) < x1) = true := by simp <;> omega
        go_enter Tryf.func67, Tryf.ntmps67
        go_wp2
        first
          | (go_ret; exact ⟨⟨_, rfl⟩, Below.refl _ _⟩)
          | (go_quiet (fail); go_wp2; first | (go_ret; exact ⟨⟨_, rfl⟩, by (repeat (first | exact Below.refl _ _ | refine below_drewN _ ?_ | refine Below.drew ?_ | refine Below.alloc ?_ (Nat.le_refl _) _ | refine Below.setCell ?_ (Nat.le_refl _) _))⟩) | (go_quiet (fail); go_wp2; go_ret; exact ⟨⟨_, rfl⟩, by (repeat (first | exact Below.refl _ _ | refine below_drewN _ ?_ | refine Below.drew ?_ | refine Below.alloc ?_ (Nat.le_refl _) _ | refine Below.setCell ?_ (Nat.le_refl _) _))⟩))
      · have e2 : decide ((191 : Int) < x1) = false := by simp <;> omega
        by_cases g3 : x2 < 128
        · have i1 : decide ((x2 : Int) < 128) = true := by simp <;> omega
          go_enter Tryf.func67, Tryf.ntmps67
          go_wp2
          first
            | (go_ret; exact ⟨⟨_, rfl⟩, Below.refl _ _⟩)
            | (go_quiet (fail); go_wp2; first | (go_ret; exact ⟨⟨_, rfl⟩, by (repeat (first | exact Below.refl _ _ | refine below_drewN _ ?_ | refine Below.drew ?_ | refine Below.alloc ?_ (Nat.le_refl _) _ | refine Below.setCell ?_ (Nat.le_refl _) _))⟩) | (go_quiet (fail); go_wp2; go_ret; exact ⟨⟨_, rfl⟩, by (repeat (first | exact Below.refl _ _ | refine below_drewN _ ?_ | refine Below.drew ?_ | refine Below.alloc ?_ (Nat.le_refl _) _ | refine Below.setCell ?_ (Nat.le_refl _) _))⟩))
        · have i1 : decide ((x2 : Int) < 128) = false := by simp <;> omega
          by_cases g4 : 191 < x2
          · have i2 : decide ((191 : Int) < x2) = true := by simp <;> omega
            go_enter Tryf.func67, Tryf.ntmps67
            go_wp2
            first
              | (go_ret; exact ⟨⟨_, rfl⟩, Below.refl _ _⟩)
              | (go_quiet (fail); go_wp2; first | (go_ret; exact ⟨⟨_, rfl⟩, by (repeat (first | exact Below.refl _ _ | refine below_drewN _ ?_ | refine Below.drew ?_ | refine Below.alloc ?_ (Nat.le_refl _) _ | refine Below.setCell ?_ (Nat.le_refl _) _))⟩) | (go_quiet (fail); go_wp2; go_ret; exact ⟨⟨_, rfl⟩, by (repeat (first | exact Below.refl _ _ | refine below_drewN _ ?_ | refine Below.drew ?_ | refine Below.alloc ?_ (Nat.le_refl _) _ | refine Below.setCell ?_ (Nat.le_refl _) _))⟩))
          · have i2 : decide ((191 : Int) < x2) = false := by simp <;> omega
            go_enter Tryf.func67, Tryf.ntmps67
            go_wp2
            first
              | (go_ret; exact ⟨⟨_, rfl⟩, Below.refl _ _⟩)
              | (go_quiet (fail); go_wp2; first | (go_ret; exact ⟨⟨_, rfl⟩, by (repeat (first | exact Below.refl _ _ | refine below_drewN _ ?_ | refine Below.drew ?_ | refine Below.alloc ?_ (Nat.le_refl _) _ | refine Below.setCell ?_ (Nat.le_refl _) _))⟩) | (go_quiet (fail); go_wp2; go_ret; exact ⟨⟨_, rfl⟩, by (repeat (first | exact Below.refl _ _ | refine below_drewN _ ?_ | refine Below.drew ?_ | refine Below.alloc ?_ (Nat.le_refl _) _ | refine Below.setCell ?_ (Nat.le_refl _) _))⟩))
  · rw [hX] at hc0
    have a0 : w.cell? ⟨2, 4, none⟩ = some (.int .u8 128) := (hT.2 2 (by omega)).1
    have a1 : w.cell? ⟨2, 5, none⟩ = some (.int .u8 159) := (hT.2 2 (by omega)).2
    clear hT hX
    by_cases g1 : x1 < 128
    · have e1 : decide ((x1 : Int) < 128) = true := by simp <;> omega
      go_enter Tryf.func67, Tryf.ntmps67
      go_wp2
      first
        | (go_ret; exact ⟨⟨_, rfl⟩, Below.refl _ _⟩)
        | (go_quiet (fail); go_wp2; first | (go_ret; exact ⟨⟨_, rfl⟩, by (repeat (first | exact Below.refl _ _ | refine below_drewN _ ?_ | refine Below.drew ?_ | refine Below.alloc ?_ (Nat.le_refl _) _ | refine Below.setCell ?_ (Nat.le_refl _) _))⟩) | (go_quiet (fail); go_wp2; go_ret; exact ⟨⟨_, rfl⟩, by (repeat (first | exact Below.refl _ _ | refine below_drewN _ ?_ | refine Below.drew ?_ | refine Below.alloc ?_ (Nat.le_refl _) _ | refine Below.setCell ?_ (Nat.le_refl _) _))⟩))
    · have e1 : decide ((x1 : Int) < 128) = false := by simp <;> omega
      by_cases g2 : 159 < x1
      · have e2 : decide ((159 : Int) < x1) = true := by simp <;> omega
        go_enter Tryf.func67, Tryf.ntmps67
        go_wp2
        first
          | (go_ret; exact ⟨⟨_, rfl⟩, Below.refl _ _⟩)
          | (go_quiet (fail); go_wp2; first | (go_ret; exact ⟨⟨_, rfl⟩, by (repeat (first | exact Below.refl _ _ | refine below_drewN _ ?_ | refine Below.drew ?_ | refine Below.alloc ?_ (Nat.le_refl _) _ | refine Below.setCell ?_ (Nat.le_refl _) _))⟩) | (go_quiet (fail); go_wp2; go_ret; exact ⟨⟨_, rfl⟩, by (repeat (first | exact Below.refl _ _ | refine below_drewN _ ?_ | refine Below.drew ?_ | refine Below.alloc ?_ (Nat.le_refl _) _ | refine Below.setCell ?_ (Nat.le_refl _) _))⟩))
      · have e2 : decide ((159 : Int) < x1) = false := by simp <;> omega
        by_cases g3 : x2 < 128
        · have i1 : decide ((x2 : Int) < 128) = true := by simp <;> omega
          go_enter Tryf.func67, Tryf.ntmps67
          go_wp2
          first
            | (go_ret; exact ⟨⟨_, rfl⟩, Below.refl _ _⟩)
            | (go_quiet (fail); go_wp2; first | (go_ret; exact ⟨⟨_, rfl⟩, by (repeat (first | exact Below.refl _ _ | refine below_drewN _ ?_ | refine Below.drew ?_ | refine Below.alloc ?_ (Nat.le_refl _) _ | refine Below.setCell ?_ (Nat.le_refl _) _))⟩) | (go_quiet (fail); go_wp2; go_ret; exact ⟨⟨_, rfl⟩, by (repeat (first | exact Below.refl _ _ | refine below_drewN _ ?_ | refine Below.drew ?_ | refine Below.alloc ?_ (Nat.le_refl _) _ | refine Below.setCell ?_ (Nat.le_refl _) _))⟩))
        · have i1 : decide ((x2 : Int) < 128) = false := by simp <;> omega
          by_cases g4 : 191 < x2
          · have i2 : decide ((191 : Int) < x2) = true := by simp <;> omega
            go_enter Tryf.func67, Tryf.ntmps67
            go_wp2
            first
              | (go_ret; exact ⟨⟨_, rfl⟩, Below.refl _ _⟩)
              | (go_quiet (fail); go_wp2; first | (go_ret; exact ⟨⟨_, rfl⟩, by (repeat (first | exact Below.refl _ _ | refine below_drewN _ ?_ | refine Below.drew ?_ | refine Below.alloc ?_ (Nat.le_refl _) _ | refine Below.setCell ?_ (Nat.le_refl _) _))⟩) | (go_quiet (fail); go_wp2; go_ret; exact ⟨⟨_, rfl⟩, by (repeat (first | exact Below.refl _ _ | refine below_drewN _ ?_ | refine Below.drew ?_ | refine Below.alloc ?_ (Nat.le_refl _) _ | refine Below.setCell ?_ (Nat.le_refl _) _))⟩))
          · have i2 : decide ((191 : Int) < x2) = false := by simp <;> omega
            go_enter Tryf.func67, Tryf.ntmps67
            go_wp2
            first
              | (go_ret; exact ⟨⟨_, rfl⟩, Below.refl _ _⟩)
              | (go_quiet (fail); go_wp2; first | (go_ret; exact ⟨⟨_, rfl⟩, by (repeat (first | exact Below.refl _ _ | refine below_drewN _ ?_ | refine Below.drew ?_ | refine Below.alloc ?_ (Nat.le_refl _) _ | refine Below.setCell ?_ (Nat.le_refl _) _))⟩) | (go_quiet (fail); go_wp2; go_ret; exact ⟨⟨_, rfl⟩, by (repeat (first | exact Below.refl _ _ | refine below_drewN _ ?_ | refine Below.drew ?_ | refine Below.alloc ?_ (Nat.le_refl _) _ | refine Below.setCell ?_ (Nat.le_refl _) _))⟩))
  · rw [hX] at hc0
    have a0 : w.cell? ⟨2, 6, none⟩ = some (.int .u8 144) := (hT.2 3 (by omega)).1
    have a1 : w.cell? ⟨2, 7, none⟩ = some (.int .u8 191) := (hT.2 3 (by omega)).2
    clear hT hX
    by_cases g1 : x1 < 144
    · have e1 : decide ((x1 : Int) < 144) = true := by simp <;> omega
      go_enter Tryf.func67, Tryf.ntmps67
      go_wp2
      first
        | (go_ret; exact ⟨⟨_, rfl⟩, Below.refl _ _⟩)
        | (go_quiet (fail); go_wp2; first | (go_ret; exact ⟨⟨_, rfl⟩, by (repeat (first | exact Below.refl _ _ | refine below_drewN _ ?_ | refine Below.drew ?_ | refine Below.alloc ?_ (Nat.le_refl _) _ | refine Below.setCell ?_ (Nat.le_refl _) _))⟩) | (go_quiet (fail); go_wp2; go_ret; exact ⟨⟨_, rfl⟩, by (repeat (first | exact Below.refl _ _ | refine below_drewN _ ?_ | refine Below.drew ?_ | refine Below.alloc ?_ (Nat.le_refl _) _ | refine Below.setCell ?_ (Nat.le_refl _) _))⟩))
    · have e1 : decide ((x1 : Int) < 144) = false := by simp <;> omega
      by_cases g2 : 191 < x1
      · have e2 : decide ((191 : Int) < x1) = true := by simp <;> omega
        go_enter Tryf.func67, Tryf.ntmps67
        go_wp2
        first
          | (go_ret; exact ⟨⟨_, rfl⟩, Below.refl _ _⟩)
          | (go_quiet (fail); go_wp2; first | (go_ret; exact ⟨⟨_, rfl⟩, by (repeat (first | exact Below.refl _ _ | refine below_drewN _ ?_ | refine Below.drew ?_ | refine Below.alloc ?_ (Nat.le_refl _) _ | refine Below.setCell ?_ (Nat.le_refl _) _))⟩) | (go_quiet (fail); go_wp2; go_ret; exact ⟨⟨_, rfl⟩, by (repeat (first | exact Below.refl _ _ | refine below_drewN _ ?_ | refine Below.drew ?_ | refine Below.alloc ?_ (Nat.le_refl _) _ | refine Below.setCell ?_ (Nat.le_refl _) _))⟩))
      · have e2 : decide ((191 : Int) < x1) = false := by simp <;> omega
        by_cases g3 : x2 < 128
        · have i1 : decide ((x2 : Int) < 128) = true := by simp <;> omega
          go_enter Tryf.func67, Tryf.ntmps67
          go_wp2
          first
            | (go_ret; exact ⟨⟨_, rfl⟩, Below.refl _ _⟩)
            | (go_quiet (fail); go_wp2; first | (go_ret; exact ⟨⟨_, rfl⟩, by (repeat (first | exact Below.refl _ _ | refine below_drewN _ ?_ | refine Below.drew ?_ | refine Below.alloc ?_ (Nat.le_refl _) _ | refine Below.setCell ?_ (Nat.le_refl _) _))⟩) | (go_quiet (fail); go_wp2; go_ret; exact ⟨⟨_, rfl⟩, by (repeat (first | exact Below.refl _ _ | refine below_drewN _ ?_ | refine Below.drew ?_ | refine Below.alloc ?_ (Nat.le_refl _) _ | refine Below.setCell ?_ (Nat.le_refl _) _))⟩))
        · have i1 : decide ((x2 : Int) < 128) = false := by simp <;> omega
          by_cases g4 : 191 < x2
          · have i2 : decide ((191 : Int) < x2) = true := by simp <;> omega
            go_enter Tryf.func67, Tryf.ntmps67
            go_wp2
            first
              | (go_ret; exact ⟨⟨_, rfl⟩, Below.refl _ _⟩)
              | (go_quiet (fail); go_wp2; first | (go_ret; exact ⟨⟨_, rfl⟩, by (repeat (first | exact Below.refl _ _ | refine below_drewN _ ?_ | refine Below.drew ?_ | refine Below.alloc ?_ (Nat.le_refl _) _ | refine Below.setCell ?_ (Nat.le_refl _) _))⟩) | (go_quiet (fail); go_wp2; go_ret; exact ⟨⟨_, rfl⟩, by (repeat (first | exact Below.refl _ _ | refine below_drewN _ ?_ | refine Below.drew ?_ | refine Below.alloc ?_ (Nat.le_refl _) _ | refine Below.setCell ?_ (Nat.le_refl _) _))⟩))
          · have i2 : decide ((191 : Int) < x2) = false := by simp <;> omega
            go_enter Tryf.func67, Tryf.ntmps67
            go_wp2
            first
              | (go_ret; exact ⟨⟨_, rfl⟩, Below.refl _ _⟩)
              | (go_quiet (fail); go_wp2; first | (go_ret; exact ⟨⟨_, rfl⟩, by (repeat (first | exact Below.refl _ _ | refine below_drewN _ ?_ | refine Below.drew ?_ | refine Below.alloc ?_ (Nat.le_refl _) _ | refine Below.setCell ?_ (Nat.le_refl _) _))⟩) | (go_quiet (fail); go_wp2; go_ret; exact ⟨⟨_, rfl⟩, by (repeat (first | exact Below.refl _ _ | refine below_drewN _ ?_ | refine Below.drew ?_ | refine Below.alloc ?_ (Nat.le_refl _) _ | refine Below.setCell ?_ (Nat.le_refl _) _))⟩))
  · rw [hX] at hc0
    have a0 : w.cell? ⟨2, 0, none⟩ = some (.int .u8 128) := (hT.2 0 (by omega)).1
    have a1 : w.cell? ⟨2, 1, none⟩ = some (.int .u8 191) := (hT.2 0 (by omega)).2
    clear hT hX
    by_cases g1 : x1 < 128
    · have e1 : decide ((x1 : Int) < 128) = true := by simp <;> omega
      go_enter Tryf.func67, Tryf.ntmps67
      go_wp2
      first
        | (go_ret; exact ⟨⟨_, rfl⟩, Below.refl _ _⟩)
        | (go_quiet (fail); go_wp2; first | (go_ret; exact ⟨⟨_, rfl⟩, by (repeat (first | exact Below.refl _ _ | refine below_drewN _ ?_ | refine Below.drew ?_ | refine Below.alloc ?_ (Nat.le_refl _) _ | refine Below.setCell ?_ (Nat.le_refl _) _))⟩) | (go_quiet (fail); go_wp2; go_ret; exact ⟨⟨_, rfl⟩, by (repeat (first | exact Below.refl _ _ | refine below_drewN _ ?_ | refine Below.drew ?_ | refine Below.alloc ?_ (Nat.le_refl _) _ | refine Below.setCell ?_ (Nat.le_refl _) _))⟩))
    · have e1 : decide ((x1 : Int) < 128) = false := by simp <;> omega
      by_cases g2 : 191 < x1
      · have e2 : decide ((191 : Int) < x1) = true := by simp <;> omega
        go_enter Tryf.func67, Tryf.ntmps67
        go_wp2
        first
          | (go_ret; exact ⟨⟨_, rfl⟩, Below.refl _ _⟩)
          | (go_quiet (fail); go_wp2; first | (go_ret; exact ⟨⟨_, rfl⟩, by (repeat (first | exact Below.refl _ _ | refine below_drewN _ ?_ | refine Below.drew ?_ | refine Below.alloc ?_ (Nat.le_refl _) _ | refine Below.setCell ?_ (Nat.le_refl _) _))⟩) | (go_quiet (fail); go_wp2; go_ret; exact ⟨⟨_, rfl⟩, by (repeat (first | exact Below.refl _ _ | refine below_drewN _ ?_ | refine Below.drew ?_ | refine Below.alloc ?_ (Nat.le_refl _) _ | refine Below.setCell ?_ (Nat.le_refl _) _))⟩))
      · have e2 : decide ((191 : Int) < x1) = false := by simp <;> omega
        by_cases g3 : x2 < 128
        · have i1 : decide ((x2 : Int) < 128) = true := by simp <;> omega
          go_enter Tryf.func67, Tryf.ntmps67
          go_wp2
          first
            | (go_ret; exact ⟨⟨_, rfl⟩, Below.refl _ _⟩)
            | (go_quiet (fail); go_wp2; first | (go_ret; exact ⟨⟨_, rfl⟩, by (repeat (first | exact Below.refl _ _ | refine below_drewN _ ?_ | refine Below.drew ?_ | refine Below.alloc ?_ (Nat.le_refl _) _ | refine Below.setCell ?_ (Nat.le_refl _) _))⟩) | (go_quiet (fail); go_wp2; go_ret; exact ⟨⟨_, rfl⟩, by (repeat (first | exact Below.refl _ _ | refine below_drewN _ ?_ | refine Below.drew ?_ | refine Below.alloc ?_ (Nat.le_refl _) _ | refine Below.setCell ?_ (Nat.le_refl _) _))⟩))
        · have i1 : decide ((x2 : Int) < 128) = false := by simp <;> omega
          by_cases g4 : 191 < x2
          · have i2 : decide ((191 : Int) < x2) = true := by simp <;> omega
            go_enter Tryf.func67, Tryf.ntmps67
            go_wp2
            first
              | (go_ret; exact ⟨⟨_, rfl⟩, Below.refl _ _⟩)
              | (go_quiet (fail); go_wp2; first | (go_ret; exact ⟨⟨_, rfl⟩, by (repeat (first | exact Below.refl _ _ | refine below_drewN _ ?_ | refine Below.drew ?_ | refine Below.alloc ?_ (Nat.le_refl _) _ | refine Below.setCell ?_ (Nat.le_refl _) _))⟩) | (go_quiet (fail); go_wp2; go_ret; exact ⟨⟨_, rfl⟩, by (repeat (first | exact Below.refl _ _ | refine below_drewN _ ?_ | refine Below.drew ?_ | refine Below.alloc ?_ (Nat.le_refl _) _ | refine Below.setCell ?_ (Nat.le_refl _) _))⟩))
          · have i2 : decide ((191 : Int) < x2) = false := by simp <;> omega
            go_enter Tryf.func67, Tryf.ntmps67
            go_wp2
            first
              | (go_ret; exact ⟨⟨_, rfl⟩, Below.refl _ _⟩)
              | (go_quiet (fail); go_wp2; first | (go_ret; exact ⟨⟨_, rfl⟩, by (repeat (first | exact Below.refl _ _ | refine below_drewN _ ?_ | refine Below.drew ?_ | refine Below.alloc ?_ (Nat.le_refl _) _ | refine Below.setCell ?_ (Nat.le_refl _) _))⟩) | (go_quiet (fail); go_wp2; go_ret; exact ⟨⟨_, rfl⟩, by (repeat (first | exact Below.refl _ _ | refine below_drewN _ ?_ | refine Below.drew ?_ | refine Below.alloc ?_ (Nat.le_refl _) _ | refine Below.setCell ?_ (Nat.le_refl _) _))⟩))
  · rw [hX] at hc0
    have a0 : w.cell? ⟨2, 8, none⟩ = some (.int .u8 128) := (hT.2 4 (by omega)).1
    have a1 : w.cell? ⟨2, 9, none⟩ = some (.int .u8 143) := (hT.2 4 (by omega)).2
    clear hT hX
    by_cases g1 : x1 < 128
    · have e1 : decide ((x1 : Int) < 128) = true := by simp <;> omega
      go_enter Tryf.func67, Tryf.ntmps67
      go_wp2
      first
        | (go_ret; exact ⟨⟨_, rfl⟩, Below.refl _ _⟩)
        | (go_quiet (fail); go_wp2; first | (go_ret; exact ⟨⟨_, rfl⟩, by (repeat (first | exact Below.refl _ _ | refine below_drewN _ ?_ | refine Below.drew ?_ | refine Below.alloc ?_ (Nat.le_refl _) _ | refine Below.setCell ?_ (Nat.le_refl _) _))⟩) | (go_quiet (fail); go_wp2; go_ret; exact ⟨⟨_, rfl⟩, by (repeat (first | exact Below.refl _ _ | refine below_drewN _ ?_ | refine Below.drew ?_ | refine Below.alloc ?_ (Nat.le_refl _) _ | refine Below.setCell ?_ (Nat.le_refl _) _))⟩))
    · have e1 : decide ((x1 : Int) < 128) = false := by simp <;> omega
      by_cases g2 : 143 < x1
      · have e2 : decide ((143 : Int) < x1) = true := by simp <;> omega
        go_enter Tryf.func67, Tryf.ntmps67
        go_wp2
        first
          | (go_ret; exact ⟨⟨_, rfl⟩, Below.refl _ _⟩)
          | (go_quiet (fail); go_wp2; first | (go_ret; exact ⟨⟨_, rfl⟩, by (repeat (first | exact Below.refl _ _ | refine below_drewN _ ?_ | refine Below.drew ?_ | refine Below.alloc ?_ (Nat.le_refl _) _ | refine Below.setCell ?_ (Nat.le_refl _) _))⟩) | (go_quiet (fail); go_wp2; go_ret; exact ⟨⟨_, rfl⟩, by (repeat (first | exact Below.refl _ _ | refine below_drewN _ ?_ | refine Below.drew ?_ | refine Below.alloc ?_ (Nat.le_refl _) _ | refine Below.setCell ?_ (Nat.le_refl _) _))⟩))
      · have e2 : decide ((143 : Int) < x1) = false := by simp <;> omega
        by_cases g3 : x2 < 128
        · have i1 : decide ((x2 : Int) < 128) = true := by simp <;> omega
          go_enter Tryf.func67, Tryf.ntmps67
          go_wp2
          first
            | (go_ret; exact ⟨⟨_, rfl⟩, Below.refl _ _⟩)
            | (go_quiet (fail); go_wp2; first | (go_ret; exact ⟨⟨_, rfl⟩, by (repeat (first | exact Below.refl _ _ | refine below_drewN _ ?_ | refine Below.drew ?_ | refine Below.alloc ?_ (Nat.le_refl _) _ | refine Below.setCell ?_ (Nat.le_refl _) _))⟩) | (go_quiet (fail); go_wp2; go_ret; exact ⟨⟨_, rfl⟩, by (repeat (first | exact Below.refl _ _ | refine below_drewN _ ?_ | refine Below.drew ?_ | refine Below.alloc ?_ (Nat.le_refl _) _ | refine Below.setCell ?_ (Nat.le_refl _) _))⟩))
        · have i1 : decide ((x2 : Int) < 128) = false := by simp <;> omega
          by_cases g4 : 191 < x2
          · have i2 : decide ((191 : Int) < x2) = true := by simp <;> omega
            go_enter Tryf.func67, Tryf.ntmps67
            go_wp2
            first
              | (go_ret; exact ⟨⟨_, rfl⟩, Below.refl _ _⟩)
              | (go_quiet (fail); go_wp2; first | (go_ret; exact ⟨⟨_, rfl⟩, by (repeat (first | exact Below.refl _ _ | refine below_drewN _ ?_ | refine Below.drew ?_ | refine Below.alloc ?_ (Nat.le_refl _) _ | refine Below.setCell ?_ (Nat.le_refl _) _))⟩) | (go_quiet (fail); go_wp2; go_ret; exact ⟨⟨_, rfl⟩, by (repeat (first | exact Below.refl _ _ | refine below_drewN _ ?_ | refine Below.drew ?_ | refine Below.alloc ?_ (Nat.le_refl _) _ | refine Below.setCell ?_ (Nat.le_refl _) _))⟩))
          · have i2 : decide ((191 : Int) < x2) = false := by simp <;> omega
            go_enter Tryf.func67, Tryf.ntmps67
            go_wp2
            first
              | (go_ret; exact ⟨⟨_, rfl⟩, Below.refl _ _⟩)
              | (go_quiet (fail); go_wp2; first | (go_ret; exact ⟨⟨_, rfl⟩, by (repeat (first | exact Below.refl _ _ | refine below_drewN _ ?_ | refine Below.drew ?_ | refine Below.alloc ?_ (Nat.le_refl _) _ | refine Below.setCell ?_ (Nat.le_refl _) _))⟩) | (go_quiet (fail); go_wp2; go_ret; exact ⟨⟨_, rfl⟩, by (repeat (first | exact Below.refl _ _ | refine below_drewN _ ?_ | refine Below.drew ?_ | refine Below.alloc ?_ (Nat.le_refl _) _ | refine Below.setCell ?_ (Nat.le_refl _) _))⟩))

/-- FullRune of one to three bytes: some bool. -/
theorem fullRune_short (n x0 x1 x2 b off cap : Nat) (w : World) (hT : Lib.Utf8Tabs 1 2 w) (hn : 1 ≤ n) (hn' : n ≤ 3) (hx : x0 < 256) (h0 : w.cell? ⟨b, off, none⟩ = some (.int .u8 x0)) (h1 : 1 < n → w.cell? ⟨b, off + 1, none⟩ = some (.int .u8 x1)) (h2 : 2 < n → w.cell? ⟨b, off + 2, none⟩ = some (.int .u8 x2)) :
    Calls Tryf.prog 67 #[.slice (some ⟨b, off, none⟩) n cap] w fun e w' => SomeBool e ∧ Below w.heap.size w w' := by
  have hn0 : n = 1 ∨ n = 2 ∨ n = 3 := by omega
  rcases hn0 with rfl | rfl | rfl
  · exact fullRune_one x0 b off cap w hT hx h0
  · exact fullRune_two x0 x1 b off cap w hT hx h0 (h1 (by omega))
  · exact fullRune_three x0 x1 x2 b off cap w hT hx h0 (h1 (by omega)) (h2 (by omega))
end Go.Proofs.YtgcjaijakbejjaaFmt
