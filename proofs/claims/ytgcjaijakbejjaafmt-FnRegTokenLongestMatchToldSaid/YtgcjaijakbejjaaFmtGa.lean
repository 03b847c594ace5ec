/- Proved: contracts of bytes.Reader.Read and the parser's fill on cells. Conditions: as each theorem says. -/
import Derived.Test.YtgcjaijakbejjaaFmtProg
import Derived.WalkKit
import Derived.WalkSpells
import Derived.WalkLawsBesides
import Derived.Handy
import Derived.KernelRfl
import Derived.Deep.QuietTactic
import Derived.BigQuiet
import Derived.StillTailTactics
import Derived.Laws.IdiomCopy
import Derived.Laws.CopyOwn
import Derived.Lib.Hide
import Derived.Deep.RegionLaw
import Derived.Stop.IfaceNil
/- What (*bytes.Reader).Read does when it is called on a reader at its begin (it lays min(m, 1024) bytes into the parser's buffer) and at its end (it hands back 0 and io.EOF); small laws on 'copy' said of cells. Conditions: the cells of the reader, of the source and of the buffer. -/
namespace Go.Proofs.YtgcjaijakbejjaaFmt
open Go.RowKit

theorem wpList_copy_cells {P : Program} {w : World} {ops : Array Oper} {rest : List Oper} {o : Oper} {a : Act} {Q : Exit → Act → World → Prop} (hgd : o.guard = none) (d s : Operand) (dT sT : TypeId)
    (ho : o.op = .call { callee := .builtin .copy, args := #[d, s], argTypes := #[dT, sT] }) (elem : TypeId) (hu : P.underlying dT = some (.slice elem)) (hsz : (P.info? elem).map (·.size) = some 1)
    (b off dLen dCap : Nat) (ad : Addr) (sLen sCap : Nat) (hd : a.eval d = .slice (some ⟨b, off, none⟩) dLen dCap) (hs : a.eval s = .slice (some ad) sLen sCap)
    (cs : List Value) (hn : cs.length = Nat.min sLen dLen)
    (hsrc : ∀ j v, cs[j]? = some v → w.cell? (ad.add j) = some v) (hc : ∀ j, j < cs.length → (w.cell? ⟨b, off + j, none⟩).isSome = true) (hf : ∀ j, j < cs.length → w.frozen? ⟨b, off + j, none⟩ = false) (h1 : ∀ v ∈ cs, v.oneCell' = true)
    (h : wpList P ops Q rest (a.put o.dst (goInt cs.length)) (w.setCells b off cs)) : wpList P ops Q (o :: rest) a w := by
  refine wpList_plain hgd fun K hK => ?_
  have hrun := run_copy_cells (P := P) w dT sT o.type elem b off dLen dCap ad sLen sCap cs hu hsz hn hsrc hc hf h1
  unfold Oper.wp
  simp [execOp, ho, resolve, invoke, builtin, hd, hs, hrun, Result.andThen]
  exact hK _ _ h

theorem step_copy_cells {P : Program} {ops : Array Oper} {o : Oper} {a : Act} {w : World} {K : Act → World → Prop} {Q : Exit → Act → World → Prop} {E : Prop} (hgd : o.guard = none) (d s : Operand) (dT sT : TypeId)
    (ho : o.op = .call { callee := .builtin .copy, args := #[d, s], argTypes := #[dT, sT] }) (elem : TypeId) (hu : P.underlying dT = some (.slice elem)) (hsz : (P.info? elem).map (·.size) = some 1)
    (b off dLen dCap : Nat) (ad : Addr) (sLen sCap : Nat) (hd : a.eval d = .slice (some ⟨b, off, none⟩) dLen dCap) (hs : a.eval s = .slice (some ad) sLen sCap)
    (cs : List Value) (hn : cs.length = Nat.min sLen dLen)
    (hsrc : ∀ j v, cs[j]? = some v → w.cell? (ad.add j) = some v) (hc : ∀ j, j < cs.length → (w.cell? ⟨b, off + j, none⟩).isSome = true) (hf : ∀ j, j < cs.length → w.frozen? ⟨b, off + j, none⟩ = false) (h1 : ∀ v ∈ cs, v.oneCell' = true)
    (h : ∀ w', Hid (w' = w.setCells b off cs) → K (a.put o.dst (goInt cs.length)) w') :
    if Region.wanted o (yielded ops a.tmps) = true then Oper.wp P o a w K Q else E := by
  have hw : Region.wanted o (yielded ops a.tmps) = true := by simp [Region.wanted, hgd]
  rw [if_pos hw]
  have hrun := run_copy_cells (P := P) w dT sT o.type elem b off dLen dCap ad sLen sCap cs hu hsz hn hsrc hc hf h1
  unfold Oper.wp
  simp [execOp, ho, resolve, invoke, builtin, hd, hs, hrun, Result.andThen]
  exact h _ (show _ = _ from rfl)

/-- What (*bytes.Reader).Read leaves: n bytes laid in the buffer at cell 39 of block b; block rb's place moved on to n. -/
structure ReadPost (B b rb n : Nat) (f : Nat → Int) (i' : Int) (w w' : World) : Prop where
  below : Below B w w'
  got : ∀ j, j < n → w'.cell? ⟨b, 39 + j, none⟩ = some (.int .u8 (f j))
  buf : ∀ j, j < 1024 → (w'.cell? ⟨b, 39 + j, none⟩).isSome = true
  rest : ∀ k, k < 39 ∨ 1063 ≤ k → w'.cell? ⟨b, k, none⟩ = w.cell? ⟨b, k, none⟩
  frozen : ∀ q k, w'.frozen? ⟨q, k, none⟩ = w.frozen? ⟨q, k, none⟩
  others : ∀ q k, q ≠ b → q ≠ rb → w'.cell? ⟨q, k, none⟩ = w.cell? ⟨q, k, none⟩
  r0 : w'.cell? ⟨rb, 0, none⟩ = w.cell? ⟨rb, 0, none⟩
  r1 : w'.cell? ⟨rb, 1, none⟩ = some (.int .i64 i')
  r2 : w'.cell? ⟨rb, 2, none⟩ = some (.int .i64 (-1))
  size : w'.heap.size = w.heap.size

theorem setCells_heap_size (b : Nat) : ∀ (vs : List Value) (o : Nat) (w : World), (w.setCells b o vs).heap.size = w.heap.size
  | [], _, _ => rfl
  | v :: r, o, w => by rw [World.setCells, setCells_heap_size b r]; simp [World.setCell]

theorem below_setCells {B b : Nat} (hB : B ≤ b) {w0 : World} : ∀ (vs : List Value) (o : Nat) (w : World), Below B w0 w → Below B w0 (w.setCells b o vs)
  | [], _, _, h => h
  | v :: r, o, w, h => by rw [World.setCells]; exact below_setCells hB r _ _ (h.setCell (p := ⟨b, o, none⟩) hB v)

theorem addr_add (b o j : Nat) : (⟨b, o, none⟩ : Addr).add j = ⟨b, o + j, none⟩ := by unfold Addr.add; split <;> simp_all

def bytesOfFn (f : Nat → Int) (n : Nat) : List Value := (List.range n).map fun j => .int .u8 (f j)
theorem bytesOfFn_length (f : Nat → Int) (n : Nat) : (bytesOfFn f n).length = n := by simp [bytesOfFn]
theorem bytesOfFn_get (f : Nat → Int) (n j : Nat) (h : j < n) : (bytesOfFn f n)[j]? = some (.int .u8 (f j)) := by
  simp [bytesOfFn, h]

theorem below_drewN {B : Nat} {a w : World} (n : Nat) (h : Below B a w) : Below B a (w.drewN n) := ⟨h.os, h.tape, h.output, h.size, h.block⟩

set_option maxHeartbeats 1000000 in
theorem read_post (B b rb : Nat) (f : Nat → Int) (n q : Nat) (w w4 : World) (hB : B ≤ b) (hB' : B ≤ rb) (hn : n ≤ 1024) (hbr : b ≠ rb)
  (r1 : w.cell? ⟨rb, 1, none⟩ = some (.int .i64 0)) (r2 : w.cell? ⟨rb, 2, none⟩ = some (.int .i64 (-1)))
  (hd : ∀ j, j < 1024 → (w.cell? ⟨b, 39 + j, none⟩).isSome = true)
  (hw : w4 = (((w.drewN q).setCell ⟨rb, 2, none⟩ (.int .i64 (-1))).drew).setCells b 39 (bytesOfFn f n)) (i' : Int) :
  ReadPost B b rb n f i' w (w4.setCell ⟨rb, 1, none⟩ (.int .i64 i')) := by
  subst hw
  have hin : ∀ j, j < n → ((((w.drewN q).setCell ⟨rb, 2, none⟩ (.int .i64 (-1))).drew).setCells b 39 (bytesOfFn f n)).cell? ⟨b, 39 + j, none⟩ = some (.int .u8 (f j)) := by
    intro j hj
    have := World.cell?_setCells_in b (bytesOfFn f n) 39 (((w.drewN q).setCell ⟨rb, 2, none⟩ (.int .i64 (-1))).drew) (fun i hi => by
      rw [bytesOfFn_length] at hi
      show ((w.setCell ⟨rb, 2, none⟩ _).cell? _).isSome = true
      rw [World.cell?_setCell_other _ _ _ _ (by simp <;> omega)]
      exact hd i (by omega)) j (by rw [bytesOfFn_length]; exact hj)
    rw [this]
    have h2 := bytesOfFn_get f n j hj
    rw [List.getElem?_eq_getElem (by rw [bytesOfFn_length]; exact hj)] at h2
    exact h2
  have hout : ∀ q' k, (q' = b → k < 39 ∨ 39 + n ≤ k) → (q' = rb → k ≠ 2) → ((((w.drewN q).setCell ⟨rb, 2, none⟩ (.int .i64 (-1))).drew).setCells b 39 (bytesOfFn f n)).cell? ⟨q', k, none⟩ = w.cell? ⟨q', k, none⟩ := by
    intro q' k h1 h2
    rw [World.cell?_setCells_out b _ 39 _ _ (fun e _ => by rw [bytesOfFn_length]; exact h1 e)]
    show (w.setCell ⟨rb, 2, none⟩ _).cell? _ = _
    exact World.cell?_setCell_other _ _ _ _ (by simp <;> omega)
  have hrb2 : ((((w.drewN q).setCell ⟨rb, 2, none⟩ (.int .i64 (-1))).drew).setCells b 39 (bytesOfFn f n)).cell? ⟨rb, 2, none⟩ = some (.int .i64 (-1)) := by
    rw [World.cell?_setCells_out b _ 39 _ _ (fun e _ => absurd e (Ne.symm hbr))]
    show (w.setCell ⟨rb, 2, none⟩ _).cell? _ = _
    exact World.cell?_setCell_same _ _ _ r2
  constructor
  · exact (below_setCells hB _ _ _ ((below_drewN q (Below.refl B w)).setCell (p := ⟨rb, 2, none⟩) hB' _).drew).setCell (p := ⟨rb, 1, none⟩) hB' _
  · intro j hj
    rw [World.cell?_setCell_other _ _ _ _ (by simp <;> omega)]
    exact hin j hj
  · intro j hj
    rw [World.cell?_setCell_other _ _ _ _ (by simp <;> omega)]
    by_cases h : j < n
    · rw [hin j h]; rfl
    · rw [hout b (39 + j) (fun _ => Or.inr (by omega)) (fun e => absurd e hbr)]; exact hd j hj
  · intro k hk
    rw [World.cell?_setCell_other _ _ _ _ (by simp <;> omega)]
    exact hout b k (fun _ => by omega) (fun e => absurd e hbr)
  · intro q' k
    rw [World.frozen?_setCell, World.frozen?_setCells]
    show (w.setCell ⟨rb, 2, none⟩ _).frozen? _ = _
    rw [World.frozen?_setCell]
  · intro q' k h1 h2
    rw [World.cell?_setCell_other _ _ _ _ (by simp <;> omega)]
    exact hout q' k (fun e => absurd e h1) (fun e => absurd e h2)
  · rw [World.cell?_setCell_other _ _ _ _ (by simp)]
    exact hout rb 0 (fun e => absurd e (Ne.symm hbr)) (fun _ => by omega)
  · refine World.cell?_setCell_same _ _ _ (u := .int .i64 0) ?_
    rw [hout rb 1 (fun e => absurd e (Ne.symm hbr)) (fun _ => by omega)]
    exact r1
  · rw [World.cell?_setCell_other _ _ _ _ (by simp)]
    exact hrb2
  · simp only [World.setCell, Array.size_modify]
    rw [setCells_heap_size]
    simp [World.drewN, World.drew]

set_option maxHeartbeats 1000000 in
theorem read_some (B b rb sb : Nat) (m : Nat) (f : Nat → Int) (cap n : Nat) (w : World) (hn : Hid (n = min m 1024)) (hs : 0 < m) (hs' : m ≤ 1048576) (_hcap : m ≤ cap)
  (hB : B ≤ b) (hB' : B ≤ rb)
  (r0 : w.cell? ⟨rb, 0, none⟩ = some (.slice (some ⟨sb, 0, none⟩) m cap)) (r1 : w.cell? ⟨rb, 1, none⟩ = some (.int .i64 0)) (r2 : w.cell? ⟨rb, 2, none⟩ = some (.int .i64 (-1)))
  (f1 : w.frozen? ⟨rb, 1, none⟩ = false) (f2 : w.frozen? ⟨rb, 2, none⟩ = false) (hbr : b ≠ rb) (hsr : sb ≠ rb)
  (hsrc : ∀ j, j < m → w.cell? ⟨sb, j, none⟩ = some (.int .u8 (f j)))
  (hd : ∀ j, j < 1024 → (w.cell? ⟨b, 39 + j, none⟩).isSome = true) (hf : ∀ j, w.frozen? ⟨b, j, none⟩ = false) :
  Calls Tryf.prog 132 #[.pointer (some ⟨rb, 0, none⟩), .slice (some ⟨b, 39, none⟩) 1024 1024] w fun e w' => e = .returned (.tuple #[.int .i64 n, .nilIface]) ∧ ReadPost B b rb n f n w w' := by
  have HN : Hid (n ≤ 1024 ∧ n ≤ m) := by have := hn.out; exact ⟨by omega, by omega⟩
  have HP : Hid (∀ q w4, w4 = (((w.drewN q).setCell ⟨rb, 2, none⟩ (.int .i64 (-1))).drew).setCells b 39 (bytesOfFn f n) → ReadPost B b rb n f n w (w4.setCell ⟨rb, 1, none⟩ (.int .i64 n))) :=
    fun q w4 h => read_post B b rb f n q w w4 hB hB' HN.out.1 hbr r1 r2 hd h n
  go_enter Tryf.func132, Tryf.ntmps132
  go_wp2
  go_quiet (fail)
  go_wp2
  obtain ⟨W, hW⟩ : ∃ W, W = (w.drewN nq).setCell ⟨rb, 2, none⟩ (.int .i64 (-1)) := ⟨_, rfl⟩
  rw [← hW]
  have q0 : W.cell? ⟨rb, 0, none⟩ = some (.slice (some ⟨sb, 0, none⟩) m cap) := by rw [hW]; go_simp
  have q1 : W.cell? ⟨rb, 1, none⟩ = some (.int .i64 0) := by rw [hW]; go_simp
  have g1 : W.frozen? ⟨rb, 1, none⟩ = false := by rw [hW]; go_simp
  have HL : Hid ((bytesOfFn f n).length = Nat.min m 1024) := by rw [bytesOfFn_length, hn.out]; rfl
  have H2 : Hid (∀ j v, (bytesOfFn f n)[j]? = some v → W.cell? ((⟨sb, 0, none⟩ : Addr).add j) = some v) := by
    intro j v hv
    have hj : j < n := by
      have := (List.getElem?_eq_some_iff.1 hv).1
      rwa [bytesOfFn_length] at this
    rw [bytesOfFn_get f n j hj] at hv
    obtain rfl := Option.some.inj hv
    rw [addr_add, Nat.zero_add, hW, World.cell?_setCell_other _ _ _ _ (by simp <;> omega)]
    exact hsrc j (by have := HN.out.2; omega)
  have H3 : Hid (∀ j, j < (bytesOfFn f n).length → (W.cell? ⟨b, 39 + j, none⟩).isSome = true) := by
    intro j hj
    rw [bytesOfFn_length] at hj
    rw [hW, World.cell?_setCell_other _ _ _ _ (by simp <;> omega)]
    exact hd j (by have := HN.out.1; omega)
  have H4 : Hid (∀ j, j < (bytesOfFn f n).length → W.frozen? ⟨b, 39 + j, none⟩ = false) := by
    intro j hj
    rw [hW, World.frozen?_setCell]
    exact hf _
  have H5 : Hid (∀ v ∈ bytesOfFn f n, v.oneCell' = true) := by
    intro v hv
    simp only [bytesOfFn, List.mem_map] at hv
    obtain ⟨j, _, rfl⟩ := hv
    rfl
  have HC : Hid (∀ w4, w4 = W.drew.setCells b 39 (bytesOfFn f n) → w4.cell? ⟨rb, 1, none⟩ = some (.int .i64 0) ∧ w4.frozen? ⟨rb, 1, none⟩ = false) := by
    rintro w4 rfl
    rw [World.cell?_setCells_out b _ 39 _ _ (fun e _ => absurd e (Ne.symm hbr)), World.frozen?_setCells]
    exact ⟨q1, g1⟩
  have HW := Lib.hid hW
  have hnn : (n : Int) ≤ 1024 := by have := HN.out.1; omega
  clear hW r0 r1 r2 f1 f2 hsrc hd hf
  go_region_law (refine step_copy_cells rfl (.tmp 20) (.tmp 29) 36 36 rfl 5 Tryf.underlying36 (by kernel_rfl) b 39 1024 1024 ⟨sb, 0, none⟩ m cap rfl rfl (bytesOfFn f n) HL.out H2.out H3.out H4.out H5.out ?_; rw [bytesOfFn_length]; intro w4 hw4; have HC' := HC.out w4 hw4.out)
  all_goals
    obtain ⟨hc1, hc2⟩ := HC'
    clear q0 q1 g1
    go_wp2
    go_ret2
    refine ⟨rfl, ?_⟩
    exact HP.out _ _ (by rw [← HW.out]; exact hw4.out)

set_option maxHeartbeats 400000 in
theorem read_eof (rb : Nat) (a : Option Addr) (m : Nat) (cap : Nat) (w : World) (d : Value) (e0 : Value) (he0 : w.cell? ⟨0, 0, none⟩ = some e0) (hv : ∃ t v, e0 = .iface t v)
  (r0 : w.cell? ⟨rb, 0, none⟩ = some (.slice a m cap)) (r1 : w.cell? ⟨rb, 1, none⟩ = some (.int .i64 m)) :
  Calls Tryf.prog 132 #[.pointer (some ⟨rb, 0, none⟩), d] w fun e w' => e = .returned (.tuple #[.int .i64 0, e0]) ∧ ∃ q, w' = w.drewN q := by
  obtain ⟨t, v, rfl⟩ := hv
  go_enter Tryf.func132, Tryf.ntmps132
  go_wp2
  go_quiet (fail)
  go_wp2
  go_quiet (fail)
  go_wp2
  go_ret2
  exact ⟨rfl, _, by rw [World.drewN_drewN]⟩
end Go.Proofs.YtgcjaijakbejjaaFmt

/- The parser's state as the walks speak of it, and what fill does to it: at the first call (it reads min(m, 1024) bytes), at the input's end. Conditions: the state's own. -/
namespace Go.Proofs.YtgcjaijakbejjaaFmt
open Go.RowKit

def Src (w : World) (sb m : Nat) (f : Nat → Int) : Prop := ∀ j, j < m → w.cell? ⟨sb, j, none⟩ = some (.int .u8 (f j))
def Got (w : World) (b g : Nat) (f : Nat → Int) : Prop := ∀ j, j < g → w.cell? ⟨b, 39 + j, none⟩ = some (.int .u8 (f j))
def Buf (w : World) (b : Nat) : Prop := ∀ j, j < 1024 → (w.cell? ⟨b, 39 + j, none⟩).isSome = true
def Free (w : World) (b : Nat) : Prop := ∀ k, w.frozen? ⟨b, k, none⟩ = false

structure Nums (B b rb sb fb m cap : Nat) : Prop where
  b0 : 3 ≤ B
  b1 : B ≤ b
  b2 : B ≤ rb
  b3 : B ≤ sb
  b4 : B ≤ fb
  n1 : b ≠ rb
  n2 : b ≠ sb
  n3 : b ≠ fb
  n4 : rb ≠ sb
  n5 : rb ≠ fb
  m1 : m ≤ 1048576
  m2 : m ≤ cap

/-- The parser lies in block b, its reader in rb, the source's bytes in sb, the file node in fb. g bytes of the source lie in the parser's buffer. -/
structure Lx (B b rb sb fb m cap : Nat) (f : Nat → Int) (l : Int) (ea : Addr) (g ri : Nat) (bs : Value) (bsp r wd col offs : Int) (re : Value) (ef : Bool) (w : World) : Prop where
  nums : Nums B b rb sb fb m cap
  gm : g ≤ m
  g1 : g ≤ 1024
  c0 : w.cell? ⟨b, 0, none⟩ = some (.iface 81 (.pointer (some ⟨rb, 0, none⟩)))
  c1 : w.cell? ⟨b, 1, none⟩ = some bs
  c2 : w.cell? ⟨b, 2, none⟩ = some (.int .u64 bsp)
  c3 : w.cell? ⟨b, 3, none⟩ = some (.int .i32 r)
  c4 : w.cell? ⟨b, 4, none⟩ = some (.int .i64 wd)
  c5 : w.cell? ⟨b, 5, none⟩ = some (.pointer (some ⟨fb, 0, none⟩))
  c7 : w.cell? ⟨b, 7, none⟩ = some .nilIface
  c8 : w.cell? ⟨b, 8, none⟩ = some re
  c9 : w.cell? ⟨b, 9, none⟩ = some (.bool ef)
  c10 : w.cell? ⟨b, 10, none⟩ = some (.int .u32 0)
  c12 : w.cell? ⟨b, 12, none⟩ = some (.int .i64 offs)
  c13 : w.cell? ⟨b, 13, none⟩ = some (.int .i64 1)
  c14 : w.cell? ⟨b, 14, none⟩ = some (.int .i64 col)
  c17 : w.cell? ⟨b, 17, none⟩ = some (.int .u32 1)
  c20 : w.cell? ⟨b, 20, none⟩ = some (.int .i64 l)
  c29 : w.cell? ⟨b, 29, none⟩ = some (.int .i64 0)
  c30 : w.cell? ⟨b, 30, none⟩ = some (.int .i64 0)
  c31 : w.cell? ⟨b, 31, none⟩ = some (.int .i64 0)
  c32 : w.cell? ⟨b, 32, none⟩ = some (.int .i64 0)
  c2087 : w.cell? ⟨b, 2087, none⟩ = some (.slice none 0 0)
  r0 : w.cell? ⟨rb, 0, none⟩ = some (.slice (some ⟨sb, 0, none⟩) m cap)
  r1 : w.cell? ⟨rb, 1, none⟩ = some (.int .i64 ri)
  r2 : w.cell? ⟨rb, 2, none⟩ = some (.int .i64 (-1))
  f0 : w.cell? ⟨fb, 0, none⟩ = some (.string ⟨#[]⟩)
  eof : w.cell? ⟨0, 0, none⟩ = some (.iface 133 (.pointer (some ea)))
  src : Src w sb m f
  got : Got w b g f
  buf : Buf w b
  free : Free w b
  freeR : Free w rb


theorem Src.cells {w w' : World} {sb m : Nat} {f : Nat → Int} (h : Src w sb m f) (hc : ∀ k, w'.cell? ⟨sb, k, none⟩ = w.cell? ⟨sb, k, none⟩) : Src w' sb m f := fun j hj => (hc j).trans (h j hj)

/-- Every cell of the state but cells 1, 2, 8, 9, 12 (and the buffer's) is handed on. -/
theorem Lx.fill {B b rb sb fb m cap : Nat} {f : Nat → Int} {l : Int} {ea : Addr} {g ri : Nat} {bs : Value} {bsp r wd col offs : Int} {re : Value} {ef : Bool} {w w' : World}
    (h : Lx B b rb sb fb m cap f l ea g ri bs bsp r wd col offs re ef w) (g' ri' : Nat) (bs' : Value) (bsp' offs' : Int) (re' : Value) (ef' : Bool) (hgm : g' ≤ m) (hg1 : g' ≤ 1024)
    (hk : ∀ k, k ≠ 1 → k ≠ 2 → k ≠ 8 → k ≠ 9 → k ≠ 12 → k < 39 ∨ 1063 ≤ k → w'.cell? ⟨b, k, none⟩ = w.cell? ⟨b, k, none⟩)
    (ho : ∀ q k, q ≠ b → q ≠ rb → w'.cell? ⟨q, k, none⟩ = w.cell? ⟨q, k, none⟩)
    (hf : ∀ q k, w'.frozen? ⟨q, k, none⟩ = w.frozen? ⟨q, k, none⟩)
    (c1 : w'.cell? ⟨b, 1, none⟩ = some bs') (c2 : w'.cell? ⟨b, 2, none⟩ = some (.int .u64 bsp')) (c8 : w'.cell? ⟨b, 8, none⟩ = some re') (c9 : w'.cell? ⟨b, 9, none⟩ = some (.bool ef')) (c12 : w'.cell? ⟨b, 12, none⟩ = some (.int .i64 offs'))
    (r0 : w'.cell? ⟨rb, 0, none⟩ = w.cell? ⟨rb, 0, none⟩) (r1 : w'.cell? ⟨rb, 1, none⟩ = some (.int .i64 ri')) (r2 : w'.cell? ⟨rb, 2, none⟩ = some (.int .i64 (-1))) (got : Got w' b g' f) (buf : Buf w' b) :
    Lx B b rb sb fb m cap f l ea g' ri' bs' bsp' r wd col offs' re' ef' w' := by
  have N := h.nums
  have n1 := N.n1; have n2 := N.n2; have n3 := N.n3; have n4 := N.n4; have n5 := N.n5; have q0 := N.b0; have q1 := N.b1; have q2 := N.b2
  exact ⟨N, hgm, hg1, (hk 0 (by omega) (by omega) (by omega) (by omega) (by omega) (by omega)).trans h.c0, c1, c2, (hk 3 (by omega) (by omega) (by omega) (by omega) (by omega) (by omega)).trans h.c3,
    (hk 4 (by omega) (by omega) (by omega) (by omega) (by omega) (by omega)).trans h.c4, (hk 5 (by omega) (by omega) (by omega) (by omega) (by omega) (by omega)).trans h.c5, (hk 7 (by omega) (by omega) (by omega) (by omega) (by omega) (by omega)).trans h.c7,
    c8, c9, (hk 10 (by omega) (by omega) (by omega) (by omega) (by omega) (by omega)).trans h.c10, c12, (hk 13 (by omega) (by omega) (by omega) (by omega) (by omega) (by omega)).trans h.c13,
    (hk 14 (by omega) (by omega) (by omega) (by omega) (by omega) (by omega)).trans h.c14, (hk 17 (by omega) (by omega) (by omega) (by omega) (by omega) (by omega)).trans h.c17, (hk 20 (by omega) (by omega) (by omega) (by omega) (by omega) (by omega)).trans h.c20,
    (hk 29 (by omega) (by omega) (by omega) (by omega) (by omega) (by omega)).trans h.c29, (hk 30 (by omega) (by omega) (by omega) (by omega) (by omega) (by omega)).trans h.c30, (hk 31 (by omega) (by omega) (by omega) (by omega) (by omega) (by omega)).trans h.c31,
    (hk 32 (by omega) (by omega) (by omega) (by omega) (by omega) (by omega)).trans h.c32, (hk 2087 (by omega) (by omega) (by omega) (by omega) (by omega) (by omega)).trans h.c2087,
    r0.trans h.r0, r1, r2, (ho fb 0 (Ne.symm n3) (Ne.symm n5)).trans h.f0, (ho 0 0 (by omega) (by omega)).trans h.eof, h.src.cells (fun k => ho sb k (Ne.symm n2) (Ne.symm n4)), got, buf,
    fun k => (hf b k).trans (h.free k), fun k => (hf rb k).trans (h.freeR k)⟩

theorem step_copy_nothing {P : Program} {ops : Array Oper} {o : Oper} {a : Act} {w : World} {K : Act → World → Prop} {Q : Exit → Act → World → Prop} {E : Prop} (hgd : o.guard = none) (d s : Operand) (dT sT : TypeId)
    (ho : o.op = .call { callee := .builtin .copy, args := #[d, s], argTypes := #[dT, sT] }) (elem : TypeId) (hu : P.underlying dT = some (.slice elem)) (hsz : (P.info? elem).map (·.size) = some 1)
    (dp sp : Option Addr) (dLen dCap sLen sCap : Nat) (hd : a.eval d = .slice dp dLen dCap) (hs : a.eval s = .slice sp sLen sCap) (hn : Nat.min sLen dLen = 0)
    (h : K (a.put o.dst (goInt 0)) w) :
    if Region.wanted o (yielded ops a.tmps) = true then Oper.wp P o a w K Q else E := by
  have hw : Region.wanted o (yielded ops a.tmps) = true := by simp [Region.wanted, hgd]
  rw [if_pos hw]
  have hrun := run_copy_none (P := P) w dT sT o.type elem dp sp dLen dCap sLen sCap hu hsz hn
  unfold Oper.wp
  simp [execOp, ho, resolve, invoke, builtin, hd, hs, hrun, Result.andThen]
  exact h

theorem meth_read (rb : Nat) (w : World) : (method 314 81 (.pointer (some ⟨rb, 0, none⟩)) "Read").run Tryf.prog w = .ok (132, .pointer (some ⟨rb, 0, none⟩)) w := by kernel_rfl
theorem arr78 : Tryf.prog.arrayLen 78 = 1024 := by kernel_rfl

theorem eofV1 (a : Addr) (w : World) : (binOp .eql 38 .nilIface (.iface 133 (.pointer (some a)))).run Tryf.prog w = .ok (.bool false) w := by kernel_rfl
theorem eofI : Tryf.prog.isIface 38 = true := by kernel_rfl
theorem eofV2 (a : Addr) (w : World) : (binOp .eql 38 (.iface 133 (.pointer (some a))) (.iface 133 (.pointer (some a)))).run Tryf.prog w = .ok (.bool true) w := by
  cases hi : Tryf.prog.info? 133 with
  | none => exact absurd (show (Tryf.prog.info? 133).isSome = true by kernel_rfl) (by rw [hi]; decide)
  | some i =>
    have hc : i.comparable = true := by
      have : (Tryf.prog.info? 133).map (·.comparable) = some true := by kernel_rfl
      rw [hi] at this; simpa using this
    exact run_eql_iface_same w 38 133 135 i 0 eofI (by simp [typeInfo, hi]) hc Tryf.underlying133 (by kernel_rfl) a
theorem eofV3 (a : Addr) (w : World) : (binOp .neq 38 (.iface 133 (.pointer (some a))) (.iface 133 (.pointer (some a)))).run Tryf.prog w = .ok (.bool false) w := by
  cases hi : Tryf.prog.info? 133 with
  | none => exact absurd (show (Tryf.prog.info? 133).isSome = true by kernel_rfl) (by rw [hi]; decide)
  | some i =>
    have hc : i.comparable = true := by
      have : (Tryf.prog.info? 133).map (·.comparable) = some true := by kernel_rfl
      rw [hi] at this; simpa using this
    simp only [binOp]
    simp [Op.equal, Op.maxDepth, run_equalIn_iface_same w 9998 38 133 135 i 0 eofI (by simp [typeInfo, hi]) hc Tryf.underlying133 (by kernel_rfl) a]
theorem cs_ne (w : World) (b k k' : Nat) (v : Value) (h : k' ≠ k) : (w.setCell ⟨b, k', none⟩ v).cell? ⟨b, k, none⟩ = w.cell? ⟨b, k, none⟩ := World.cell?_setCell_other _ _ _ _ (by intro e; injection e with _ e2; exact h e2)
theorem cs_nb (w : World) (b q k k' : Nat) (v : Value) (h : q ≠ b) : (w.setCell ⟨b, k', none⟩ v).cell? ⟨q, k, none⟩ = w.cell? ⟨q, k, none⟩ := World.cell?_setCell_other _ _ _ _ (by intro e; injection e with e1; exact h e1.symm)
theorem cs_eq (w : World) (b k : Nat) (v u : Value) (h : w.cell? ⟨b, k, none⟩ = some u) : (w.setCell ⟨b, k, none⟩ v).cell? ⟨b, k, none⟩ = some v := World.cell?_setCell_same _ _ _ h

theorem read_at {B b rb sb fb m cap : Nat} {f : Nat → Int} {l : Int} {ea : Addr} {bs : Value} {bsp r wd col offs : Int} {re : Value} {ef : Bool} {w : World} (h : Lx B b rb sb fb m cap f l ea 0 0 bs bsp r wd col offs re ef w)
    (n : Nat) (hn : Hid (n = min m 1024)) (hs : 0 < m) (W : World) (x : Value) (N : Nat) (hW : W = (w.setCell ⟨b, 12, none⟩ x).drewN N) :
    Calls Tryf.prog 132 #[.pointer (some ⟨rb, 0, none⟩), .slice (some ⟨b, 39, none⟩) 1024 1024] W fun e w' => e = .returned (.tuple #[.int .i64 n, .nilIface]) ∧ ReadPost B b rb n f n W w' := by
  have N := h.nums
  have n1 := N.n1; have n2 := N.n2; have n4 := N.n4
  have hc : ∀ q k, (q = b → k ≠ 12) → W.cell? ⟨q, k, none⟩ = w.cell? ⟨q, k, none⟩ := by
    intro q k hq
    rw [hW]
    show (w.setCell _ _).cell? _ = _
    exact World.cell?_setCell_other _ _ _ _ (by intro e; injection e with e1 e2; exact hq e1.symm e2.symm)
  have hz : ∀ q k, W.frozen? ⟨q, k, none⟩ = w.frozen? ⟨q, k, none⟩ := by
    intro q k
    rw [hW]
    show (w.setCell _ _).frozen? _ = _
    exact World.frozen?_setCell _ _ _ _
  refine read_some B b rb sb m f cap n W hn hs N.m1 N.m2 N.b1 N.b2 ((hc _ _ (by omega)).trans h.r0) ((hc _ _ (by omega)).trans h.r1) ((hc _ _ (by omega)).trans h.r2) ((hz _ _).trans (h.freeR _)) ((hz _ _).trans (h.freeR _)) n1 (Ne.symm n4)
    (fun j hj => (hc _ _ (by omega)).trans (h.src j hj)) (fun j hj => ?_) (fun j => (hz _ _).trans (h.free _))
  rw [hc _ _ (by omega)]
  exact h.buf j hj

theorem fill_end {B b rb sb fb m cap : Nat} {f : Nat → Int} {l : Int} {ea : Addr} {bs : Value} {bsp r wd col offs : Int} {re : Value} {ef : Bool} {w w1 : World} (h : Lx B b rb sb fb m cap f l ea 0 0 bs bsp r wd col offs re ef w)
    {n q : Nat} {offs' : Int} (hn : n ≤ m) (hn' : n ≤ 1024) (hp : ReadPost B b rb n f n ((w.setCell ⟨b, 12, none⟩ (.int .i64 offs')).drewN q) w1) (bs' : Value) :
    Below B w (((w1.setCell ⟨b, 8, none⟩ .nilIface).setCell ⟨b, 1, none⟩ bs').setCell ⟨b, 2, none⟩ (.int .u64 0)) ∧
    Lx B b rb sb fb m cap f l ea n n bs' 0 r wd col offs' .nilIface ef (((w1.setCell ⟨b, 8, none⟩ .nilIface).setCell ⟨b, 1, none⟩ bs').setCell ⟨b, 2, none⟩ (.int .u64 0)) := by
  have N := h.nums
  have n1 := N.n1
  have hc : ∀ k, k ≠ 12 → k < 39 ∨ 1063 ≤ k → w1.cell? ⟨b, k, none⟩ = w.cell? ⟨b, k, none⟩ := fun k h1 h2 => (hp.rest k h2).trans (cs_ne _ _ _ _ _ (Ne.symm h1))
  have ho : ∀ q k, q ≠ b → q ≠ rb → w1.cell? ⟨q, k, none⟩ = w.cell? ⟨q, k, none⟩ := fun q k h1 h2 => (hp.others q k h1 h2).trans (cs_nb _ _ _ _ _ _ h1)
  have e8 : (w1.setCell ⟨b, 8, none⟩ .nilIface).cell? ⟨b, 8, none⟩ = some .nilIface := cs_eq _ _ _ _ _ ((hc 8 (by omega) (by omega)).trans h.c8)
  have e1 : ((w1.setCell ⟨b, 8, none⟩ .nilIface).setCell ⟨b, 1, none⟩ bs').cell? ⟨b, 1, none⟩ = some bs' := cs_eq _ _ _ _ bs ((cs_ne _ _ _ _ _ (by omega)).trans ((hc 1 (by omega) (by omega)).trans h.c1))
  refine ⟨(((((below_drewN q (Below.refl B w)).setCell (p := ⟨b, 12, none⟩) N.b1 (.int .i64 offs')).trans hp.below).setCell (p := ⟨b, 8, none⟩) N.b1 _).setCell (p := ⟨b, 1, none⟩) N.b1 _).setCell (p := ⟨b, 2, none⟩) N.b1 _, ?_⟩
  refine h.fill n n bs' 0 offs' .nilIface ef hn hn' ?_ ?_ ?_ ?_ ?_ ?_ ?_ ?_ ?_ ?_ ?_ ?_ ?_
  · intro k h1 h2 h3 h4 h5 h6
    rw [cs_ne _ _ _ _ _ (Ne.symm h2), cs_ne _ _ _ _ _ (Ne.symm h1), cs_ne _ _ _ _ _ (Ne.symm h3)]
    exact hc k h5 h6
  · intro q k h1 h2
    rw [cs_nb _ _ _ _ _ _ h1, cs_nb _ _ _ _ _ _ h1, cs_nb _ _ _ _ _ _ h1]
    exact ho q k h1 h2
  · intro q k
    rw [World.frozen?_setCell, World.frozen?_setCell, World.frozen?_setCell]
    exact (hp.frozen q k).trans (World.frozen?_setCell _ _ _ _)
  · exact (cs_ne _ _ _ _ _ (by omega)).trans e1
  · exact cs_eq _ _ _ _ (.int .u64 bsp) ((cs_ne _ _ _ _ _ (by omega)).trans ((cs_ne _ _ _ _ _ (by omega)).trans ((hc 2 (by omega) (by omega)).trans h.c2)))
  · exact (cs_ne _ _ _ _ _ (by omega)).trans ((cs_ne _ _ _ _ _ (by omega)).trans e8)
  · exact (cs_ne _ _ _ _ _ (by omega)).trans ((cs_ne _ _ _ _ _ (by omega)).trans ((cs_ne _ _ _ _ _ (by omega)).trans ((hc 9 (by omega) (by omega)).trans h.c9)))
  · exact (cs_ne _ _ _ _ _ (by omega)).trans ((cs_ne _ _ _ _ _ (by omega)).trans ((cs_ne _ _ _ _ _ (by omega)).trans ((hp.rest 12 (by omega)).trans (cs_eq _ _ _ _ _ h.c12))))
  · exact (cs_nb _ _ _ _ _ _ (Ne.symm n1)).trans ((cs_nb _ _ _ _ _ _ (Ne.symm n1)).trans ((cs_nb _ _ _ _ _ _ (Ne.symm n1)).trans (hp.r0.trans (cs_nb _ _ _ _ _ _ (Ne.symm n1)))))
  · exact (cs_nb _ _ _ _ _ _ (Ne.symm n1)).trans ((cs_nb _ _ _ _ _ _ (Ne.symm n1)).trans ((cs_nb _ _ _ _ _ _ (Ne.symm n1)).trans hp.r1))
  · exact (cs_nb _ _ _ _ _ _ (Ne.symm n1)).trans ((cs_nb _ _ _ _ _ _ (Ne.symm n1)).trans ((cs_nb _ _ _ _ _ _ (Ne.symm n1)).trans hp.r2))
  · intro j hj
    exact (cs_ne _ _ _ _ _ (by omega)).trans ((cs_ne _ _ _ _ _ (by omega)).trans ((cs_ne _ _ _ _ _ (by omega)).trans (hp.got j hj)))
  · intro j hj
    rw [cs_ne _ _ _ _ _ (by omega), cs_ne _ _ _ _ _ (by omega), cs_ne _ _ _ _ _ (by omega)]
    exact hp.buf j hj

set_option maxHeartbeats 1000000 in
set_option maxRecDepth 100000 in
theorem fill_first {B b rb sb fb m cap : Nat} {f : Nat → Int} {l : Int} {ea : Addr} {wd col : Int} {w : World} (h : Lx B b rb sb fb m cap f l ea 0 0 (.slice none 0 0) 0 0 wd col 0 .nilIface false w)
    (n : Nat) (hn : Hid (n = min m 1024)) (hs : 0 < m) :
  Calls Tryf.prog 62 #[.pointer (some ⟨b, 0, none⟩)] w fun e w' => e = .returned (.int .i64 n) ∧ Below B w w' ∧ Lx B b rb sb fb m cap f l ea n n (.slice (some ⟨b, 39, none⟩) n 1024) 0 0 wd col 0 .nilIface false w' := by
  have H := Lib.hid h
  have c0 := h.c0; have c1 := h.c1; have c2 := h.c2; have c3 := h.c3; have c8 := h.c8; have c9 := h.c9; have c12 := h.c12
  have hf := h.free
  have fb12 := hf 12; have fb8 := hf 8; have fb1 := hf 1; have fb2 := hf 2
  have ha := arr78
  have hm := meth_read rb
  have hn1 : 0 < n := by have := hn.out; omega
  have hn2 : n ≤ 1024 := by have := hn.out; omega
  have hn3 : (n : Int) ≤ 1024 := by omega
  clear h hf
  go_enter Tryf.func62, Tryf.ntmps62
  go_wp2
  go_step3
  go_wp2
  go_region
  go_wp2
  go_quiet (fail)
  go_wp2
  go_region_law (refine step_copy_nothing rfl (.tmp 43) (.tmp 51) 36 36 rfl 5 Tryf.underlying36 (by kernel_rfl) (some ⟨b, 39, none⟩) (some ⟨b, 39, none⟩) 0 1024 1024 1024 rfl rfl rfl ?_)
  go_wp2
  go_step3
  go_wp2
  go_quiet (fail)
  go_wp2
  go_region_with (go_at_call 132; refine (read_at H.out n hn hs _ _ _ rfl).mono ?_; rintro e w1 ⟨rfl, hp⟩)
  have N := H.out.nums
  have n1 := N.n1; have b0 := N.b0; have b1 := N.b1; have b2 := N.b2
  have q8 : w1.cell? ⟨b, 8, none⟩ = some .nilIface := (hp.rest 8 (by omega)).trans ((cs_ne _ _ _ _ _ (by omega)).trans c8)
  have q1 : w1.cell? ⟨b, 1, none⟩ = some (.slice none 0 0) := (hp.rest 1 (by omega)).trans ((cs_ne _ _ _ _ _ (by omega)).trans c1)
  have q2 : w1.cell? ⟨b, 2, none⟩ = some (.int .u64 0) := (hp.rest 2 (by omega)).trans ((cs_ne _ _ _ _ _ (by omega)).trans c2)
  have qe : w1.cell? ⟨0, 0, none⟩ = some (.iface 133 (.pointer (some ea))) := (hp.others 0 0 (by omega) (by omega)).trans ((cs_nb _ _ _ _ _ _ (by omega)).trans H.out.eof)
  have z8 : w1.frozen? ⟨b, 8, none⟩ = false := (hp.frozen _ _).trans ((World.frozen?_setCell _ _ _ _).trans fb8)
  have z1 : w1.frozen? ⟨b, 1, none⟩ = false := (hp.frozen _ _).trans ((World.frozen?_setCell _ _ _ _).trans fb1)
  have z2 : w1.frozen? ⟨b, 2, none⟩ = false := (hp.frozen _ _).trans ((World.frozen?_setCell _ _ _ _).trans fb2)
  have HP := Lib.hid hp
  have HN := Lib.hid N
  have hn0 : ¬ (n : Int) = 0 := by omega
  clear hp N c0 c1 c2 c3 c8 c9 c12 fb12 fb8 fb1 fb2 hm
  have v1 := eofV1 ea
  go_wp2
  rw [Exit.noGoto_ret]
  go_ret
  exact ⟨rfl, fill_end H.out (by have := hn.out; omega) hn2 HP.out _⟩
end Go.Proofs.YtgcjaijakbejjaaFmt

/- What fill does at the input's end: nothing is left over (E); some bytes of a rune are left over (T). Conditions: the reader is at its end. -/
namespace Go.Proofs.YtgcjaijakbejjaaFmt
open Go.RowKit

theorem read_end {B b rb sb fb m cap : Nat} {f : Nat → Int} {l : Int} {ea : Addr} {g : Nat} {bs : Value} {bsp r wd col offs : Int} {re : Value} {ef : Bool} {w : World} (h : Lx B b rb sb fb m cap f l ea g m bs bsp r wd col offs re ef w)
    (W : World) (x d : Value) (N : Nat) (hW : W = (w.setCell ⟨b, 12, none⟩ x).drewN N) :
    Calls Tryf.prog 132 #[.pointer (some ⟨rb, 0, none⟩), d] W fun e w' => e = .returned (.tuple #[.int .i64 0, .iface 133 (.pointer (some ea))]) ∧ ∃ q, w' = W.drewN q := by
  have N := h.nums
  have n1 := N.n1; have q0 := N.b0; have q1 := N.b1
  have hc : ∀ q k, (q = b → k ≠ 12) → W.cell? ⟨q, k, none⟩ = w.cell? ⟨q, k, none⟩ := by
    intro q k hq
    rw [hW]
    show (w.setCell _ _).cell? _ = _
    exact World.cell?_setCell_other _ _ _ _ (by intro e; injection e with e1 e2; exact hq e1.symm e2.symm)
  exact read_eof rb (some ⟨sb, 0, none⟩) m cap W d (.iface 133 (.pointer (some ea))) ((hc _ _ (by omega)).trans h.eof) ⟨_, _, rfl⟩ ((hc _ _ (by omega)).trans h.r0) ((hc _ _ (by omega)).trans h.r1)

theorem elem78 : Tryf.prog.elem 78 = 5 := by kernel_rfl
theorem size5 (w : World) : (sizeOf 5).run Tryf.prog w = .ok 1 w := by kernel_rfl
theorem und78 : Tryf.prog.underlying 78 = some (.array (Tryf.prog.arrayLen 78) (Tryf.prog.elem 78)) := by kernel_rfl
/-- 'p.readBuf[k:]', k below 1024. -/
theorem sl78 (b k : Nat) (hk : k < 1024) (w : World) : (Instr.sliceAt 78 (.pointer (some ⟨b, 39, none⟩)) (some (.int .u64 k)) none none).run Tryf.prog w = .ok (.slice (some ⟨b, 39 + k, none⟩) (1024 - k) (1024 - k)) w := by
  rw [run_sliceAt_array_l w 78 ⟨b, 39, none⟩ und78 .u64 k (by omega) (by rw [arr78]; omega), elem78, size5, arr78]
  simp only [Result.andThen_ok, slicedAt, Int.toNat_natCast, Nat.mul_one, addr_add]
  rw [if_neg (by omega)]

theorem eof_end {B b rb sb fb m cap : Nat} {f : Nat → Int} {l : Int} {ea : Addr} {g : Nat} {bs : Value} {bsp r wd col offs : Int} {re : Value} {ef : Bool} {w w1 : World} (h : Lx B b rb sb fb m cap f l ea g m bs bsp r wd col offs re ef w)
    {offs' : Int} (g' : Nat) (hg : g' ≤ g) (hb : Below B w w1) (hc : ∀ k, k ≠ 12 → k < 39 ∨ 1063 ≤ k → w1.cell? ⟨b, k, none⟩ = w.cell? ⟨b, k, none⟩) (h12 : w1.cell? ⟨b, 12, none⟩ = some (.int .i64 offs'))
    (ho : ∀ q k, q ≠ b → w1.cell? ⟨q, k, none⟩ = w.cell? ⟨q, k, none⟩) (hf : ∀ q k, w1.frozen? ⟨q, k, none⟩ = w.frozen? ⟨q, k, none⟩) (hG : Got w1 b g' f) (hB : Buf w1 b) (re' bs' : Value) :
    Below B w ((((w1.setCell ⟨b, 8, none⟩ re').setCell ⟨b, 9, none⟩ (.bool true)).setCell ⟨b, 1, none⟩ bs').setCell ⟨b, 2, none⟩ (.int .u64 0)) ∧
    Lx B b rb sb fb m cap f l ea g' m bs' 0 r wd col offs' re' true ((((w1.setCell ⟨b, 8, none⟩ re').setCell ⟨b, 9, none⟩ (.bool true)).setCell ⟨b, 1, none⟩ bs').setCell ⟨b, 2, none⟩ (.int .u64 0)) := by
  have N := h.nums
  have n1 := N.n1
  have a8 := (hc 8 (by omega) (by omega)).trans h.c8
  have a9 := (hc 9 (by omega) (by omega)).trans h.c9
  have a1 := (hc 1 (by omega) (by omega)).trans h.c1
  have a2 := (hc 2 (by omega) (by omega)).trans h.c2
  have e8 : (w1.setCell ⟨b, 8, none⟩ re').cell? ⟨b, 8, none⟩ = some re' := cs_eq _ _ _ _ _ a8
  have e9 : ((w1.setCell ⟨b, 8, none⟩ re').setCell ⟨b, 9, none⟩ (.bool true)).cell? ⟨b, 9, none⟩ = some (.bool true) := cs_eq _ _ _ _ _ ((cs_ne _ _ _ _ _ (by omega)).trans a9)
  have e1 : (((w1.setCell ⟨b, 8, none⟩ re').setCell ⟨b, 9, none⟩ (.bool true)).setCell ⟨b, 1, none⟩ bs').cell? ⟨b, 1, none⟩ = some bs' := cs_eq _ _ _ _ _ ((cs_ne _ _ _ _ _ (by omega)).trans ((cs_ne _ _ _ _ _ (by omega)).trans a1))
  refine ⟨(((hb.setCell (p := ⟨b, 8, none⟩) N.b1 _).setCell (p := ⟨b, 9, none⟩) N.b1 _).setCell (p := ⟨b, 1, none⟩) N.b1 _).setCell (p := ⟨b, 2, none⟩) N.b1 _, ?_⟩
  refine h.fill g' m bs' 0 offs' re' true (Nat.le_trans hg h.gm) (Nat.le_trans hg h.g1) ?_ ?_ ?_ ?_ ?_ ?_ ?_ ?_ ?_ ?_ ?_ ?_ ?_
  · intro k h1 h2 h3 h4 h5 h6
    rw [cs_ne _ _ _ _ _ (Ne.symm h2), cs_ne _ _ _ _ _ (Ne.symm h1), cs_ne _ _ _ _ _ (Ne.symm h4), cs_ne _ _ _ _ _ (Ne.symm h3)]
    exact hc k h5 h6
  · intro q k h1 h2
    rw [cs_nb _ _ _ _ _ _ h1, cs_nb _ _ _ _ _ _ h1, cs_nb _ _ _ _ _ _ h1, cs_nb _ _ _ _ _ _ h1]
    exact ho q k h1
  · intro q k
    rw [World.frozen?_setCell, World.frozen?_setCell, World.frozen?_setCell, World.frozen?_setCell]
    exact hf q k
  · exact (cs_ne _ _ _ _ _ (by omega)).trans e1
  · exact cs_eq _ _ _ _ (.int .u64 bsp) ((cs_ne _ _ _ _ _ (by omega)).trans ((cs_ne _ _ _ _ _ (by omega)).trans ((cs_ne _ _ _ _ _ (by omega)).trans a2)))
  · exact (cs_ne _ _ _ _ _ (by omega)).trans ((cs_ne _ _ _ _ _ (by omega)).trans ((cs_ne _ _ _ _ _ (by omega)).trans e8))
  · exact (cs_ne _ _ _ _ _ (by omega)).trans ((cs_ne _ _ _ _ _ (by omega)).trans e9)
  · exact (cs_ne _ _ _ _ _ (by omega)).trans ((cs_ne _ _ _ _ _ (by omega)).trans ((cs_ne _ _ _ _ _ (by omega)).trans ((cs_ne _ _ _ _ _ (by omega)).trans h12)))
  · rw [cs_nb _ _ _ _ _ _ (Ne.symm n1), cs_nb _ _ _ _ _ _ (Ne.symm n1), cs_nb _ _ _ _ _ _ (Ne.symm n1), cs_nb _ _ _ _ _ _ (Ne.symm n1)]
    exact ho rb 0 (Ne.symm n1)
  · rw [cs_nb _ _ _ _ _ _ (Ne.symm n1), cs_nb _ _ _ _ _ _ (Ne.symm n1), cs_nb _ _ _ _ _ _ (Ne.symm n1), cs_nb _ _ _ _ _ _ (Ne.symm n1)]
    exact (ho rb 1 (Ne.symm n1)).trans h.r1
  · rw [cs_nb _ _ _ _ _ _ (Ne.symm n1), cs_nb _ _ _ _ _ _ (Ne.symm n1), cs_nb _ _ _ _ _ _ (Ne.symm n1), cs_nb _ _ _ _ _ _ (Ne.symm n1)]
    exact (ho rb 2 (Ne.symm n1)).trans h.r2
  · intro j hj
    rw [cs_ne _ _ _ _ _ (by omega), cs_ne _ _ _ _ _ (by omega), cs_ne _ _ _ _ _ (by omega), cs_ne _ _ _ _ _ (by omega)]
    exact hG j hj
  · intro j hj
    rw [cs_ne _ _ _ _ _ (by omega), cs_ne _ _ _ _ _ (by omega), cs_ne _ _ _ _ _ (by omega), cs_ne _ _ _ _ _ (by omega)]
    exact hB j hj

set_option maxHeartbeats 1000000 in
set_option maxRecDepth 100000 in
theorem fill_eof {B b rb sb fb m cap : Nat} {f : Nat → Int} {l : Int} {ea : Addr} {g : Nat} {a : Option Addr} {k k' : Nat} {r wd col offs : Int} {w : World} (h : Lx B b rb sb fb m cap f l ea g m (.slice a k k') k r wd col offs .nilIface false w)
    (hk : k < 1024) (hr : (r == 1114112) = false) (ho : 0 ≤ offs) (ho' : offs ≤ 1000) :
  Calls Tryf.prog 62 #[.pointer (some ⟨b, 0, none⟩)] w fun e w' => e = .returned (.int .i64 0) ∧ Below B w w' ∧ Lx B b rb sb fb m cap f l ea g m (.slice none 0 0) 0 r wd col (offs + k) (.iface 133 (.pointer (some ea))) true w' := by
  have H := Lib.hid h
  have c0 := h.c0; have c1 := h.c1; have c2 := h.c2; have c3 := h.c3; have c8 := h.c8; have c9 := h.c9; have c12 := h.c12
  have hf := h.free
  have fb12 := hf 12; have fb8 := hf 8; have fb1 := hf 1; have fb2 := hf 2; have fb9 := hf 9
  have ha := arr78
  have hm := meth_read rb
  have hsl := sl78 b k hk
  have hk1 : (k : Int) < 1024 := by omega
  clear h hf
  go_enter Tryf.func62, Tryf.ntmps62
  go_wp2
  go_step3
  go_wp2
  go_region
  go_wp2
  go_quiet (fail)
  go_wp2
  go_region_law (refine step_copy_nothing rfl (.tmp 43) (.tmp 51) 36 36 rfl 5 Tryf.underlying36 (by kernel_rfl) (some ⟨b, 39, none⟩) (some ⟨b, 39 + k, none⟩) 0 1024 (1024 - k) (1024 - k) rfl rfl (Nat.min_zero _) ?_)
  go_wp2
  go_step3
  go_wp2
  go_quiet (fail)
  go_wp2
  go_region_with (go_at_call 132; refine (read_end H.out _ _ _ _ rfl).mono ?_; rintro e w1 ⟨rfl, q, rfl⟩)
  have N := H.out.nums
  have b0 := N.b0; have b1 := N.b1; have b2 := N.b2
  have qe : w.cell? ⟨0, 0, none⟩ = some (.iface 133 (.pointer (some ea))) := H.out.eof
  have hb0 : b ≠ 0 := by omega
  have HN := Lib.hid N
  have v2 := eofV2 ea
  have v3 := eofV3 ea
  have hi := eofI
  clear N hm
  go_wp2
  rw [Exit.noGoto_ret]
  go_ret
  refine ⟨rfl, ?_⟩
  have h := H.out
  exact eof_end h g (Nat.le_refl g) (below_drewN _ ((Below.refl B w).setCell (p := ⟨b, 12, none⟩) HN.out.b1 (.int .i64 (offs + k)))) (fun k h1 _ => cs_ne _ _ _ _ _ (Ne.symm h1)) (cs_eq _ _ _ _ _ h.c12) (fun q k h1 => cs_nb _ _ _ _ _ _ h1)
    (fun q k => World.frozen?_setCell _ _ _ _) (fun j hj => (cs_ne _ _ _ _ _ (by omega)).trans (h.got j hj)) (fun j hj => by
      show ((w.setCell _ _).cell? _).isSome = true
      rw [cs_ne _ _ _ _ _ (by omega)]; exact h.buf j hj) _ _
end Go.Proofs.YtgcjaijakbejjaaFmt

/- What fill does at the input's end where bytes of a rune are left over. Conditions: the reader is at its end. -/
namespace Go.Proofs.YtgcjaijakbejjaaFmt
open Go.RowKit

theorem read_endT {B b rb sb fb m cap : Nat} {f : Nat → Int} {l : Int} {ea : Addr} {g : Nat} {bs : Value} {bsp r wd col offs : Int} {re : Value} {ef : Bool} {w : World} (h : Lx B b rb sb fb m cap f l ea g m bs bsp r wd col offs re ef w)
    (W : World) (nd : Nat) (d : Value) (hW : ∀ q k, q ≠ b → W.cell? ⟨q, k, none⟩ = w.cell? ⟨q, k, none⟩) :
    Calls Tryf.prog 132 #[.pointer (some ⟨rb, 0, none⟩), d] (W.drewN nd) fun e w' => e = .returned (.tuple #[.int .i64 0, .iface 133 (.pointer (some ea))]) ∧ ∃ q, w' = (W.drewN nd).drewN q := by
  have N := h.nums
  have n1 := N.n1; have q0 := N.b0; have q1 := N.b1
  exact read_eof rb (some ⟨sb, 0, none⟩) m cap (W.drewN nd) d (.iface 133 (.pointer (some ea))) ((hW _ _ (by omega)).trans h.eof) ⟨_, _, rfl⟩ ((hW _ _ (by omega)).trans h.r0) ((hW _ _ (by omega)).trans h.r1)

/-- 'p.readBuf[k:]', k below 1024, k an int. -/
theorem sl78i (b k : Nat) (hk : k < 1024) (w : World) : (Instr.sliceAt 78 (.pointer (some ⟨b, 39, none⟩)) (some (.int .i64 k)) none none).run Tryf.prog w = .ok (.slice (some ⟨b, 39 + k, none⟩) (1024 - k) (1024 - k)) w := by
  rw [run_sliceAt_array_l w 78 ⟨b, 39, none⟩ und78 .i64 k (by omega) (by rw [arr78]; omega), elem78, size5, arr78]
  simp only [Result.andThen_ok, slicedAt, Int.toNat_natCast, Nat.mul_one, addr_add]
  rw [if_neg (by omega)]
/-- 'p.readBuf[:k]'. -/
theorem sl78h (b k : Nat) (hk : k ≤ 1024) (w : World) : (Instr.sliceAt 78 (.pointer (some ⟨b, 39, none⟩)) none (some (.int .i64 k)) none).run Tryf.prog w = .ok (.slice (some ⟨b, 39, none⟩) k 1024) w := by
  rw [run_sliceAt_array_h w 78 ⟨b, 39, none⟩ und78 .i64 k (by omega) (by rw [arr78]; omega), elem78, size5, arr78]
  simp only [Result.andThen_ok, slicedAt, Int.toNat_natCast, Nat.mul_one, addr_add]
  rw [if_neg (by omega)]
  rfl

structure Mid (B b : Nat) (x : Value) (w w4 : World) : Prop where
  below : Below B w w4
  cell : ∀ k, k ≠ 12 → k < 39 ∨ 1063 ≤ k → w4.cell? ⟨b, k, none⟩ = w.cell? ⟨b, k, none⟩
  c12 : w4.cell? ⟨b, 12, none⟩ = some x
  others : ∀ q k, q ≠ b → w4.cell? ⟨q, k, none⟩ = w.cell? ⟨q, k, none⟩
  frozen : ∀ q k, w4.frozen? ⟨q, k, none⟩ = w.frozen? ⟨q, k, none⟩
  buf : Buf w4 b

theorem mid_of {B b : Nat} {x u : Value} {w w4 : World} {q : Nat} {f : Nat → Int} {k : Nat} (hB : B ≤ b) (h12 : w.cell? ⟨b, 12, none⟩ = some u) (hb : Buf w b) (hk : k ≤ 1024)
    (hw : w4 = ((w.setCell ⟨b, 12, none⟩ x).drew.drewN q).drew.setCells b 39 (bytesOfFn f k)) : Mid B b x w w4 := by
  subst hw
  have hout : ∀ q' k', (q' = b → k' < 39 ∨ 1063 ≤ k') → (((w.setCell ⟨b, 12, none⟩ x).drew.drewN q).drew.setCells b 39 (bytesOfFn f k)).cell? ⟨q', k', none⟩ = (w.setCell ⟨b, 12, none⟩ x).cell? ⟨q', k', none⟩ := by
    intro q' k' h
    rw [World.cell?_setCells_out b _ 39 _ _ (fun e _ => by rw [bytesOfFn_length]; have := h e; simp only; omega)]
    rfl
  constructor
  · exact below_setCells hB _ _ _ ((below_drewN q ((Below.refl B w).setCell (p := ⟨b, 12, none⟩) hB x).drew).drew)
  · intro k' h1 h2
    exact (hout b k' (fun _ => h2)).trans (cs_ne _ _ _ _ _ (Ne.symm h1))
  · exact (hout b 12 (fun _ => Or.inl (by omega))).trans (cs_eq _ _ _ _ _ h12)
  · intro q' k' h
    exact (hout q' k' (fun e => absurd e h)).trans (cs_nb _ _ _ _ _ _ h)
  · intro q' k'
    rw [World.frozen?_setCells]
    exact World.frozen?_setCell _ _ _ _
  · intro j hj
    by_cases h : j < k
    · have := World.cell?_setCells_in b (bytesOfFn f k) 39 (((w.setCell ⟨b, 12, none⟩ x).drew.drewN q).drew) (fun i hi => by
        rw [bytesOfFn_length] at hi
        show ((w.setCell _ _).cell? _).isSome = true
        rw [cs_ne _ _ _ _ _ (by omega)]
        exact hb i (by omega)) j (by rw [bytesOfFn_length]; exact h)
      rw [this]; rfl
    · rw [World.cell?_setCells_out b _ 39 _ _ (fun _ _ => by rw [bytesOfFn_length]; simp only; omega)]
      show ((w.setCell _ _).cell? _).isSome = true
      rw [cs_ne _ _ _ _ _ (by omega)]
      exact hb j hj

set_option maxHeartbeats 1000000 in
set_option maxRecDepth 100000 in
theorem fill_trunc {B b rb sb fb m cap : Nat} {f : Nat → Int} {l : Int} {ea : Addr} {g p k n : Nat} {r wd col offs : Int} {w : World} (h : Lx B b rb sb fb m cap f l ea g m (.slice (some ⟨b, 39, none⟩) n 1024) p r wd col offs .nilIface false w)
    (hn : n = p + k) (hk : k < 1024) (hk0 : 0 < k) (hg : n ≤ g) (hr : (r == 1114112) = false) (ho : 0 ≤ offs) (ho' : offs ≤ 1000) :
  Calls Tryf.prog 62 #[.pointer (some ⟨b, 0, none⟩)] w fun e w' => e = .returned (.int .i64 0) ∧ Below B w w' ∧ Lx B b rb sb fb m cap f l ea 0 m (.slice (some ⟨b, 39, none⟩) k 1024) 0 r wd col (offs + p) (.iface 133 (.pointer (some ea))) true w' := by
  subst hn
  have H := Lib.hid h
  have c0 := h.c0; have c1 := h.c1; have c2 := h.c2; have c3 := h.c3; have c8 := h.c8; have c9 := h.c9; have c12 := h.c12
  have hf := h.free
  have fb12 := hf 12; have fb8 := hf 8; have fb1 := hf 1; have fb2 := hf 2; have fb9 := hf 9
  have hm := meth_read rb
  have g1 := h.g1
  have hsl := sl78 b p (by omega)
  have hsl2 := sl78i b k (by omega)
  have hsl3 := sl78h b k (by omega)
  have hk1 : (p : Int) < 1024 := by omega
  have hk2 : (k : Int) < 1024 := by omega
  have hk3 : (0 : Int) < k := by omega
  have HF := Lib.hid hf
  clear h hf
  go_enter Tryf.func62, Tryf.ntmps62
  go_wp2
  go_step3
  go_wp2
  go_region
  go_wp2
  go_quiet (fail)
  go_wp2
  have hpk : (p : Int) + (k : Int) - p = k := by omega
  simp only [hpk]
  clear hpk
  obtain ⟨W, hW⟩ : ∃ W, W = ((w.setCell ⟨b, 12, none⟩ (.int .i64 (offs + p))).drew.drewN nq) := ⟨_, rfl⟩
  rw [← hW]
  have W2 : W.cell? ⟨b, 2, none⟩ = some (.int .u64 p) := by rw [hW]; exact (cs_ne _ _ _ _ _ (by omega)).trans c2
  have W0 : W.cell? ⟨b, 0, none⟩ = some (.iface 81 (.pointer (some ⟨rb, 0, none⟩))) := by rw [hW]; exact (cs_ne _ _ _ _ _ (by omega)).trans c0
  have W8 : W.cell? ⟨b, 8, none⟩ = some .nilIface := by rw [hW]; exact (cs_ne _ _ _ _ _ (by omega)).trans c8
  have HL : Hid ((bytesOfFn (fun j => f (p + j)) k).length = Nat.min (1024 - p) k) := by
    have : k ≤ 1024 - p := by omega
    rw [bytesOfFn_length]; exact (Nat.min_eq_right this).symm
  have H2 : Hid (∀ j v, (bytesOfFn (fun j => f (p + j)) k)[j]? = some v → W.cell? ((⟨b, 39 + p, none⟩ : Addr).add j) = some v) := by
    intro j v hv
    have hj : j < k := by
      have := (List.getElem?_eq_some_iff.1 hv).1
      rwa [bytesOfFn_length] at this
    rw [bytesOfFn_get _ k j hj] at hv
    obtain rfl := Option.some.inj hv
    rw [addr_add, hW, Nat.add_assoc]
    exact (cs_ne _ _ _ _ _ (by omega)).trans (H.out.got (p + j) (by omega))
  have H3 : Hid (∀ j, j < (bytesOfFn (fun j => f (p + j)) k).length → (W.cell? ⟨b, 39 + j, none⟩).isSome = true) := by
    intro j hj
    rw [bytesOfFn_length] at hj
    rw [hW]
    show ((w.setCell _ _).cell? _).isSome = true
    rw [cs_ne _ _ _ _ _ (by omega)]
    exact H.out.buf j (by omega)
  have H4 : Hid (∀ j, j < (bytesOfFn (fun j => f (p + j)) k).length → W.frozen? ⟨b, 39 + j, none⟩ = false) := by
    intro j hj
    rw [hW]
    exact (World.frozen?_setCell _ _ _ _).trans (HF.out _)
  have H5 : Hid (∀ v ∈ bytesOfFn (fun j => f (p + j)) k, v.oneCell' = true) := by
    intro v hv
    simp only [bytesOfFn, List.mem_map] at hv
    obtain ⟨j, _, rfl⟩ := hv
    rfl
  have HW := Lib.hid hW
  clear hW c0 c1 c2 c3 c8 c9 c12
  go_region_law (refine step_copy_cells rfl (.tmp 43) (.tmp 51) 36 36 rfl 5 Tryf.underlying36 (by kernel_rfl) b 39 k 1024 ⟨b, 39 + p, none⟩ (1024 - p) (1024 - p) rfl rfl (bytesOfFn (fun j => f (p + j)) k) HL.out H2.out H3.out H4.out H5.out ?_; rw [bytesOfFn_length]; intro w4 hw4)
  have M : Mid B b (.int .i64 (offs + p)) w w4 := mid_of (f := fun j => f (p + j)) (k := k) H.out.nums.b1 H.out.c12 H.out.buf (by omega) (by rw [← HW.out]; exact hw4.out)
  have N := H.out.nums
  have b0 := N.b0; have b1 := N.b1; have b2 := N.b2
  have q0 : w4.cell? ⟨b, 0, none⟩ = some (.iface 81 (.pointer (some ⟨rb, 0, none⟩))) := (M.cell 0 (by omega) (by omega)).trans H.out.c0
  have q1 := (M.cell 1 (by omega) (by omega)).trans H.out.c1
  have q2 := (M.cell 2 (by omega) (by omega)).trans H.out.c2
  have q8 := (M.cell 8 (by omega) (by omega)).trans H.out.c8
  have q9 := (M.cell 9 (by omega) (by omega)).trans H.out.c9
  have qe : w4.cell? ⟨0, 0, none⟩ = some (.iface 133 (.pointer (some ea))) := (M.others 0 0 (by omega)).trans H.out.eof
  have z1 := (M.frozen b 1).trans fb1
  have z2 := (M.frozen b 2).trans fb2
  have z8 := (M.frozen b 8).trans fb8
  have z9 := (M.frozen b 9).trans fb9
  have hb0 : b ≠ 0 := by omega
  have v2 := eofV2 ea
  have v3 := eofV3 ea
  have hi := eofI
  have HM := Lib.hid M
  clear M N W0 W2 W8 fb1 fb2 fb8 fb9 fb12
  go_wp2
  go_step3
  go_wp2
  go_quiet (fail)
  go_wp2
  go_region_with (go_at_call 132; refine (read_endT H.out w4 _ _ HM.out.others).mono ?_; rintro e w1 ⟨rfl, q, rfl⟩)
  clear hm
  go_wp2
  rw [Exit.noGoto_ret]
  go_ret
  have M := HM.out
  exact ⟨rfl, eof_end H.out 0 (Nat.zero_le _) (below_drewN _ M.below) M.cell M.c12 M.others M.frozen (fun j hj => absurd hj (Nat.not_lt_zero j)) M.buf _ _⟩
end Go.Proofs.YtgcjaijakbejjaaFmt
