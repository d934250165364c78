/-
  DERIVED. Contracts of cloneBytesRulesB1 (14), ZZb1ValueRead (15, with 22 walked in place), ZZb1ValueNext (16). Not trusted: checked by the kernel.
-/
import Derived.Test.Qxb6001717aRows
import Derived.WalkKit
import Derived.ProofKit
import Derived.OpenShut
import Derived.Deep.QuietTactic
import Derived.BigQuiet
import Derived.Deep.LoopGhost
import Derived.Deep.OwnRows
import Derived.Lib.SliceRun
import Derived.Below
namespace Go.Proofs.Qxb6001717a.vread
open Go.ChangeShapes Go.WideShapes Go.ChangeAt Go.RowKit

theorem below_drewN {B : Nat} {a w : World} (h : Below B a w) (n : Nat) : Below B a (w.drewN n) := h.trans ⟨rfl, rfl, rfl, Nat.le_refl _, fun _ _ => rfl⟩

set_option maxHeartbeats 400000 in
theorem vr_zero (a : Option Addr) (cap : Nat) (st : Int) (w : World) :
    Calls Try.prog 15 #[.slice a 0 cap, .int .i64 st] w fun e w' => e = .returned (.int .i64 1) ∧ Below w.heap.size w w' := by
  go_enter Try.func15, Try.ntmps15
  go_wp2
  go_end0
  go_wp2
  go_ret
  exact ⟨rfl, (Below.refl _ _).alloc (Nat.le_refl _) _⟩

set_option maxHeartbeats 400000 in
theorem vr_arr (b off len cap : Nat) (st : Int) (w : World) (hl : 0 < len) (hl2 : len ≤ 1048576) (hc : w.cell? ⟨b, off + (len - 1), none⟩ = some (.int .u8 91)) :
    Calls Try.prog 15 #[.slice (some ⟨b, off, none⟩) len cap, .int .i64 st] w fun e w' => e = .returned (.int .i64 4) ∧ Below w.heap.size w w' := by
  have hb : b < w.heap.size := World.block_lt_of_cell? _ _ hc
  have h0 : ((len : Int) == 0) = false := by simp; omega
  go_enter Try.func15, Try.ntmps15
  go_wp2
  go_quiet (fail)
  go_wp2
  go_end0
  go_wp2
  go_ret
  exact ⟨rfl, (below_drewN ((Below.refl _ _).alloc (Nat.le_refl _) _) _).setCell (p := ⟨w.heap.size, 2, none⟩) (Nat.le_refl _) _⟩

set_option maxHeartbeats 400000 in
theorem vr_obj (b off len cap : Nat) (st x : Int) (w : World) (hl : 0 < len) (hl2 : len ≤ 1048576) (hc : w.cell? ⟨b, off + (len - 1), none⟩ = some (.int .u8 x)) (hx : (x == 91) = false) :
    Calls Try.prog 15 #[.slice (some ⟨b, off, none⟩) len cap, .int .i64 st] w fun e w' => e = .returned (.int .i64 9) ∧ Below w.heap.size w w' := by
  have hb : b < w.heap.size := World.block_lt_of_cell? _ _ hc
  have h0 : ((len : Int) == 0) = false := by simp; omega
  go_enter Try.func15, Try.ntmps15
  go_wp2
  go_quiet (fail)
  go_wp2
  go_end0
  go_wp2
  go_ret
  exact ⟨rfl, (below_drewN ((Below.refl _ _).alloc (Nat.le_refl _) _) _).setCell (p := ⟨w.heap.size, 2, none⟩) (Nat.le_refl _) _⟩

/-- The state that valueRead leaves over brackets whose innermost is x. -/
def stOf (x : Int) : Int := if x = 91 then 4 else 9
theorem stOf_cases (x : Int) : stOf x = 4 ∨ stOf x = 9 := by unfold stOf; split <;> simp

theorem vr_pos (b off len cap : Nat) (st x : Int) (w : World) (hl : 0 < len) (hl2 : len ≤ 1048576) (hc : w.cell? ⟨b, off + (len - 1), none⟩ = some (.int .u8 x)) :
    Calls Try.prog 15 #[.slice (some ⟨b, off, none⟩) len cap, .int .i64 st] w fun e w' => e = .returned (.int .i64 (stOf x)) ∧ Below w.heap.size w w' := by
  by_cases hx : x = 91
  · subst hx
    exact vr_arr b off len cap st w hl hl2 hc
  · have e : stOf x = 9 := by simp [stOf, hx]
    rw [e]
    exact vr_obj b off len cap st x w hl hl2 hc (by simpa using hx)

set_option maxHeartbeats 400000 in
theorem vn_any (st : Int) (w : World) (h : st = 1 ∨ st = 4 ∨ st = 9) :
    Calls Try.prog 16 #[.int .i64 st] w fun e w' => e = .returned (.bool false) ∧ Below w.heap.size w w' := by
  rcases h with rfl | rfl | rfl
  all_goals
    go_enter Try.func16, Try.ntmps16
    go_wp2
    go_ret
    exact ⟨rfl, (Below.refl _ _).alloc (Nat.le_refl _) _⟩

theorem info5 : (Try.prog.info? 5).map (fun i => (i.zero, i.size, i.bytes)) = some (some (.int .u8 0), 1, 1) := by kernel_rfl

/-- The clone's row, while it is filled: a row of bytes of its own. -/
def Bytes (wr : World) (b len : Nat) : Prop := ∃ f, wr.rowIs b 5 len f ∧ ∀ i, i < len → ∃ x, f i = .int .u8 x
theorem Bytes.set {wr : World} {b len : Nat} (h : Bytes wr b len) (k : Nat) (x : Int) : Bytes (wr.setCell ⟨b, k, none⟩ (.int .u8 x)) b len := by
  obtain ⟨f, hr, hf⟩ := h
  refine ⟨_, hr.set k (.int .u8 x), fun i hi => ?_⟩
  by_cases e : i = k
  · exact ⟨x, by simp [e]⟩
  · obtain ⟨y, hy⟩ := hf i hi
    exact ⟨y, by simp [e, hy]⟩
theorem Bytes.made (w : World) (n : Nat) : Bytes (w.alloc (.cells (madeCells #[.int .u8 0] n) 5)) w.heap.size n :=
  ⟨_, World.rowIs_made w (.int .u8 0) n 5, fun _ _ => ⟨0, rfl⟩⟩
theorem Bytes.cell {wr : World} {b len : Nat} (h : Bytes wr b len) {i : Nat} (hi : i < len) : ∃ x, wr.cell? ⟨b, i, none⟩ = some (.int .u8 x) := by
  obtain ⟨f, hr, hf⟩ := h
  obtain ⟨x, hx⟩ := hf i hi
  exact ⟨x, by rw [hr.cell hi, hx]⟩
theorem Bytes.frozen {wr : World} {b len : Nat} (h : Bytes wr b len) (i : Nat) : wr.frozen? ⟨b, i, none⟩ = false := by
  obtain ⟨f, hr, _⟩ := h
  exact hr.frozen i

set_option maxHeartbeats 400000 in
theorem clone_nil (w : World) :
    Calls Try.prog 14 #[.slice none 0 0] w fun e w' => e = .returned (.slice none 0 0) ∧ w' = w := by
  have hnil := fun w => Lib.run_eql_slice_nil (P := Try.prog) w 27 5 none 0 0 0 0 Try.underlying27
  go_enter Try.func14, Try.ntmps14
  go_wp2
  go_ret
  exact ⟨rfl, rfl⟩

set_option maxHeartbeats 1000000 in
theorem clone_pos (b off len cap : Nat) (zs : List Int) (w : World) (hl : len ≤ 1048576)
    (hc : ∀ i, i < len → w.cell? ⟨b, off + i, none⟩ = some (.int .u8 (zs.getD i 0))) :
    Calls Try.prog 14 #[.slice (some ⟨b, off, none⟩) len cap] w fun e w' => e = .returned (.slice (some ⟨w.heap.size, 0, none⟩) len len) ∧ Bytes w' w.heap.size len ∧ Below w.heap.size w w' := by
  have hnil := fun w => Lib.run_eql_slice_nil (P := Try.prog) w 27 5 (some ⟨b, off, none⟩) len cap 0 0 Try.underlying27
  have hmk := run_make_row' (P := Try.prog) 27 5 (.int .u8 0) 1 Try.underlying27 info5 rfl .i64 .i64 len (by omega) (by omega)
  go_enter Try.func14, Try.ntmps14
  go_wp2
  clear hnil hmk
  go_loopg [4] len (fun g i wr => ∃ k : Nat, Hid (g = len - k) ∧ k ≤ len ∧ i = .int .i64 k ∧ Bytes wr w.heap.size len ∧ Below w.heap.size w wr)
  case atStart => exact ⟨0, rfl, Nat.zero_le _, rfl, Bytes.made w len, (Below.refl _ _).alloc (Nat.le_refl _) _⟩
  case round =>
    obtain ⟨k, HG, hk, rfl, hB, hb⟩ := hrel
    by_cases hlt : k < len
    · have hlt' : (k : Int) < (len : Int) := by omega
      have g0 : wr.cell? ⟨b, off + k, none⟩ = some (.int .u8 (zs.getD k 0)) := by
        have h := hc k hlt
        rw [hb.cell (p := ⟨b, off + k, none⟩) (World.block_lt_of_cell? _ _ h)]; exact h
      obtain ⟨x, g1⟩ := hB.cell hlt
      have g2 := hB.frozen k
      have HB : Hid (Bytes wr w.heap.size len) := hB
      clear hc hB
      go_wp2
      go_roundg (len - (k + 1))
      case measure => have := HG.out; omega
      case rel => exact ⟨k + 1, rfl, by omega, by go_num, HB.out.set k _, hb.setCell (p := ⟨w.heap.size, k, none⟩) (Nat.le_refl _) _⟩
    · go_wp2
      go_ret
      exact ⟨rfl, hB, hb⟩

set_option maxHeartbeats 400000 in
theorem clone_zero (a : Addr) (cap : Nat) (w : World) :
    Calls Try.prog 14 #[.slice (some a) 0 cap] w fun e w' => e = .returned (.slice (some ⟨w.heap.size, 0, none⟩) 0 0) ∧ Below w.heap.size w w' := by
  have hnil := fun w => Lib.run_eql_slice_nil (P := Try.prog) w 27 5 (some a) 0 cap 0 0 Try.underlying27
  have hmk : ∀ w, (Instr.makeSlice 27 (.int .i64 0) (.int .i64 0)).run Try.prog w = .ok (.slice (some ⟨w.heap.size, 0, none⟩) 0 0) (w.alloc (.cells (madeCells #[.int .u8 0] 0) 5)) :=
    fun w => run_make_row' (P := Try.prog) 27 5 (.int .u8 0) 1 Try.underlying27 info5 rfl .i64 .i64 0 (by omega) (by omega) w
  go_enter Try.func14, Try.ntmps14
  go_wp2
  clear hnil hmk
  go_loopg [4] 0 (fun _ i wr => i = .int .i64 0 ∧ Below w.heap.size w wr)
  case atStart => exact ⟨rfl, (Below.refl _ _).alloc (Nat.le_refl _) _⟩
  case round =>
    obtain ⟨rfl, hb⟩ := hrel
    go_wp2
    go_ret
    exact ⟨rfl, hb⟩

/-- A slice of bytes that came in: nil, or empty, or a row of cells. -/
def RowIn (w : World) (a : Option Addr) (len cap : Nat) : Prop :=
  (a = none ∧ len = 0 ∧ cap = 0) ∨ (∃ x, a = some x ∧ len = 0) ∨ ∃ (b off : Nat) (zs : List Int), a = some ⟨b, off, none⟩ ∧ 0 < len ∧ ∀ i, i < len → w.cell? ⟨b, off + i, none⟩ = some (.int .u8 (zs.getD i 0))

/-- What cloneBytes hands back: nothing in it, or a last byte in a block of the call's own. -/
def CloneOk (w' : World) (a' : Option Addr) (len cap' : Nat) : Prop :=
  (len = 0 ∧ cap' = 0) ∨ (0 < len ∧ cap' = len ∧ ∃ b x, a' = some ⟨b, 0, none⟩ ∧ w'.cell? ⟨b, len - 1, none⟩ = some (.int .u8 x))

theorem clone_any (a : Option Addr) (len cap : Nat) (w : World) (hl : len ≤ 1048576) (h : RowIn w a len cap) :
    Calls Try.prog 14 #[.slice a len cap] w fun e w' => ∃ a' cap', e = .returned (.slice a' len cap') ∧ CloneOk w' a' len cap' ∧ Below w.heap.size w w' := by
  rcases h with ⟨rfl, rfl, rfl⟩ | ⟨x, rfl, rfl⟩ | ⟨b, off, zs, rfl, hp, hc⟩
  · refine (clone_nil w).mono ?_
    rintro e w' ⟨rfl, rfl⟩
    exact ⟨_, _, rfl, Or.inl ⟨rfl, rfl⟩, Below.refl _ _⟩
  · refine (clone_zero x cap w).mono ?_
    rintro e w' ⟨rfl, hb⟩
    exact ⟨_, _, rfl, Or.inl ⟨rfl, rfl⟩, hb⟩
  · refine (clone_pos b off len cap zs w hl hc).mono ?_
    rintro e w' ⟨rfl, hB, hb⟩
    obtain ⟨x, hx⟩ := hB.cell (i := len - 1) (by omega)
    exact ⟨_, _, rfl, Or.inr ⟨hp, rfl, _, x, rfl, hx⟩, hb⟩
end Go.Proofs.Qxb6001717a.vread
