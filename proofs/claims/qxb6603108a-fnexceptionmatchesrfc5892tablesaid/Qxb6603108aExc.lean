/-
  DERIVED. Contracts of exception (25), ZZException (21), zzExceptionRange (22): the table of 16 ranges as plain functions lo, hi, cls. Not trusted: checked by the kernel.
-/
import Derived.Test.Qxb6603108aRows
import Derived.WalkKit
import Derived.ProofKit
import Derived.OpenShut
import Derived.Deep.LoopGhost
import Derived.Below
namespace Go.Proofs.Qxb6603108a.exc
open Go.ChangeShapes Go.WideShapes Go.ChangeAt Go.RowKit

/-- The table: its ranges' first and last code points, and the answer for each. -/
def lo (i : Nat) : Int := [183, 223, 885, 962, 1523, 1600, 1632, 1776, 1789, 2042, 3851, 12295, 12334, 12337, 12347, 12539].getD i 0
def hi (i : Nat) : Int := [183, 223, 885, 962, 1524, 1600, 1641, 1785, 1790, 2042, 3851, 12295, 12335, 12341, 12347, 12539].getD i 0
def cls (i : Nat) : Int := [2, 0, 2, 0, 2, 3, 2, 2, 0, 3, 0, 0, 3, 3, 3, 2].getD i 0
/-- What exception must answer at r: the answer of r's range, or nothing. -/
structure Exc (r p : Int) (ok : Bool) : Prop where
  yes : ∀ i, i < 16 → lo i ≤ r → r ≤ hi i → ok = true ∧ p = cls i
  no : (∀ i, i < 16 → lo i ≤ r → ¬ r ≤ hi i) → ok = false ∧ p = 0

theorem sixteen {i : Nat} (h : i < 16) : i = 0 ∨ i = 1 ∨ i = 2 ∨ i = 3 ∨ i = 4 ∨ i = 5 ∨ i = 6 ∨ i = 7 ∨ i = 8 ∨ i = 9 ∨ i = 10 ∨ i = 11 ∨ i = 12 ∨ i = 13 ∨ i = 14 ∨ i = 15 := by omega

theorem exc_lit (r p : Int) (i : Nat) (hi' : i < 16) (h1 : lo i ≤ r) (h2 : r ≤ hi i) (hp : p = cls i) : Exc r p true := by
  constructor
  · intro j hj a b
    refine ⟨rfl, ?_⟩
    rcases sixteen hi' with rfl | rfl | rfl | rfl | rfl | rfl | rfl | rfl | rfl | rfl | rfl | rfl | rfl | rfl | rfl | rfl <;> rcases sixteen hj with rfl | rfl | rfl | rfl | rfl | rfl | rfl | rfl | rfl | rfl | rfl | rfl | rfl | rfl | rfl | rfl <;> simp [lo, hi, cls] at * <;> omega
  · intro h
    exact absurd h2 (h i hi' h1)

theorem exc_none (r : Int) (h : ∀ i, i < 16 → lo i ≤ r → ¬ r ≤ hi i) : Exc r 0 false :=
  ⟨fun i hi' a b => absurd b (h i hi' a), fun _ => ⟨rfl, rfl⟩⟩

set_option maxHeartbeats 4000000 in
theorem range_any (i : Nat) (w : World) (h : i < 16) :
    Calls Try.prog 22 #[.int .i64 i] w fun e w' => e = .returned (.tuple #[.int .i32 (lo i), .int .i32 (hi i), .int .i64 (cls i)]) ∧ w' = w := by
  rcases sixteen h with rfl | rfl | rfl | rfl | rfl | rfl | rfl | rfl | rfl | rfl | rfl | rfl | rfl | rfl | rfl | rfl
  · show Calls Try.prog 22 #[.int .i64 0] w _
    go_enter Try.func22, Try.ntmps22
    go_wp2
    go_ret3
    exact ⟨rfl, rfl⟩
  · show Calls Try.prog 22 #[.int .i64 1] w _
    go_enter Try.func22, Try.ntmps22
    go_wp2
    go_ret3
    exact ⟨rfl, rfl⟩
  · show Calls Try.prog 22 #[.int .i64 2] w _
    go_enter Try.func22, Try.ntmps22
    go_wp2
    go_ret3
    exact ⟨rfl, rfl⟩
  · show Calls Try.prog 22 #[.int .i64 3] w _
    go_enter Try.func22, Try.ntmps22
    go_wp2
    go_ret3
    exact ⟨rfl, rfl⟩
  · show Calls Try.prog 22 #[.int .i64 4] w _
    go_enter Try.func22, Try.ntmps22
    go_wp2
    go_ret3
    exact ⟨rfl, rfl⟩
  · show Calls Try.prog 22 #[.int .i64 5] w _
    go_enter Try.func22, Try.ntmps22
    go_wp2
    go_ret3
    exact ⟨rfl, rfl⟩
  · show Calls Try.prog 22 #[.int .i64 6] w _
    go_enter Try.func22, Try.ntmps22
    go_wp2
    go_ret3
    exact ⟨rfl, rfl⟩
  · show Calls Try.prog 22 #[.int .i64 7] w _
    go_enter Try.func22, Try.ntmps22
    go_wp2
    go_ret3
    exact ⟨rfl, rfl⟩
  · show Calls Try.prog 22 #[.int .i64 8] w _
    go_enter Try.func22, Try.ntmps22
    go_wp2
    go_ret3
    exact ⟨rfl, rfl⟩
  · show Calls Try.prog 22 #[.int .i64 9] w _
    go_enter Try.func22, Try.ntmps22
    go_wp2
    go_ret3
    exact ⟨rfl, rfl⟩
  · show Calls Try.prog 22 #[.int .i64 10] w _
    go_enter Try.func22, Try.ntmps22
    go_wp2
    go_ret3
    exact ⟨rfl, rfl⟩
  · show Calls Try.prog 22 #[.int .i64 11] w _
    go_enter Try.func22, Try.ntmps22
    go_wp2
    go_ret3
    exact ⟨rfl, rfl⟩
  · show Calls Try.prog 22 #[.int .i64 12] w _
    go_enter Try.func22, Try.ntmps22
    go_wp2
    go_ret3
    exact ⟨rfl, rfl⟩
  · show Calls Try.prog 22 #[.int .i64 13] w _
    go_enter Try.func22, Try.ntmps22
    go_wp2
    go_ret3
    exact ⟨rfl, rfl⟩
  · show Calls Try.prog 22 #[.int .i64 14] w _
    go_enter Try.func22, Try.ntmps22
    go_wp2
    go_ret3
    exact ⟨rfl, rfl⟩
  · show Calls Try.prog 22 #[.int .i64 15] w _
    go_enter Try.func22, Try.ntmps22
    go_wp2
    go_ret3
    exact ⟨rfl, rfl⟩

set_option maxHeartbeats 4000000 in
theorem callA (r : Int) (w : World) (h : r = 223 ∨ r = 962 ∨ r = 1789 ∨ r = 1790 ∨ r = 3851 ∨ r = 12295) :
    Calls Try.prog 25 #[.int .i32 r] w fun e w' => e = .returned (.tuple #[.int .i64 0, .bool true]) ∧ w' = w := by
  rcases h with rfl | rfl | rfl | rfl | rfl | rfl
  all_goals
    go_enter Try.func25, Try.ntmps25
    go_wp2
    go_ret2
    exact ⟨rfl, rfl⟩

set_option maxHeartbeats 4000000 in
theorem callB (r : Int) (w : World) (h : r = 183 ∨ r = 885 ∨ r = 1523 ∨ r = 1524 ∨ r = 12539) :
    Calls Try.prog 25 #[.int .i32 r] w fun e w' => e = .returned (.tuple #[.int .i64 2, .bool true]) ∧ w' = w := by
  rcases h with rfl | rfl | rfl | rfl | rfl
  all_goals
    go_enter Try.func25, Try.ntmps25
    go_wp2
    go_ret2
    exact ⟨rfl, rfl⟩

set_option maxHeartbeats 4000000 in
theorem callC (r : Int) (w : World) (h : r = 1600 ∨ r = 2042 ∨ r = 12334 ∨ r = 12335 ∨ r = 12337 ∨ r = 12338 ∨ r = 12339 ∨ r = 12340 ∨ r = 12341 ∨ r = 12347) :
    Calls Try.prog 25 #[.int .i32 r] w fun e w' => e = .returned (.tuple #[.int .i64 3, .bool true]) ∧ w' = w := by
  rcases h with rfl | rfl | rfl | rfl | rfl | rfl | rfl | rfl | rfl | rfl
  all_goals
    go_enter Try.func25, Try.ntmps25
    go_wp2
    go_ret2
    exact ⟨rfl, rfl⟩

set_option maxHeartbeats 4000000 in
theorem callR (r : Int) (w : World) (h : (1632 ≤ r ∧ r ≤ 1641) ∨ (1776 ≤ r ∧ r ≤ 1785)) :
    Calls Try.prog 25 #[.int .i32 r] w fun e w' => e = .returned (.tuple #[.int .i64 2, .bool true]) ∧ w' = w := by
  have n183 : (r == 183) = false := by simp; omega
  have n223 : (r == 223) = false := by simp; omega
  have n885 : (r == 885) = false := by simp; omega
  have n962 : (r == 962) = false := by simp; omega
  have n1523 : (r == 1523) = false := by simp; omega
  have n1524 : (r == 1524) = false := by simp; omega
  have n1600 : (r == 1600) = false := by simp; omega
  have n1789 : (r == 1789) = false := by simp; omega
  have n1790 : (r == 1790) = false := by simp; omega
  have n2042 : (r == 2042) = false := by simp; omega
  have n3851 : (r == 3851) = false := by simp; omega
  have n12295 : (r == 12295) = false := by simp; omega
  have n12334 : (r == 12334) = false := by simp; omega
  have n12335 : (r == 12335) = false := by simp; omega
  have n12337 : (r == 12337) = false := by simp; omega
  have n12338 : (r == 12338) = false := by simp; omega
  have n12339 : (r == 12339) = false := by simp; omega
  have n12340 : (r == 12340) = false := by simp; omega
  have n12341 : (r == 12341) = false := by simp; omega
  have n12347 : (r == 12347) = false := by simp; omega
  have n12539 : (r == 12539) = false := by simp; omega
  rcases h with ⟨h1, h2⟩ | ⟨h1, h2⟩
  · go_enter Try.func25, Try.ntmps25
    go_wp2
    go_ret2
    exact ⟨rfl, rfl⟩
  · have h3 : ¬ r ≤ 1641 := by omega
    have h4 : 1632 ≤ r := by omega
    go_enter Try.func25, Try.ntmps25
    go_wp2
    go_ret2
    exact ⟨rfl, rfl⟩

set_option maxHeartbeats 4000000 in
theorem callN (r : Int) (w : World) (n183 : (r == 183) = false) (n223 : (r == 223) = false) (n885 : (r == 885) = false) (n962 : (r == 962) = false) (n1523 : (r == 1523) = false) (n1524 : (r == 1524) = false) (n1600 : (r == 1600) = false) (n1789 : (r == 1789) = false) (n1790 : (r == 1790) = false) (n2042 : (r == 2042) = false) (n3851 : (r == 3851) = false) (n12295 : (r == 12295) = false) (n12334 : (r == 12334) = false) (n12335 : (r == 12335) = false) (n12337 : (r == 12337) = false) (n12338 : (r == 12338) = false) (n12339 : (r == 12339) = false) (n12340 : (r == 12340) = false) (n12341 : (r == 12341) = false) (n12347 : (r == 12347) = false) (n12539 : (r == 12539) = false) (h1 : ¬ (1632 ≤ r ∧ r ≤ 1641)) (h2 : ¬ (1776 ≤ r ∧ r ≤ 1785)) :
    Calls Try.prog 25 #[.int .i32 r] w fun e w' => e = .returned (.tuple #[.int .i64 0, .bool false]) ∧ w' = w := by
  by_cases c1 : 1632 ≤ r
  · have c2 : ¬ r ≤ 1641 := fun h => h1 ⟨c1, h⟩
    by_cases c3 : 1776 ≤ r
    · have c4 : ¬ r ≤ 1785 := fun h => h2 ⟨c3, h⟩
      clear h1 h2
      go_enter Try.func25, Try.ntmps25
      go_wp2
      go_ret2
      exact ⟨rfl, rfl⟩
    · clear h1 h2
      go_enter Try.func25, Try.ntmps25
      go_wp2
      go_ret2
      exact ⟨rfl, rfl⟩
  · have c3 : ¬ 1776 ≤ r := by omega
    clear h1 h2
    go_enter Try.func25, Try.ntmps25
    go_wp2
    go_ret2
    exact ⟨rfl, rfl⟩

theorem exc_any (r : Int) : ∃ p ok, Exc r p ok ∧ ∀ w, Calls Try.prog 25 #[.int .i32 r] w fun e w' => e = .returned (.tuple #[.int .i64 p, .bool ok]) ∧ w' = w := by
  by_cases hA : r = 223 ∨ r = 962 ∨ r = 1789 ∨ r = 1790 ∨ r = 3851 ∨ r = 12295
  · refine ⟨0, true, ?_, fun w => callA r w hA⟩
    rcases hA with rfl | rfl | rfl | rfl | rfl | rfl
    · exact exc_lit 223 0 1 (by decide) (by decide) (by decide) rfl
    · exact exc_lit 962 0 3 (by decide) (by decide) (by decide) rfl
    · exact exc_lit 1789 0 8 (by decide) (by decide) (by decide) rfl
    · exact exc_lit 1790 0 8 (by decide) (by decide) (by decide) rfl
    · exact exc_lit 3851 0 10 (by decide) (by decide) (by decide) rfl
    · exact exc_lit 12295 0 11 (by decide) (by decide) (by decide) rfl
  by_cases hB : r = 183 ∨ r = 885 ∨ r = 1523 ∨ r = 1524 ∨ r = 12539
  · refine ⟨2, true, ?_, fun w => callB r w hB⟩
    rcases hB with rfl | rfl | rfl | rfl | rfl
    · exact exc_lit 183 2 0 (by decide) (by decide) (by decide) rfl
    · exact exc_lit 885 2 2 (by decide) (by decide) (by decide) rfl
    · exact exc_lit 1523 2 4 (by decide) (by decide) (by decide) rfl
    · exact exc_lit 1524 2 4 (by decide) (by decide) (by decide) rfl
    · exact exc_lit 12539 2 15 (by decide) (by decide) (by decide) rfl
  by_cases hC : r = 1600 ∨ r = 2042 ∨ r = 12334 ∨ r = 12335 ∨ r = 12337 ∨ r = 12338 ∨ r = 12339 ∨ r = 12340 ∨ r = 12341 ∨ r = 12347
  · refine ⟨3, true, ?_, fun w => callC r w hC⟩
    rcases hC with rfl | rfl | rfl | rfl | rfl | rfl | rfl | rfl | rfl | rfl
    · exact exc_lit 1600 3 5 (by decide) (by decide) (by decide) rfl
    · exact exc_lit 2042 3 9 (by decide) (by decide) (by decide) rfl
    · exact exc_lit 12334 3 12 (by decide) (by decide) (by decide) rfl
    · exact exc_lit 12335 3 12 (by decide) (by decide) (by decide) rfl
    · exact exc_lit 12337 3 13 (by decide) (by decide) (by decide) rfl
    · exact exc_lit 12338 3 13 (by decide) (by decide) (by decide) rfl
    · exact exc_lit 12339 3 13 (by decide) (by decide) (by decide) rfl
    · exact exc_lit 12340 3 13 (by decide) (by decide) (by decide) rfl
    · exact exc_lit 12341 3 13 (by decide) (by decide) (by decide) rfl
    · exact exc_lit 12347 3 14 (by decide) (by decide) (by decide) rfl
  by_cases hR : (1632 ≤ r ∧ r ≤ 1641) ∨ (1776 ≤ r ∧ r ≤ 1785)
  · refine ⟨2, true, ?_, fun w => callR r w hR⟩
    rcases hR with ⟨h1, h2⟩ | ⟨h1, h2⟩
    · exact exc_lit r 2 6 (by decide) h1 h2 rfl
    · exact exc_lit r 2 7 (by decide) h1 h2 rfl
  refine ⟨0, false, exc_none r ?_, fun w => callN r w (by simp; omega) (by simp; omega) (by simp; omega) (by simp; omega) (by simp; omega) (by simp; omega) (by simp; omega) (by simp; omega) (by simp; omega) (by simp; omega) (by simp; omega) (by simp; omega) (by simp; omega) (by simp; omega) (by simp; omega) (by simp; omega) (by simp; omega) (by simp; omega) (by simp; omega) (by simp; omega) (by simp; omega) (by omega) (by omega)⟩
  intro i hi' a b
  rcases sixteen hi' with rfl | rfl | rfl | rfl | rfl | rfl | rfl | rfl | rfl | rfl | rfl | rfl | rfl | rfl | rfl | rfl <;> simp [lo, hi] at * <;> omega

set_option maxHeartbeats 400000 in
theorem zz_any (r : Int) (w : World) : ∃ p ok, Exc r p ok ∧ Calls Try.prog 21 #[.int .i32 r] w fun e w' => e = .returned (.tuple #[.int .i64 p, .bool ok]) ∧ w' = w := by
  obtain ⟨p, ok, hx, hc⟩ := exc_any r
  refine ⟨p, ok, hx, ?_⟩
  have H : Hid (∀ w, Calls Try.prog 25 #[.int .i32 r] w fun e w' => e = .returned (.tuple #[.int .i64 p, .bool ok]) ∧ w' = w) := hc
  clear hc hx
  go_enter Try.func21, Try.ntmps21
  go_wp2_with fail
  refine (H.out _).mono ?_
  rintro e w' ⟨rfl, rfl⟩
  go_wp2_with fail
  go_ret2
  exact ⟨rfl, rfl⟩
end Go.Proofs.Qxb6603108a.exc
