/-
  DERIVED. Contracts of cureOfRulesB1 (18), (*Cure).period (24), ZZb1Period (19), each at the exact world. Not trusted: checked by the kernel.
-/
import Derived.Test.Qxb6001717aRows
import Derived.WalkKit
import Derived.ProofKit
import Derived.OpenShut
import Derived.RegionTactic
import Derived.ChangeAlike
namespace Go.Proofs.Qxb6001717a.period
open Go.ChangeShapes Go.WideShapes Go.ChangeAt Go.RowKit

set_option maxHeartbeats 400000 in
theorem cure_tf (t k : Int) (w : World) :
    Calls Try.prog 18 #[.bool true, .int .i64 t, .bool false, .int .i64 k] w fun e w' =>
      e = .returned (.pointer (some ⟨w.heap.size, 0, none⟩))
      ∧ w' = (w.alloc (.cells #[.pointer (some ⟨w.heap.size + 1, 0, none⟩), .pointer none] 51)).alloc (.cells #[.int .i64 t] 52) := by
  go_enter Try.func18, Try.ntmps18
  go_wp2
  go_ret
  exact ⟨rfl, rfl⟩

set_option maxHeartbeats 400000 in
theorem cure_tt (t k : Int) (w : World) :
    Calls Try.prog 18 #[.bool true, .int .i64 t, .bool true, .int .i64 k] w fun e w' =>
      e = .returned (.pointer (some ⟨w.heap.size, 0, none⟩))
      ∧ w' = ((w.alloc (.cells #[.pointer (some ⟨w.heap.size + 1, 0, none⟩), .pointer (some ⟨w.heap.size + 2, 0, none⟩)] 51)).alloc (.cells #[.int .i64 t] 52)).alloc (.cells #[.int .i64 k] 53) := by
  go_enter Try.func18, Try.ntmps18
  go_wp2
  go_ret
  exact ⟨rfl, rfl⟩

set_option maxHeartbeats 400000 in
theorem cure_ft (t k : Int) (w : World) :
    Calls Try.prog 18 #[.bool false, .int .i64 t, .bool true, .int .i64 k] w fun e w' =>
      e = .returned (.pointer (some ⟨w.heap.size, 0, none⟩))
      ∧ w' = (w.alloc (.cells #[.pointer none, .pointer (some ⟨w.heap.size + 1, 0, none⟩)] 51)).alloc (.cells #[.int .i64 k] 53) := by
  go_enter Try.func18, Try.ntmps18
  go_wp2
  go_ret
  exact ⟨rfl, rfl⟩

set_option maxHeartbeats 400000 in
theorem cure_ff (t k : Int) (w : World) :
    Calls Try.prog 18 #[.bool false, .int .i64 t, .bool false, .int .i64 k] w fun e w' =>
      e = .returned (.pointer (some ⟨w.heap.size, 0, none⟩))
      ∧ w' = w.alloc (.cells #[.pointer none, .pointer none] 51) := by
  go_enter Try.func18, Try.ntmps18
  go_wp2
  go_ret
  exact ⟨rfl, rfl⟩

set_option maxHeartbeats 400000 in
theorem period_t (b c : Nat) (t : Int) (w : World) (hb : b < w.heap.size) (hc : c < w.heap.size)
    (h0 : w.cell? ⟨b, 0, none⟩ = some (.pointer (some ⟨c, 0, none⟩))) (h1 : w.cell? ⟨c, 0, none⟩ = some (.int .i64 t)) :
    Calls Try.prog 24 #[.pointer (some ⟨b, 0, none⟩)] w fun e w' =>
      e = .returned (.tuple #[.agg #[.int .i64 t, .bool false, .bool false], .bool true])
      ∧ w' = w.alloc (.cells #[.int .i64 t, .bool false, .bool false] 35) := by
  go_enter Try.func24, Try.ntmps24
  go_wp2
  exact bodyPost_ret (v := .tuple #[.agg #[.int .i64 t, .bool false, .bool false], .bool true]) (by simp [results, Try.results24, go_sem]) rfl ⟨rfl, rfl⟩

set_option maxHeartbeats 400000 in
theorem period_w (b c : Nat) (t : Int) (w : World) (hb : b < w.heap.size) (hc : c < w.heap.size)
    (h0 : w.cell? ⟨b, 0, none⟩ = some (.pointer none)) (h1 : w.cell? ⟨b, 1, none⟩ = some (.pointer (some ⟨c, 0, none⟩))) (h2 : w.cell? ⟨c, 0, none⟩ = some (.int .i64 t)) :
    Calls Try.prog 24 #[.pointer (some ⟨b, 0, none⟩)] w fun e w' =>
      e = .returned (.tuple #[.agg #[.int .i64 t, .bool (decide (0 < t)), .bool false], .bool true])
      ∧ w' = (w.alloc (.cells #[.int .i64 t, .bool (decide (0 < t)), .bool false] 35)).drew := by
  go_enter Try.func24, Try.ntmps24
  go_wp2
  go_region
  all_goals go_wp2
  exact bodyPost_ret (v := .tuple #[.agg #[.int .i64 t, .bool (decide (0 < t)), .bool false], .bool true]) (by simp [results, Try.results24, go_sem]) rfl ⟨rfl, rfl⟩

set_option maxHeartbeats 400000 in
theorem period_n (b : Nat) (w : World) (hb : b < w.heap.size)
    (h0 : w.cell? ⟨b, 0, none⟩ = some (.pointer none)) (h1 : w.cell? ⟨b, 1, none⟩ = some (.pointer none)) :
    Calls Try.prog 24 #[.pointer (some ⟨b, 0, none⟩)] w fun e w' =>
      e = .returned (.tuple #[.agg #[.int .i64 0, .bool false, .bool false], .bool false])
      ∧ w' = w.alloc (.cells #[.int .i64 0, .bool false, .bool false] 35) := by
  go_enter Try.func24, Try.ntmps24
  go_wp2
  exact bodyPost_ret (v := .tuple #[.agg #[.int .i64 0, .bool false, .bool false], .bool false]) (by simp [results, Try.results24, go_sem]) rfl ⟨rfl, rfl⟩

set_option maxHeartbeats 400000 in
theorem zz_t (b c : Nat) (t : Int) (w : World) (hb : b < w.heap.size) (hc : c < w.heap.size)
    (h0 : w.cell? ⟨b, 0, none⟩ = some (.pointer (some ⟨c, 0, none⟩))) (h1 : w.cell? ⟨c, 0, none⟩ = some (.int .i64 t)) :
    Calls Try.prog 19 #[.pointer (some ⟨b, 0, none⟩)] w fun e w' =>
      e = .returned (.tuple #[.agg #[.int .i64 t, .bool false, .bool false], .bool true])
      ∧ w' = (w.alloc (.cells #[.int .i64 t, .bool false, .bool false] 35)).alloc (.cells #[.int .i64 t, .bool false, .bool false] 35) := by
  go_enter Try.func19, Try.ntmps19
  go_wp2_with fail
  refine (period_t b c t _ (by simp; omega) (by simp; omega) (by go_simp) (by go_simp)).mono ?_
  rintro e w' ⟨rfl, rfl⟩
  go_wp2
  exact bodyPost_ret (v := .tuple #[.agg #[.int .i64 t, .bool false, .bool false], .bool true]) (by simp [results, Try.results19, go_sem]) rfl ⟨rfl, rfl⟩

set_option maxHeartbeats 400000 in
theorem zz_w (b c : Nat) (t : Int) (w : World) (hb : b < w.heap.size) (hc : c < w.heap.size)
    (h0 : w.cell? ⟨b, 0, none⟩ = some (.pointer none)) (h1 : w.cell? ⟨b, 1, none⟩ = some (.pointer (some ⟨c, 0, none⟩))) (h2 : w.cell? ⟨c, 0, none⟩ = some (.int .i64 t)) :
    Calls Try.prog 19 #[.pointer (some ⟨b, 0, none⟩)] w fun e w' =>
      e = .returned (.tuple #[.agg #[.int .i64 t, .bool (decide (0 < t)), .bool false], .bool true])
      ∧ w' = ((w.alloc (.cells #[.int .i64 t, .bool (decide (0 < t)), .bool false] 35)).alloc (.cells #[.int .i64 t, .bool (decide (0 < t)), .bool false] 35)).drew := by
  go_enter Try.func19, Try.ntmps19
  go_wp2_with fail
  refine (period_w b c t _ (by simp; omega) (by simp; omega) (by go_simp) (by go_simp) (by go_simp)).mono ?_
  rintro e w' ⟨rfl, rfl⟩
  go_wp2
  exact bodyPost_ret (v := .tuple #[.agg #[.int .i64 t, .bool (decide (0 < t)), .bool false], .bool true]) (by simp [results, Try.results19, go_sem]) rfl ⟨rfl, rfl⟩

set_option maxHeartbeats 400000 in
theorem zz_n (b : Nat) (w : World) (hb : b < w.heap.size)
    (h0 : w.cell? ⟨b, 0, none⟩ = some (.pointer none)) (h1 : w.cell? ⟨b, 1, none⟩ = some (.pointer none)) :
    Calls Try.prog 19 #[.pointer (some ⟨b, 0, none⟩)] w fun e w' =>
      e = .returned (.tuple #[.agg #[.int .i64 0, .bool false, .bool false], .bool false])
      ∧ w' = (w.alloc (.cells #[.int .i64 0, .bool false, .bool false] 35)).alloc (.cells #[.int .i64 0, .bool false, .bool false] 35) := by
  go_enter Try.func19, Try.ntmps19
  go_wp2_with fail
  refine (period_n b _ (by simp; omega) (by go_simp) (by go_simp)).mono ?_
  rintro e w' ⟨rfl, rfl⟩
  go_wp2
  exact bodyPost_ret (v := .tuple #[.agg #[.int .i64 0, .bool false, .bool false], .bool false]) (by simp [results, Try.results19, go_sem]) rfl ⟨rfl, rfl⟩

end Go.Proofs.Qxb6001717a.period
