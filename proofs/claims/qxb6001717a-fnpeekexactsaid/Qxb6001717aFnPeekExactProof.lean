/-
  DERIVED. The proof of Rows.FnPeekExactSaid of seat b6001717a: the frame is the shell written by program; the walk is typed by hand. Not trusted: checked by the kernel.
-/
import Derived.Test.Qxb6001717aRows
import Derived.WalkKit
import Derived.ProofKit
import Derived.OpenShut
import Derived.ShutString
import Derived.Test.Qxb6001717aPeek
namespace Go.Proofs.Qxb6001717a.fnPeekExact
open Go.ChangeShapes Go.WideShapes Go.ChangeAt Go.RowKit
open Go.ChangeMaps (open_string shut_string)
set_option linter.unusedVariables false      -- a walk need not use every 'w<i>' (that an integer argument fits its kind)

theorem own : ownKnob Try.prog.godebug = none := by kernel_rfl

/-! ### STEP 1: THE WALK: the Go text returns true. 'Grown w w'': the world has at most new blocks (Derived/RowKit3.lean). Part the cases AHEAD of 'go_enter' where a test parts the walk; take each callee by a contract of your own. -/
open peek
set_option maxHeartbeats 400000 in
theorem walk_long (s : ByteArray) (n : Int) (w : World) (hs : s.size ≤ 9223372036854775807) (h : 1048576 < s.size) :
    Calls Try.prog 3 #[.string s, .int .i64 n] w fun e w' => e = .returned (.bool true) ∧ Grown w w' := by
  go_enter Try.func3, Try.ntmps3
  go_wp2
  go_ret
  exact ⟨rfl, Grown.refl _⟩

set_option maxHeartbeats 400000 in
theorem walk_neg (s : ByteArray) (n : Int) (w : World) (h : s.size ≤ 1048576) (hn : n < 0) :
    Calls Try.prog 3 #[.string s, .int .i64 n] w fun e w' => e = .returned (.bool true) ∧ Grown w w' := by
  go_enter Try.func3, Try.ntmps3
  go_wp2
  go_ret
  exact ⟨rfl, Grown.refl _⟩

set_option maxHeartbeats 400000 in
theorem bytes9 (s : ByteArray) (n : Int) (w : World) (h : s.size ≤ 1048576) :
    Calls Try.prog 9 #[.string s, .int .i64 n] w fun e w' => e = .returned (.bool true) ∧ w' = w := by
  go_enter Try.func9, Try.ntmps9
  go_wp2
  go_ret
  exact ⟨rfl, rfl⟩

set_option maxHeartbeats 1000000 in
theorem walk_far (s : ByteArray) (n : Nat) (w : World) (h : s.size ≤ 1048576) (hn : s.size ≤ n) (hn2 : n ≤ 9223372036854775807) :
    Calls Try.prog 3 #[.string s, .int .i64 n] w fun e w' => e = .returned (.bool true) ∧ Grown w w' := by
  go_enter Try.func3, Try.ntmps3
  go_wp2_with fail
  refine (bytes9 s n w h).mono ?_
  rintro e w' ⟨rfl, rfl⟩
  go_wp2_with fail
  refine (zzpeek_any s n w' _ h (Grown.refl _)).mono ?_
  rintro e w1 ⟨m, c, ok, ho, rfl, hg⟩
  obtain ⟨le, -, en⟩ := ho
  rcases en with ⟨_, hm, _⟩ | ⟨rfl, rfl, hm, hmn⟩
  · omega
  · obtain rfl : m = n := by omega
    clear le hm hmn
    go_wp2
    go_ret
    exact ⟨rfl, hg⟩
set_option maxHeartbeats 1000000 in
theorem walk_in (s : ByteArray) (n : Nat) (w : World) (h : s.size ≤ 1048576) (hn : n < s.size) :
    Calls Try.prog 3 #[.string s, .int .i64 n] w fun e w' => e = .returned (.bool true) ∧ Grown w w' := by
  go_enter Try.func3, Try.ntmps3
  go_wp2_with fail
  refine (bytes9 s n w h).mono ?_
  rintro e w' ⟨rfl, rfl⟩
  go_wp2_with fail
  refine (zzpeek_any s n w' _ h (Grown.refl _)).mono ?_
  rintro e w1 ⟨m, c, ok, ho, rfl, hg⟩
  obtain ⟨le, hsp, en⟩ := ho
  have HS : Hid (∀ i, n ≤ i → i < m → Sp s i) := hsp
  clear hsp
  rcases en with ⟨rfl, hm, rfl, hno⟩ | ⟨rfl, rfl, hm, hmn⟩
  · have d1 : ¬ m < n := by omega
    have d2 : ¬ s.size < m := by omega
    have d3 : ¬ s.size ≤ n := by omega
    go_wp2_with fail
    go_loopg [8] (m - n) (fun g i wr => ∃ k : Nat, Hid (g = m - k) ∧ n ≤ k ∧ k ≤ m ∧ i = .int .i64 k ∧ Grown w' wr)
    case atStart => exact ⟨n, rfl, Nat.le_refl _, le, rfl, hg⟩
    case round =>
      clear hg
      obtain ⟨k, HG, hk1, hk2, rfl, hg⟩ := hrel
      by_cases hlt : k < m
      · obtain ⟨hks, hsp⟩ := HS.out k hk1 hlt
        go_wp2_with (go_at_call 11; refine (sp_yes _ _ hsp).mono ?_; rintro e w' ⟨rfl, rfl⟩)
        go_roundg (m - (k + 1))
        case measure => have := HG.out; omega
        case rel => exact ⟨k + 1, rfl, by omega, by omega, by go_num, hg⟩
      · go_wp2_with (go_at_call 11; refine (sp_no _ _ hno).mono ?_; rintro e w' ⟨rfl, rfl⟩)
        go_ret
        exact ⟨rfl, hg⟩
  · obtain rfl : m = s.size := by omega
    clear hm hmn
    have d1 : ¬ s.size < n := by omega
    have d3 : ¬ s.size ≤ n := by omega
    go_wp2_with fail
    go_loopg [8] (s.size - n) (fun g i wr => ∃ k : Nat, Hid (g = s.size - k) ∧ n ≤ k ∧ k ≤ s.size ∧ i = .int .i64 k ∧ Grown w' wr)
    case atStart => exact ⟨n, rfl, Nat.le_refl _, le, rfl, hg⟩
    case round =>
      clear hg
      obtain ⟨k, HG, hk1, hk2, rfl, hg⟩ := hrel
      by_cases hlt : k < s.size
      · obtain ⟨hks, hsp⟩ := HS.out k hk1 hlt
        go_wp2_with (go_at_call 11; refine (sp_yes _ _ hsp).mono ?_; rintro e w' ⟨rfl, rfl⟩)
        go_roundg (s.size - (k + 1))
        case measure => have := HG.out; omega
        case rel => exact ⟨k + 1, rfl, by omega, by omega, by go_num, hg⟩
      · go_wp2_with fail
        go_ret
        exact ⟨rfl, hg⟩

theorem walk (a0 : ByteArray) (a1 : Int) (w0 : a0.size ≤ maxLen) (w1 : (Lit.int .i64 a1).wf = true) (w : World) :
    Calls Try.prog 3 #[.string a0, .int .i64 a1] w fun e w' => e = .returned (.bool true) ∧ Grown w w' := by
  have hb := bounds_i64 w1
  unfold maxLen at w0
  by_cases h1 : 1048576 < a0.size
  · exact walk_long a0 a1 w (by omega) h1
  · by_cases h2 : a1 < 0
    · exact walk_neg a0 a1 w (by omega) h2
    · obtain ⟨n, rfl⟩ : ∃ n : Nat, a1 = n := ⟨a1.toNat, by omega⟩
      by_cases h3 : n < a0.size
      · exact walk_in a0 n w (by omega) h3
      · exact walk_far a0 n w (by omega) (by omega) (by omega)

/-! ### THE ROW's STEP: WRITTEN OUT: LEAVE IT -/
set_option maxRecDepth 100000 in
theorem lifted (os : Os) (started : os.Started) (H : Type) (enc : TypeId × Value → H) :
    ReturnsInHanded {} Try.checked os 3 .any (Rows.fnPeekExactSpec.pre6 enc Try.prog Try.f3 Rows.fnPeekExactRow.domain false) (Rows.fnPeekExactSpec.post enc Try.prog Try.f3 false true false false) := by
  refine returnsInHanded_of_change (C := Try.checked) own started (by kernel_rfl) Try.func3
    (ChangeSpec.witness6 (enc := enc) (C := Try.checked) false ⟨#[], #[.string ByteArray.empty, .int .i64 0], []⟩ 8 (by kernel_rfl) (by kernel_rfl) (by kernel_rfl) (by kernel_rfl)) ?_
  intro W base args ds gs before hval0 hW hcnd _
  have hval : ∀ (j : Nat) t v, Try.f3.params[j]? = some t → args[j]? = some v → Value.okWide Try.prog W .any base t v := hval0
  have hW' := hW
  obtain ⟨p, q, hA0, hV, rfl, hfz, hnd⟩ := hW
  have hA : DataW.TrodAll enc Try.prog W 0 (fun _ => true) true Try.f3.params.toList args.toList ds p := hA0
  rw [Try.params3] at hA hval
  obtain ⟨v0, vs0, d0, ds0, p0, q0, hargs, rfl, rfl, h0, r0⟩ := trodAll_cons hA
  obtain ⟨v1, vs1, d1, ds1, p1, q1, rfl, rfl, rfl, h1, r1⟩ := trodAll_cons r0
  obtain ⟨rfl, rfl, rfl⟩ := trodAll_nil r1
  obtain rfl : args = #[v0, v1] := by cases args; simp_all
  obtain ⟨rfl, rfl⟩ := trodVars_none hV
  obtain ⟨a0, rfl, rfl, rfl, w0⟩ := open_string Try.underlying9 (hval 0 9 v0 rfl rfl) h0
  obtain ⟨a1, rfl, rfl, rfl, w1⟩ := open_int Try.underlying3 (hval 1 3 v1 rfl rfl) h1
  clear hA0 hval0
  simp only [List.append_nil] at hW'
  refine (walk a0 a1 w0 w1 W).mono fun e W' ⟨he, hg⟩ => ?_
  subst he
  exact ⟨_, rfl, post_of_same (pa := []) (pv := []) hW' (fun _ _ _ => (trodAll_cons_mk (shut_bool Try.underlying4 _) trodAll_mk0)) (fun sp _ => (trodAll_cons_mk (shut_string Try.underlying9 w0) (trodAll_cons_mk (shut_int Try.underlying3 w1) trodAll_mk0))) (fun _ _ => rfl) rfl
    (hg.frame _) hg.2.1 (ok_one (by kernel_rfl) rfl (okWide_bool_mk Try.underlying4 _))⟩

theorem over : Rows.fnPeekExactRow.holds Try.pinned (OpenSpec.ofChange Rows.fnPeekExactSpec) :=
  OpenClaim.holds_of_wide 3 Try.f3 rfl rfl rfl rfl rfl rfl rfl ⟨rfl, rfl, rfl, rfl, rfl⟩ rfl rfl rfl rfl rfl (by kernel_rfl) Try.func3 (by kernel_rfl)
    (of_decide_eq_true (by kernel_rfl)) (by unfold Func.isWrapper; first | (rw [if_pos (by decide +kernel)]; kernel_rfl) | (rw [if_neg (by decide +kernel)]; exact ⟨rfl, rfl⟩))
    (fun os started H enc _ => lifted os started H enc)

/-- ████ THE STATEMENT ████ -/
theorem proved : Rows.FnPeekExactSaid :=
  over
end Go.Proofs.Qxb6001717a.fnPeekExact
