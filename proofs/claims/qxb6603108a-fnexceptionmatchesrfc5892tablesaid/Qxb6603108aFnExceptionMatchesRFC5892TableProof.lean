/-
  DERIVED. The proof of Rows.FnExceptionMatchesRFC5892TableSaid of seat b6603108a: the frame is the shell written by program; the walk is typed by hand. Not trusted: checked by the kernel.
-/
import Derived.Test.Qxb6603108aRows
import Derived.WalkKit
import Derived.ProofKit
import Derived.OpenShut
import Derived.ShutString
import Derived.Test.Qxb6603108aExc
namespace Go.Proofs.Qxb6603108a.fnExceptionMatchesRFC5892Table
open Go.ChangeShapes Go.WideShapes Go.ChangeAt Go.RowKit
open Go.ChangeMaps (open_string shut_string)
set_option linter.unusedVariables false      -- a walk need not use every 'w<i>' (that an integer argument fits its kind)

theorem own : ownKnob Try.prog.godebug = none := by kernel_rfl

/-! ### STEP 1: THE WALK: the Go text returns true. 'Grown w w'': the world has at most new blocks (Derived/RowKit3.lean). Part the cases AHEAD of 'go_enter' where a test parts the walk; take each callee by a contract of your own. -/
open exc
set_option maxHeartbeats 1000000 in
theorem walk (a0 : Int) (w0 : (Lit.int .i32 a0).wf = true) (w : World) :
    Calls Try.prog 7 #[.int .i32 a0] w fun e w' => e = .returned (.bool true) ∧ Grown w w' := by
  clear w0
  obtain ⟨p, ok, hx, hc⟩ := zz_any a0 w
  have HX : Hid (Exc a0 p ok) := hx
  have HC : Hid (Calls Try.prog 21 #[.int .i32 a0] w fun e w' => e = .returned (.tuple #[.int .i64 p, .bool ok]) ∧ w' = w) := hc
  clear hx hc
  go_enter Try.func7, Try.ntmps7
  go_wp2_with fail
  refine HC.out.mono ?_
  rintro e w' ⟨rfl, rfl⟩
  clear HC
  go_wp2_with fail
  go_loopg [5] 16 (fun g i wr => ∃ k : Nat, Hid (g = 16 - k) ∧ k ≤ 16 ∧ i = .int .i64 k ∧ Hid (∀ j, j < k → lo j ≤ a0 → ¬ a0 ≤ hi j) ∧ wr = w')
  case atStart => exact ⟨0, rfl, by omega, rfl, fun j hj => by omega, rfl⟩
  case round =>
    obtain ⟨k, HG, hk, rfl, HS, rfl⟩ := hrel
    by_cases hlt : k < 16
    · by_cases h1 : lo k ≤ a0
      · by_cases h2 : a0 ≤ hi k
        · obtain ⟨rfl, rfl⟩ := HX.out.yes k hlt h1 h2
          clear HX
          go_wp2_with (go_at_call 22; refine (range_any k _ hlt).mono ?_; rintro e w' ⟨rfl, rfl⟩)
          go_ret
          exact ⟨rfl, Grown.refl _⟩
        · go_wp2_with (go_at_call 22; refine (range_any k _ hlt).mono ?_; rintro e w' ⟨rfl, rfl⟩)
          go_roundg (16 - (k + 1))
          case measure => have := HG.out; omega
          case rel =>
            refine ⟨k + 1, rfl, by omega, by go_num, fun j hj => ?_, rfl⟩
            by_cases e : j = k
            · subst e; exact fun _ => h2
            · exact HS.out j (by omega)
      · go_wp2_with (go_at_call 22; refine (range_any k _ hlt).mono ?_; rintro e w' ⟨rfl, rfl⟩)
        go_roundg (16 - (k + 1))
        case measure => have := HG.out; omega
        case rel =>
          refine ⟨k + 1, rfl, by omega, by go_num, fun j hj => ?_, rfl⟩
          by_cases e : j = k
          · subst e; exact fun h => by omega
          · exact HS.out j (by omega)
    · obtain rfl : k = 16 := by omega
      obtain ⟨rfl, rfl⟩ := HX.out.no HS.out
      clear HX
      go_wp2_with fail
      go_ret
      exact ⟨rfl, Grown.refl _⟩

/-! ### THE ROW's STEP: WRITTEN OUT: LEAVE IT -/
set_option maxRecDepth 100000 in
theorem lifted (os : Os) (started : os.Started) (H : Type) (enc : TypeId × Value → H) :
    ReturnsInHanded {} Try.checked os 7 .any (Rows.fnExceptionMatchesRFC5892TableSpec.pre6 enc Try.prog Try.f7 Rows.fnExceptionMatchesRFC5892TableRow.domain false) (Rows.fnExceptionMatchesRFC5892TableSpec.post enc Try.prog Try.f7 false true false false) := by
  refine returnsInHanded_of_change (C := Try.checked) own started (by kernel_rfl) Try.func7
    (ChangeSpec.witness6 (enc := enc) (C := Try.checked) false ⟨#[], #[.int .i32 0], []⟩ 8 (by kernel_rfl) (by kernel_rfl) (by kernel_rfl) (by kernel_rfl)) ?_
  intro W base args ds gs before hval0 hW hcnd _
  have hval : ∀ (j : Nat) t v, Try.f7.params[j]? = some t → args[j]? = some v → Value.okWide Try.prog W .any base t v := hval0
  have hW' := hW
  obtain ⟨p, q, hA0, hV, rfl, hfz, hnd⟩ := hW
  have hA : DataW.TrodAll enc Try.prog W 0 (fun _ => true) true Try.f7.params.toList args.toList ds p := hA0
  rw [Try.params7] at hA hval
  obtain ⟨v0, vs0, d0, ds0, p0, q0, hargs, rfl, rfl, h0, r0⟩ := trodAll_cons hA
  obtain ⟨rfl, rfl, rfl⟩ := trodAll_nil r0
  obtain rfl : args = #[v0] := by cases args; simp_all
  obtain ⟨rfl, rfl⟩ := trodVars_none hV
  obtain ⟨a0, rfl, rfl, rfl, w0⟩ := open_int Try.underlying21 (hval 0 21 v0 rfl rfl) h0
  clear hA0 hval0
  simp only [List.append_nil] at hW'
  refine (walk a0 w0 W).mono fun e W' ⟨he, hg⟩ => ?_
  subst he
  exact ⟨_, rfl, post_of_same (pa := []) (pv := []) hW' (fun _ _ _ => (trodAll_cons_mk (shut_bool Try.underlying4 _) trodAll_mk0)) (fun sp _ => (trodAll_cons_mk (shut_int Try.underlying21 w0) trodAll_mk0)) (fun _ _ => rfl) rfl
    (hg.frame _) hg.2.1 (ok_one (by kernel_rfl) rfl (okWide_bool_mk Try.underlying4 _))⟩

theorem over : Rows.fnExceptionMatchesRFC5892TableRow.holds Try.pinned (OpenSpec.ofChange Rows.fnExceptionMatchesRFC5892TableSpec) :=
  OpenClaim.holds_of_wide 7 Try.f7 rfl rfl rfl rfl rfl rfl rfl ⟨rfl, rfl, rfl, rfl, rfl⟩ rfl rfl rfl rfl rfl (by kernel_rfl) Try.func7 (by kernel_rfl)
    (of_decide_eq_true (by kernel_rfl)) (by unfold Func.isWrapper; first | (rw [if_pos (by decide +kernel)]; kernel_rfl) | (rw [if_neg (by decide +kernel)]; exact ⟨rfl, rfl⟩))
    (fun os started H enc _ => lifted os started H enc)

/-- ████ THE STATEMENT ████ -/
theorem proved : Rows.FnExceptionMatchesRFC5892TableSaid :=
  over
end Go.Proofs.Qxb6603108a.fnExceptionMatchesRFC5892Table
