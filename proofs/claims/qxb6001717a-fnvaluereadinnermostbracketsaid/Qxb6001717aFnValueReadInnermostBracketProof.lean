/-
  DERIVED. The proof of Rows.FnValueReadInnermostBracketSaid of seat b6001717a: the frame is the shell written by program; the walk is typed by hand. Not trusted: checked by the kernel.
-/
import Derived.Test.Qxb6001717aRows
import Derived.WalkKit
import Derived.ProofKit
import Derived.OpenShut
import Derived.ShutString
import Derived.ChangeOld
import Derived.Below
import Derived.Test.Qxb6001717aVread
namespace Go.Proofs.Qxb6001717a.fnValueReadInnermostBracket
open Go.ChangeShapes Go.WideShapes Go.ChangeAt Go.RowKit
open Go.ChangeMaps (open_string shut_string)
set_option linter.unusedVariables false

theorem own : ownKnob Try.prog.godebug = none := by kernel_rfl
theorem laidOut : laidOutB Try.prog = true := by kernel_rfl

/-- WHAT THE WALK IS TOLD OF A SLICE OF INTEGERS THAT CAME IN: it is nil; or it leads to a row of 'cap' cells, the numbers 'zs' (the first 'len' are its elements, the rest its spare room), each fitting its kind. -/
def IsRow (k : IntKind) (w : World) (a : Option Addr) (len cap : Nat) (zs : List Int) : Prop :=
  (a = none ∧ len = 0 ∧ cap = 0 ∧ zs = []) ∨
  ∃ x, a = some x ∧ len ≤ cap ∧ cap ≤ maxLen ∧ zs.length = cap ∧ (∀ i, i < zs.length → w.cell? (x.add i) = some (.int k (zs.getD i 0))) ∧ ∀ n ∈ zs, (Lit.int k n).wf = true

/-! ### STEP 1: THE WALK: the Go text returns true, AND WRITES NOTHING THAT WAS THERE: 'Below w.heap.size w w'' (Derived/Below.lean: '.refl', '.alloc', '.drew', '.setCell' at a new block, '.trans'). Open each 'IsRow' by 'rcases' AHEAD of 'go_enter'; part every test ahead of the walk. -/
open vread
theorem rowIn_of {w : World} {a : Option Addr} {len cap : Nat} {zs : List Int} (h : IsRow .u8 w a len cap zs) : RowIn w a len cap ∧ len ≤ 9223372036854775807 := by
  rcases h with ⟨rfl, rfl, rfl, _⟩ | ⟨x, rfl, hl, hm, hz, hc, _⟩
  · exact ⟨Or.inl ⟨rfl, rfl, rfl⟩, by omega⟩
  · unfold maxLen at hm
    refine ⟨?_, by omega⟩
    by_cases h0 : len = 0
    · exact Or.inr (Or.inl ⟨x, rfl, h0⟩)
    · obtain ⟨b, off, rfl, hc'⟩ := ints_at hc (by omega)
      exact Or.inr (Or.inr ⟨b, off, zs, rfl, by omega, fun i hi => hc' i (by omega)⟩)

set_option maxHeartbeats 400000 in
theorem walk_long (a : Option Addr) (len cap : Nat) (st : Int) (w : World) (hs : len ≤ 9223372036854775807) (h : 1048576 < len) :
    Calls Try.prog 6 #[.slice a len cap, .int .i64 st] w fun e w' => e = .returned (.bool true) ∧ Below w.heap.size w w' := by
  go_enter Try.func6, Try.ntmps6
  go_wp2
  go_ret
  exact ⟨rfl, Below.refl _ _⟩

set_option maxHeartbeats 400000 in
theorem bytes17 (a : Option Addr) (len cap : Nat) (st : Int) (w : World) (h : len ≤ 1048576) :
    Calls Try.prog 17 #[.slice a len cap, .int .i64 st] w fun e w' => e = .returned (.bool true) ∧ w' = w := by
  go_enter Try.func17, Try.ntmps17
  go_wp2
  go_ret
  exact ⟨rfl, rfl⟩

set_option maxHeartbeats 1000000 in
theorem walk_in (a : Option Addr) (len cap : Nat) (st : Int) (w : World) (h : len ≤ 1048576) (hr : RowIn w a len cap) :
    Calls Try.prog 6 #[.slice a len cap, .int .i64 st] w fun e w' => e = .returned (.bool true) ∧ Below w.heap.size w w' := by
  have d1 : ¬ 1048576 < len := by omega
  have HR : Hid (RowIn w a len cap) := hr
  clear hr
  go_enter Try.func6, Try.ntmps6
  go_wp2_with fail
  refine (bytes17 a len cap st w h).mono ?_
  rintro e w' ⟨rfl, rfl⟩
  go_wp2_with fail
  refine (clone_any a len cap w' h HR.out).mono ?_
  rintro e w1 ⟨a', cap', rfl, hok, hb1⟩
  clear HR
  rcases hok with ⟨rfl, rfl⟩ | ⟨hp, rfl, b, x, rfl, hx⟩
  · go_wp2_with fail
    refine (vr_zero a' 0 st w1).mono ?_
    rintro e w2 ⟨rfl, hb2⟩
    go_wp2_with fail
    go_ret
    have z1 := hb1.size
    exact ⟨rfl, hb1.trans (hb2.mono (by omega))⟩
  · have hx' : w1.cell? ⟨b, 0 + (cap' - 1), none⟩ = some (.int .u8 x) := by rw [Nat.zero_add]; exact hx
    have hbs : b < w1.heap.size := World.block_lt_of_cell? _ _ hx
    clear hx
    have HX : Hid (w1.cell? ⟨b, 0 + (cap' - 1), none⟩ = some (.int .u8 x)) := hx'
    clear hx'
    have h0 : ((cap' : Int) == 0) = false := by simp; omega
    go_wp2_with fail
    refine (vr_pos b 0 cap' cap' st x w1 hp h HX.out).mono ?_
    rintro e w2 ⟨rfl, hb2⟩
    have z1 := hb1.size
    have z2 := hb2.size
    go_wp2_with fail
    refine (vr_pos b (cap' - 1) (cap' - (cap' - 1)) (cap' - (cap' - 1)) st x w2 (by omega) (by omega)
      (by rw [show cap' - 1 + (cap' - (cap' - 1) - 1) = 0 + (cap' - 1) from by omega, hb2.cell (p := ⟨b, 0 + (cap' - 1), none⟩) hbs]; exact HX.out)).mono ?_
    rintro e w3 ⟨rfl, hb3⟩
    rcases stOf_cases x with hs | hs
    all_goals
      go_wp2
      go_ret
      exact ⟨rfl, (hb1.trans (hb2.mono (by omega))).trans (hb3.mono (by omega))⟩

theorem walk (a0 : Option Addr) (len0 cap0 : Nat) (z0 : List Int) (a1 : Int) (w : World) (w0 : IsRow .u8 w a0 len0 cap0 z0) (w1 : (Lit.int .i64 a1).wf = true) :
    Calls Try.prog 6 #[.slice a0 len0 cap0, .int .i64 a1] w fun e w' => e = .returned (.bool true) ∧ Below w.heap.size w w' := by
  obtain ⟨hr, hm⟩ := rowIn_of w0
  by_cases h : 1048576 < len0
  · exact walk_long a0 len0 cap0 a1 w hm h
  · exact walk_in a0 len0 cap0 a1 w (by omega) hr

/-! ### THE ROW's STEP: WRITTEN OUT: LEAVE IT -/
set_option maxRecDepth 100000 in
theorem lifted (os : Os) (started : os.Started) (H : Type) (enc : TypeId × Value → H) :
    ReturnsInHanded {} Try.checked os 6 .any (Rows.fnValueReadInnermostBracketSpec.pre6 enc Try.prog Try.f6 Rows.fnValueReadInnermostBracketRow.domain false) (Rows.fnValueReadInnermostBracketSpec.post enc Try.prog Try.f6 false true false false) := by
  refine returnsInHanded_of_change (C := Try.checked) own started (by kernel_rfl) Try.func6
    (ChangeSpec.witness6 (enc := enc) (C := Try.checked) false ⟨#[], #[.slice none 0 0, .int .i64 0], []⟩ 8 (by kernel_rfl) (by kernel_rfl) (by kernel_rfl) (by kernel_rfl)) ?_
  intro W base args ds gs before hval0 hW hcnd _
  have hval : ∀ (j : Nat) t v, Try.f6.params[j]? = some t → args[j]? = some v → Value.okWide Try.prog W .any base t v := hval0
  have hW' := hW
  obtain ⟨p, q, hA0, hV, rfl, hfz, hnd⟩ := hW
  have hA : DataW.TrodAll enc Try.prog W 0 (fun _ => true) true Try.f6.params.toList args.toList ds p := hA0
  rw [Try.params6] at hA hval
  obtain ⟨v0, vs0, d0, ds0, p0, q0, hargs, rfl, rfl, h0, r0⟩ := trodAll_cons hA
  obtain ⟨v1, vs1, d1, ds1, p1, q1, rfl, rfl, rfl, h1, r1⟩ := trodAll_cons r0
  obtain ⟨rfl, rfl, rfl⟩ := trodAll_nil r1
  obtain rfl : args = #[v0, v1] := by cases args; simp_all
  obtain ⟨rfl, rfl⟩ := trodVars_none hV
  obtain ⟨a0, len0, cap0, rfl⟩ := okWide_slice Try.underlying27 (hval 0 27 v0 rfl rfl)
  have k0 := h0
  have lt0 : ∀ x ∈ p0, x.block < W.heap.size := by obtain ⟨m, hm⟩ := k0; exact DataW.trod_lt m _ _ _ hm
  obtain ⟨z0, w0⟩ : ∃ zs, IsRow .u8 W a0 len0 cap0 zs := by
    obtain ⟨fuel, hf⟩ := h0
    rcases open_ints Try.underlying27 Try.underlying5 (by kernel_rfl) hf with ⟨hcs, _⟩ | ⟨x, l, c, zs, hcs, _, hl, hm, hz, _, hcell, hwz⟩
    · simp [Value.cells] at hcs
      obtain ⟨rfl, rfl, rfl⟩ := hcs
      exact ⟨[], .inl ⟨rfl, rfl, rfl, rfl⟩⟩
    · simp [Value.cells] at hcs
      obtain ⟨rfl, rfl, rfl⟩ := hcs
      exact ⟨zs, .inr ⟨_, rfl, hl, hm, by simpa using hz, hcell, hwz⟩⟩
  obtain ⟨a1, rfl, rfl, rfl, w1⟩ := open_int Try.underlying3 (hval 1 3 v1 rfl rfl) h1
  clear hA0 hval0
  refine (walk a0 len0 cap0 z0 a1 W w0 w1).mono fun e W' ⟨he, bel⟩ => ?_
  subst he
  exact ⟨_, rfl, _, _, _, [], _, [], hW', trodAll_mk1 (shut_bool Try.underlying4 _), (trodAll_cons_mk (Below.trod laidOut (by kernel_rfl) (of_decide_eq_true (by kernel_rfl)) k0 bel lt0) (trodAll_cons_mk (shut_int Try.underlying3 w1) trodAll_mk0)), rfl, bel.frame _, fun h => by cases h⟩

theorem over : Rows.fnValueReadInnermostBracketRow.holds Try.pinned (OpenSpec.ofChange Rows.fnValueReadInnermostBracketSpec) :=
  OpenClaim.holds_of_wide 6 Try.f6 rfl rfl rfl rfl rfl rfl rfl ⟨rfl, rfl, rfl, rfl, rfl⟩ rfl rfl rfl rfl rfl (by kernel_rfl) Try.func6 (by kernel_rfl)
    (of_decide_eq_true (by kernel_rfl)) (by unfold Func.isWrapper; first | (rw [if_pos (by decide +kernel)]; kernel_rfl) | (rw [if_neg (by decide +kernel)]; exact ⟨rfl, rfl⟩))
    (fun os started H enc _ => lifted os started H enc)

/-- ████ THE STATEMENT ████ -/
theorem proved : Rows.FnValueReadInnermostBracketSaid := over
end Go.Proofs.Qxb6001717a.fnValueReadInnermostBracket
