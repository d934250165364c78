/-
  DERIVED. The proof of Rows.FnPeekLeadingSpaceSaid of seat b6001717a: the frame is the shell written by program; the walk is typed by hand. Not trusted: checked by the kernel.
-/
import Derived.Test.Qxb6001717aRows
import Derived.WalkKit
import Derived.ProofKit
import Derived.OpenShut
import Derived.ShutString
import Derived.Test.Qxb6001717aPeek
namespace Go.Proofs.Qxb6001717a.fnPeekLeadingSpace
open Go.ChangeShapes Go.WideShapes Go.ChangeAt Go.RowKit
open Go.ChangeMaps (open_string shut_string)
set_option linter.unusedVariables false      -- a walk need not use every 'w<i>' (that an integer argument fits its kind)

theorem own : ownKnob Try.prog.godebug = none := by kernel_rfl

/-! ### STEP 1: THE WALK: the Go text returns true. 'Grown w w'': the world has at most new blocks (Derived/RowKit3.lean). Part the cases AHEAD of 'go_enter' where a test parts the walk; take each callee by a contract of your own. -/
open peek
theorem lead {a b : ByteArray} (ha : ∀ i, i < a.size → Sp a i) {m1 m2 : Nat} {c1 c2 : Int} {ok1 ok2 : Bool}
    (h1 : Out (a ++ b) 0 m1 c1 ok1) (h2 : Out b 0 m2 c2 ok2) : c1 = c2 ∧ ok1 = ok2 ∧ m1 = m2 + a.size := by
  obtain ⟨-, s1, e1⟩ := h1
  obtain ⟨-, s2, e2⟩ := h2
  have hsz : (a ++ b).size = a.size + b.size := ByteArray.size_append
  have hA : a.size ≤ m1 := by
    rcases Nat.lt_or_ge m1 a.size with h | h
    · exfalso
      rcases e1 with ⟨_, hm, _, hno⟩ | ⟨_, _, hm, _⟩
      · obtain ⟨hk, hs⟩ := ha m1 h
        rw [ByteArray.getElem_append_left h] at hno
        rw [hs] at hno; cases hno
      · omega
    · exact h
  obtain ⟨j, rfl⟩ : ∃ j, m1 = a.size + j := ⟨m1 - a.size, by omega⟩
  have at_ : ∀ k (h : a.size + k < (a ++ b).size) (h' : k < b.size), (a ++ b)[a.size + k] = b[k] := by
    intro k h h'
    rw [ByteArray.getElem_append_right (by omega)]
    congr 1; omega
  have hj : j = m2 := by
    rcases Nat.lt_trichotomy j m2 with h | h | h
    · exfalso
      obtain ⟨hk, hs⟩ := s2 j (by omega) h
      rcases e1 with ⟨_, hm, _, hno⟩ | ⟨_, _, hm, _⟩
      · rw [at_ j hm hk, hs] at hno; cases hno
      · omega
    · exact h
    · exfalso
      obtain ⟨hk, hs⟩ := s1 (a.size + m2) (by omega) (by omega)
      rcases e2 with ⟨_, hm, _, hno⟩ | ⟨_, _, hm, _⟩
      · rw [at_ m2 hk hm, hno] at hs; cases hs
      · omega
  subst hj
  rcases e1 with ⟨rfl, hm, rfl, hno⟩ | ⟨rfl, rfl, hm, _⟩
  · rcases e2 with ⟨rfl, hm2, rfl, hno2⟩ | ⟨rfl, rfl, hm2, _⟩
    · exact ⟨by rw [at_ j hm hm2], rfl, by omega⟩
    · omega
  · rcases e2 with ⟨rfl, hm2, rfl, hno2⟩ | ⟨rfl, rfl, hm2, _⟩
    · omega
    · exact ⟨rfl, rfl, by omega⟩
theorem zzpeek0 (s : ByteArray) (W w : World) (hs : s.size ≤ 1048576) (hW : Grown W w) :
    Calls Try.prog 10 #[.string s, .int .i64 0] w fun e w' => ∃ (m : Nat) (c : Int) (ok : Bool), Out s 0 m c ok
      ∧ e = .returned (.tuple #[.int .u8 c, .bool ok, .int .i64 m]) ∧ Grown W w' := zzpeek_any s 0 W w hs hW

set_option maxHeartbeats 400000 in
theorem bytes12 (s t : ByteArray) (w : World) (h : s.size ≤ 65536) (ht : t.size ≤ 65536) :
    Calls Try.prog 12 #[.string s, .string t] w fun e w' => e = .returned (.bool true) ∧ w' = w := by
  go_enter Try.func12, Try.ntmps12
  go_wp2
  go_ret
  exact ⟨rfl, rfl⟩

set_option maxHeartbeats 1000000 in
theorem walk_big (s t : ByteArray) (w : World) (hs : s.size ≤ 9223372036854775807) (ht : t.size ≤ 9223372036854775807) (h : 65536 < s.size ∨ 65536 < t.size) :
    Calls Try.prog 4 #[.string s, .string t] w fun e w' => e = .returned (.bool true) ∧ Grown w w' := by
  by_cases h1 : 1048576 < s.size
  · clear h
    go_enter Try.func4, Try.ntmps4
    go_wp2
    go_ret
    exact ⟨rfl, Grown.refl _⟩
  · by_cases h2 : 1048576 < t.size
    · clear h
      go_enter Try.func4, Try.ntmps4
      go_wp2
      go_ret
      exact ⟨rfl, Grown.refl _⟩
    · by_cases h3 : 1048576 < s.size + t.size
      · clear h
        have h4 : (1048576 : Int) < (s.size : Int) + (t.size : Int) := by omega
        go_enter Try.func4, Try.ntmps4
        go_wp2
        go_ret
        exact ⟨rfl, Grown.refl _⟩
      · have h4 : ¬ (1048576 : Int) < (s.size : Int) + (t.size : Int) := by omega
        by_cases h5 : 65536 < s.size
        · clear h
          go_enter Try.func4, Try.ntmps4
          go_wp2
          go_ret
          exact ⟨rfl, Grown.refl _⟩
        · have h6 : 65536 < t.size := by omega
          clear h
          go_enter Try.func4, Try.ntmps4
          go_wp2
          go_ret
          exact ⟨rfl, Grown.refl _⟩

set_option maxHeartbeats 1000000 in
theorem walk_in (s t : ByteArray) (w : World) (h : s.size ≤ 65536) (ht : t.size ≤ 65536) :
    Calls Try.prog 4 #[.string s, .string t] w fun e w' => e = .returned (.bool true) ∧ Grown w w' := by
  have d1 : ¬ 65536 < s.size := by omega
  have d2 : ¬ 65536 < t.size := by omega
  go_enter Try.func4, Try.ntmps4
  go_wp2_with fail
  refine (bytes12 s t w h ht).mono ?_
  rintro e w' ⟨rfl, rfl⟩
  go_wp2_with fail
  go_loopg [5] s.size (fun g i wr => ∃ k : Nat, Hid (g = s.size - k) ∧ k ≤ s.size ∧ i = .int .i64 k ∧ Hid (∀ j, j < k → Sp s j) ∧ wr = w')
  case atStart => exact ⟨0, rfl, by omega, rfl, fun j hj => by omega, rfl⟩
  case round =>
    obtain ⟨k, HG, hk, rfl, HS, rfl⟩ := hrel
    by_cases hlt : k < s.size
    · cases hsp : spB s[k]
      · go_wp2_with (go_at_call 11; refine (sp_no _ _ hsp).mono ?_; rintro e w' ⟨rfl, rfl⟩)
        go_ret
        exact ⟨rfl, Grown.refl _⟩
      · go_wp2_with (go_at_call 11; refine (sp_yes _ _ hsp).mono ?_; rintro e w' ⟨rfl, rfl⟩)
        go_roundg (s.size - (k + 1))
        case measure => have := HG.out; omega
        case rel =>
          refine ⟨k + 1, rfl, by omega, by go_num, fun j hj => ?_, rfl⟩
          by_cases e : j = k
          · subst e; exact ⟨hlt, hsp⟩
          · exact HS.out j (by omega)
    · obtain rfl : k = s.size := by omega
      go_wp2_with fail
      refine (zzpeek0 (s ++ t) wr _ (by rw [ByteArray.size_append]; omega) (Grown.refl _)).mono ?_
      rintro e w1 ⟨m1, c1, ok1, ho1, rfl, hg1⟩
      have HO1 : Hid (Out (s ++ t) 0 m1 c1 ok1) := ho1
      clear ho1
      go_wp2_with fail
      refine (zzpeek0 t wr _ (by omega) hg1).mono ?_
      rintro e w2 ⟨m2, c2, ok2, ho2, rfl, hg2⟩
      obtain ⟨rfl, rfl, rfl⟩ := lead HS.out HO1.out ho2
      have hm2 : m2 ≤ 65536 := by rcases ho2.ends with ⟨_, hm, _⟩ | ⟨_, _, _, hm⟩ <;> omega
      clear HO1 ho2 hg1
      go_wp2
      go_ret
      exact ⟨rfl, hg2⟩

theorem walk (a0 : ByteArray) (a1 : ByteArray) (w0 : a0.size ≤ maxLen) (w1 : a1.size ≤ maxLen) (w : World) :
    Calls Try.prog 4 #[.string a0, .string a1] w fun e w' => e = .returned (.bool true) ∧ Grown w w' := by
  unfold maxLen at w0 w1
  by_cases h : 65536 < a0.size ∨ 65536 < a1.size
  · exact walk_big a0 a1 w (by omega) (by omega) h
  · exact walk_in a0 a1 w (by omega) (by omega)

/-! ### THE ROW's STEP: WRITTEN OUT: LEAVE IT -/
set_option maxRecDepth 100000 in
theorem lifted (os : Os) (started : os.Started) (H : Type) (enc : TypeId × Value → H) :
    ReturnsInHanded {} Try.checked os 4 .any (Rows.fnPeekLeadingSpaceSpec.pre6 enc Try.prog Try.f4 Rows.fnPeekLeadingSpaceRow.domain false) (Rows.fnPeekLeadingSpaceSpec.post enc Try.prog Try.f4 false true false false) := by
  refine returnsInHanded_of_change (C := Try.checked) own started (by kernel_rfl) Try.func4
    (ChangeSpec.witness6 (enc := enc) (C := Try.checked) false ⟨#[], #[.string ByteArray.empty, .string ByteArray.empty], []⟩ 8 (by kernel_rfl) (by kernel_rfl) (by kernel_rfl) (by kernel_rfl)) ?_
  intro W base args ds gs before hval0 hW hcnd _
  have hval : ∀ (j : Nat) t v, Try.f4.params[j]? = some t → args[j]? = some v → Value.okWide Try.prog W .any base t v := hval0
  have hW' := hW
  obtain ⟨p, q, hA0, hV, rfl, hfz, hnd⟩ := hW
  have hA : DataW.TrodAll enc Try.prog W 0 (fun _ => true) true Try.f4.params.toList args.toList ds p := hA0
  rw [Try.params4] at hA hval
  obtain ⟨v0, vs0, d0, ds0, p0, q0, hargs, rfl, rfl, h0, r0⟩ := trodAll_cons hA
  obtain ⟨v1, vs1, d1, ds1, p1, q1, rfl, rfl, rfl, h1, r1⟩ := trodAll_cons r0
  obtain ⟨rfl, rfl, rfl⟩ := trodAll_nil r1
  obtain rfl : args = #[v0, v1] := by cases args; simp_all
  obtain ⟨rfl, rfl⟩ := trodVars_none hV
  obtain ⟨a0, rfl, rfl, rfl, w0⟩ := open_string Try.underlying9 (hval 0 9 v0 rfl rfl) h0
  obtain ⟨a1, rfl, rfl, rfl, w1⟩ := open_string Try.underlying9 (hval 1 9 v1 rfl rfl) h1
  clear hA0 hval0
  simp only [List.append_nil] at hW'
  refine (walk a0 a1 w0 w1 W).mono fun e W' ⟨he, hg⟩ => ?_
  subst he
  exact ⟨_, rfl, post_of_same (pa := []) (pv := []) hW' (fun _ _ _ => (trodAll_cons_mk (shut_bool Try.underlying4 _) trodAll_mk0)) (fun sp _ => (trodAll_cons_mk (shut_string Try.underlying9 w0) (trodAll_cons_mk (shut_string Try.underlying9 w1) trodAll_mk0))) (fun _ _ => rfl) rfl
    (hg.frame _) hg.2.1 (ok_one (by kernel_rfl) rfl (okWide_bool_mk Try.underlying4 _))⟩

theorem over : Rows.fnPeekLeadingSpaceRow.holds Try.pinned (OpenSpec.ofChange Rows.fnPeekLeadingSpaceSpec) :=
  OpenClaim.holds_of_wide 4 Try.f4 rfl rfl rfl rfl rfl rfl rfl ⟨rfl, rfl, rfl, rfl, rfl⟩ rfl rfl rfl rfl rfl (by kernel_rfl) Try.func4 (by kernel_rfl)
    (of_decide_eq_true (by kernel_rfl)) (by unfold Func.isWrapper; first | (rw [if_pos (by decide +kernel)]; kernel_rfl) | (rw [if_neg (by decide +kernel)]; exact ⟨rfl, rfl⟩))
    (fun os started H enc _ => lifted os started H enc)

/-- ████ THE STATEMENT ████ -/
theorem proved : Rows.FnPeekLeadingSpaceSaid :=
  over
end Go.Proofs.Qxb6001717a.fnPeekLeadingSpace
