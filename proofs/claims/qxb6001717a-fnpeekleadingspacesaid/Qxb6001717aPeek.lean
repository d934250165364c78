/-
  DERIVED. Contracts of (*plainScanner).peek (21) and ZZb1Peek (10): the place, the byte, whether there is one; of isJSONSpaceRulesB1 (11). Not trusted: checked by the kernel.
-/
import Derived.Test.Qxb6001717aRows
import Derived.WalkKit
import Derived.ProofKit
import Derived.OpenShut
import Derived.Deep.QuietTactic
import Derived.BigQuiet
import Derived.Deep.LoopGhost
import Derived.Below
namespace Go.Proofs.Qxb6001717a.peek
open Go.ChangeShapes Go.WideShapes Go.ChangeAt Go.RowKit

/-- JSON's white space, of a byte. -/
def spB (c : UInt8) : Bool := decide (c.toNat = 32 ∨ c.toNat = 9 ∨ c.toNat = 13 ∨ c.toNat = 10)
def Sp (s : ByteArray) (i : Nat) : Prop := ∃ h : i < s.size, spB s[i] = true
/-- What peek answers, asked at place n: the place m, the byte c, whether there is one. -/
structure Out (s : ByteArray) (n m : Nat) (c : Int) (ok : Bool) : Prop where
  le : n ≤ m
  sp : ∀ i, n ≤ i → i < m → Sp s i
  ends : (ok = true ∧ ∃ h : m < s.size, c = s[m].toNat ∧ spB s[m] = false) ∨ (ok = false ∧ c = 0 ∧ s.size ≤ m ∧ (m = n ∨ m = s.size))

theorem sp32 {c : UInt8} (h : ((c.toNat : Int) == 32) = true) : spB c = true := by simp at h; unfold spB; exact decide_eq_true (by omega)
theorem sp9 {c : UInt8} (h : ((c.toNat : Int) == 9) = true) : spB c = true := by simp at h; unfold spB; exact decide_eq_true (by omega)
theorem sp13 {c : UInt8} (h : ((c.toNat : Int) == 13) = true) : spB c = true := by simp at h; unfold spB; exact decide_eq_true (by omega)
theorem sp10 {c : UInt8} (h : ((c.toNat : Int) == 10) = true) : spB c = true := by simp at h; unfold spB; exact decide_eq_true (by omega)
theorem spNo {c : UInt8} (h1 : ((c.toNat : Int) == 32) = false) (h2 : ((c.toNat : Int) == 9) = false) (h3 : ((c.toNat : Int) == 13) = false) (h4 : ((c.toNat : Int) == 10) = false) : spB c = false := by
  simp at h1 h2 h3 h4; unfold spB; exact decide_eq_false (by omega)
theorem sp_step {s : ByteArray} {n m : Nat} (h : ∀ i, n ≤ i → i < m → Sp s i) (hlt : m < s.size) (hsp : spB s[m] = true) : ∀ i, n ≤ i → i < m + 1 → Sp s i := by
  intro i h1 h2
  by_cases e : i = m
  · subst e; exact ⟨hlt, hsp⟩
  · exact h i h1 (by omega)

theorem grown_drewN {a w : World} (h : Grown a w) (n : Nat) : Grown a (w.drewN n) := h

set_option maxHeartbeats 400000 in
theorem peek_any (s : ByteArray) (b n : Nat) (W w : World) (hs : s.size ≤ 1048576) (hW : Grown W w) (hWb : W.heap.size ≤ b)
    (h0 : w.cell? ⟨b, 0, none⟩ = some (.string s)) (h1 : w.cell? ⟨b, 1, none⟩ = some (.int .i64 n)) (hf : w.frozen? ⟨b, 1, none⟩ = false) :
    Calls Try.prog 21 #[.pointer (some ⟨b, 0, none⟩)] w fun e w' => ∃ (m : Nat) (c : Int) (ok : Bool), Out s n m c ok
      ∧ e = .returned (.tuple #[.int .u8 c, .bool ok]) ∧ w'.cell? ⟨b, 1, none⟩ = some (.int .i64 m) ∧ Grown W w' := by
  go_enter Try.func21, Try.ntmps21
  go_wp2
  go_loopg [] (s.size - n) (fun k wr => ∃ m : Nat, k = s.size - m ∧ n ≤ m ∧ (m = n ∨ m ≤ s.size) ∧ Hid (∀ i, n ≤ i → i < m → Sp s i) ∧ wr.cell? ⟨b, 0, none⟩ = some (.string s) ∧ wr.cell? ⟨b, 1, none⟩ = some (.int .i64 m) ∧ wr.frozen? ⟨b, 1, none⟩ = false ∧ Grown W wr)
  case atStart => exact ⟨n, rfl, Nat.le_refl _, Or.inl rfl, fun i h1 h2 => by omega, h0, h1, hf, hW⟩
  case round =>
    clear h0 h1 hf hW
    obtain ⟨m, hk, hnm, hm, HS, h0, h1, hf, hb⟩ := hrel
    have HK : Hid (gk = s.size - m) := hk
    have HM : Hid (m = n ∨ m ≤ s.size) := hm
    clear hk hm
    by_cases hlt : m < s.size
    · go_wp2
      go_quiet (fail)
      go_wp2
      go_quiet (fail)
      go_wp2
      all_goals try
          (have hsp : spB s[m] = false := spNo ‹_› ‹_› ‹_› ‹_›
           go_ret2
           exact ⟨m, _, true, ⟨hnm, HS.out, Or.inl ⟨rfl, hlt, rfl, hsp⟩⟩, rfl, by go_simp, grown_drewN hb _⟩)
      all_goals
           have hsp : spB s[m] = true := by first | exact sp32 ‹_› | exact sp9 ‹_› | exact sp13 ‹_› | exact sp10 ‹_›
           go_roundg (s.size - (m + 1))
           case measure => have := HK.out; omega
           case rel => exact ⟨m + 1, rfl, by omega, Or.inr (by omega), sp_step HS.out hlt hsp, by go_simp, by go_simp, by go_simp, (grown_drewN hb _).setCell (a := ⟨b, 1, none⟩) hWb _⟩
    · go_wp2
      go_quiet (fail)
      go_wp2
      go_ret2
      exact ⟨m, 0, false, ⟨hnm, HS.out, Or.inr ⟨rfl, rfl, by omega, by have := HM.out; omega⟩⟩, rfl, by go_simp, grown_drewN hb _⟩

set_option maxHeartbeats 400000 in
theorem zzpeek_any (s : ByteArray) (n : Nat) (W w : World) (hs : s.size ≤ 1048576) (hW : Grown W w) :
    Calls Try.prog 10 #[.string s, .int .i64 n] w fun e w' => ∃ (m : Nat) (c : Int) (ok : Bool), Out s n m c ok
      ∧ e = .returned (.tuple #[.int .u8 c, .bool ok, .int .i64 m]) ∧ Grown W w' := by
  go_enter Try.func10, Try.ntmps10
  go_wp2_with fail
  refine (peek_any s w.heap.size n W _ hs (hW.alloc _ _) hW.2.2 (by go_simp) (by go_simp) (by go_simp)).mono ?_
  rintro e w' ⟨m, c, ok, ho, rfl, h1, hb⟩
  have HO : Hid (Out s n m c ok) := ho
  clear ho
  go_wp2
  go_quiet (fail)
  go_wp2
  go_ret3
  exact ⟨m, c, ok, HO.out, rfl, grown_drewN hb _⟩

set_option maxHeartbeats 400000 in
theorem sp_yes (c : UInt8) (w : World) (h : spB c = true) :
    Calls Try.prog 11 #[.int .u8 c.toNat] w fun e w' => e = .returned (.bool true) ∧ w' = w := by
  have hd : (c.toNat : Int) = 32 ∨ (c.toNat : Int) = 9 ∨ (c.toNat : Int) = 13 ∨ (c.toNat : Int) = 10 := by
    have := of_decide_eq_true h; omega
  clear h
  generalize (c.toNat : Int) = x at hd ⊢
  rcases hd with rfl | rfl | rfl | rfl
  all_goals
    go_enter Try.func11, Try.ntmps11
    go_wp2
    go_ret
    exact ⟨rfl, rfl⟩

set_option maxHeartbeats 400000 in
theorem sp_no (c : UInt8) (w : World) (h : spB c = false) :
    Calls Try.prog 11 #[.int .u8 c.toNat] w fun e w' => e = .returned (.bool false) ∧ w' = w := by
  have hd : ¬ ((c.toNat : Int) = 32 ∨ (c.toNat : Int) = 9 ∨ (c.toNat : Int) = 13 ∨ (c.toNat : Int) = 10) := by
    have := of_decide_eq_false h; omega
  clear h
  generalize (c.toNat : Int) = x at hd ⊢
  have h1 : (x == 32) = false := by simp; omega
  have h2 : (x == 9) = false := by simp; omega
  have h3 : (x == 13) = false := by simp; omega
  have h4 : (x == 10) = false := by simp; omega
  clear hd
  go_enter Try.func11, Try.ntmps11
  go_wp2
  go_ret
  exact ⟨rfl, rfl⟩

end Go.Proofs.Qxb6001717a.peek
