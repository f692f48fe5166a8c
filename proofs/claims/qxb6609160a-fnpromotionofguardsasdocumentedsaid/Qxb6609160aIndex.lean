/-
  THE WALKS of b1Index, b1LastIndex, b1HasPrefix, b1HasSuffix.
-/
import Derived.Test.Qxb6609160aRows
import Derived.Test.Qxb6609160aPlain
import Derived.WalkKit
import Derived.ProofKit
import Derived.WalkSpells
import Derived.WalkLawsBesides
namespace Go.Proofs.Qxb6609160a
open Go.RowKit
def intOf : Value → Int | .int _ q => q | _ => 0

set_option maxHeartbeats 400000 in
/-- b1Index gives the first place where 'sub' stands. -/
theorem index_at (s sub : ByteArray) (n : Nat) (w : World) (hs : s.size ≤ maxLen) (hn : n + sub.size ≤ s.size) (hm : matchAt s sub n = true) (hno : ∀ i, i < n → matchAt s sub i = false) :
    Calls Try.prog 10 #[.string s, .string sub] w fun e w' => e = .returned (.int .i64 n) ∧ w' = w := by
  unfold maxLen at hs
  have HM : Hid (matchAt s sub n = true) := hm
  have HN : Hid (∀ i, i < n → matchAt s sub i = false) := hno
  clear hm hno
  go_enter Try.func10, Try.ntmps10
  go_wp2
  go_loop [5] (fun i => ∃ k : Nat, k ≤ n ∧ i = .int .i64 k) (fun i => n - (intOf i).toNat)
  case atStart => exact ⟨0, Nat.zero_le _, rfl⟩
  case round =>
    obtain ⟨k, hk, rfl⟩ := hrel
    have h1 : ((k : Int) + (sub.size : Int)) ≤ (s.size : Int) := by omega
    by_cases hlt : k < n
    · have hf := HN.out k hlt
      rw [matchAt_def] at hf
      go_wp2
      go_round
      case rel => exact ⟨k + 1, by omega, by go_num⟩
      case measure => simp [intOf]; omega
    · have hkn : k = n := by omega
      subst hkn
      have hf := HM.out
      rw [matchAt_def] at hf
      go_wp2
      go_ret
      exact ⟨rfl, rfl⟩

/-- Where 'sub' stands in 's' at all, b1Index gives a place. -/
theorem index_some (s sub : ByteArray) (w : World) (hs : s.size ≤ maxLen) (n : Nat) (hn : n + sub.size ≤ s.size) (hm : matchAt s sub n = true) :
    Calls Try.prog 10 #[.string s, .string sub] w fun e w' => (∃ k : Nat, e = .returned (.int .i64 k)) ∧ w' = w := by
  have hex : ∃ k : Nat, k ≤ n ∧ matchAt s sub k = true ∧ ∀ i, i < k → matchAt s sub i = false := by
    clear hn
    induction n using Nat.strongRecOn with
    | ind n ih =>
      by_cases h : ∃ i, i < n ∧ matchAt s sub i = true
      · obtain ⟨i, hi, hm'⟩ := h
        obtain ⟨k, hk, h1, h2⟩ := ih i hi hm'
        exact ⟨k, by omega, h1, h2⟩
      · refine ⟨n, Nat.le_refl _, hm, fun i hi => ?_⟩
        cases hb : matchAt s sub i
        · rfl
        · exact absurd ⟨i, hi, hb⟩ h
  obtain ⟨k, hk, h1, h2⟩ := hex
  exact (index_at s sub k w hs (by omega) h1 h2).mono fun e w' ⟨he, hw⟩ => ⟨⟨k, he⟩, hw⟩

set_option maxHeartbeats 400000 in
/-- b1LastIndex gives the last place where 'sub' stands. -/
theorem last_at (s sub : ByteArray) (n : Nat) (w : World) (hs : s.size ≤ maxLen) (hn : n + sub.size ≤ s.size) (hm : matchAt s sub n = true) (hno : ∀ i, n < i → i + sub.size ≤ s.size → matchAt s sub i = false) :
    Calls Try.prog 13 #[.string s, .string sub] w fun e w' => e = .returned (.int .i64 n) ∧ w' = w := by
  unfold maxLen at hs
  have HM : Hid (matchAt s sub n = true) := hm
  have HN : Hid (∀ i, n < i → i + sub.size ≤ s.size → matchAt s sub i = false) := hno
  clear hm hno
  go_enter Try.func13, Try.ntmps13
  go_wp2
  go_loop [5] (fun i => ∃ k : Nat, n ≤ k ∧ k + sub.size ≤ s.size ∧ i = .int .i64 k) (fun i => (intOf i).toNat)
  case atStart => exact ⟨s.size - sub.size, by omega, by omega, by go_num⟩
  case round =>
    obtain ⟨k, hk, hk2, rfl⟩ := hrel
    have h1 : ((k : Int) + (sub.size : Int)) ≤ (s.size : Int) := by omega
    have h0 : (0 : Int) ≤ (k : Int) := by omega
    by_cases hlt : n < k
    · have hf := HN.out k hlt hk2
      rw [matchAt_def] at hf
      go_wp2
      go_round
      case rel => exact ⟨k - 1, by omega, by omega, by go_num⟩
      case measure => simp [intOf]; omega
    · have hkn : k = n := by omega
      subst hkn
      have hf := HM.out
      rw [matchAt_def] at hf
      go_wp2
      go_ret
      exact ⟨rfl, rfl⟩

set_option maxHeartbeats 400000 in
/-- b1HasPrefix says yes where 'p' stands at the head. -/
theorem head_yes (s p : ByteArray) (w : World) (hn : p.size ≤ s.size) (hm : matchAt s p 0 = true) :
    Calls Try.prog 11 #[.string s, .string p] w fun e w' => e = .returned (.bool true) ∧ w' = w := by
  rw [matchAt_def] at hm
  have h1 : (p.size : Int) ≤ (s.size : Int) := by omega
  have hm' : ((s.extract 0 p.size).toList == p.toList) = true := by simpa using hm
  clear hm
  go_enter Try.func11, Try.ntmps11
  go_wp2
  go_ret
  exact ⟨rfl, rfl⟩

set_option maxHeartbeats 400000 in
/-- b1HasSuffix says yes where 'p' stands at the end. -/
theorem tail_yes (s p : ByteArray) (w : World) (hs : s.size ≤ maxLen) (hn : p.size ≤ s.size) (hm : matchAt s p (s.size - p.size) = true) :
    Calls Try.prog 12 #[.string s, .string p] w fun e w' => e = .returned (.bool true) ∧ w' = w := by
  unfold maxLen at hs
  rw [matchAt_def] at hm
  have h1 : (p.size : Int) ≤ (s.size : Int) := by omega
  have hm' : ((s.extract (s.size - p.size) s.size).toList == p.toList) = true := by
    rwa [show s.size - p.size + p.size = s.size from by omega] at hm
  clear hm
  go_enter Try.func12, Try.ntmps12
  go_wp2
  go_ret
  exact ⟨rfl, rfl⟩
end Go.Proofs.Qxb6609160a
