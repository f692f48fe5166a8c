/-
  THE WALKS of zzb1IsStepName, fieldStep, ZZfieldStep, zzBytes_..
-/
import Derived.Test.Qxb6609295aRows
import Derived.Test.Qxb6609295aPlain
import Derived.WalkKit
import Derived.ProofKit
import Derived.WalkSpells
import Derived.WalkLawsBesides
namespace Go.Proofs.Qxb6609295a
open Go.RowKit
def intOf : Value → Int | .int _ q => q | _ => 0

/-- It ends with a bool of which p holds. -/
def EndB (e : Ending) (p : Bool → Prop) : Prop := ∃ b : Bool, e = .returned (.bool b) ∧ p b

set_option maxHeartbeats 400000 in
theorem isStep_any (s : ByteArray) (w : World) (hs : s.size ≤ maxLen) :
    Calls Try.prog 5 #[.string s] w fun e w' => EndB e (fun b => b = true → StepName s) ∧ w' = w := by
  unfold maxLen at hs
  by_cases he : s.size = 0
  · have hem : s.toList.isEmpty = true := by rw [ByteArray.toList_eq, List.isEmpty_iff, ← List.length_eq_zero_iff, size_len]; exact he
    go_enter Try.func5, Try.ntmps5
    go_wp2
    go_ret
    exact ⟨⟨false, rfl, fun h => by cases h⟩, rfl⟩
  · have hem : s.toList.isEmpty = false := by rw [ByteArray.toList_eq, List.isEmpty_eq_false_iff, ← List.length_pos_iff, size_len]; omega
    go_enter Try.func5, Try.ntmps5
    go_wp2
    go_loop [3] (fun i => ∃ k : Nat, k ≤ s.size ∧ i = .int .i64 k ∧ ∀ j (h : j < s.size), j < k → s[j] ≠ 46) (fun i => s.size - (intOf i).toNat)
    case atStart => exact ⟨0, Nat.zero_le _, rfl, fun j _ h => by omega⟩
    case round =>
      obtain ⟨k, hk, rfl, hno⟩ := hrel
      have HN : Hid _ := hno
      clear hno
      by_cases hlt : k < s.size
      · by_cases hd : s[k] = 46
        · have hd' : (((s[k]).toNat : Int) == 46) = true := by rw [hd]; rfl
          clear hd
          go_wp2
          go_ret
          exact ⟨⟨false, rfl, fun h => by cases h⟩, rfl⟩
        · have hd' : (((s[k]).toNat : Int) == 46) = false := by
            rw [beq_eq_false_iff_ne]
            intro h
            exact hd (UInt8.toNat_inj.1 (by have : (s[k]).toNat = 46 := by omega
                                            rw [this]; rfl))
          have HD : Hid (¬ s[k] = 46) := hd
          clear hd
          go_wp2
          go_round
          case rel =>
            refine ⟨k + 1, by omega, by go_num, fun j hj hjk => ?_⟩
            by_cases e : j = k
            · subst e; exact HD.out
            · exact HN.out j hj (by omega)
          case measure => simp [intOf]; omega
      · go_wp2
        go_ret
        exact ⟨⟨true, rfl, fun _ => ⟨by omega, fun j hj => HN.out j hj (by omega)⟩⟩, rfl⟩

set_option maxHeartbeats 400000 in
theorem field_any (s : ByteArray) (w : World) (hs : (s.size : Int) ≤ 1048576) :
    Calls Try.prog 8 #[.string s] w fun e w' => e = .returned (.string (⟨#[46]⟩ ++ s)) ∧ w' = w := by
  go_enter Try.func8, Try.ntmps8
  go_wp2
  go_ret
  exact ⟨rfl, rfl⟩

set_option maxHeartbeats 400000 in
theorem zzfield_any (s : ByteArray) (w : World) (hs : (s.size : Int) ≤ 1048576) :
    Calls Try.prog 6 #[.string s] w fun e w' => e = .returned (.string (⟨#[46]⟩ ++ s)) ∧ w' = w := by
  go_enter Try.func6, Try.ntmps6
  go_wp2_with fail
  refine (field_any s _ hs).mono ?_
  rintro e w' ⟨rfl, rfl⟩
  go_wp2
  go_ret
  exact ⟨rfl, rfl⟩

/-- WHAT THE WALKS ARE TOLD OF THE NAMES: there is none, or they lie in a row. -/
def Names (w : World) (a : Option Addr) (ss : List ByteArray) : Prop :=
  ss = [] ∨ ∃ b off, a = some ⟨b, off, none⟩ ∧ b < w.heap.size ∧ ∀ k, k < ss.length → w.cell? ⟨b, off + k, none⟩ = some (.string (nth ss k))

set_option maxHeartbeats 400000 in
theorem bytes_any (a : Option Addr) (ss : List ByteArray) (cap : Nat) (w : World) (hl : ss.length ≤ maxLen) (hn : Names w a ss) (hss : ∀ k, k < ss.length → (nth ss k).size ≤ maxLen) :
    Calls Try.prog 4 #[.slice a ss.length cap] w fun e w' => EndB e (fun _ => True) ∧ w' = w := by
  unfold maxLen at hl hss
  have HSS : Hid _ := hss
  clear hss
  rcases hn with rfl | ⟨b, off, rfl, hb, hc⟩
  · go_enter Try.func4, Try.ntmps4
    go_wp2
    go_loop [3, 4] (fun n i => n = .int .i64 0 ∧ i = .int .i64 0) (fun _ _ => 0)
    case atStart => exact ⟨rfl, rfl⟩
    case round =>
      obtain ⟨rfl, rfl⟩ := hrel
      go_wp2
      go_ret
      exact ⟨⟨true, rfl, trivial⟩, rfl⟩
  · have HC : Hid _ := hc
    clear hc
    by_cases hbig : (1048576 : Int) < (ss.length : Int)
    · go_enter Try.func4, Try.ntmps4
      go_wp2
      go_ret
      exact ⟨⟨false, rfl, trivial⟩, rfl⟩
    · go_enter Try.func4, Try.ntmps4
      go_wp2
      go_loop [3, 4] (fun n i => ∃ k z : Nat, k ≤ ss.length ∧ i = .int .i64 k ∧ z ≤ 1048576 ∧ n = .int .i64 z) (fun _ i => ss.length - (intOf i).toNat)
      case atStart => exact ⟨0, ss.length, Nat.zero_le _, rfl, by omega, rfl⟩
      case round =>
        obtain ⟨k, z, hk, rfl, hz, rfl⟩ := hrel
        by_cases hlt : k < ss.length
        · have hck := HC.out k hlt
          have hsz := HSS.out k hlt
          generalize nth ss k = s at *
          go_wp2
          · go_ret
            exact ⟨⟨false, rfl, trivial⟩, rfl⟩
          · go_ret
            exact ⟨⟨false, rfl, trivial⟩, rfl⟩
          · go_round
            case rel => exact ⟨k + 1, z + s.size, by omega, by go_num, by omega, by go_num⟩
            case measure => simp [intOf]; omega
        · go_wp2
          go_ret
          exact ⟨⟨true, rfl, trivial⟩, rfl⟩
end Go.Proofs.Qxb6609295a
