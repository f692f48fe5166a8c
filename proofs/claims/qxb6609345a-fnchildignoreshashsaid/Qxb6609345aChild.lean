/-
  THE WALKS of listIndex, child, ZZchild, ZZnewKeyIndex, zzBytes_..
-/
import Derived.Test.Qxb6609345aRows
import Derived.WalkKit
import Derived.ProofKit
import Derived.WalkSpells
import Derived.WalkLawsBesides
namespace Go.Proofs.Qxb6609345a
open Go.RowKit
def intOf : Value → Int | .int _ q => q | _ => 0

set_option maxHeartbeats 400000 in
theorem list_any (n : Int) (w : World) :
    Calls Try.prog 44 #[.int .u64 n] w fun e w' => e = .returned (.int .i64 (n % 4294967296)) ∧ w' = w := by
  go_enter Try.func44, Try.ntmps44
  go_wp2
  go_ret
  exact ⟨rfl, rfl⟩

set_option maxHeartbeats 400000 in
theorem child_any (bx d len cap j : Nat) (n : Int) (w : World) (hx : w.cell? ⟨bx, 0, none⟩ = some (.slice (some ⟨d, 0, none⟩) len cap)) (hj : (j : Int) < (len : Int)) (hc : w.cell? ⟨d, j, none⟩ = some (.int .u64 n)) :
    Calls Try.prog 41 #[.pointer (some ⟨bx, 0, none⟩), .int .i64 j] w fun e w' => e = .returned (.int .i64 (n % 4294967296)) ∧ w' = w := by
  go_enter Try.func41, Try.ntmps41
  go_wp2_with fail
  refine (list_any n _).mono ?_
  rintro e w' ⟨rfl, rfl⟩
  go_wp2
  go_ret
  exact ⟨rfl, rfl⟩

set_option maxHeartbeats 400000 in
theorem zzchild_any (bx d len cap j : Nat) (n : Int) (w : World) (hx : w.cell? ⟨bx, 0, none⟩ = some (.slice (some ⟨d, 0, none⟩) len cap)) (hj : (j : Int) < (len : Int)) (hc : w.cell? ⟨d, j, none⟩ = some (.int .u64 n)) :
    Calls Try.prog 28 #[.pointer (some ⟨bx, 0, none⟩), .int .i64 j] w fun e w' => e = .returned (.int .i64 (n % 4294967296)) ∧ w' = w := by
  have h := child_any bx d len cap j n w hx hj hc
  have HC : Hid (Calls _ _ _ _ _) := h
  clear h hx hc
  go_enter Try.func28, Try.ntmps28
  go_wp2_with fail
  refine HC.out.mono ?_
  rintro e w' ⟨rfl, rfl⟩
  go_wp2
  go_ret
  exact ⟨rfl, rfl⟩

set_option maxHeartbeats 400000 in
theorem newIndex_any (a : Option Addr) (len cap : Nat) (w : World) :
    Calls Try.prog 27 #[.slice a len cap] w fun e w' => e = .returned (.pointer (some ⟨w.heap.size, 0, none⟩)) ∧ w' = w.alloc (.cells #[.slice a len cap, .slice none 0 0, .int .u64 0] 114) := by
  go_enter Try.func27, Try.ntmps27
  go_wp2
  go_ret
  exact ⟨rfl, rfl⟩

def EndB (e : Ending) : Prop := ∃ b : Bool, e = .returned (.bool b)

set_option maxHeartbeats 800000 in
theorem bytes_any (a : Option Addr) (len cap : Nat) (v1 v2 v3 : Value) (w : World) (hl : len ≤ maxLen) :
    Calls Try.prog 26 #[.slice a len cap, v1, v2, v3] w fun e w' => EndB e ∧ w' = w := by
  unfold maxLen at hl
  go_enter Try.func26, Try.ntmps26
  go_wp2
  all_goals (go_ret; exact ⟨⟨_, rfl⟩, rfl⟩)
end Go.Proofs.Qxb6609345a
