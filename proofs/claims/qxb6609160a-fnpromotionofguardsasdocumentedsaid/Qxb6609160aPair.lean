/-
  THE WALKS of promotionOf, ZZpromotionOf: two strings, by way of a struct.
-/
import Derived.Test.Qxb6609160aPromote
import Derived.Deep.QuietTactic
import Derived.BigQuiet
namespace Go.Proofs.Qxb6609160a
open Go.RowKit

set_option maxHeartbeats 800000 in
theorem pair_r (r : ByteArray) (w : World) (hr : (r.size : Int) ≤ 1048576) :
    Calls Try.prog 15 #[.string r] w fun e w' => e = .returned (.agg #[.string (lockB r), .string (promB r)]) ∧ w' = w.alloc (.cells #[.string (lockB r), .string (promB r)] 31) := by
  go_enter Try.func15, Try.ntmps15
  go_wp2_with fail
  refine (lock_r r _ hr).mono ?_
  rintro e w' ⟨rfl, rfl⟩
  go_wp2_with fail
  refine (prom_r r _ hr).mono ?_
  rintro e w' ⟨rfl, rfl⟩
  go_wp2_with fail
  exact bodyPost_ret (v := .agg #[.string (lockB r), .string (promB r)]) (by simp [results, Try.results15, go_sem]) rfl ⟨rfl, rfl⟩

theorem grown_drewN {W w' : World} (n : Nat) (h : Grown W w') : Grown W (w'.drewN n) := by
  induction n with
  | zero => exact h
  | succ n ih => exact ih

set_option maxHeartbeats 800000 in
theorem zzpair_r (r : ByteArray) (w : World) (hr : (r.size : Int) ≤ 1048576) :
    Calls Try.prog 9 #[.string r] w fun e w' => e = .returned (.tuple #[.string (lockB r), .string (promB r)]) ∧ Grown w w' := by
  go_enter Try.func9, Try.ntmps9
  go_wp2_with fail
  refine (pair_r r _ hr).mono ?_
  rintro e w' ⟨rfl, rfl⟩
  go_wp2_with fail
  go_quiet (fail)
  go_wp2
  go_ret2
  exact ⟨rfl, grown_drewN nq (((Grown.refl w).alloc _ _).alloc _ _)⟩

end Go.Proofs.Qxb6609160a
