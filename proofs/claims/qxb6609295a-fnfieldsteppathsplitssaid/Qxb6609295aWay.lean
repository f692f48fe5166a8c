/-
  THE LAW's OWN WALK: FnFieldStepPathSplits.
-/
import Derived.Test.Qxb6609295aSplit
import Derived.Lib.JoinLaws
namespace Go.Proofs.Qxb6609295a
open Go.RowKit

set_option maxHeartbeats 400000 in
theorem split_nil (a : Option Addr) (capN B cap : Nat) (w : World) :
    Calls Try.prog 7 #[.slice (some ⟨B, 0, none⟩) 0 cap, .slice a 0 capN] w fun e w' => e = .returned (.bool true) ∧ ∃ q, w' = w.drewN q := by
  go_enter Try.func7, Try.ntmps7
  go_wp2
  go_loop [5, 6] (fun p i => p = .int .i64 0 ∧ i = .int .i64 0) (fun _ _ => 0)
  case atStart => exact ⟨rfl, rfl⟩
  case round =>
    obtain ⟨rfl, rfl⟩ := hrel
    go_wp2
    go_ret
    exact ⟨rfl, 0, rfl⟩

/-- zzb1SplitsBack at the path of the names themselves. -/
theorem split_any (a : Option Addr) (ss : List ByteArray) (capN B cap : Nat) (w : World) (hn : Names w a ss) (hl : ss.length ≤ 65536) (hcap : offs ss ss.length ≤ cap) (hcap2 : cap ≤ 1048576)
    (hname : ∀ k, k < ss.length → StepName (nth ss k)) (hP : Lib.Bytes w B 0 (pathB ss)) :
    Calls Try.prog 7 #[.slice (some ⟨B, 0, none⟩) (offs ss ss.length) cap, .slice a ss.length capN] w fun e w' => e = .returned (.bool true) ∧ ∃ q, w' = w.drewN q := by
  rcases hn with rfl | ⟨b, off, rfl, _, hc⟩
  · exact split_nil a capN B cap w
  · have hsz : (pathB ss).size = offs ss ss.length := by rw [pathB_size, offs_end]
    refine split_core b off ss.length capN B (offs ss ss.length) cap (offs ss) (nth ss) w hl hcap hcap2 (offs_zero ss) rfl ?_ hc ?_ ?_ ?_
    · intro k hk
      have := (hname k hk).1
      exact ⟨by rw [offs_succ ss k hk]; omega, offs_le ss k hk⟩
    · intro k hk
      have h1 := offs_le ss k hk
      rw [offs_succ ss k hk] at h1
      have h2 := hP (offs ss k) (by omega)
      have h3 := pathB_get ss (offs ss k) (by omega)
      rw [at_dot ss k hk] at h3
      rw [Nat.zero_add] at h2
      rw [h2, Option.some.inj h3]; rfl
    · intro k hk p hp1 hp2
      have h1 := offs_le ss k hk
      rw [offs_succ ss k hk] at h1 hp2
      have h2 := hP p (by omega)
      have h3 := pathB_get ss p (by omega)
      have h4 := in_name ss k (p - (offs ss k + 1)) hk (by omega)
      rw [show offs ss k + 1 + (p - (offs ss k + 1)) = p from by omega] at h4
      rw [h4] at h3
      have h5 := (hname k hk).2 (p - (offs ss k + 1)) (by omega)
      rw [Nat.zero_add] at h2
      refine ⟨_, h2, ?_⟩
      rw [Option.some.inj h3, beq_eq_false_iff_ne]
      intro h
      refine h5 (UInt8.toNat_inj.1 ?_)
      show _ = 46
      omega
    · intro k hk q
      have h1 := offs_le ss k hk
      have h6 := offs_succ ss k hk
      have h7 := Lib.run_convert_window (P := Try.prog) (w.drewN q) 25 5 9 Try.underlying25 Try.underlying5 Try.underlying9 B 0 (pathB ss) (hP.drewN q) (offs ss k + 1) (nth ss k).size (cap - (offs ss k + 1)) (by omega)
      rw [cut_name ss k hk, Nat.zero_add] at h7
      rw [show offs ss (k + 1) - (offs ss k + 1) = (nth ss k).size from by omega]
      exact h7
end Go.Proofs.Qxb6609295a
