/-
  THE WALK of zzb1SplitsBack, over names: N names nm 0 .., the k-th step begins at o k, the path lies in block B.
-/
import Derived.Test.Qxb6609295aSteps
import Derived.Deep.QuietTactic
import Derived.BigQuiet
import Derived.Lib.SlBytesRow
namespace Go.Proofs.Qxb6609295a
open Go.RowKit

theorem size5 : ∀ w, (Go.sizeOf 5).run Try.prog w = .ok 1 w := fun _ => by kernel_rfl

set_option maxHeartbeats 1000000 in
theorem split_core (b off N capN B n cap : Nat) (o : Nat → Nat) (nm : Nat → ByteArray) (w : World)
    (hN : N ≤ 65536) (hcap : n ≤ cap) (hcap2 : cap ≤ 1048576)
    (h0 : o 0 = 0) (hNn : o N = n) (hst : ∀ k, k < N → o k + 1 < o (k + 1) ∧ o (k + 1) ≤ n)
    (hc : ∀ k, k < N → w.cell? ⟨b, off + k, none⟩ = some (.string (nm k)))
    (hdot : ∀ k, k < N → w.cell? ⟨B, o k, none⟩ = some (.int .u8 46))
    (hin : ∀ k, k < N → ∀ p, o k < p → p < o (k + 1) → ∃ v : Int, w.cell? ⟨B, p, none⟩ = some (.int .u8 v) ∧ (v == 46) = false)
    (hcv : ∀ k, k < N → ∀ q, (convert 25 9 (.slice (some ⟨B, o k + 1, none⟩) (o (k + 1) - (o k + 1)) (cap - (o k + 1)))).run Try.prog (w.drewN q) = .ok (.string (nm k)) (w.drewN q)) :
    Calls Try.prog 7 #[.slice (some ⟨B, 0, none⟩) n cap, .slice (some ⟨b, off, none⟩) N capN] w fun e w' => e = .returned (.bool true) ∧ ∃ q, w' = w.drewN q := by
  have H0 : Hid _ := h0
  have HNn : Hid _ := hNn
  have HST : Hid _ := hst
  have HC : Hid _ := hc
  have HDOT : Hid _ := hdot
  have HIN : Hid _ := hin
  have HCV : Hid _ := hcv
  clear h0 hNn hst hc hdot hin hcv
  go_enter Try.func7, Try.ntmps7
  go_wp2
  go_loopw [5, 6] (fun p i wr => ∃ k q : Nat, k ≤ N ∧ i = .int .i64 k ∧ p = .int .i64 (o k) ∧ wr = w.drewN q) (fun _ i _ => N - (intOf i).toNat)
  case atStart => exact ⟨0, 0, Nat.zero_le _, rfl, by rw [H0.out]; rfl, rfl⟩
  case round =>
    obtain ⟨k, q, hk, rfl, rfl, rfl⟩ := hrel
    by_cases hlt : k < N
    · obtain ⟨hs1, hs2⟩ := HST.out k hlt
      have hck := HC.out k hlt
      have hdk := HDOT.out k hlt
      have hcvk := HCV.out k hlt
      have HINk : Hid _ := HIN.out k hlt
      have HE : Hid (o (k + 1) = n ∨ w.cell? ⟨B, o (k + 1), none⟩ = some (.int .u8 46)) := by
        by_cases e : k + 1 = N
        · left; rw [e]; exact HNn.out
        · right; exact HDOT.out (k + 1) (by omega)
      obtain ⟨y, hy⟩ : ∃ y, o (k + 1) = y := ⟨_, rfl⟩
      have HY : Hid _ := hy
      rw [hy] at hs1 hs2 hcvk HINk HE
      clear hy
      obtain ⟨x, hx⟩ : ∃ x, o k = x := ⟨_, rfl⟩
      rw [hx] at hs1 hdk hcvk HINk ⊢
      clear hx
      have hxn : (x : Int) < (n : Int) := by omega
      have hsl := fun W => Lib.run_slice_window (P := Try.prog) W 25 5 Try.underlying25 size5 B 0 n cap (x + 1) y hs1 (by omega)
      simp only [Nat.zero_add, Int.natCast_add, Int.cast_ofNat_Int] at hsl
      have hxd : decide (n ≤ x) = false := by simp; omega
      go_wp2
      go_loop [5] (fun p => ∃ j : Nat, x + 1 ≤ j ∧ j ≤ y ∧ p = .int .i64 j) (fun p => y - (intOf p).toNat)
      case atStart => exact ⟨x + 1, Nat.le_refl _, by omega, by go_num⟩
      case round =>
        obtain ⟨j, hj1, hj2, rfl⟩ := hrel
        by_cases hjy : j < y
        · obtain ⟨v, hv, hv46⟩ := HINk.out j (by omega) hjy
          have hjn : (j : Int) < (n : Int) := by omega
          go_wp2
          go_round
          case rel => exact ⟨j + 1, by omega, by omega, by go_num⟩
          case measure => simp [intOf]; omega
        · obtain rfl : y = j := by omega
          rcases HE.out with hyn | hy46
          · have hyd : decide (y < n) = false := by simp; omega
            clear hyn
            go_wp2
            go_quiet (fail)
            go_wp2
            go_roundw
            case rel => exact ⟨k + 1, _, by omega, by go_num, by rw [HY.out], rfl⟩
            case measure => simp [intOf]; omega
          · by_cases hyn : y < n
            · have hyn' : (y : Int) < (n : Int) := by omega
              go_wp2
              go_quiet (fail)
              go_wp2
              go_roundw
              case rel => exact ⟨k + 1, _, by omega, by go_num, by rw [HY.out], rfl⟩
              case measure => simp [intOf]; omega
            · have hyd : decide (y < n) = false := by simp; omega
              go_wp2
              go_quiet (fail)
              go_wp2
              go_roundw
              case rel => exact ⟨k + 1, _, by omega, by go_num, by rw [HY.out], rfl⟩
              case measure => simp [intOf]; omega
    · have hon : ((o k : Int) == (n : Int)) = true := by
        have hkN : k = N := by omega
        rw [hkN, HNn.out]; simp
      go_wp2
      go_ret
      exact ⟨rfl, _, rfl⟩
end Go.Proofs.Qxb6609295a
