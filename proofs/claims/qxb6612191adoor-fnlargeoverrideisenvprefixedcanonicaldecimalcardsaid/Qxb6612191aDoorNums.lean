/-
  THE WALKS of hasEnvPrefix, decimalLen, canonicalDecimalEquals.
-/
import Derived.Test.Qxb6612191aDoorRows
import Derived.Test.Qxb6612191aDoorPlain
import Derived.WalkKit
import Derived.ProofKit
import Derived.WalkSpells
import Derived.WalkLawsBesides
namespace Go.Proofs.Qxb6612191aDoor
open Go.RowKit
def intOf : Value → Int | .int _ q => q | _ => 0

theorem ret_int {k : IntKind} {a b : Int} (h : a = b) : Ending.returned (.int k a) = .returned (.int k b) := by rw [h]

set_option maxHeartbeats 400000 in
theorem env_core (s : ByteArray) (w : World) (h : 4 ≤ s.size) (h0 : ((s[0]'(by omega)).toNat : Int) = 101) (h1 : ((s[1]'(by omega)).toNat : Int) = 110) (h2 : ((s[2]'(by omega)).toNat : Int) = 118) (h3 : ((s[3]'(by omega)).toNat : Int) = 45) :
    Calls Tryd.prog 6 #[.string s] w fun e w' => e = .returned (.bool true) ∧ w' = w := by
  go_enter Tryd.func6, Tryd.ntmps6
  go_wp2
  go_ret
  exact ⟨rfl, rfl⟩

theorem env_any (n : Int) (w : World) : Calls Tryd.prog 6 #[.string (envB n)] w fun e w' => e = .returned (.bool true) ∧ w' = w := by
  have hz : 4 ≤ (envB n).size := by rw [envB_size]; omega
  exact env_core (envB n) w hz rfl rfl rfl rfl

set_option maxHeartbeats 400000 in
theorem len_pos (u : Nat) (w : World) (hu : (u : Int) ≤ 9223372036854775807) :
    Calls Tryd.prog 8 #[.int .i64 u] w fun e w' => e = .returned (.int .i64 (Lib.nDigits u)) ∧ w' = w := by
  have h20 := Lib.nDigits_le20 u (by omega)
  have hd : decide ((u : Int) < 0) = false := by simp
  go_enter Tryd.func8, Tryd.ntmps8
  go_wp2
  go_loop [3, 4] (fun c m => ∃ r k : Nat, (r : Int) ≤ 9223372036854775807 ∧ c = .int .i64 k ∧ m = .int .i64 r ∧ k + Lib.nDigits r = Lib.nDigits u) (fun _ m => (intOf m).toNat)
  case atStart => exact ⟨u, 0, hu, rfl, rfl, by omega⟩
  case round =>
    obtain ⟨r, k, hr, rfl, rfl, hk⟩ := hrel
    have HK : Hid _ := hk
    have hkb : k ≤ 20 := by omega
    clear hk
    by_cases h10 : r < 10
    · have hq : (((r : Int) / 10) == 0) = true := by rw [beq_iff_eq]; omega
      go_wp2
      go_ret
      refine ⟨ret_int ?_, rfl⟩
      have := HK.out
      rw [Lib.nDigits_small h10] at this
      omega
    · have hq : (((r : Int) / 10) == 0) = false := by rw [beq_eq_false_iff_ne]; omega
      go_wp2
      go_round
      case rel =>
        refine ⟨r / 10, k + 1, by omega, by go_num, by go_num, ?_⟩
        have := HK.out
        rw [Lib.nDigits_big h10] at this
        omega
      case measure => simp [intOf]; omega

set_option maxHeartbeats 400000 in
theorem len_neg (u : Nat) (w : World) (hu1 : 1 ≤ u) (hu : (u : Int) ≤ 9223372036854775808) :
    Calls Tryd.prog 8 #[.int .i64 (-(u : Int))] w fun e w' => e = .returned (.int .i64 (1 + Lib.nDigits u)) ∧ w' = w := by
  have h20 := Lib.nDigits_le20 u (by omega)
  have hd : -(u : Int) < 0 := by omega
  go_enter Tryd.func8, Tryd.ntmps8
  go_wp2
  go_loop [3, 4] (fun c m => ∃ r k : Nat, (r : Int) ≤ 9223372036854775808 ∧ c = .int .i64 k ∧ m = .int .i64 (-(r : Int)) ∧ k + Lib.nDigits r = 1 + Lib.nDigits u) (fun _ m => (intOf m).natAbs)
  case atStart => exact ⟨u, 1, hu, rfl, rfl, by omega⟩
  case round =>
    obtain ⟨r, k, hr, rfl, rfl, hk⟩ := hrel
    have HK : Hid _ := hk
    have hkb : k ≤ 21 := by omega
    clear hk
    by_cases h10 : r < 10
    · go_wp2
      go_ret
      refine ⟨ret_int ?_, rfl⟩
      have := HK.out
      rw [Lib.nDigits_small h10] at this
      omega
    · go_wp2
      go_round
      case rel =>
        refine ⟨r / 10, k + 1, by omega, by go_num, by go_num, ?_⟩
        have := HK.out
        rw [Lib.nDigits_big h10] at this
        omega
      case measure => simp [intOf]; omega

/-- decimalLen counts the numeral's bytes. -/
theorem len_any (n : Int) (w : World) (h0 : -9223372036854775808 ≤ n) (h1 : n ≤ 9223372036854775807) :
    Calls Tryd.prog 8 #[.int .i64 n] w fun e w' => e = .returned (.int .i64 (decLen n)) ∧ w' = w := by
  by_cases h : n < 0
  · obtain ⟨u, rfl⟩ : ∃ u : Nat, n = -(u : Int) := ⟨n.natAbs, by omega⟩
    have e : ((decLen (-(u : Int)) : Nat) : Int) = 1 + Lib.nDigits u := by
      unfold decLen; rw [if_pos h, show (-(u : Int)).natAbs = u from by omega]; omega
    rw [e]
    exact len_neg u w (by omega) (by omega)
  · obtain ⟨u, rfl⟩ : ∃ u : Nat, n = (u : Int) := ⟨n.toNat, by omega⟩
    have e : ((decLen (u : Int) : Nat) : Int) = Lib.nDigits u := by
      unfold decLen; rw [if_neg h, Int.natAbs_natCast]; omega
    rw [e]
    exact len_pos u w h1

set_option maxHeartbeats 800000 in
theorem canon_pos (t : ByteArray) (u : Nat) (d p : Nat → Nat) (w : World) (hu : (u : Int) ≤ 9223372036854775807) (hz : 1 ≤ t.size) (hz2 : t.size ≤ 30)
    (hd : ∀ k, d k ≤ 9) (hb : ∀ k (h : k < t.size), ((t[k]).toNat : Int) = 48 + (d k : Int)) (hp0 : p 0 = 0) (hps : ∀ k, k < t.size → p (k + 1) = p k * 10 + d k) (hpe : p t.size = u) (hpl : ∀ k, p k ≤ u)
    (hf : d 0 = 0 → t.size = 1) :
    Calls Tryd.prog 7 #[.string t, .int .i64 u] w fun e w' => e = .returned (.bool true) ∧ w' = w := by
  have HD : Hid _ := hd
  have HB : Hid _ := hb
  have HP0 : Hid _ := hp0
  have HPS : Hid _ := hps
  have HPE : Hid _ := hpe
  have HPL : Hid _ := hpl
  clear hd hb hp0 hps hpe hpl
  have hzi : (0 : Int) < (t.size : Int) := by omega
  have hb0 := HB.out 0 (by omega)
  have hd0 := HD.out 0
  have hem : ¬ t = ByteArray.empty := fun h => by rw [h] at hz; exact absurd hz (by decide)
  have hcase : (d 0 ≤ 0 ∧ ((t.size : Int) != 1) = false) ∨ 1 ≤ d 0 := by
    by_cases hf0 : d 0 = 0
    · left; exact ⟨by omega, by rw [hf hf0]; rfl⟩
    · right; omega
  clear hf
  rcases hcase with ⟨hle, hne⟩ | hge
  all_goals
    go_enter Tryd.func7, Tryd.ntmps7
    go_wp2
    go_loop [6, 7] (fun s v => ∃ k : Nat, k ≤ t.size ∧ s = .int .i64 k ∧ v = .int .i64 (p k)) (fun s _ => t.size - (intOf s).toNat)
    case atStart => exact ⟨0, Nat.zero_le _, rfl, by rw [HP0.out]; rfl⟩
    case round =>
      obtain ⟨k, hk, rfl, rfl⟩ := hrel
      by_cases hlt : k < t.size
      · have hbk := HB.out k hlt
        have hdk := HD.out k
        have hps := HPS.out k hlt
        have hpl := HPL.out (k + 1)
        rw [hps] at hpl
        have HPK : Hid _ := hps
        clear hps hb0
        generalize p k = x at *
        generalize d k = y at *
        go_wp2
        go_round
        case rel => exact ⟨k + 1, by omega, by go_num, by rw [HPK.out]; go_num⟩
        case measure => simp [intOf]; omega
      · have hkk : k = t.size := by omega
        have hfin : ((p k : Int) == (u : Int)) = true := by rw [hkk, HPE.out]; simp
        clear hkk
        go_wp2
        go_ret
        exact ⟨rfl, rfl⟩

set_option maxHeartbeats 800000 in
theorem canon_neg (t : ByteArray) (u : Nat) (d p : Nat → Nat) (w : World) (hu : (u : Int) ≤ 9223372036854775808) (hz : 2 ≤ t.size) (hz2 : t.size ≤ 30)
    (hd : ∀ k, d k ≤ 9) (hm : ((t[0]'(by omega)).toNat : Int) = 45) (hb : ∀ k (h : k + 1 < t.size), ((t[k + 1]).toNat : Int) = 48 + (d k : Int)) (hp0 : p 0 = 0) (hps : ∀ k, k + 1 < t.size → p (k + 1) = p k * 10 + d k) (hpe : ∀ k, k + 1 = t.size → p k = u) (hpl : ∀ k, p k ≤ u)
    (hf : 1 ≤ d 0) :
    Calls Tryd.prog 7 #[.string t, .int .i64 (-(u : Int))] w fun e w' => e = .returned (.bool true) ∧ w' = w := by
  have HD : Hid _ := hd
  have HB : Hid _ := hb
  have HP0 : Hid _ := hp0
  have HPS : Hid _ := hps
  have HPE : Hid _ := hpe
  have HPL : Hid _ := hpl
  clear hd hb hp0 hps hpe hpl
  have hzi : (1 : Int) < (t.size : Int) := by omega
  have hb0 := HB.out 0 (by omega)
  have hd0 := HD.out 0
  have hem : ¬ t = ByteArray.empty := fun h => by rw [h] at hz; exact absurd hz (by decide)
  go_enter Tryd.func7, Tryd.ntmps7
  go_wp2
  go_loop [6, 7] (fun s v => ∃ k : Nat, k + 1 ≤ t.size ∧ s = .int .i64 ((k + 1 : Nat) : Int) ∧ v = .int .i64 (-(p k : Int))) (fun s _ => t.size - (intOf s).toNat)
  case atStart => exact ⟨0, by omega, rfl, by rw [HP0.out]; rfl⟩
  case round =>
    obtain ⟨k, hk, rfl, rfl⟩ := hrel
    by_cases hlt : k + 1 < t.size
    · have hbk := HB.out k hlt
      have hdk := HD.out k
      have hps := HPS.out k hlt
      have hpl := HPL.out (k + 1)
      rw [hps] at hpl
      have HPK : Hid _ := hps
      clear hps hb0 hm
      generalize p k = x at *
      generalize d k = y at *
      have hlt' : ((k : Int) + 1) < (t.size : Int) := by omega
      go_wp2
      go_round
      case rel => exact ⟨k + 1, by omega, by go_num, by rw [HPK.out]; go_num⟩
      case measure => simp [intOf]; omega
    · have hfin : ((-(p k : Int)) == (-(u : Int))) = true := by rw [HPE.out k (by omega)]; simp
      go_wp2
      go_ret
      exact ⟨rfl, rfl⟩

/-- The numeral as a byte string. -/
def numB (n : Int) : ByteArray := ⟨(Lib.itoa n).toArray⟩
theorem numB_size (n : Int) : (numB n).size = (Lib.itoa n).length := List.size_toArray
theorem numB_get (n : Int) (k : Nat) (h : k < (numB n).size) : some (numB n)[k] = (Lib.itoa n)[k]? := by
  rw [numB_size] at h
  rw [List.getElem?_eq_getElem h]
  rfl
theorem byte_of (j : Nat) (h : j ≤ 9) : ((UInt8.ofNat (48 + j)).toNat : Int) = 48 + (j : Int) := by
  simp only [UInt8.toNat_ofNat', Nat.reducePow]
  omega

/-- canonicalDecimalEquals reads the numeral back. -/
theorem canon_any (n : Int) (w : World) (h0 : -9223372036854775808 ≤ n) (h1 : n ≤ 9223372036854775807) :
    Calls Tryd.prog 7 #[.string (numB n), .int .i64 n] w fun e w' => e = .returned (.bool true) ∧ w' = w := by
  by_cases h : n < 0
  · obtain ⟨u, rfl⟩ : ∃ u : Nat, n = -(u : Int) := ⟨n.natAbs, by omega⟩
    have hi : Lib.itoa (-(u : Int)) = 45 :: Lib.decDigits u := by unfold Lib.itoa; rw [if_pos h, show (-(u : Int)).natAbs = u from by omega]
    have hs : (numB (-(u : Int))).size = Lib.nDigits u + 1 := by rw [numB_size, hi, List.length_cons, Lib.decDigits_length]
    have hnp := Lib.nDigits_pos u
    have hn20 := Lib.nDigits_le20 u (by omega)
    refine canon_neg (numB (-(u : Int))) u (dgt u) (pv u) w (by omega) (by omega) (by omega) (dgt_le u) ?_ ?_ (pv_zero u) (fun k hk => pv_succ u k (by omega)) (fun k hk => by rw [show k = Lib.nDigits u from by omega, pv_end]) (pv_le u) (dgt_first u (by omega))
    · have := numB_get (-(u : Int)) 0 (by omega)
      rw [hi, List.getElem?_cons_zero] at this
      rw [Option.some.inj this]; rfl
    · intro k hk
      have := numB_get (-(u : Int)) (k + 1) hk
      rw [hi, List.getElem?_cons_succ, dgt_get u k (by omega)] at this
      rw [Option.some.inj this]
      exact byte_of _ (dgt_le u k)
  · obtain ⟨u, rfl⟩ : ∃ u : Nat, n = (u : Int) := ⟨n.toNat, by omega⟩
    have hi : Lib.itoa (u : Int) = Lib.decDigits u := by unfold Lib.itoa; rw [if_neg h, Int.toNat_natCast]
    have hs : (numB (u : Int)).size = Lib.nDigits u := by rw [numB_size, hi, Lib.decDigits_length]
    have hnp := Lib.nDigits_pos u
    have hn20 := Lib.nDigits_le20 u (by omega)
    refine canon_pos (numB (u : Int)) u (dgt u) (pv u) w h1 (by omega) (by omega) (dgt_le u) ?_ (pv_zero u) (fun k hk => pv_succ u k (by omega)) (by rw [hs, pv_end]) (pv_le u) ?_
    · intro k hk
      have := numB_get (u : Int) k hk
      rw [hi, dgt_get u k (by omega)] at this
      rw [Option.some.inj this]
      exact byte_of _ (dgt_le u k)
    · intro hz
      by_cases h1 : 1 ≤ u
      · have := dgt_first u h1; omega
      · rw [hs, show u = 0 from by omega]
        exact Lib.nDigits_small (by omega)
end Go.Proofs.Qxb6612191aDoor
