/-
  PLAIN FACTS on decimal numerals: no Go in sight. ('Lib.itoa', 'Lib.decDigits', 'Lib.nDigits': the kit's own functions.)
-/
import Derived.Lib.ItoaNum
import Derived.Lib.ItoaLen
namespace Go.Proofs.Qxb6612191aDoor
open Go

/-- The number that the first j digits spell. -/
def pv (u j : Nat) : Nat := u / 10 ^ (Lib.nDigits u - j)
/-- The j-th digit. -/
def dgt (u j : Nat) : Nat := u / 10 ^ (Lib.nDigits u - 1 - j) % 10

theorem dgt_le (u j : Nat) : dgt u j ≤ 9 := by unfold dgt; omega
theorem pv_zero (u : Nat) : pv u 0 = 0 := by unfold pv; exact Nat.div_eq_of_lt (by simpa using Lib.lt_pow_nDigits u)
theorem pv_end (u : Nat) : pv u (Lib.nDigits u) = u := by unfold pv; simp
theorem pv_le (u j : Nat) : pv u j ≤ u := Nat.div_le_self _ _
theorem pv_succ (u j : Nat) (h : j < Lib.nDigits u) : pv u (j + 1) = pv u j * 10 + dgt u j := by
  unfold pv dgt
  rw [show Lib.nDigits u - j = (Lib.nDigits u - 1 - j) + 1 from by omega, show Lib.nDigits u - (j + 1) = Lib.nDigits u - 1 - j from by omega, Nat.pow_succ, ← Nat.div_div_eq_div_mul]
  generalize u / 10 ^ (Lib.nDigits u - 1 - j) = q
  omega
theorem dgt_get (u j : Nat) (h : j < Lib.nDigits u) : (Lib.decDigits u)[j]? = some (UInt8.ofNat (48 + dgt u j)) := by
  rw [Lib.decDigits_eq]
  simp [h, Lib.dg, dgt]
theorem pow_le_of (u : Nat) : 1 ≤ u → 10 ^ (Lib.nDigits u - 1) ≤ u := by
  induction u using Nat.strongRecOn with
  | ind u ih =>
    intro h1
    by_cases h : u < 10
    · rw [Lib.nDigits_small h]; simpa using h1
    · rw [Lib.nDigits_big h]
      have h2 := ih (u / 10) (by omega) (by omega)
      have h3 := Lib.nDigits_pos (u / 10)
      have h4 : 10 ^ (Lib.nDigits (u / 10) + 1 - 1) = 10 ^ (Lib.nDigits (u / 10) - 1) * 10 := by
        rw [show Lib.nDigits (u / 10) + 1 - 1 = (Lib.nDigits (u / 10) - 1) + 1 from by omega, Nat.pow_succ]
      rw [h4]
      omega
theorem dgt_first (u : Nat) (h : 1 ≤ u) : 1 ≤ dgt u 0 := by
  have h1 := pow_le_of u h
  have h2 := Lib.lt_pow_nDigits u
  have h3 := Lib.nDigits_pos u
  unfold dgt
  rw [Nat.sub_zero]
  have h4 : 1 ≤ u / 10 ^ (Lib.nDigits u - 1) := (Nat.le_div_iff_mul_le (Nat.pos_of_ne_zero (by simp))).2 (by simpa using h1)
  have h5 : u / 10 ^ (Lib.nDigits u - 1) < 10 := by
    rw [Nat.div_lt_iff_lt_mul (Nat.pos_of_ne_zero (by simp)), Nat.mul_comm, ← Nat.pow_succ]
    rwa [show (Lib.nDigits u - 1).succ = Lib.nDigits u from by omega]
  omega

/-- Two numerals are one only where the numbers are. -/
theorem decDigits_inj (u v : Nat) (h : Lib.decDigits u = Lib.decDigits v) : u = v := by
  have hl : Lib.nDigits u = Lib.nDigits v := by
    have := congrArg List.length h
    rwa [Lib.decDigits_length, Lib.decDigits_length] at this
  have hd : ∀ j, j < Lib.nDigits u → dgt u j = dgt v j := by
    intro j hj
    have h1 := dgt_get u j hj
    rw [h, dgt_get v j (by omega)] at h1
    have h2 := congrArg UInt8.toNat (Option.some.inj h1)
    have h3 := dgt_le u j
    have h4 := dgt_le v j
    simp only [UInt8.toNat_ofNat', Nat.reducePow] at h2
    omega
  have hp : ∀ j, j ≤ Lib.nDigits u → pv u j = pv v j := by
    intro j
    induction j with
    | zero => intro _; rw [pv_zero, pv_zero]
    | succ j ih =>
      intro hj
      rw [pv_succ u j (by omega), pv_succ v j (by omega), ih (by omega), hd j (by omega)]
  have h5 := hp (Lib.nDigits u) (Nat.le_refl _)
  rw [pv_end] at h5
  rw [h5, hl, pv_end]
theorem head_ne (u : Nat) : (Lib.decDigits u)[0]? ≠ some 45 := by
  rw [dgt_get u 0 (Lib.nDigits_pos u)]
  have h3 := dgt_le u 0
  intro h
  have h2 := congrArg UInt8.toNat (Option.some.inj h)
  simp only [UInt8.toNat_ofNat', Nat.reducePow] at h2
  have h6 : (45 : UInt8).toNat = 45 := rfl
  omega
theorem itoa_inj (i j : Int) (h : Lib.itoa i = Lib.itoa j) : i = j := by
  unfold Lib.itoa at h
  by_cases hi : i < 0 <;> by_cases hj : j < 0
  · rw [if_pos hi, if_pos hj] at h
    have := decDigits_inj _ _ (List.cons.inj h).2
    omega
  · rw [if_pos hi, if_neg hj] at h
    have := head_ne j.toNat
    rw [← h] at this
    simp at this
  · rw [if_neg hi, if_pos hj] at h
    have := head_ne i.toNat
    rw [h] at this
    simp at this
  · rw [if_neg hi, if_neg hj] at h
    have := decDigits_inj _ _ h
    omega

/-- How long the numeral is. -/
def decLen (n : Int) : Nat := (if n < 0 then 1 else 0) + Lib.nDigits n.natAbs
theorem itoa_len (n : Int) : (Lib.itoa n).length = decLen n := by
  unfold Lib.itoa decLen
  by_cases h : n < 0
  · rw [if_pos h, if_pos h, List.length_cons, Lib.decDigits_length]; omega
  · rw [if_neg h, if_neg h, Lib.decDigits_length, show n.toNat = n.natAbs from by omega]; omega

/-- The four bytes env- and the numeral. -/
def envL (n : Int) : List UInt8 := [101, 110, 118, 45] ++ Lib.itoa n
def envB (n : Int) : ByteArray := ⟨(envL n).toArray⟩
theorem envB_size (n : Int) : (envB n).size = 4 + decLen n := by
  show (envL n).toArray.size = _
  rw [List.size_toArray, envL, List.length_append, itoa_len]; rfl
theorem envB_inj (i j : Int) (h : envL i = envL j) : i = j := itoa_inj i j (List.append_cancel_left h)
end Go.Proofs.Qxb6612191aDoor
