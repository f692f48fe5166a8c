import Derived.Test.Qxb6609160aIndex
namespace Go.Proofs.Qxb6609160a
open Go.RowKit

set_option maxHeartbeats 800000 in
theorem parse_core (s R1 R2 R3 Tb Md Cd Ex : ByteArray) (n m : Nat) (w : World) (hs : s.size ≤ 2000000)
    (e1 : s.extract 12 s.size = R1) (e2 : R1.extract 0 9 = Tb) (e3 : R1.extract 21 R1.size = R2) (e4 : R2.extract (n + 5) R2.size = Md) (e5 : R2.extract 0 n = R3) (e6 : R3.extract (m + 5) R3.size = Cd) (e7 : R3.extract 0 m = Ex)
    (h12 : 12 ≤ s.size) (h21 : 21 ≤ R1.size) (hR1 : R1.size ≤ 2000000) (hn : (n : Int) + 5 ≤ (R2.size : Int)) (hR2 : R2.size ≤ 2000000) (hm : (m : Int) + 5 ≤ (R3.size : Int)) (hR3 : R3.size ≤ 2000000)
    (m0 : matchAt s ⟨#[83, 69, 76, 69, 67, 84, 32, 70, 82, 79, 77, 32]⟩ 0 = true)
    (m1 : matchAt R1 ⟨#[32, 87, 72, 69, 82, 69, 32, 105, 100, 32, 61, 32]⟩ 9 = true) (m1' : ∀ i, i < 9 → matchAt R1 ⟨#[32, 87, 72, 69, 82, 69, 32, 105, 100, 32, 61, 32]⟩ i = false)
    (m2 : matchAt R2 ⟨#[32, 70, 79, 82, 32]⟩ n = true) (m2' : ∀ i, n < i → i + 5 ≤ R2.size → matchAt R2 ⟨#[32, 70, 79, 82, 32]⟩ i = false)
    (m3 : matchAt R3 ⟨#[32, 65, 78, 68, 32]⟩ m = true) (m3' : ∀ i, m < i → i + 5 ≤ R3.size → matchAt R3 ⟨#[32, 65, 78, 68, 32]⟩ i = false) :
    Calls Try.prog 6 #[.string s] w fun e w' => e = .returned (.tuple #[.string Tb, .string Ex, .string Cd, .string Md, .bool true]) ∧ w' = w := by
  have hn0 : (n : Int) ≤ (R2.size : Int) := by omega
  have hm0 : (m : Int) ≤ (R3.size : Int) := by omega
  have M0 : Hid _ := m0
  have M1 : Hid _ := m1
  have M1' : Hid _ := m1'
  have M2 : Hid _ := m2
  have M2' : Hid _ := m2'
  have M3 : Hid _ := m3
  have M3' : Hid _ := m3'
  clear m0 m1 m1' m2 m2' m3 m3'
  go_enter Try.func6, Try.ntmps6
  go_wp2_with fail
  refine (head_yes s _ _ (by exact h12) (by exact M0.out)).mono ?_
  rintro e w' ⟨rfl, rfl⟩
  go_wp2_with fail
  refine (index_at R1 _ 9 _ (by unfold maxLen; omega) (by exact h21) (by exact M1.out) (by exact M1'.out)).mono ?_
  rintro e w' ⟨rfl, rfl⟩
  go_wp2_with fail
  refine (last_at R2 _ n _ (by unfold maxLen; omega) (by show n + 5 ≤ R2.size; omega) M2.out M2'.out).mono ?_
  rintro e w' ⟨rfl, rfl⟩
  go_wp2_with fail
  refine (last_at R3 _ m _ (by unfold maxLen; omega) (by show m + 5 ≤ R3.size; omega) M3.out M3'.out).mono ?_
  rintro e w' ⟨rfl, rfl⟩
  go_wp2_with fail
  exact bodyPost_ret (v := .tuple #[.string Tb, .string Ex, .string Cd, .string Md, .bool true]) (by simp [results, Try.results6, go_sem, e6]) rfl ⟨rfl, rfl⟩

/-- The text ahead of the resource. -/
def lH : List UInt8 := [83, 69, 76, 69, 67, 84, 32, 70, 82, 79, 77, 32, 114, 101, 115, 111, 117, 114, 99, 101, 115, 32, 87, 72, 69, 82, 69, 32, 105, 100, 32, 61, 32]
/-- The text behind the resource. -/
def lT : List UInt8 := [32, 65, 78, 68, 32, 119, 97, 105, 116, 108, 105, 115, 116, 32, 70, 79, 82, 32, 78, 79, 32, 75, 69, 89, 32, 85, 80, 68, 65, 84, 69]

/-- What lockWaitlist gives. -/
def lockS (l : List UInt8) : List UInt8 := lH ++ (l ++ lT)

set_option maxHeartbeats 400000 in
theorem lock_any (l : List UInt8) (w : World) (hr : l.length ≤ 1048576) :
    Calls Try.prog 14 #[.string (bs l)] w fun e w' => e = .returned (.string (bs (lockS l))) ∧ w' = w := by
  have hsz : (bs l).size ≤ 1048576 := by rw [bs_size]; exact hr
  have e : (⟨#[83, 69, 76, 69, 67, 84, 32, 70, 82, 79, 77, 32, 114, 101, 115, 111, 117, 114, 99, 101, 115, 32, 87, 72, 69, 82, 69, 32, 105, 100, 32, 61, 32]⟩ : ByteArray) ++ bs l ++ ⟨#[32, 65, 78, 68, 32, 119, 97, 105, 116, 108, 105, 115, 116, 32, 70, 79, 82, 32, 78, 79, 32, 75, 69, 89, 32, 85, 80, 68, 65, 84, 69]⟩ = bs (lockS l) := by
    show bs lH ++ bs l ++ bs lT = _
    rw [bs_append, bs_append, List.append_assoc]; rfl
  have HE : Hid _ := e
  clear e
  generalize bs l = r at *
  go_enter Try.func14, Try.ntmps14
  go_wp2
  go_ret
  exact ⟨congrArg (fun x => Ending.returned (.string x)) HE.out, rfl⟩

set_option maxHeartbeats 400000 in
theorem zzlock_any (l : List UInt8) (w : World) (hr : l.length ≤ 1048576) :
    Calls Try.prog 7 #[.string (bs l)] w fun e w' => e = .returned (.string (bs (lockS l))) ∧ w' = w := by
  go_enter Try.func7, Try.ntmps7
  go_wp2_with fail
  refine (lock_any l _ hr).mono ?_
  rintro e w' ⟨rfl, rfl⟩
  go_wp2
  go_ret
  exact ⟨rfl, rfl⟩

theorem parse_any (l : List UInt8) (w : World) (hr : l.length ≤ 1048576) :
    Calls Try.prog 6 #[.string (bs (lockS l))] w fun e w' => e = .returned (.tuple #[.string (bs [114, 101, 115, 111, 117, 114, 99, 101, 115]), .string (bs l), .string (bs [119, 97, 105, 116, 108, 105, 115, 116]), .string (bs [78, 79, 32, 75, 69, 89, 32, 85, 80, 68, 65, 84, 69]), .bool true]) ∧ w' = w := by
  have hlen : (lockS l).length = l.length + 64 := by simp [lockS, lH, lT]
  have lenT : lT.length = 31 := rfl
  refine parse_core (bs (lockS l)) (bs (lH.drop 12 ++ (l ++ lT))) (bs (l ++ lT)) (bs (l ++ lT.take 13)) _ _ _ _ (l.length + 13) l.length w
    (by rw [bs_size, hlen]; omega) ?_ ?_ ?_ ?_ ?_ ?_ ?_ (by rw [bs_size, hlen]; omega) (by rw [bs_size]; simp [lH]) (by rw [bs_size]; simp [lH, lT]; omega) (by rw [bs_size]; simp [lT]; omega) (by rw [bs_size]; simp [lT]; omega) (by rw [bs_size]; simp [lT]) (by rw [bs_size]; simp [lT]; omega) ?_ ?_ ?_ ?_ ?_ ?_ ?_
  · rw [bs_size, bs_extract]
    refine bs_congr ?_
    rw [List.take_of_length_le (by simp)]; rfl
  · rw [bs_extract]; rfl
  · rw [bs_size, bs_extract]
    refine bs_congr ?_
    rw [List.take_of_length_le (by simp)]; rfl
  · rw [bs_size, bs_extract]
    refine bs_congr ?_
    rw [List.take_of_length_le (by simp)]
    rw [List.drop_append, List.drop_of_length_le (by omega), show l.length + 13 + 5 - l.length = 18 from by omega]; rfl
  · rw [bs_extract]
    refine bs_congr ?_
    rw [List.drop_zero, List.take_append, List.take_of_length_le (by omega), show l.length + 13 - 0 - l.length = 13 from by omega]
  · rw [bs_size, bs_extract]
    refine bs_congr ?_
    rw [List.take_of_length_le (by simp [lenT])]
    rw [List.drop_append, List.drop_of_length_le (by omega), show l.length + 5 - l.length = 5 from by omega]; rfl
  · rw [bs_extract]
    refine bs_congr ?_
    rw [List.drop_zero, List.take_append, List.take_of_length_le (by omega), show l.length - 0 - l.length = 0 from by omega]; simp
  · rw [bs_mk [83, 69, 76, 69, 67, 84, 32, 70, 82, 79, 77, 32], matchAt_bs, lockS, matchL_left _ _ _ _ (by decide)]; decide
  · rw [bs_mk [32, 87, 72, 69, 82, 69, 32, 105, 100, 32, 61, 32], matchAt_bs, matchL_left _ _ _ _ (by decide)]; decide
  · intro i hi
    rw [bs_mk [32, 87, 72, 69, 82, 69, 32, 105, 100, 32, 61, 32], matchAt_bs, matchL_left _ _ _ _ (by simp [lH]; omega)]
    have : ∀ i, i < 9 → matchL (lH.drop 12) [32, 87, 72, 69, 82, 69, 32, 105, 100, 32, 61, 32] i = false := by decide
    exact this i hi
  · rw [bs_mk [32, 70, 79, 82, 32], matchAt_bs, matchL_right _ _ _ _ (by omega), show l.length + 13 - l.length = 13 from by omega]; decide
  · intro i hi hj
    rw [bs_size, List.length_append, lenT] at hj
    rw [bs_mk [32, 70, 79, 82, 32], matchAt_bs, matchL_right _ _ _ _ (by omega)]
    have : ∀ j, j < 27 → 13 < j → matchL lT [32, 70, 79, 82, 32] j = false := by decide
    exact this _ (by omega) (by omega)
  · rw [bs_mk [32, 65, 78, 68, 32], matchAt_bs, matchL_right _ _ _ _ (by omega), show l.length - l.length = 0 from by omega]; decide
  · intro i hi hj
    rw [bs_size, List.length_append, show (lT.take 13).length = 13 from rfl] at hj
    rw [bs_mk [32, 65, 78, 68, 32], matchAt_bs, matchL_right _ _ _ _ (by omega)]
    have : ∀ j, j < 9 → 0 < j → matchL (lT.take 13) [32, 65, 78, 68, 32] j = false := by decide
    exact this _ (by omega) (by omega)

/-! ### The same, said of a byte string -/
def lockB (r : ByteArray) : ByteArray := bs (lockS r.data.toList)

theorem size_len (r : ByteArray) : r.data.toList.length = r.size := by rw [Array.length_toList]; rfl

theorem lock_r (r : ByteArray) (w : World) (hr : (r.size : Int) ≤ 1048576) :
    Calls Try.prog 14 #[.string r] w fun e w' => e = .returned (.string (lockB r)) ∧ w' = w := by
  have h := lock_any r.data.toList w (by rw [size_len]; omega)
  rw [← bs_self] at h
  exact h

theorem zzlock_r (r : ByteArray) (w : World) (hr : (r.size : Int) ≤ 1048576) :
    Calls Try.prog 7 #[.string r] w fun e w' => e = .returned (.string (lockB r)) ∧ w' = w := by
  have h := zzlock_any r.data.toList w (by rw [size_len]; omega)
  rw [← bs_self] at h
  exact h

theorem parse_r (r : ByteArray) (w : World) (hr : (r.size : Int) ≤ 1048576) :
    Calls Try.prog 6 #[.string (lockB r)] w fun e w' => e = .returned (.tuple #[.string ⟨#[114, 101, 115, 111, 117, 114, 99, 101, 115]⟩, .string r, .string ⟨#[119, 97, 105, 116, 108, 105, 115, 116]⟩, .string ⟨#[78, 79, 32, 75, 69, 89, 32, 85, 80, 68, 65, 84, 69]⟩, .bool true]) ∧ w' = w := by
  have h := parse_any r.data.toList w (by rw [size_len]; omega)
  rw [← bs_self] at h
  exact h

set_option maxHeartbeats 400000 in
theorem bytes5_small (r : ByteArray) (w : World) (hr : (r.size : Int) ≤ 1048576) :
    Calls Try.prog 5 #[.string r] w fun e w' => e = .returned (.bool true) ∧ w' = w := by
  go_enter Try.func5, Try.ntmps5
  go_wp2
  go_ret
  exact ⟨rfl, rfl⟩

set_option maxHeartbeats 400000 in
theorem bytes5_big (r : ByteArray) (w : World) (hr : (1048576 : Int) < (r.size : Int)) :
    Calls Try.prog 5 #[.string r] w fun e w' => e = .returned (.bool false) ∧ w' = w := by
  go_enter Try.func5, Try.ntmps5
  go_wp2
  go_ret
  exact ⟨rfl, rfl⟩
end Go.Proofs.Qxb6609160a
