/-
  THE WALKS of largeOverride, ZZlargeOverride and of the two laws.
-/
import Derived.Test.Qxb6612191aDoorNums
import Derived.Test.Qxb6612191aDoorShelf
import Derived.Lib.AppendIntMem
namespace Go.Proofs.Qxb6612191aDoor
open Go.RowKit

theorem env_cat (n : Int) : (⟨#[101, 110, 118, 45]⟩ : ByteArray) ++ numB n = envB n := by
  apply ByteArray.ext
  apply Array.toList_inj.1
  rw [ByteArray.data_append, Array.toList_append]
  rfl
theorem env_cut (n : Int) : (envB n).extract 4 (envB n).size = numB n := by
  apply ByteArray.ext
  apply Array.toList_inj.1
  rw [ByteArray.data_extract, Array.toList_extract, List.extract_eq_take_drop]
  show ((envL n).drop 4).take ((envB n).size - 4) = Lib.itoa n
  rw [envB_size, ← itoa_len]
  show (Lib.itoa n).take (4 + (Lib.itoa n).length - 4) = _
  rw [List.take_of_length_le (by omega)]

set_option maxHeartbeats 400000 in
theorem over_any (n : Int) (h0 : -9223372036854775808 ≤ n) (h1 : n ≤ 9223372036854775807) (w : World) (htab : Lib.TabIs Tryd.prog w tabName .u64 Lib.pow10Tab) :
    Calls Tryd.prog 9 #[.int .i64 n] w fun e w' => e = .returned (.string (envB n)) ∧ Below w.heap.size w w' := by
  have hI : Calls Tryd.prog 10 #[.int .i64 n] w fun e w' => e = .returned (.string (numB n)) ∧ Below w.heap.size w w' :=
    (itoa_any n h0 h1 w htab).mono fun e w' ⟨he, k, os, hw⟩ => ⟨he, by rw [hw]; exact Lib.below_grow _ w (Nat.le_refl _) k os⟩
  have HI : Hid (Calls _ _ _ _ _) := hI
  have hsz : (numB n).size ≤ 21 := by rw [numB_size]; exact Lib.itoa_length_le n h0 h1
  have HC : Hid _ := env_cat n
  clear hI htab
  go_enter Tryd.func9, Tryd.ntmps9
  go_wp2_with fail
  refine HI.out.mono ?_
  rintro e w2 ⟨rfl, hb⟩
  have HB : Hid _ := hb
  clear hb
  generalize numB n = r at *
  go_wp2_with fail
  go_ret
  exact ⟨congrArg (fun x => Ending.returned (.string x)) HC.out, HB.out⟩

set_option maxHeartbeats 400000 in
theorem zzover_any (n : Int) (h0 : -9223372036854775808 ≤ n) (h1 : n ≤ 9223372036854775807) (w : World) (htab : Lib.TabIs Tryd.prog w tabName .u64 Lib.pow10Tab) :
    Calls Tryd.prog 5 #[.int .i64 n] w fun e w' => e = .returned (.string (envB n)) ∧ Below w.heap.size w w' := by
  have hI := over_any n h0 h1 w htab
  have HI : Hid (Calls _ _ _ _ _) := hI
  clear hI htab
  go_enter Tryd.func5, Tryd.ntmps5
  go_wp2_with fail
  refine HI.out.mono ?_
  rintro e w2 ⟨rfl, hb⟩
  have HB : Hid _ := hb
  clear hb
  go_wp2_with fail
  go_ret
  exact ⟨rfl, HB.out⟩

set_option maxHeartbeats 400000 in
/-- THE FIRST LAW. -/
theorem law1_any (n : Int) (h0 : -9223372036854775808 ≤ n) (h1 : n ≤ 9223372036854775807) (w : World) (htab : Lib.TabIs Tryd.prog w tabName .u64 Lib.pow10Tab) :
    Calls Tryd.prog 3 #[.int .i64 n] w fun e w' => e = .returned (.bool true) ∧ Below w.heap.size w w' := by
  have hI := zzover_any n h0 h1 w htab
  have HI : Hid (Calls _ _ _ _ _) := hI
  have hcut := env_cut n
  have hsz : (4 : Int) ≤ ((envB n).size : Int) := by rw [envB_size]; omega
  clear hI htab
  go_enter Tryd.func3, Tryd.ntmps3
  go_wp2_with fail
  refine HI.out.mono ?_
  rintro e w2 ⟨rfl, hb⟩
  have HB : Hid _ := hb
  clear hb
  go_wp2_with fail
  refine (env_any n _).mono ?_
  rintro e w3 ⟨rfl, rfl⟩
  go_wp2_with fail
  refine (canon_any n _ h0 h1).mono ?_
  rintro e w3 ⟨rfl, rfl⟩
  go_wp2_with fail
  go_ret
  exact ⟨rfl, HB.out⟩

set_option maxHeartbeats 800000 in
/-- THE SECOND LAW. -/
theorem law2_any (i j : Int) (h0 : -9223372036854775808 ≤ i) (h1 : i ≤ 9223372036854775807) (h2 : -9223372036854775808 ≤ j) (h3 : j ≤ 9223372036854775807) (w : World) (htab : Lib.TabIs Tryd.prog w tabName .u64 Lib.pow10Tab) :
    Calls Tryd.prog 4 #[.int .i64 i, .int .i64 j] w fun e w' => e = .returned (.bool true) ∧ Below w.heap.size w w' := by
  have hI := zzover_any i h0 h1 w htab
  have HI : Hid (Calls _ _ _ _ _) := hI
  have HT : Hid (Lib.TabBelow Tryd.prog w.heap.size w tabName .u64 Lib.pow10Tab) := Lib.tabBelow_of_tabIs htab
  have hsi : ((envB i).size : Int) = 4 + (decLen i : Int) := by rw [envB_size]; omega
  have hsj : ((envB j).size : Int) = 4 + (decLen j : Int) := by rw [envB_size]; omega
  have hli : decLen i ≤ 21 := by rw [← itoa_len]; exact Lib.itoa_length_le i h0 h1
  have hlj : decLen j ≤ 21 := by rw [← itoa_len]; exact Lib.itoa_length_le j h2 h3
  have heq : ((envB i).toList == (envB j).toList) = (i == j) := by
    rw [ByteArray.toList_eq, ByteArray.toList_eq, Bool.eq_iff_iff, beq_iff_eq, beq_iff_eq]
    exact ⟨fun h => envB_inj i j h, fun h => by rw [h]⟩
  clear hI htab
  go_enter Tryd.func4, Tryd.ntmps4
  go_wp2_with fail
  refine HI.out.mono ?_
  rintro e w2 ⟨rfl, hb⟩
  have HB : Hid _ := hb
  clear hb
  go_wp2_with fail
  refine (zzover_any j h2 h3 w2 (HT.out w2 HB.out)).mono ?_
  rintro e w3 ⟨rfl, hb3⟩
  have HB3 : Hid _ := hb3
  clear hb3
  go_wp2_with fail
  refine (env_any i _).mono ?_
  rintro e w4 ⟨rfl, rfl⟩
  go_wp2_with fail
  refine (env_any j _).mono ?_
  rintro e w4 ⟨rfl, rfl⟩
  go_wp2_with fail
  refine (len_any i _ h0 h1).mono ?_
  rintro e w4 ⟨rfl, rfl⟩
  go_wp2_with fail
  refine (len_any j _ h2 h3).mono ?_
  rintro e w4 ⟨rfl, rfl⟩
  go_wp2_with fail
  go_ret
  exact ⟨rfl, HB.out.trans (HB3.out.mono HB.out.size)⟩
end Go.Proofs.Qxb6612191aDoor
