/-
  'Rows.FnPromotionOfGuardsAsDocumentedSaid': THE LAW's OWN WALK, over names: lk, pr: the two statements; AL, AP: what stands behind 'WHERE id = ' in them; HD: what stands ahead of it in the second.
-/
import Derived.Test.Qxb6609160aPair
namespace Go.Proofs.Qxb6609160a
open Go.RowKit

set_option maxHeartbeats 400000 in
theorem bytes8_small (r : ByteArray) (w : World) (hr : (r.size : Int) ≤ 1048576) :
    Calls Try.prog 8 #[.string r] w fun e w' => e = .returned (.bool true) ∧ w' = w := by
  go_enter Try.func8, Try.ntmps8
  go_wp2
  go_ret
  exact ⟨rfl, rfl⟩

set_option maxHeartbeats 400000 in
theorem bytes8_big (r : ByteArray) (w : World) (hr : (1048576 : Int) < (r.size : Int)) :
    Calls Try.prog 8 #[.string r] w fun e w' => e = .returned (.bool false) ∧ w' = w := by
  go_enter Try.func8, Try.ntmps8
  go_wp2
  go_ret
  exact ⟨rfl, rfl⟩

set_option maxRecDepth 100000 in
set_option maxHeartbeats 2000000 in
theorem law_core (r lk pr AL AP HD r1 r2 : ByteArray) (w : World) (hr : (r.size : Int) ≤ 1048576)
    (c9 : ∀ w, Calls Try.prog 9 #[.string r] w fun e w' => e = .returned (.tuple #[.string lk, .string pr]) ∧ Grown w w')
    (e1 : lk.extract 33 lk.size = AL) (e2 : pr.extract 135 pr.size = AP) (e3 : pr.extract 0 124 = HD) (e4 : r ++ ⟨#[32, 65, 78, 68, 32, 119, 97, 105, 116, 108, 105, 115, 116, 32]⟩ = r1) (e5 : r ++ ⟨#[32, 65, 78, 68, 32, 119, 97, 105, 116, 105, 110, 103, 32, 62, 32, 48]⟩ = r2)
    (b1 : (33 : Int) ≤ (lk.size : Int)) (b2 : (135 : Int) ≤ (pr.size : Int))
    (cl : ∀ w, Calls Try.prog 10 #[.string lk, .string ⟨#[87, 72, 69, 82, 69, 32, 105, 100, 32, 61, 32]⟩] w fun e w' => e = .returned (.int .i64 22) ∧ w' = w)
    (cp : ∀ w, Calls Try.prog 10 #[.string pr, .string ⟨#[87, 72, 69, 82, 69, 32, 105, 100, 32, 61, 32]⟩] w fun e w' => e = .returned (.int .i64 124) ∧ w' = w)
    (p1 : ∀ w, Calls Try.prog 11 #[.string lk, .string ⟨#[83, 69, 76, 69, 67, 84, 32, 70, 82, 79, 77, 32, 114, 101, 115, 111, 117, 114, 99, 101, 115, 32]⟩] w fun e w' => e = .returned (.bool true) ∧ w' = w)
    (p2 : ∀ w, Calls Try.prog 11 #[.string AL, .string r1] w fun e w' => e = .returned (.bool true) ∧ w' = w)
    (s1 : ∀ w, Calls Try.prog 12 #[.string lk, .string ⟨#[32, 70, 79, 82, 32, 78, 79, 32, 75, 69, 89, 32, 85, 80, 68, 65, 84, 69]⟩] w fun e w' => e = .returned (.bool true) ∧ w' = w)
    (s2 : ∀ w, Calls Try.prog 12 #[.string HD, .string ⟨#[70, 82, 79, 77, 32, 114, 101, 115, 111, 117, 114, 99, 101, 115, 32]⟩] w fun e w' => e = .returned (.bool true) ∧ w' = w)
    (p3 : ∀ w, Calls Try.prog 11 #[.string AP, .string r2] w fun e w' => e = .returned (.bool true) ∧ w' = w)
    (i1 : ∀ w, Calls Try.prog 10 #[.string AP, .string ⟨#[79, 82, 68, 69, 82, 32, 66, 89, 32, 115, 101, 113]⟩] w fun e w' => (∃ k : Nat, e = .returned (.int .i64 k)) ∧ w' = w)
    (i2 : ∀ w, Calls Try.prog 10 #[.string AP, .string ⟨#[73, 78, 83, 69, 82, 84, 32, 73, 78, 84, 79, 32, 104, 111, 108, 100, 115]⟩] w fun e w' => (∃ k : Nat, e = .returned (.int .i64 k)) ∧ w' = w)
    (i3 : ∀ w, Calls Try.prog 10 #[.string AP, .string ⟨#[111, 110, 101, 95, 104, 111, 108, 100, 95, 112, 101, 114, 95, 104, 111, 108, 100, 101, 114, 44, 32, 78, 85, 76, 76]⟩] w fun e w' => (∃ k : Nat, e = .returned (.int .i64 k)) ∧ w' = w)
    (s3 : ∀ w, Calls Try.prog 12 #[.string pr, .string ⟨#[83, 69, 76, 69, 67, 84, 32, 99, 111, 117, 110, 116, 40, 42, 41, 32, 70, 82, 79, 77, 32, 112, 114, 111, 109, 111, 116, 101, 100]⟩] w fun e w' => e = .returned (.bool true) ∧ w' = w) :
    Calls Try.prog 4 #[.string r] w fun e w' => e = .returned (.bool true) ∧ Grown w w' := by
  have C9 : Hid _ := c9
  have CL : Hid _ := cl
  have CP : Hid _ := cp
  have P1 : Hid _ := p1
  have P2 : Hid _ := p2
  have P3 : Hid _ := p3
  have S1 : Hid _ := s1
  have S2 : Hid _ := s2
  have S3 : Hid _ := s3
  have I1 : Hid _ := i1
  have I2 : Hid _ := i2
  have I3 : Hid _ := i3
  clear c9 cl cp p1 p2 p3 s1 s2 s3 i1 i2 i3
  go_enter Try.func4, Try.ntmps4
  go_wp2_with fail
  refine (bytes8_small r _ hr).mono ?_
  rintro e w' ⟨rfl, rfl⟩
  go_wp2_with fail
  refine (C9.out _).mono ?_
  rintro e w2 ⟨rfl, hg⟩
  have HG : Hid _ := hg
  clear hg
  go_wp2_with fail
  refine (CL.out _).mono ?_
  rintro e w3 ⟨rfl, rfl⟩
  go_wp2_with fail
  refine (CP.out _).mono ?_
  rintro e w3 ⟨rfl, rfl⟩
  go_wp2_with fail
  refine (P1.out _).mono ?_
  rintro e w3 ⟨rfl, rfl⟩
  go_wp2_with fail
  refine (P2.out _).mono ?_
  rintro e w3 ⟨rfl, rfl⟩
  go_wp2_with fail
  refine (S1.out _).mono ?_
  rintro e w3 ⟨rfl, rfl⟩
  go_wp2_with fail
  refine (S2.out _).mono ?_
  rintro e w3 ⟨rfl, rfl⟩
  go_wp2_with fail
  refine (P3.out _).mono ?_
  rintro e w3 ⟨rfl, rfl⟩
  go_wp2_with fail
  refine (I1.out _).mono ?_
  rintro e w3 ⟨⟨k1, rfl⟩, rfl⟩
  have hk1 : (0 : Int) ≤ (k1 : Int) := by omega
  go_wp2_with fail
  refine (I2.out _).mono ?_
  rintro e w3 ⟨⟨k2, rfl⟩, rfl⟩
  have hk2 : (0 : Int) ≤ (k2 : Int) := by omega
  go_wp2_with fail
  refine (I3.out _).mono ?_
  rintro e w3 ⟨⟨k3, rfl⟩, rfl⟩
  have hk3 : (0 : Int) ≤ (k3 : Int) := by omega
  go_wp2_with fail
  refine (S3.out _).mono ?_
  rintro e w3 ⟨rfl, rfl⟩
  go_wp2_with fail
  go_ret
  exact ⟨rfl, HG.out⟩
end Go.Proofs.Qxb6609160a
