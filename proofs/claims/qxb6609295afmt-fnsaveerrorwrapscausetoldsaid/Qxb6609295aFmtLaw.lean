/-
  THE LAW's OWN WALK: FnSaveErrorWrapsCause, for every F.
-/
import Derived.Test.Qxb6609295aFmtSave
import Derived.LaidEqlPtr
namespace Go.Proofs.Qxb6609295aFmt
open Go.RowKit Go.Extern.Stop Go.Stop Go.Extern

theorem eql23 (a : Addr) (w : World) : (binOp .eql 23 (.pointer (some a)) (.pointer (some a))).run Tryf.prog w = .ok (.bool true) w := by
  obtain ⟨j, hj⟩ : ∃ j, Tryf.prog.info? 27 = some j := Option.isSome_iff_exists.1 (by kernel_rfl)
  exact run_eql_ptr_same w a Tryf.underlying23 hj
attribute [local go_sem] eql23

def EndB (e : Ending) : Prop := ∃ b : Bool, e = .returned (.bool b)

set_option maxHeartbeats 800000 in
theorem bytes_any (v : Int) (s1 s2 s3 : ByteArray) (w : World) (h1 : s1.size ≤ maxLen) (h2 : s2.size ≤ maxLen) (h3 : s3.size ≤ maxLen) :
    Calls Tryf.prog 4 #[.int .i64 v, .string s1, .string s2, .string s3] w fun e w' => EndB e ∧ w' = w := by
  unfold maxLen at h1 h2 h3
  go_enter Tryf.func4, Tryf.ntmps4
  go_wp2
  all_goals (go_ret; exact ⟨⟨_, rfl⟩, rfl⟩)

set_option maxHeartbeats 1600000 in
theorem law_any (F : Interp) (v : Int) (s1 s2 s3 : ByteArray) (w : World) (hF : F.answers w.tape) (h1 : s1.size ≤ maxLen) (h2 : s2.size ≤ maxLen) (h3 : s3.size ≤ maxLen) :
    Calls Tryf.prog 3 #[.int .i64 v, .string s1, .string s2, .string s3] w fun e w' => e = .returned (.bool true) ∧ Below w.heap.size w w' := by
  have hb := bytes_any v s1 s2 s3 w h1 h2 h3
  have HB : Hid (Calls _ _ _ _ _) := hb
  clear hb
  have HF : Hid (F.answers w.tape) := hF
  clear hF
  unfold maxLen at h1 h2 h3
  go_enter Tryf.func3, Tryf.ntmps3
  go_wp2_with fail
  refine HB.out.mono ?_
  rintro e W ⟨⟨bb, rfl⟩, rfl⟩
  cases bb
  · go_wp2_with fail
    go_ret
    exact ⟨rfl, Below.refl _ _⟩
  by_cases c1 : (262144 : Int) < (s1.size : Int)
  · go_wp2_with fail
    go_ret
    exact ⟨rfl, Below.refl _ _⟩
  by_cases c2 : (262144 : Int) < (s2.size : Int)
  · go_wp2_with fail
    go_ret
    exact ⟨rfl, Below.refl _ _⟩
  by_cases c3 : (262144 : Int) < (s3.size : Int)
  · go_wp2_with fail
    go_ret
    exact ⟨rfl, Below.refl _ _⟩
  go_wp2_with fail
  refine (zzsave_any F v W.heap.size s1 s2 s3 _ (by exact HF.out) (by omega) (by omega) (by simp) ?_ ?_ ?_).mono ?_
  · go_simp
  · go_simp
  · go_simp
  rintro e w2 ⟨rfl, hbel⟩
  have HBEL : Hid _ := hbel
  clear hbel
  go_wp2_with fail
  go_ret
  exact ⟨rfl, ((Below.refl _ _).alloc (Nat.le_refl _) _).trans (HBEL.out.mono (by simp))⟩
end Go.Proofs.Qxb6609295aFmt
