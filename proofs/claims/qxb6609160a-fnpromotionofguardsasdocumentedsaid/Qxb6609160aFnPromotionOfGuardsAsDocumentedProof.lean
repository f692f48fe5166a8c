/-
  'Rows.FnPromotionOfGuardsAsDocumentedSaid': the frame is the shell of the kit at this function; the walk is ours.
-/
import Derived.Test.Qxb6609160aRows
import Derived.WalkKit
import Derived.ProofKit
import Derived.OpenShut
import Derived.ShutString
import Derived.Test.Qxb6609160aGuards
namespace Go.Proofs.Qxb6609160a.fnPromotionOfGuardsAsDocumented
open Go.ChangeShapes Go.WideShapes Go.ChangeAt Go.RowKit
open Go.ChangeMaps (open_string shut_string)
set_option linter.unusedVariables false      -- a walk need not use every 'w<i>' (that an integer argument fits its kind)

theorem own : ownKnob Try.prog.godebug = none := by kernel_rfl

def AT : List UInt8 := [87, 72, 69, 82, 69, 32, 105, 100, 32, 61, 32]
def WL : List UInt8 := [32, 65, 78, 68, 32, 119, 97, 105, 116, 108, 105, 115, 116, 32]
def WG : List UInt8 := [32, 65, 78, 68, 32, 119, 97, 105, 116, 105, 110, 103, 32, 62, 32, 48]
def C1 : List UInt8 := [83, 69, 76, 69, 67, 84, 32, 70, 82, 79, 77, 32, 114, 101, 115, 111, 117, 114, 99, 101, 115, 32]
def C2 : List UInt8 := [32, 70, 79, 82, 32, 78, 79, 32, 75, 69, 89, 32, 85, 80, 68, 65, 84, 69]
def C3 : List UInt8 := [70, 82, 79, 77, 32, 114, 101, 115, 111, 117, 114, 99, 101, 115, 32]
def C4 : List UInt8 := [79, 82, 68, 69, 82, 32, 66, 89, 32, 115, 101, 113]
def C5 : List UInt8 := [73, 78, 83, 69, 82, 84, 32, 73, 78, 84, 79, 32, 104, 111, 108, 100, 115]
def C6 : List UInt8 := [111, 110, 101, 95, 104, 111, 108, 100, 95, 112, 101, 114, 95, 104, 111, 108, 100, 101, 114, 44, 32, 78, 85, 76, 76]
def C7 : List UInt8 := [83, 69, 76, 69, 67, 84, 32, 99, 111, 117, 110, 116, 40, 42, 41, 32, 70, 82, 79, 77, 32, 112, 114, 111, 109, 111, 116, 101, 100]
/-! ### THE PLAIN FACTS ON THE TWO STATEMENTS, AND THE WALK OF THE LAW -/
theorem hLen (l : List UInt8) : (lockS l).length = l.length + 64 := by simp [lockS, lH, lT]
theorem lenP1 : lP1.length = 135 := by decide +kernel
theorem lenQ : lQ.length = 1219 := by decide +kernel
theorem lenT : lT.length = 31 := by decide +kernel
theorem lenH : lH.length = 33 := by decide +kernel
theorem pLen (l : List UInt8) : (promS l).length = l.length + 1354 := by simp only [promS, List.length_append, lenP1, lenQ]; omega

/-- At the head. -/
theorem at_head (l sub : List UInt8) (w : World) (h : sub.length ≤ l.length) (hm : matchL l sub 0 = true) :
    Calls Try.prog 11 #[.string (bs l), .string (bs sub)] w fun e w' => e = .returned (.bool true) ∧ w' = w :=
  head_yes (bs l) (bs sub) w (by rw [bs_size, bs_size]; exact h) (by rw [matchAt_bs]; exact hm)
/-- At the end. -/
theorem at_end (l sub : List UInt8) (w : World) (hl : l.length ≤ 2000000) (h : sub.length ≤ l.length) (hm : matchL l sub (l.length - sub.length) = true) :
    Calls Try.prog 12 #[.string (bs l), .string (bs sub)] w fun e w' => e = .returned (.bool true) ∧ w' = w :=
  tail_yes (bs l) (bs sub) w (by rw [bs_size]; unfold maxLen; omega) (by rw [bs_size, bs_size]; exact h) (by rw [matchAt_bs, bs_size, bs_size]; exact hm)
/-- First at n. -/
theorem first_at (l sub : List UInt8) (n : Nat) (w : World) (hl : l.length ≤ 2000000) (h : n + sub.length ≤ l.length) (hm : matchL l sub n = true) (hno : ∀ i, i < n → matchL l sub i = false) :
    Calls Try.prog 10 #[.string (bs l), .string (bs sub)] w fun e w' => e = .returned (.int .i64 n) ∧ w' = w :=
  index_at (bs l) (bs sub) n w (by rw [bs_size]; unfold maxLen; omega) (by rw [bs_size, bs_size]; exact h) (by rw [matchAt_bs]; exact hm) (fun i hi => by rw [matchAt_bs]; exact hno i hi)
/-- Somewhere. -/
theorem there (l sub : List UInt8) (n : Nat) (w : World) (hl : l.length ≤ 2000000) (h : n + sub.length ≤ l.length) (hm : matchL l sub n = true) :
    Calls Try.prog 10 #[.string (bs l), .string (bs sub)] w fun e w' => (∃ k : Nat, e = .returned (.int .i64 k)) ∧ w' = w :=
  index_some (bs l) (bs sub) w (by rw [bs_size]; unfold maxLen; omega) n (by rw [bs_size, bs_size]; exact h) (by rw [matchAt_bs]; exact hm)

theorem matchL_pre (l m sub : List UInt8) (h : matchL m sub 0 = true) : matchL (l ++ m) (l ++ sub) 0 = true := by
  unfold matchL at h ⊢
  rw [beq_iff_eq, List.drop_zero] at h ⊢
  rw [List.length_append, List.take_append, List.take_of_length_le (by omega), show l.length + sub.length - l.length = sub.length from by omega, h]

set_option maxRecDepth 100000 in
theorem small (r : ByteArray) (hr : (r.size : Int) ≤ 1048576) (w : World) :
    Calls Try.prog 4 #[.string r] w fun e w' => e = .returned (.bool true) ∧ Grown w w' := by
  have hl : r.data.toList.length ≤ 1048576 := by rw [size_len]; omega
  have hrb : r = bs r.data.toList := bs_self r
  generalize hlr : r.data.toList = l at *
  have h9 : ∀ w, Calls Try.prog 9 #[.string r] w fun e w' => e = .returned (.tuple #[.string (bs (lockS l)), .string (bs (promS l))]) ∧ Grown w w' := fun w => by
    have h := zzpair_r r w hr
    unfold lockB promB at h
    rw [hlr] at h
    exact h
  refine law_core r (bs (lockS l)) (bs (promS l)) (bs (l ++ lT)) (bs (l ++ lQ)) (bs (lP1.take 124)) (bs (l ++ WL)) (bs (l ++ WG)) w hr h9 ?_ ?_ ?_ ?_ ?_ ?_ ?_ ?_ ?_ ?_ ?_ ?_ ?_ ?_ ?_ ?_ ?_ ?_
  · rw [bs_size, bs_extract]
    refine bs_congr ?_
    rw [List.take_of_length_le (by simp)]; rfl
  · rw [bs_size, bs_extract]
    refine bs_congr ?_
    rw [List.take_of_length_le (by simp), promS, List.drop_append, List.drop_of_length_le (by rw [lenP1]; omega), lenP1]; rfl
  · rw [bs_extract]
    refine bs_congr ?_
    rw [List.drop_zero, promS, List.take_append_of_le_length (by rw [lenP1]; omega)]
  · rw [hrb]; exact bs_append l WL
  · rw [hrb]; exact bs_append l WG
  · rw [bs_size, hLen]; omega
  · rw [bs_size, pLen]; omega
  · intro w
    refine first_at _ AT 22 w (by rw [hLen]; omega) (by rw [hLen]; simp only [AT, List.length_cons, List.length_nil]; omega) ?_ ?_
    · rw [lockS, matchL_left _ _ _ _ (by decide +kernel)]; decide +kernel
    · intro i hi
      rw [lockS, matchL_left _ _ _ _ (by rw [lenH]; simp only [AT, List.length_cons, List.length_nil]; omega)]
      have : ∀ i, i < 22 → matchL lH AT i = false := by decide +kernel
      exact this i hi
  · intro w
    refine first_at _ AT 124 w (by rw [pLen]; omega) (by rw [pLen]; simp only [AT, List.length_cons, List.length_nil]; omega) ?_ ?_
    · rw [promS, matchL_left _ _ _ _ (by decide +kernel)]; decide +kernel
    · intro i hi
      rw [promS, matchL_left _ _ _ _ (by rw [lenP1]; simp only [AT, List.length_cons, List.length_nil]; omega)]
      have : ∀ i, i < 124 → matchL lP1 AT i = false := by decide +kernel
      exact this i hi
  · intro w
    refine at_head _ C1 w (by rw [hLen]; simp only [C1, List.length_cons, List.length_nil]; omega) ?_
    rw [lockS, matchL_left _ _ _ _ (by decide +kernel)]; decide +kernel
  · intro w
    refine at_head _ _ w (by rw [List.length_append, List.length_append, lenT]; simp only [WL, List.length_cons, List.length_nil]; omega) (matchL_pre _ _ _ (by decide +kernel))
  · intro w
    refine at_end _ C2 w (by rw [hLen]; omega) (by rw [hLen]; simp only [C2, List.length_cons, List.length_nil]; omega) ?_
    rw [hLen, lockS, matchL_right _ _ _ _ (by rw [lenH]; simp only [C2, List.length_cons, List.length_nil]; omega), matchL_right _ _ _ _ (by rw [lenH]; simp only [C2, List.length_cons, List.length_nil]; omega), lenH,
      show l.length + 64 - C2.length - 33 - l.length = 13 from by simp only [C2, List.length_cons, List.length_nil]; omega]
    decide +kernel
  · intro w
    refine at_end _ C3 w (by rw [List.length_take, lenP1]; omega) (by decide +kernel) (by decide +kernel)
  · intro w
    refine at_head _ _ w (by rw [List.length_append, List.length_append, lenQ]; simp only [WG, List.length_cons, List.length_nil]; omega) (matchL_pre _ _ _ (by decide +kernel))
  · intro w
    refine there _ C4 (l.length + 137) w (by rw [List.length_append, lenQ]; omega) (by rw [List.length_append, lenQ]; simp only [C4, List.length_cons, List.length_nil]; omega) ?_
    rw [matchL_right _ _ _ _ (by omega), show l.length + 137 - l.length = 137 from by omega]; decide +kernel
  · intro w
    refine there _ C5 (l.length + 629) w (by rw [List.length_append, lenQ]; omega) (by rw [List.length_append, lenQ]; simp only [C5, List.length_cons, List.length_nil]; omega) ?_
    rw [matchL_right _ _ _ _ (by omega), show l.length + 629 - l.length = 629 from by omega]; decide +kernel
  · intro w
    refine there _ C6 (l.length + 886) w (by rw [List.length_append, lenQ]; omega) (by rw [List.length_append, lenQ]; simp only [C6, List.length_cons, List.length_nil]; omega) ?_
    rw [matchL_right _ _ _ _ (by omega), show l.length + 886 - l.length = 886 from by omega]; decide +kernel
  · intro w
    refine at_end _ C7 w (by rw [pLen]; omega) (by rw [pLen]; simp only [C7, List.length_cons, List.length_nil]; omega) ?_
    rw [pLen, promS, matchL_right _ _ _ _ (by rw [lenP1]; simp only [C7, List.length_cons, List.length_nil]; omega), matchL_right _ _ _ _ (by rw [lenP1]; simp only [C7, List.length_cons, List.length_nil]; omega), lenP1,
      show l.length + 1354 - C7.length - 135 - l.length = 1190 from by simp only [C7, List.length_cons, List.length_nil]; omega]
    decide +kernel

/-! ### STEP 1: THE WALK: the Go text returns true. 'Grown w w'': the world has at most new blocks (Derived/RowKit3.lean). Part the cases AHEAD of 'go_enter' where a test parts the walk; take each callee by a contract of your own. -/
theorem walk (a0 : ByteArray) (w0 : a0.size ≤ maxLen) (w : World) :
    Calls Try.prog 4 #[.string a0] w fun e w' => e = .returned (.bool true) ∧ Grown w w' := by
  by_cases hbig : (1048576 : Int) < (a0.size : Int)
  · go_enter Try.func4, Try.ntmps4
    go_wp2_with fail
    refine (bytes8_big a0 _ hbig).mono ?_
    rintro e w' ⟨rfl, rfl⟩
    go_wp2_with fail
    go_ret
    exact ⟨rfl, Grown.refl _⟩
  · exact small a0 (by omega) w

/-! ### THE ROW's STEP: WRITTEN OUT: LEAVE IT -/
set_option maxRecDepth 100000 in
theorem lifted (os : Os) (started : os.Started) (H : Type) (enc : TypeId × Value → H) :
    ReturnsInHanded {} Try.checked os 4 .any (Rows.fnPromotionOfGuardsAsDocumentedSpec.pre6 enc Try.prog Try.f4 Rows.fnPromotionOfGuardsAsDocumentedRow.domain false) (Rows.fnPromotionOfGuardsAsDocumentedSpec.post enc Try.prog Try.f4 false true false false) := by
  refine returnsInHanded_of_change (C := Try.checked) own started (by kernel_rfl) Try.func4
    (ChangeSpec.witness6 (enc := enc) (C := Try.checked) false ⟨#[], #[.string ByteArray.empty], []⟩ 8 (by kernel_rfl) (by kernel_rfl) (by kernel_rfl) (by kernel_rfl)) ?_
  intro W base args ds gs before hval0 hW hcnd _
  have hval : ∀ (j : Nat) t v, Try.f4.params[j]? = some t → args[j]? = some v → Value.okWide Try.prog W .any base t v := hval0
  have hW' := hW
  obtain ⟨p, q, hA0, hV, rfl, hfz, hnd⟩ := hW
  have hA : DataW.TrodAll enc Try.prog W 0 (fun _ => true) true Try.f4.params.toList args.toList ds p := hA0
  rw [Try.params4] at hA hval
  obtain ⟨v0, vs0, d0, ds0, p0, q0, hargs, rfl, rfl, h0, r0⟩ := trodAll_cons hA
  obtain ⟨rfl, rfl, rfl⟩ := trodAll_nil r0
  obtain rfl : args = #[v0] := by cases args; simp_all
  obtain ⟨rfl, rfl⟩ := trodVars_none hV
  obtain ⟨a0, rfl, rfl, rfl, w0⟩ := open_string Try.underlying9 (hval 0 9 v0 rfl rfl) h0
  clear hA0 hval0
  simp only [List.append_nil] at hW'
  refine (walk a0 w0 W).mono fun e W' ⟨he, hg⟩ => ?_
  subst he
  exact ⟨_, rfl, post_of_same (pa := []) (pv := []) hW' (fun _ _ _ => (trodAll_cons_mk (shut_bool Try.underlying4 _) trodAll_mk0)) (fun sp _ => (trodAll_cons_mk (shut_string Try.underlying9 w0) trodAll_mk0)) (fun _ _ => rfl) rfl
    (hg.frame _) hg.2.1 (ok_one (by kernel_rfl) rfl (okWide_bool_mk Try.underlying4 _))⟩

theorem over : Rows.fnPromotionOfGuardsAsDocumentedRow.holds Try.pinned (OpenSpec.ofChange Rows.fnPromotionOfGuardsAsDocumentedSpec) :=
  OpenClaim.holds_of_wide 4 Try.f4 rfl rfl rfl rfl rfl rfl rfl ⟨rfl, rfl, rfl, rfl, rfl⟩ rfl rfl rfl rfl rfl (by kernel_rfl) Try.func4 (by kernel_rfl)
    (of_decide_eq_true (by kernel_rfl)) (by unfold Func.isWrapper; first | (rw [if_pos (by decide +kernel)]; kernel_rfl) | (rw [if_neg (by decide +kernel)]; exact ⟨rfl, rfl⟩))
    (fun os started H enc _ => lifted os started H enc)

/-- ████ THE STATEMENT ████ -/
theorem proved : Rows.FnPromotionOfGuardsAsDocumentedSaid :=
  over
#print axioms proved
end Go.Proofs.Qxb6609160a.fnPromotionOfGuardsAsDocumented
