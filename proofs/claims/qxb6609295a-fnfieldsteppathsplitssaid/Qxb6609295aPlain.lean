/-
  PLAIN FACTS on the path of field steps: no Go in sight.
-/
import Derived.Laws.Strings
namespace Go.Proofs.Qxb6609295a

/-- One step: a dot, then the name. -/
def piece (s : ByteArray) : List UInt8 := 46 :: s.data.toList
/-- The path. -/
def pathL (ss : List ByteArray) : List UInt8 := (ss.map piece).flatten
def pathB (ss : List ByteArray) : ByteArray := ⟨(pathL ss).toArray⟩
/-- Where the k-th step begins. -/
def offs (ss : List ByteArray) (k : Nat) : Nat := (pathL (ss.take k)).length
/-- What the law adds up: 16 and the length, a name. -/
def tot (ss : List ByteArray) : Nat := (ss.map fun s => 16 + s.size).sum
/-- The k-th name. -/
def nth (ss : List ByteArray) (k : Nat) : ByteArray := ss.getD k ByteArray.empty
/-- A name that the law takes: not empty, no dot. -/
def StepName (s : ByteArray) : Prop := 0 < s.size ∧ ∀ j (h : j < s.size), s[j] ≠ 46

theorem size_len (s : ByteArray) : s.data.toList.length = s.size := by rw [Array.length_toList]; rfl
theorem piece_len (s : ByteArray) : (piece s).length = s.size + 1 := by rw [piece, List.length_cons, size_len]

theorem take_snoc (ss : List ByteArray) (k : Nat) (h : k < ss.length) : ss.take (k + 1) = ss.take k ++ [nth ss k] := by
  rw [List.take_succ_eq_append_getElem h, nth, List.getD_eq_getElem?_getD, List.getElem?_eq_getElem h]; rfl

theorem pathL_append (a b : List ByteArray) : pathL (a ++ b) = pathL a ++ pathL b := by simp [pathL]
theorem pathL_one (s : ByteArray) : pathL [s] = piece s := by simp [pathL]
theorem pathL_snoc (ss : List ByteArray) (k : Nat) (h : k < ss.length) : pathL (ss.take (k + 1)) = pathL (ss.take k) ++ piece (nth ss k) := by
  rw [take_snoc ss k h, pathL_append, pathL_one]
theorem tot_snoc (ss : List ByteArray) (k : Nat) (h : k < ss.length) : tot (ss.take (k + 1)) = tot (ss.take k) + (16 + (nth ss k).size) := by
  rw [take_snoc ss k h]; simp [tot]

theorem offs_zero (ss : List ByteArray) : offs ss 0 = 0 := rfl
theorem offs_succ (ss : List ByteArray) (k : Nat) (h : k < ss.length) : offs ss (k + 1) = offs ss k + 1 + (nth ss k).size := by
  unfold offs; rw [pathL_snoc ss k h, List.length_append, piece_len]; omega
theorem offs_tot (ss : List ByteArray) : (pathL ss).length ≤ tot ss := by
  induction ss with
  | nil => simp [pathL, tot]
  | cons s r ih =>
    have e : pathL (s :: r) = piece s ++ pathL r := by simp [pathL]
    rw [e, List.length_append, piece_len]
    simp only [tot, List.map_cons, List.sum_cons] at ih ⊢
    omega
theorem offs_le_tot (ss : List ByteArray) (k : Nat) : offs ss k ≤ tot (ss.take k) := offs_tot _
theorem split_at (ss : List ByteArray) (k : Nat) (h : k < ss.length) : pathL ss = pathL (ss.take k) ++ (piece (nth ss k) ++ pathL (ss.drop (k + 1))) := by
  rw [← List.append_assoc, ← pathL_snoc ss k h, ← pathL_append, List.take_append_drop]
theorem offs_end (ss : List ByteArray) : offs ss ss.length = (pathL ss).length := by rw [offs, List.take_length]
theorem offs_le (ss : List ByteArray) (k : Nat) (h : k < ss.length) : offs ss (k + 1) ≤ offs ss ss.length := by
  rw [offs_end, offs_succ ss k h]
  have e := congrArg List.length (split_at ss k h)
  rw [List.length_append, List.length_append, piece_len] at e
  unfold offs; omega
theorem offs_le' (ss : List ByteArray) (k : Nat) (h : k ≤ ss.length) : offs ss k ≤ offs ss ss.length := by
  by_cases hk : k = ss.length
  · rw [hk]; exact Nat.le_refl _
  · have := offs_le ss k (by omega); rw [offs_succ ss k (by omega)] at this; omega

theorem pathB_size (ss : List ByteArray) : (pathB ss).size = (pathL ss).length := by simp [pathB, ByteArray.size]
theorem pathB_get (ss : List ByteArray) (i : Nat) (h : i < (pathB ss).size) : some (pathB ss)[i] = (pathL ss)[i]? := by
  rw [pathB_size] at h
  rw [List.getElem?_eq_getElem h]
  rfl

/-- At its beginning a step has its dot. -/
theorem at_dot (ss : List ByteArray) (k : Nat) (h : k < ss.length) : (pathL ss)[offs ss k]? = some 46 := by
  rw [split_at ss k h, List.getElem?_append_right (by unfold offs; omega)]
  simp [offs, piece]

/-- Behind the dot lie the name's bytes. -/
theorem in_name (ss : List ByteArray) (k j : Nat) (h : k < ss.length) (hj : j < (nth ss k).size) : (pathL ss)[offs ss k + 1 + j]? = some (nth ss k)[j] := by
  rw [split_at ss k h, List.getElem?_append_right (by unfold offs; omega), List.getElem?_append_left (by rw [piece_len]; unfold offs; omega)]
  rw [show offs ss k + 1 + j - (pathL (ss.take k)).length = j + 1 from by unfold offs; omega, piece, List.getElem?_cons_succ]
  rw [List.getElem?_eq_getElem (by rw [size_len]; exact hj)]
  rfl

/-- The name, cut out of the path. -/
theorem cut_name (ss : List ByteArray) (k : Nat) (h : k < ss.length) : (pathB ss).extract (offs ss k + 1) (offs ss k + 1 + (nth ss k).size) = nth ss k := by
  apply ByteArray.ext
  apply Array.toList_inj.1
  rw [ByteArray.data_extract, Array.toList_extract, List.extract_eq_take_drop, show offs ss k + 1 + (nth ss k).size - (offs ss k + 1) = (nth ss k).size from by omega]
  show ((pathL ss).drop (offs ss k + 1)).take _ = _
  rw [split_at ss k h, List.drop_append, List.drop_of_length_le (by unfold offs; omega), List.nil_append,
    show offs ss k + 1 - (pathL (ss.take k)).length = 1 from by unfold offs; omega]
  show ((nth ss k).data.toList ++ pathL (ss.drop (k + 1))).take _ = _
  rw [List.take_append_of_le_length (by rw [size_len]; omega), List.take_of_length_le (by rw [size_len]; omega)]

end Go.Proofs.Qxb6609295a
