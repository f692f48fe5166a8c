/-
  PLAIN FACTS ON BYTES: no Go in sight.
-/
import Derived.Laws.Strings
namespace Go.Proofs.Qxb6609160a

/-- Does 'sub' stand in 's' at place i? -/
def matchAt (s sub : ByteArray) (i : Nat) : Bool := (s.extract i (i + sub.size)).toList == sub.toList

theorem matchAt_def (s sub : ByteArray) (i : Nat) : matchAt s sub i = ((s.extract i (i + sub.size)).toList == sub.toList) := rfl

/-- The same on lists. -/
def matchL (l sub : List UInt8) (i : Nat) : Bool := (l.drop i).take sub.length == sub

/-- A byte string out of a list. -/
def bs (l : List UInt8) : ByteArray := ⟨l.toArray⟩

theorem bs_mk (l : List UInt8) : (⟨l.toArray⟩ : ByteArray) = bs l := rfl
theorem bs_toList (l : List UInt8) : (bs l).toList = l := by simp [bs]
theorem bs_size (l : List UInt8) : (bs l).size = l.length := by simp [bs, ByteArray.size]
theorem bs_append (l m : List UInt8) : bs l ++ bs m = bs (l ++ m) := by
  apply ByteArray.ext; simp [bs, ByteArray.data_append]
theorem bs_extract (l : List UInt8) (i j : Nat) : (bs l).extract i j = bs ((l.drop i).take (j - i)) := by
  apply ByteArray.ext; simp [bs, ByteArray.data_extract]
theorem bs_self (r : ByteArray) : r = bs r.data.toList := by apply ByteArray.ext; simp [bs]
theorem bs_congr {l m : List UInt8} (h : l = m) : bs l = bs m := by rw [h]

theorem matchAt_bs (l sub : List UInt8) (i : Nat) : matchAt (bs l) (bs sub) i = matchL l sub i := by
  unfold matchAt matchL
  rw [bs_extract, bs_toList, bs_toList, bs_size, show i + sub.length - i = sub.length from by omega]

theorem matchL_left (a b sub : List UInt8) (i : Nat) (h : i + sub.length ≤ a.length) : matchL (a ++ b) sub i = matchL a sub i := by
  unfold matchL
  rw [List.drop_append_of_le_length (by omega), List.take_append_of_le_length (by simp; omega)]

theorem matchL_right (a b sub : List UInt8) (i : Nat) (h : a.length ≤ i) : matchL (a ++ b) sub i = matchL b sub (i - a.length) := by
  unfold matchL
  rw [List.drop_append, List.drop_of_length_le h, List.nil_append]

end Go.Proofs.Qxb6609160a
