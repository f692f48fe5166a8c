/-
  THE LAW's OWN WALK: FnChildIgnoresHash, past its guards.
-/
import Derived.Test.Qxb6609345aCopy
import Derived.Laws.BitsAllLaws
namespace Go.Proofs.Qxb6609345a
open Go.RowKit

/-- What the law packs. -/
def pack (hash index : Int) : Int := bits .or .u64 (hash * 4294967296) index

theorem pack_mod (hash index : Int) (hh0 : 0 ≤ hash) (hh1 : hash ≤ 4294967295) (hx0 : 0 ≤ index) (hx1 : index ≤ 4294967295) : pack hash index % 4294967296 = index := by
  unfold pack
  rw [u64_or _ _ (by omega) (by omega) hx0 (by omega)]
  have h : ((hash * 4294967296).toNat ||| index.toNat) % 2 ^ 32 = index.toNat := by
    rw [Nat.or_mod_two_pow, show (hash * 4294967296).toNat % 2 ^ 32 = 0 from by omega, Nat.zero_or]
    omega
  omega

/-- What lies in memory when the law's loop begins. -/
structure Laid (W Wf : World) (len i : Nat) (z : Nat → Int) (pk : Int) : Prop where
  ix : Wf.cell? ⟨W.heap.size + 1 + 1, 0, none⟩ = some (.slice (some ⟨W.heap.size + 1, 0, none⟩) len len)
  iy : Wf.cell? ⟨W.heap.size + 1 + 1 + 1, 0, none⟩ = some (.slice (some ⟨W.heap.size, 0, none⟩) len len)
  packed : Wf.cell? ⟨W.heap.size + 1, i, none⟩ = some (.int .u64 pk)
  other : ∀ j, j < len → j ≠ i → Wf.cell? ⟨W.heap.size + 1, j, none⟩ = some (.int .u64 (z j))
  copied : ∀ j, j < len → Wf.cell? ⟨W.heap.size, j, none⟩ = some (.int .u64 (z j))
  old : Below W.heap.size W Wf

theorem laid_of (W : World) (len i : Nat) (z : Nat → Int) (pk : Int) (x y : Value) (xs ys : Value) (hi : i < len) :
    Laid W ((((W.alloc (.cells (vals z len) 53)).alloc (.cells ((vals z len).setIfInBounds i (.int .u64 pk)) 53)).alloc (.cells #[.slice (some ⟨W.heap.size + 1, 0, none⟩) len len, x, xs] 114)).alloc (.cells #[.slice (some ⟨W.heap.size, 0, none⟩) len len, y, ys] 114)) len i z pk where
  ix := by rw [World.cell?_alloc_past _ _ _ (by simp), World.cell?_alloc_at _ _ _ _ (by simp)]; rfl
  iy := by rw [World.cell?_alloc_at _ _ _ _ (by simp)]; rfl
  packed := by
    rw [World.cell?_alloc_past _ _ _ (by simp), World.cell?_alloc_past _ _ _ (by simp), World.cell?_alloc_at _ _ _ _ (by simp), Array.getElem?_setIfInBounds_self_of_lt (by rw [vals_size]; exact hi)]
  other := fun j hj hne => by
    rw [World.cell?_alloc_past _ _ _ (by simp), World.cell?_alloc_past _ _ _ (by simp), World.cell?_alloc_at _ _ _ _ (by simp), Array.getElem?_setIfInBounds_ne (Ne.symm hne)]
    exact vals_get z len j hj
  copied := fun j hj => by
    rw [World.cell?_alloc_past _ _ _ (by simp; omega), World.cell?_alloc_past _ _ _ (by simp; omega), World.cell?_alloc_past _ _ _ (by simp), World.cell?_alloc_at _ _ _ _ rfl]
    exact vals_get z len j hj
  old := ((((Below.refl _ _).alloc (Nat.le_refl _) _).alloc (by simp) _).alloc (by simp; omega) _).alloc (by simp; omega) _

set_option maxRecDepth 100000 in
set_option maxHeartbeats 1600000 in
theorem law_some (b off len cap i : Nat) (z : Nat → Int) (hash index : Int) (w : World) (hl : len ≤ 131072) (hi : i < len) (hb : b < w.heap.size)
    (hh0 : 0 ≤ hash) (hh1 : hash ≤ 4294967295) (hx0 : 0 ≤ index) (hx1 : index ≤ 4294967295)
    (hc : ∀ j, j < len → w.cell? ⟨b, off + j, none⟩ = some (.int .u64 (z j))) :
    Calls Try.prog 6 #[.slice (some ⟨b, off, none⟩) len cap, .int .i64 i, .int .u32 hash, .int .u32 index] w fun e w' => e = .returned (.bool true) ∧ Below w.heap.size w w' := by
  have hbt := bytes_any (some ⟨b, off, none⟩) len cap (.int .i64 i) (.int .u32 hash) (.int .u32 index) w (by unfold maxLen; omega)
  have HBT : Hid (Calls _ _ _ _ _) := hbt
  clear hbt
  have hnil := fun W => run_neq_slice_nil_any (P := Try.prog) W 50 53 (some ⟨b, off, none⟩) len cap 0 0 Try.underlying50
  have hmk := fun W => run_make_row' (P := Try.prog) 50 53 (.int .u64 0) 8 Try.underlying50 info53 rfl .i64 .i64 len (by omega) (by omega) W
  have hcp1 := fun ty => copy_made w b off len cap z ty hb hc
  have hcp2 := fun ty => copy_made (w.alloc (.cells (vals z len) 53)) w.heap.size 0 len len z ty (by simp) (fun j hj => by rw [World.cell?_alloc_at _ _ _ _ rfl, Nat.zero_add]; exact vals_get z len j hj)
  simp only [World.size_alloc] at hcp2
  clear hc
  have hi1 : (i : Int) < (len : Int) := by omega
  have hi0 : (0 : Int) ≤ (i : Int) := by omega
  have hd1 : decide ((i : Int) < 0) = false := by simp
  have hd2 : decide (len ≤ i) = false := by simp; omega
  have hd3 : decide ((131072 : Int) < (len : Int)) = false := by simp; omega
  have hvi := vals_get z len i hi
  have HVS : Hid _ := vals_size z len
  go_enter Try.func6, Try.ntmps6
  go_wp2_with fail
  refine HBT.out.mono ?_
  rintro e W ⟨⟨bb, rfl⟩, rfl⟩
  cases bb
  · go_wp2_with fail
    go_ret
    exact ⟨rfl, Below.refl _ _⟩
  go_wp2_with fail
  refine (newIndex_any _ _ _ _).mono ?_
  rintro e w1 ⟨rfl, hw1⟩
  have HW1 : Hid _ := hw1
  have hz1 : w1.heap.size = W.heap.size + 1 + 1 + 1 := by rw [hw1]; simp
  clear hw1
  clear hcp1 hcp2 hmk hnil hvi
  simp only [World.size_alloc]
  go_wp2_with fail
  refine (newIndex_any _ _ _ _).mono ?_
  rintro e w2 ⟨rfl, hw2⟩
  have HL : Hid (Laid W w2 len i z (pack hash index)) := by
    rw [hw2, HW1.out]
    exact laid_of W len i z (pack hash index) _ _ _ _ hi
  clear hw2 HW1 HVS HBT
  go_wp2_with fail
  refine (zzchild_any (W.heap.size + 1 + 1) (W.heap.size + 1) len len i (pack hash index) _ HL.out.ix hi1 HL.out.packed).mono ?_
  rintro e w3 ⟨rfl, rfl⟩
  rw [pack_mod hash index hh0 hh1 hx0 hx1]
  go_wp2_with fail
  go_loop [13, 71] (fun _ s => ∃ k : Nat, k ≤ len ∧ s = .int .i64 k) (fun _ s => len - (intOf s).toNat)
  case atStart => exact ⟨0, Nat.zero_le _, rfl⟩
  case round =>
    obtain ⟨k, hk, rfl⟩ := hrel
    by_cases hlt : k < len
    · by_cases hki : k = i
      · have hne : ((k : Int) != (i : Int)) = false := by rw [hki]; simp
        clear hki
        go_wp2_with fail
        go_round
        case rel => exact ⟨k + 1, by omega, by go_num⟩
        case measure => simp [intOf]; omega
      · have hne : ((k : Int) != (i : Int)) = true := by rw [bne_iff_ne]; omega
        have hkl : (k : Int) < (len : Int) := by omega
        have HK : Hid _ := hki
        clear hki
        go_wp2_with fail
        refine (zzchild_any (W.heap.size + 1 + 1) (W.heap.size + 1) len len k (z k) _ HL.out.ix hkl (HL.out.other k hlt HK.out)).mono ?_
        rintro e w4 ⟨rfl, rfl⟩
        go_wp2_with fail
        refine (zzchild_any (W.heap.size + 1 + 1 + 1) W.heap.size len len k (z k) _ HL.out.iy hkl (HL.out.copied k hlt)).mono ?_
        rintro e w5 ⟨rfl, rfl⟩
        go_wp2_with fail
        go_round
        case rel => exact ⟨k + 1, by omega, by go_num⟩
        case measure => simp [intOf]; omega
    · go_wp2_with fail
      go_ret
      exact ⟨rfl, HL.out.old⟩

set_option maxHeartbeats 800000 in
/-- At its guards the law answers true at once. -/
theorem law_early (a : Option Addr) (len cap : Nat) (i hash index : Int) (w : World) (hl : len ≤ maxLen) (h : (131072 : Int) < (len : Int) ∨ i < 0 ∨ (len : Int) ≤ i) :
    Calls Try.prog 6 #[.slice a len cap, .int .i64 i, .int .u32 hash, .int .u32 index] w fun e w' => e = .returned (.bool true) ∧ Below w.heap.size w w' := by
  have hbt := bytes_any a len cap (.int .i64 i) (.int .u32 hash) (.int .u32 index) w hl
  have HBT : Hid (Calls _ _ _ _ _) := hbt
  clear hbt
  unfold maxLen at hl
  by_cases c1 : (131072 : Int) < (len : Int)
  · clear h
    go_enter Try.func6, Try.ntmps6
    go_wp2_with fail
    refine HBT.out.mono ?_
    rintro e W ⟨⟨bb, rfl⟩, rfl⟩
    cases bb
    all_goals
      go_wp2_with fail
      go_ret
      exact ⟨rfl, Below.refl _ _⟩
  by_cases c2 : i < 0
  · clear h
    go_enter Try.func6, Try.ntmps6
    go_wp2_with fail
    refine HBT.out.mono ?_
    rintro e W ⟨⟨bb, rfl⟩, rfl⟩
    cases bb
    all_goals
      go_wp2_with fail
      go_ret
      exact ⟨rfl, Below.refl _ _⟩
  have c3 : (len : Int) ≤ i := by omega
  clear h
  go_enter Try.func6, Try.ntmps6
  go_wp2_with fail
  refine HBT.out.mono ?_
  rintro e W ⟨⟨bb, rfl⟩, rfl⟩
  cases bb
  all_goals
    go_wp2_with fail
    go_ret
    exact ⟨rfl, Below.refl _ _⟩
end Go.Proofs.Qxb6609345a
