/-
  THE LAW's OWN WALK: FnFieldStepPathSplits, the names in a row that is not nil.
-/
import Derived.Test.Qxb6609295aState
namespace Go.Proofs.Qxb6609295a
open Go.RowKit

set_option maxHeartbeats 2000000 in
theorem law_some (b off : Nat) (ss : List ByteArray) (cap : Nat) (w : World) (hl : ss.length ≤ maxLen) (hb : b < w.heap.size)
    (hc : ∀ k, k < ss.length → w.cell? ⟨b, off + k, none⟩ = some (.string (nth ss k))) (hss : ∀ k, k < ss.length → (nth ss k).size ≤ maxLen) :
    Calls Try.prog 3 #[.slice (some ⟨b, off, none⟩) ss.length cap] w fun e w' => e = .returned (.bool true) ∧ Below w.heap.size w w' := by
  have hB := fun W (hx : Names W (some ⟨b, off, none⟩) ss) => bytes_any (some ⟨b, off, none⟩) ss cap W hl hx hss
  have HB : Hid _ := hB
  have HN : Hid (Names w (some ⟨b, off, none⟩) ss) := Or.inr ⟨b, off, rfl, hb, hc⟩
  have HC : Hid _ := hc
  unfold maxLen at hl hss
  have HSS : Hid _ := hss
  clear hB hc hss
  go_enter Try.func3, Try.ntmps3
  go_wp2_with fail
  refine (HB.out _ HN.out).mono ?_
  rintro e W ⟨⟨bb, rfl, _⟩, rfl⟩
  cases bb
  · go_wp2_with fail
    go_ret
    exact ⟨rfl, Below.refl _ _⟩
  by_cases hbig : (65536 : Int) < (ss.length : Int)
  · go_wp2_with fail
    go_ret
    exact ⟨rfl, Below.refl _ _⟩
  go_wp2_with fail
  go_loop [3, 4] (fun t i => ∃ k : Nat, k ≤ ss.length ∧ i = .int .i64 k ∧ tot (ss.take k) ≤ 1048576 ∧ t = .int .i64 (tot (ss.take k))) (fun _ i => ss.length - (intOf i).toNat)
  case atStart => exact ⟨0, Nat.zero_le _, rfl, by simp [tot], rfl⟩
  case round =>
    obtain ⟨k, hk, rfl, ht, rfl⟩ := hrel
    by_cases hlt : k < ss.length
    · have hck := HC.out k hlt
      have hsz := HSS.out k hlt
      have hT := tot_snoc ss k hlt
      have HT : Hid _ := hT
      clear hT
      generalize hs : nth ss k = s at *
      clear hs
      generalize htt : tot (ss.take k) = t at *
      clear htt
      go_wp2
      · go_ret
        exact ⟨rfl, Below.refl _ _⟩
      · go_ret
        exact ⟨rfl, Below.refl _ _⟩
      · go_round
        case rel => exact ⟨k + 1, by omega, by go_num, by rw [HT.out]; omega, by rw [HT.out]; go_num⟩
        case measure => simp [intOf]; omega
    · obtain rfl : k = ss.length := by omega
      rw [List.take_length] at ht ⊢
      have HO : Hid (offs ss ss.length ≤ tot ss) := by
        have := offs_le_tot ss ss.length
        rw [List.take_length] at this
        exact this
      generalize tot ss = T at *
      have hmk := fun w0 => run_make_room (P := Try.prog) 25 5 (.int .u8 0) 1 Try.underlying25 info5 rfl .i64 .i64 T (by omega) (by omega) w0
      go_wp2
      go_loop [5] (fun i => ∃ k : Nat, k ≤ ss.length ∧ i = .int .i64 k ∧ ∀ j, j < k → StepName (nth ss j)) (fun i => ss.length - (intOf i).toNat)
      case atStart => exact ⟨0, Nat.zero_le _, rfl, fun j h => by omega⟩
      case round =>
        obtain ⟨k, hk2, rfl, hst⟩ := hrel
        have HST : Hid _ := hst
        clear hst
        by_cases hlt2 : k < ss.length
        · have hck := HC.out k hlt2
          have hsz := HSS.out k hlt2
          generalize hs : nth ss k = s at *
          have HS : Hid _ := hs
          clear hs
          go_wp2_with fail
          refine (isStep_any s _ hsz).mono ?_
          rintro e w2 ⟨⟨b2, rfl, hb2⟩, rfl⟩
          have HB2 : Hid _ := hb2
          clear hb2
          cases b2
          · go_wp2_with fail
            go_ret
            exact ⟨rfl, Below.refl _ _⟩
          · go_wp2_with fail
            go_round
            case rel =>
              refine ⟨k + 1, by omega, by go_num, fun j hj => ?_⟩
              by_cases e : j = k
              · subst e; rw [HS.out]; exact HB2.out (by trivial)
              · exact HST.out j (by omega)
            case measure => simp [intOf]; omega
        · have hkk : k = ss.length := by omega
          rw [hkk] at HST
          clear hkk
          go_wp2
          go_loopw [6, 7] (fun p i wr => ∃ k : Nat, k ≤ ss.length ∧ i = .int .i64 k ∧ p = .slice (some ⟨W.heap.size, 0, none⟩) (offs ss k) T ∧ PathSt W wr W.heap.size T (pathB (ss.take k))) (fun _ i _ => ss.length - (intOf i).toNat)
          case atStart => exact ⟨0, Nat.zero_le _, rfl, rfl, PathSt.start W T 5⟩
          case round =>
            obtain ⟨k, hk3, rfl, rfl, hps⟩ := hrel
            have HPS : Hid _ := hps
            clear hps
            by_cases hlt3 : k < ss.length
            · have hck : wr.cell? ⟨b, off + k, none⟩ = some (.string (nth ss k)) := (HPS.out.old.cell hb).trans (HC.out k hlt3)
              have ho := offs_le ss k hlt3
              have hos := offs_succ ss k hlt3
              have HOS : Hid _ := hos
              have hoT := HO.out
              have hsz : ((nth ss k).size : Int) ≤ 1048576 := by omega
              have hroom : offs ss k + 1 + (nth ss k).size ≤ T := by omega
              have HSN : Hid _ := pathB_snoc ss k hlt3
              have HSL : Hid _ := pathB_len ss k
              clear hos ho hoT
              generalize hs : nth ss k = s at *
              clear hs
              go_wp2_with fail
              refine (zzfield_any s _ hsz).mono ?_
              rintro e w2 ⟨rfl, rfl⟩
              have hsz2 : ((⟨#[46]⟩ : ByteArray) ++ s).size = 1 + s.size := by rw [ByteArray.size_append]; rfl
              have HSZ : Hid _ := hsz2
              clear hsz2
              generalize (⟨#[46]⟩ : ByteArray) ++ s = d at *
              go_wp2_with (at_builtin; refine wpList_append_room1 _ rfl (.tmp 56) (.tmp 61) 25 9 rfl 5 (.int .u8 0) 1 Try.underlying25 info5 W.heap.size 0 (offs ss k) T rfl _ rfl d.size (byteCells d) (Src.ofString _ Try.underlying9 d) ?c1 ?c2 ?c3 ?_)
              case c1 => have := HSZ.out; omega
              case c2 => intro j hj; rw [byteCells_length, HSZ.out] at hj; rw [Nat.zero_add]; exact HPS.out.room _ (by omega)
              case c3 => intro j hj; rw [byteCells_length, HSZ.out] at hj; rw [Nat.zero_add]; exact HPS.out.open_ _ (by omega)
              go_wp2_with fail
              go_roundw
              case rel =>
                refine ⟨k + 1, by omega, by go_num, ?_, ?_⟩
                · rw [HOS.out, HSZ.out, Nat.add_assoc]
                · have h1 := HPS.out.step d (by rw [HSL.out, HSZ.out]; omega)
                  rw [HSN.out]
                  rw [HSL.out] at h1
                  simpa using h1
              case measure => simp [intOf]; omega
            · obtain rfl : k = ss.length := by omega
              rw [List.take_length] at HPS
              go_wp2_with fail
              refine (split_any _ ss cap W.heap.size T _ ?_ (by omega) HO.out (by omega) HST.out HPS.out.bytes).mono ?_
              · exact Or.inr ⟨b, off, rfl, Nat.lt_of_lt_of_le hb HPS.out.old.size, fun j hj => (HPS.out.old.cell hb).trans (HC.out j hj)⟩
              rintro e w3 ⟨rfl, q, rfl⟩
              go_wp2_with fail
              go_ret
              exact ⟨rfl, below_drewN HPS.out.old q⟩

set_option maxHeartbeats 2000000 in
theorem law_nil (a : Option Addr) (cap : Nat) (w : World) :
    Calls Try.prog 3 #[.slice a 0 cap] w fun e w' => e = .returned (.bool true) ∧ Below w.heap.size w w' := by
  have hB := fun W => bytes_any a [] cap W (by decide) (Or.inl rfl) (fun k hk => by cases hk)
  have HB : Hid _ := hB
  clear hB
  have hmk : ∀ w0, (Instr.makeSlice 25 (.int .i64 0) (.int .i64 0)).run Try.prog w0 = .ok (.slice (some ⟨w0.heap.size, 0, none⟩) 0 0) (w0.alloc (.cells (madeCells #[.int .u8 0] 0) 5)) := fun w0 => run_make_room (P := Try.prog) 25 5 (.int .u8 0) 1 Try.underlying25 info5 rfl .i64 .i64 0 (by omega) (by omega) w0
  go_enter Try.func3, Try.ntmps3
  go_wp2_with fail
  refine (HB.out _).mono ?_
  rintro e W ⟨⟨bb, rfl, _⟩, rfl⟩
  cases bb
  · go_wp2_with fail
    go_ret
    exact ⟨rfl, Below.refl _ _⟩
  go_wp2_with fail
  go_loop [3, 4] (fun t i => t = .int .i64 0 ∧ i = .int .i64 0) (fun _ _ => 0)
  case atStart => exact ⟨rfl, rfl⟩
  case round =>
    obtain ⟨rfl, rfl⟩ := hrel
    go_wp2_with fail
    go_loop [5] (fun i => i = .int .i64 0) (fun _ => 0)
    case atStart => exact rfl
    case round =>
      obtain rfl := hrel
      go_wp2_with fail
      go_loop [6, 7] (fun p i => p = .slice (some ⟨W.heap.size, 0, none⟩) 0 0 ∧ i = .int .i64 0) (fun _ _ => 0)
      case atStart => exact ⟨rfl, rfl⟩
      case round =>
        obtain ⟨rfl, rfl⟩ := hrel
        go_wp2_with fail
        refine (split_nil a cap W.heap.size 0 _).mono ?_
        rintro e w3 ⟨rfl, q, rfl⟩
        go_wp2_with fail
        go_ret
        exact ⟨rfl, below_drewN ((Below.refl _ _).alloc (Nat.le_refl _) _) q⟩

/-- WHATEVER THE NAMES: it returns true, and what was there is as it was. -/
theorem law_any (a : Option Addr) (ss : List ByteArray) (cap : Nat) (w : World) (hl : ss.length ≤ maxLen) (hn : Names w a ss) (hss : ∀ k, k < ss.length → (nth ss k).size ≤ maxLen) :
    Calls Try.prog 3 #[.slice a ss.length cap] w fun e w' => e = .returned (.bool true) ∧ Below w.heap.size w w' := by
  rcases hn with rfl | ⟨b, off, rfl, hb, hc⟩
  · exact law_nil a cap w
  · exact law_some b off ss cap w hl hb hc hss
end Go.Proofs.Qxb6609295a
