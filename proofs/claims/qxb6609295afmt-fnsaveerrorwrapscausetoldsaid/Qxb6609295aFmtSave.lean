/-
  THE WALKS of saveError (through fmt.Errorf and its stop) and errors.Unwrap.
-/
import Derived.Test.Qxb6609295aFmtError
namespace Go.Proofs.Qxb6609295aFmt
open Go.RowKit Go.Extern.Stop Go.Stop Go.Extern
attribute [local go_sem] call9 call28 guard fmt0 fmt0r fmt1 fmt1r act3_84w op3_84w op9_115 act9_115 act23_119w isError23 str23 ptr38 elem38

/-- It ends with a new *fmt.wrapError round the *PathError at block p. -/
def EndW (p : Nat) (e : Ending) (w' : World) : Prop := ∃ N : Nat, e = .returned (.iface 38 (.pointer (some ⟨N, 0, none⟩))) ∧ w'.cell? ⟨N, 1, none⟩ = some (.iface 23 (.pointer (some ⟨p, 0, none⟩)))

set_option maxHeartbeats 1600000 in
theorem save_any (F : Interp) (v : Int) (p : Nat) (what path reason : ByteArray) (w : World) (hF : F.answers w.tape) (hw : (what.size : Int) ≤ 262144) (hr : (reason.size : Int) ≤ 262144) (hp : p < w.heap.size)
    (h0 : w.cell? ⟨p, 0, none⟩ = some (.string what)) (h1 : w.cell? ⟨p, 1, none⟩ = some (.string path)) (h2 : w.cell? ⟨p, 2, none⟩ = some (.string reason)) :
    Calls Tryf.prog 7 #[.iface 3 (.int .i64 v), .iface 23 (.pointer (some ⟨p, 0, none⟩))] w fun e w' => EndW p e w' ∧ Below w.heap.size w w' := by
  have hF' := answers_open hF
  go_enter Tryf.func7, Tryf.ntmps7
  go_wp2
  apply rows_call nextTurns
  case hr =>
    go_simp
    exact ⟨⟨rfl, rfl, rfl⟩, rfl⟩
  case hi => exact invokeError23 _ _
  case hc =>
    refine (error_any F p what path reason _ (by exact hF) hw hr ?_ ?_ ?_).mono fun e w3 ⟨he, hx⟩ => ?_
    · go_simp
    · go_simp
    · go_simp
    obtain ⟨s, rfl⟩ := he
    have hF3 := answers_open (show F.answers w3.tape by rw [hx.tape]; exact hF)
    have hc0 := (hx.cell (p := ⟨w.heap.size, 0, none⟩) (by simp)).trans (World.cell?_alloc_at _ _ _ _ rfl)
    have hc1 := (hx.cell (p := ⟨w.heap.size, 1, none⟩) (by simp)).trans (World.cell?_alloc_at _ _ _ _ rfl)
    have hz : w.heap.size + 1 ≤ w3.heap.size := by have := hx.size; simpa using this
    have HB : Hid (Below w.heap.size w w3) := ((Below.refl _ _).alloc (Nat.le_refl _) _).trans (hx.mono (by simp))
    simp only [List.getElem?_toArray, List.getElem?_cons_zero, List.getElem?_cons_succ] at hc0 hc1
    clear hx hF hF' h0 h1 h2
    apply rows_value nextReturned
    case hr =>
      go_simp
      exact ⟨rfl, rfl⟩
    case h =>
      go_wp2
      go_ret
      refine ⟨⟨w3.heap.size, rfl, ?_⟩, ?_⟩
      · go_simp
      · exact (HB.out.alloc (by omega) _).drew

theorem assert38 (a : Addr) (w : World) : (Instr.typeAssert (.iface 38 (.pointer (some a))) 25 32 true).run Tryf.prog w = .ok (.tuple #[.iface 38 (.pointer (some a)), .bool true]) w := by kernel_rfl
theorem assert23 (a : Addr) (w : World) : (Instr.typeAssert (.iface 23 (.pointer (some a))) 25 23 true).run Tryf.prog w = .ok (.tuple #[.pointer (some a), .bool true]) w := by kernel_rfl
theorem meth38 (a : Addr) (w : World) : (method 162 38 (.pointer (some a)) "Unwrap").run Tryf.prog w = .ok (30, .pointer (some a)) w := by kernel_rfl
attribute [local go_sem] assert38 assert23 meth38

set_option maxHeartbeats 800000 in
/-- errors.Unwrap at a *fmt.wrapError. -/
theorem unwrap_any (N : Nat) (x : Value) (w : World) (hc : w.cell? ⟨N, 1, none⟩ = some x) :
    Calls Tryf.prog 6 #[.iface 38 (.pointer (some ⟨N, 0, none⟩))] w fun e w' => e = .returned x ∧ w' = w := by
  go_enter Tryf.func6, Tryf.ntmps6
  go_wp2
  go_ret
  exact ⟨rfl, rfl⟩

set_option maxHeartbeats 1600000 in
/-- ZZsaveErrorUnwrapped gives back the very pointer. -/
theorem zzsave_any (F : Interp) (v : Int) (p : Nat) (what path reason : ByteArray) (w : World) (hF : F.answers w.tape) (hw : (what.size : Int) ≤ 262144) (hr : (reason.size : Int) ≤ 262144) (hp : p < w.heap.size)
    (h0 : w.cell? ⟨p, 0, none⟩ = some (.string what)) (h1 : w.cell? ⟨p, 1, none⟩ = some (.string path)) (h2 : w.cell? ⟨p, 2, none⟩ = some (.string reason)) :
    Calls Tryf.prog 5 #[.int .i64 v, .pointer (some ⟨p, 0, none⟩)] w fun e w' => e = .returned (.pointer (some ⟨p, 0, none⟩)) ∧ Below w.heap.size w w' := by
  have hs := save_any F v p what path reason w hF hw hr hp h0 h1 h2
  have HS : Hid (Calls _ _ _ _ _) := hs
  clear hs h0 h1 h2 hF
  go_enter Tryf.func5, Tryf.ntmps5
  go_wp2_with fail
  refine HS.out.mono ?_
  rintro e w2 ⟨⟨N, rfl, hN⟩, hb⟩
  have HB : Hid _ := hb
  clear hb
  go_wp2_with fail
  refine (unwrap_any N _ _ hN).mono ?_
  rintro e w3 ⟨rfl, rfl⟩
  go_wp2_with fail
  go_ret
  exact ⟨rfl, HB.out⟩
end Go.Proofs.Qxb6609295aFmt
