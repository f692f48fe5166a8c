/-
  THE WALK of (*PathError).Error: it gives some string, and leaves what was there.
-/
import Derived.Test.Qxb6609295aFmtFacts
import Derived.WalkKit
import Derived.WalkSpells
import Derived.WalkLawsBesides
import Derived.Deep.QuietTactic
import Derived.BigQuiet
import Derived.Deep.RegionWith
namespace Go.Proofs.Qxb6609295aFmt
open Go.RowKit Go.Extern.Stop Go.Stop Go.Extern
attribute [local go_sem] call9 call28 guard fmt0 fmt0r fmt1 fmt1r act3_84w op3_84w op9_115 act9_115 act23_119w isError23 str23 ptr38 elem38

/-- It ends with a string. -/
def EndS (e : Ending) : Prop := ∃ s : ByteArray, e = .returned (.string s)

set_option maxHeartbeats 800000 in
theorem error_empty (p : Nat) (what path reason : ByteArray) (w : World) (hw : (what.size : Int) ≤ 262144) (hr : (reason.size : Int) ≤ 262144)
    (h0 : w.cell? ⟨p, 0, none⟩ = some (.string what)) (h1 : w.cell? ⟨p, 1, none⟩ = some (.string path)) (h2 : w.cell? ⟨p, 2, none⟩ = some (.string reason)) (he : path.toList.isEmpty = true) :
    Calls Tryf.prog 26 #[.pointer (some ⟨p, 0, none⟩)] w fun e w' => EndS e ∧ Below w.heap.size w w' := by
  go_enter Tryf.func26, Tryf.ntmps26
  go_wp2
  go_quiet (fail)
  go_wp2
  go_ret
  exact ⟨⟨_, rfl⟩, below_drewN (Below.refl _ _) _⟩

set_option maxHeartbeats 800000 in
theorem error_path (F : Interp) (p : Nat) (what path reason : ByteArray) (w : World) (hF : F.answers w.tape)
    (h0 : w.cell? ⟨p, 0, none⟩ = some (.string what)) (h1 : w.cell? ⟨p, 1, none⟩ = some (.string path)) (h2 : w.cell? ⟨p, 2, none⟩ = some (.string reason)) (he : path.toList.isEmpty = false) :
    Calls Tryf.prog 26 #[.pointer (some ⟨p, 0, none⟩)] w fun e w' => EndS e ∧ Below w.heap.size w w' := by
  have hF' := answers_open hF
  go_enter Tryf.func26, Tryf.ntmps26
  go_wp2
  go_region_with (fail)
  all_goals go_wp2
  all_goals go_ret
  all_goals (refine ⟨⟨_, rfl⟩, ?_⟩)
  all_goals (repeat (first | exact Below.refl _ _ | refine Below.drew ?_ | refine Below.alloc ?_ (Nat.le_refl _) _))

theorem error_any (F : Interp) (p : Nat) (what path reason : ByteArray) (w : World) (hF : F.answers w.tape) (hw : (what.size : Int) ≤ 262144) (hr : (reason.size : Int) ≤ 262144)
    (h0 : w.cell? ⟨p, 0, none⟩ = some (.string what)) (h1 : w.cell? ⟨p, 1, none⟩ = some (.string path)) (h2 : w.cell? ⟨p, 2, none⟩ = some (.string reason)) :
    Calls Tryf.prog 26 #[.pointer (some ⟨p, 0, none⟩)] w fun e w' => EndS e ∧ Below w.heap.size w w' := by
  cases he : path.toList.isEmpty
  · exact error_path F p what path reason w hF h0 h1 h2 he
  · exact error_empty p what path reason w hw hr h0 h1 h2 he
end Go.Proofs.Qxb6609295aFmt
