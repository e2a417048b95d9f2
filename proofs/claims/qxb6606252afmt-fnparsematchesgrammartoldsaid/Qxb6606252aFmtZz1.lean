/-
  THE WALK of the law's own predicates on runes: they say what Go's library says.
-/
import Derived.Test.Qxb6606252aFmtPlain
import Derived.Test.Qxb6606252aFmtProg
import Derived.WalkKit
import Derived.BigCall
namespace Go.Proofs.Qxb6606252aFmt
open Go.RowKit

/-- It says whether p; the world stands. -/
def SaysB (p : Prop) (w : World) (e : Ending) (w' : World) : Prop := ∃ b : Bool, e = .returned (.bool b) ∧ (b = true ↔ p) ∧ w' = w

set_option maxHeartbeats 1600000 in
set_option maxRecDepth 100000 in
theorem zzSpace_walk (r : Nat) (w : World) (_hr : r ≤ 2147483647) :
    Calls Tryf.prog 25 #[.int .i32 r] w (SaysB ((9 ≤ r ∧ r ≤ 13) ∨ r = 32 ∨ r = 133 ∨ r = 160 ∨ r = 5760 ∨ (8192 ≤ r ∧ r ≤ 8202) ∨ r = 8232 ∨ r = 8233 ∨ r = 8239 ∨ r = 8287 ∨ r = 12288) w) := by
  obtain ⟨p, hp⟩ : ∃ p, Hid (p = ((9 ≤ r ∧ r ≤ 13) ∨ r = 32 ∨ r = 133 ∨ r = 160 ∨ r = 5760 ∨ (8192 ≤ r ∧ r ≤ 8202) ∨ r = 8232 ∨ r = 8233 ∨ r = 8239 ∨ r = 8287 ∨ r = 12288)) := ⟨_, rfl⟩
  rw [← hp.out]
  go_enter Tryf.func25, Tryf.ntmps25
  go_wp2
  all_goals go_ret
  all_goals refine ⟨_, rfl, ?_, rfl⟩
  all_goals rw [hp.out]
  all_goals simp only [Bool.or_eq_true, decide_eq_true_eq, beq_iff_eq, or_assoc, true_iff]
  all_goals omega
theorem zzSpace_any (r : Nat) (w : World) (hr : r ≤ 2147483647) :
    Calls Tryf.prog 25 #[.int .i32 r] w fun e w' => e = .returned (.bool (Lib.isSpaceZ r)) ∧ w' = w :=
  (zzSpace_walk r w hr).mono fun _ _ ⟨b, h1, h2, h3⟩ => ⟨by
    have e : b = Lib.isSpaceR r := by
      rw [Bool.eq_iff_iff, h2]; unfold Lib.isSpaceR
      simp only [Bool.or_eq_true, Bool.and_eq_true, decide_eq_true_eq, beq_iff_eq, or_assoc]
    rw [h1, Lib.isSpaceZ_nat, e], h3⟩

theorem control_small : ∀ r : Fin 256, Lib.propBit ((r.val : Nat) : Int) 1 = (decide (r.val < 32) || (decide (127 ≤ r.val) && decide (r.val ≤ 159))) := by decide +kernel
theorem control_iff (r : Nat) : Lib.isControlU r = true ↔ r < 32 ∨ (127 ≤ r ∧ r ≤ 159) := by
  unfold Lib.isControlU Lib.latin1
  by_cases h : r ≤ 255
  · rw [decide_eq_true (by omega), if_pos rfl]
    have := control_small ⟨r, by omega⟩
    simp only at this
    rw [this]
    simp
  · rw [decide_eq_false (by omega)]
    simp
    omega
set_option maxHeartbeats 1600000 in
theorem zzControl_any (r : Nat) (w : World) (_hr : r ≤ 2147483647) :
    Calls Tryf.prog 26 #[.int .i32 r] w fun e w' => e = .returned (.bool (Lib.isControlU r)) ∧ w' = w := by
  obtain ⟨p, hp⟩ : ∃ p, Hid (p = (r < 32 ∨ (127 ≤ r ∧ r ≤ 159))) := ⟨_, rfl⟩
  suffices h : Calls Tryf.prog 26 #[.int .i32 r] w (SaysB p w) from
    h.mono fun _ _ ⟨_, h1, h2, h3⟩ => ⟨by rw [h1, Bool.eq_iff_iff.2 (h2.trans ((by rw [hp.out] : p ↔ _).trans (control_iff r).symm))], h3⟩
  go_enter Tryf.func26, Tryf.ntmps26
  go_wp2
  all_goals go_ret
  all_goals refine ⟨_, rfl, ?_, rfl⟩
  all_goals rw [hp.out]
  all_goals simp only [Bool.or_eq_true, decide_eq_true_eq, true_iff]
  all_goals omega
end Go.Proofs.Qxb6606252aFmt
