/-
  A CUT INSIDE A REGION: the operations of a region walked in two pieces.
-/
import Derived.Test.Qxb6606252aFmtProg
import Derived.WalkKit
import Derived.BigCall
namespace Go.Proofs.Qxb6606252aFmt
open Go.RowKit

theorem wp_both {P : Program} {o : Oper} {a : Act} {w : World} {K K' : Act → World → Prop} {Q Q' : Exit → Act → World → Prop} (h : ∀ a w, K a w → K' a w) (ho : ∀ e a w, e ≠ .normal → Q' e a w → Q e a w)
    (hh : o.wp P a w K Q') : o.wp P a w K' Q := by
  have hl : LetsOut Q' → LetsOut Q := fun ⟨a, w, h⟩ => ⟨a, w, ho _ _ _ (by intro e; cases e) h⟩
  unfold Oper.wp at *
  generalize (execOp a.eval o).run P w = r at *
  cases r with
  | ok n w' =>
    cases n <;> simp only [Oper.upon] at hh ⊢ <;>
      first
        | exact h _ _ hh
        | exact Calls.mono hh (fun e w'' he => by cases e <;> first | exact h _ _ he | exact ho _ _ _ (by intro e; cases e) he | exact hl he)
        | exact Rows.mono hh (fun _ _ he => h _ _ he)
        | exact ho _ _ _ (by intro e; cases e) hh
        | exact hh
  | halt x w' => cases x <;> simp only [Oper.upon] at hh ⊢ <;> first | exact hh | exact ho _ _ _ (by intro e; cases e) hh | exact hl hh
theorem wpList_app {P : Program} {ops : Array Oper} {Q Q' : Exit → Act → World → Prop} (l2 : List Oper) (hn : ∀ a w, Q' .normal a w → wpList P ops Q l2 a w) (ho : ∀ e a w, e ≠ .normal → Q' e a w → Q e a w) :
    ∀ (l1 : List Oper) (a : Act) (w : World), wpList P ops Q' l1 a w → wpList P ops Q (l1 ++ l2) a w
  | [], a, w, h => hn a w h
  | o :: l1, a, w, h => by
    show wpList P ops Q (o :: (l1 ++ l2)) a w
    unfold wpList at h ⊢
    have ih := wpList_app l2 hn ho l1
    split
    · rename_i hw
      rw [if_pos hw] at h
      rcases h with h | ⟨h1, a', w', h2⟩
      · refine .inl ?_
        exact wp_both ih ho h
      · exact .inr ⟨h1, a', w', ho _ _ _ (by intro e; cases e) h2⟩
    · rename_i hw
      rw [if_neg hw] at h
      exact ih _ _ h
end Go.Proofs.Qxb6606252aFmt
