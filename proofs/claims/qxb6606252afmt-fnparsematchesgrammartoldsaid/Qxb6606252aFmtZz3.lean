/-
  THE PLAIN LAYER: Go's table of Cf holds just the runes written out.
-/
import Derived.Test.Qxb6606252aFmtPlain
namespace Go.Proofs.Qxb6606252aFmt

/-- The runes of Cf, written out. -/
def cfQ (r : Nat) : Prop := r = 173 ∨ (1536 ≤ r ∧ r ≤ 1541) ∨ r = 1564 ∨ r = 1757 ∨ r = 1807 ∨ r = 2192 ∨ r = 2193 ∨ r = 2274 ∨ r = 6158 ∨ (8203 ≤ r ∧ r ≤ 8207) ∨ (8234 ≤ r ∧ r ≤ 8238) ∨ (8288 ≤ r ∧ r ≤ 8292) ∨ (8294 ≤ r ∧ r ≤ 8303) ∨ r = 65279 ∨ (65529 ≤ r ∧ r ≤ 65531) ∨ r = 69821 ∨ r = 69837 ∨ (78896 ≤ r ∧ r ≤ 78911) ∨ (113824 ≤ r ∧ r ≤ 113827) ∨ (119155 ≤ r ∧ r ≤ 119162) ∨ r = 917505 ∨ (917536 ≤ r ∧ r ≤ 917631)

theorem lin_step (T : Array Lib.Rg) (r f i : Nat) (x : Lib.Rg) (h : T.getD i (0, 0, 0) = x) (hi : i < T.size) :
    Lib.linGo T r (f + 1) i = if r < x.1 then false else if r ≤ x.2.1 then x.has r else Lib.linGo T r f (i + 1) := by
  rw [Lib.linGo, if_pos hi, h]
theorem lin_end (T : Array Lib.Rg) (r f i : Nat) (hi : ¬ i < T.size) : Lib.linGo T r f i = false := by
  cases f with
  | zero => rfl
  | succ f => rw [Lib.linGo, if_neg hi]
theorem st {a b : Prop} [Decidable a] [Decidable b] {c d : Bool} {P : Prop} (h1 : a → ¬ P) (h2 : ¬ a → b → (c = true ↔ P)) (h3 : ¬ a → ¬ b → (d = true ↔ P)) : (if a then false else if b then c else d) = true ↔ P := by
  by_cases ha : a
  · rw [if_pos ha]; exact ⟨(fun h => by cases h), fun h => absurd h (h1 ha)⟩
  · rw [if_neg ha]
    by_cases hb : b
    · rw [if_pos hb]; exact h2 ha hb
    · rw [if_neg hb]; exact h3 ha hb
set_option maxHeartbeats 1600000 in
theorem cf16 (r : Nat) : r ≤ 65531 → (Lib.linGo cfT.r16 r 13 0 = true ↔ cfQ r) := by
  intro hr
  rw [lin_step _ _ _ _ (173, 1536, 1363) rfl (by decide), lin_step _ _ _ _ (1537, 1541, 1) rfl (by decide), lin_step _ _ _ _ (1564, 1757, 193) rfl (by decide), lin_step _ _ _ _ (1807, 2192, 385) rfl (by decide), lin_step _ _ _ _ (2193, 2274, 81) rfl (by decide), lin_step _ _ _ _ (6158, 8203, 2045) rfl (by decide), lin_step _ _ _ _ (8204, 8207, 1) rfl (by decide), lin_step _ _ _ _ (8234, 8238, 1) rfl (by decide), lin_step _ _ _ _ (8288, 8292, 1) rfl (by decide), lin_step _ _ _ _ (8294, 8303, 1) rfl (by decide), lin_step _ _ _ _ (65279, 65529, 250) rfl (by decide), lin_step _ _ _ _ (65530, 65531, 1) rfl (by decide), lin_end _ _ _ _ (by decide)]
  simp only [Lib.Rg.has]
  refine st (fun h => by unfold cfQ; omega) (fun h h' => by unfold cfQ; simp only [Bool.or_eq_true, beq_iff_eq]; omega) (fun _ _ => ?_)
  refine st (fun h => by unfold cfQ; omega) (fun h h' => by unfold cfQ; simp only [Bool.or_eq_true, beq_iff_eq]; omega) (fun _ _ => ?_)
  refine st (fun h => by unfold cfQ; omega) (fun h h' => by unfold cfQ; simp only [Bool.or_eq_true, beq_iff_eq]; omega) (fun _ _ => ?_)
  refine st (fun h => by unfold cfQ; omega) (fun h h' => by unfold cfQ; simp only [Bool.or_eq_true, beq_iff_eq]; omega) (fun _ _ => ?_)
  refine st (fun h => by unfold cfQ; omega) (fun h h' => by unfold cfQ; simp only [Bool.or_eq_true, beq_iff_eq]; omega) (fun _ _ => ?_)
  refine st (fun h => by unfold cfQ; omega) (fun h h' => by unfold cfQ; simp only [Bool.or_eq_true, beq_iff_eq]; omega) (fun _ _ => ?_)
  refine st (fun h => by unfold cfQ; omega) (fun h h' => by unfold cfQ; simp only [Bool.or_eq_true, beq_iff_eq]; omega) (fun _ _ => ?_)
  refine st (fun h => by unfold cfQ; omega) (fun h h' => by unfold cfQ; simp only [Bool.or_eq_true, beq_iff_eq]; omega) (fun _ _ => ?_)
  refine st (fun h => by unfold cfQ; omega) (fun h h' => by unfold cfQ; simp only [Bool.or_eq_true, beq_iff_eq]; omega) (fun _ _ => ?_)
  refine st (fun h => by unfold cfQ; omega) (fun h h' => by unfold cfQ; simp only [Bool.or_eq_true, beq_iff_eq]; omega) (fun _ _ => ?_)
  refine st (fun h => by unfold cfQ; omega) (fun h h' => by unfold cfQ; simp only [Bool.or_eq_true, beq_iff_eq]; omega) (fun _ _ => ?_)
  refine st (fun h => by unfold cfQ; omega) (fun h h' => by unfold cfQ; simp only [Bool.or_eq_true, beq_iff_eq]; omega) (fun _ _ => ?_)
  unfold cfQ
  simp only [Bool.false_eq_true, false_iff]
  omega
set_option maxHeartbeats 1600000 in
theorem cf32 (r : Nat) : 69821 ≤ r → (Lib.linGo cfT.r32 r 7 0 = true ↔ cfQ r) := by
  intro hr
  rw [lin_step _ _ _ _ (69821, 69837, 16) rfl (by decide), lin_step _ _ _ _ (78896, 78911, 1) rfl (by decide), lin_step _ _ _ _ (113824, 113827, 1) rfl (by decide), lin_step _ _ _ _ (119155, 119162, 1) rfl (by decide), lin_step _ _ _ _ (917505, 917536, 31) rfl (by decide), lin_step _ _ _ _ (917537, 917631, 1) rfl (by decide), lin_end _ _ _ _ (by decide)]
  simp only [Lib.Rg.has]
  refine st (fun h => by unfold cfQ; omega) (fun h h' => by unfold cfQ; simp only [Bool.or_eq_true, beq_iff_eq]; omega) (fun _ _ => ?_)
  refine st (fun h => by unfold cfQ; omega) (fun h h' => by unfold cfQ; simp only [Bool.or_eq_true, beq_iff_eq]; omega) (fun _ _ => ?_)
  refine st (fun h => by unfold cfQ; omega) (fun h h' => by unfold cfQ; simp only [Bool.or_eq_true, beq_iff_eq]; omega) (fun _ _ => ?_)
  refine st (fun h => by unfold cfQ; omega) (fun h h' => by unfold cfQ; simp only [Bool.or_eq_true, beq_iff_eq]; omega) (fun _ _ => ?_)
  refine st (fun h => by unfold cfQ; omega) (fun h h' => by unfold cfQ; simp only [Bool.or_eq_true, beq_iff_eq]; omega) (fun _ _ => ?_)
  refine st (fun h => by unfold cfQ; omega) (fun h h' => by unfold cfQ; simp only [Bool.or_eq_true, beq_iff_eq]; omega) (fun _ _ => ?_)
  unfold cfQ
  simp only [Bool.false_eq_true, false_iff]
  omega
theorem cf_iff (r : Nat) (hr : r ≤ 2147483647) : Lib.isGo cfT r = true ↔ cfQ r := by
  have eu : Lib.u32Of (r : Int) = r := by unfold Lib.u32Of; omega
  have e16 : Lib.is16Go cfT.r16 (r % 65536) = Lib.linGo cfT.r16 (r % 65536) 13 0 := by
    unfold Lib.is16Go; rw [if_pos (Or.inl (by decide))]; rfl
  have e32 : Lib.is32Go cfT.r32 r = Lib.linGo cfT.r32 r 7 0 := by
    unfold Lib.is32Go; rw [if_pos (by decide)]; rfl
  unfold Lib.isGo
  rw [eu, e16, e32]
  have h1 : (0 < cfT.r16.size ∧ r ≤ (cfT.r16.getD (cfT.r16.size - 1) (0, 0, 0)).2.1) ↔ r ≤ 65531 := ⟨fun h => h.2, fun h => ⟨by decide, h⟩⟩
  have h2 : (0 < cfT.r32.size ∧ ((cfT.r32.getD 0 (0, 0, 0)).1 : Int) ≤ (r : Int)) ↔ 69821 ≤ r := ⟨fun h => by have := h.2; exact Int.ofNat_le.1 this, fun h => ⟨by decide, Int.ofNat_le.2 h⟩⟩
  by_cases a : r ≤ 65531
  · rw [if_pos (h1.2 a), Nat.mod_eq_of_lt (by omega)]
    exact cf16 r a
  · rw [if_neg (fun h => a (h1.1 h))]
    by_cases b : 69821 ≤ r
    · rw [if_pos (h2.2 b)]
      exact cf32 r b
    · rw [if_neg (fun h => b (h2.1 h))]
      unfold cfQ
      simp only [Bool.false_eq_true, false_iff]
      omega
end Go.Proofs.Qxb6606252aFmt
