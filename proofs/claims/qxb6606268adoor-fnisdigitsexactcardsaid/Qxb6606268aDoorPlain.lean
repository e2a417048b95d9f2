/-
  THE PLAIN LAYER of this seat: a text of digits alone. No Go in sight.
-/
import Derived.Lib.SlTrimSet
import Derived.Lib.Strings
namespace Go.Proofs.Qxb6606268aDoor

def digB (c : UInt8) : Bool := decide (48 ≤ c.toNat) && decide (c.toNat ≤ 57)
def allD (l : List UInt8) : Bool := l.all digB
theorem digB_iff (c : UInt8) : digB c = true ↔ (48 ≤ c.toNat ∧ c.toNat ≤ 57) := by
  unfold digB
  simp only [Bool.and_eq_true, decide_eq_true_eq]
theorem allD_snoc (l : List UInt8) (c : UInt8) : allD (l ++ [c]) = (allD l && digB c) := by simp [allD]

/-! ### trimming digits -/
def digits : List UInt8 := [48, 49, 50, 51, 52, 53, 54, 55, 56, 57]
theorem digits_mem (c : UInt8) : digits.contains c = digB c := by
  rw [Bool.eq_iff_iff, digB_iff]
  have h : ∀ n : Nat, (c = n.toUInt8 ∧ n < 256) → c.toNat = n := fun n ⟨e, h⟩ => by rw [e]; simp; omega
  simp only [digits, List.contains_cons, List.contains_nil, Bool.or_false, Bool.or_eq_true, beq_iff_eq]
  constructor
  · rintro (rfl | rfl | rfl | rfl | rfl | rfl | rfl | rfl | rfl | rfl) <;> decide
  · intro hh
    have : c.toNat = 48 ∨ c.toNat = 49 ∨ c.toNat = 50 ∨ c.toNat = 51 ∨ c.toNat = 52 ∨ c.toNat = 53 ∨ c.toNat = 54 ∨ c.toNat = 55 ∨ c.toNat = 56 ∨ c.toNat = 57 := by omega
    have k : ∀ d : UInt8, c.toNat = d.toNat → c = d := fun d e => UInt8.toNat_inj.1 e
    rcases this with e | e | e | e | e | e | e | e | e | e
    · exact .inl (k 48 e)
    · exact .inr (.inl (k 49 e))
    · exact .inr (.inr (.inl (k 50 e)))
    · exact .inr (.inr (.inr (.inl (k 51 e))))
    · exact .inr (.inr (.inr (.inr (.inl (k 52 e)))))
    · exact .inr (.inr (.inr (.inr (.inr (.inl (k 53 e))))))
    · exact .inr (.inr (.inr (.inr (.inr (.inr (.inl (k 54 e)))))))
    · exact .inr (.inr (.inr (.inr (.inr (.inr (.inr (.inl (k 55 e))))))))
    · exact .inr (.inr (.inr (.inr (.inr (.inr (.inr (.inr (.inl (k 56 e)))))))))
    · exact .inr (.inr (.inr (.inr (.inr (.inr (.inr (.inr (.inr (k 57 e)))))))))

theorem dropWhile_nil {p : UInt8 → Bool} : ∀ l : List UInt8, (l.dropWhile p = [] ↔ l.all p = true)
  | [] => by simp
  | a :: l => by
    rw [List.dropWhile_cons]
    cases hp : p a <;> simp [hp, dropWhile_nil l]
theorem dropWhile_head {p : UInt8 → Bool} : ∀ (l : List UInt8) (a : UInt8) (r : List UInt8), l.dropWhile p = a :: r → p a = false
  | [], _, _, h => by simp at h
  | b :: l, a, r, h => by
    rw [List.dropWhile_cons] at h
    cases hp : p b
    · rw [hp] at h; simp at h; rw [← h.1]; exact hp
    · rw [hp] at h; exact dropWhile_head l a r h
/-- What is left of a text trimmed of its digits is nothing just where it holds digits alone. -/
theorem trim_digits (l : List UInt8) : (Lib.trimS l digits).isEmpty = l.all digB := by
  have e : (fun x => digits.contains x) = digB := funext digits_mem
  unfold Lib.trimS Lib.trimLeftS Lib.trimRightS
  rw [e, Bool.eq_iff_iff, List.isEmpty_iff, dropWhile_nil]
  constructor
  · intro h
    cases hr : l.reverse.dropWhile digB with
    | nil => have := (dropWhile_nil (p := digB) l.reverse).1 hr; simpa using this
    | cons a r =>
      rw [hr, List.all_reverse] at h
      have h1 : digB a = true := by simp only [List.all_cons, Bool.and_eq_true] at h; exact h.1
      rw [dropWhile_head _ _ _ hr] at h1
      cases h1
  · intro h
    have : l.reverse.dropWhile digB = [] := (dropWhile_nil _).2 (by simpa using h)
    rw [this]; rfl

end Go.Proofs.Qxb6606268aDoor
