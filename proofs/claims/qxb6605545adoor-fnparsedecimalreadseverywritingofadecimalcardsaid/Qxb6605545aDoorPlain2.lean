/-
  THE PLAIN LAW of the second statement: every usual writing of a canonical decimal reads back as it. No Go in sight.
-/
import Derived.Test.Qxb6605545aDoorPlain
namespace Go.Proofs.Qxb6605545aDoor

/-- Digits alone, no zero in front of the whole part, none behind the fraction, zero not negative. -/
def canonB (neg : Bool) (w f : List UInt8) : Bool :=
  w.all digB && (f.all digB && (!(w.head? == some 48) && (!(f.getLast? == some 48) && !(w.isEmpty && (f.isEmpty && neg)))))

theorem trimL_zeros (w : List UInt8) (h : w.head? ≠ some 48) : ∀ n : Nat, Lib.trimLeftB (List.replicate n 48 ++ w) 48 = w
  | 0 => by
    unfold Lib.trimLeftB
    cases w with
    | nil => rfl
    | cons a r =>
      have : ¬ a = 48 := fun e => h (by rw [e]; rfl)
      simp [this]
  | n + 1 => by
    have := trimL_zeros w h n
    unfold Lib.trimLeftB at this ⊢
    rw [List.replicate_succ, List.cons_append, List.dropWhile_cons]
    simpa using this
theorem trimR_zeros (f : List UInt8) (h : f.getLast? ≠ some 48) (n : Nat) : Lib.trimRightB (f ++ List.replicate n 48) 48 = f := by
  have := trimL_zeros f.reverse (by rw [List.head?_reverse]; exact h) n
  unfold Lib.trimLeftB at this
  unfold Lib.trimRightB
  rw [List.reverse_append, List.reverse_replicate, this, List.reverse_reverse]
theorem digits_zeros (n : Nat) : (List.replicate n (48 : UInt8)).all digB = true := by
  rw [List.all_eq_true]
  intro x hx
  rw [List.eq_of_mem_replicate hx]; rfl
/-- The decimal's own answer. -/
theorem ans_canon (neg : Bool) (w f : List UInt8) (n m : Nat) (hw : w.all digB = true) (hf : f.all digB = true) (h1 : w.head? ≠ some 48) (h2 : f.getLast? ≠ some 48) (h3 : ¬ (w = [] ∧ f = [] ∧ neg = true))
    (hne : ¬ (List.replicate n 48 ++ w = [] ∧ f ++ List.replicate m 48 = [])) : ansOf neg (List.replicate n 48 ++ w) (f ++ List.replicate m 48) = (true, neg, w, f) := by
  rw [ansOf_ok neg _ _ (by rw [List.all_append, digits_zeros, hw]; rfl) (by rw [List.all_append, digits_zeros, hf]; rfl) hne, trimL_zeros w h1, trimR_zeros f h2]
  congr 2
  cases neg
  · rfl
  · cases w with
    | cons a r => rfl
    | nil => cases f with
      | cons a r => rfl
      | nil => exact absurd ⟨rfl, rfl, rfl⟩ h3
theorem signless (d : List UInt8) (c : UInt8) (r : List UInt8) (e : d = c :: r) (h1 : c ≠ 45) (h2 : c ≠ 43) : parseL d = parseD false d := by
  unfold parseL
  subst e
  have e1 : signNeg (c :: r) = false := by simp [signNeg, h1]
  have e2 : signLen (c :: r) = 0 := by simp [signLen, h1, h2]
  rw [e1, e2]; rfl
theorem digit_not (c : UInt8) (h : digB c = true) : c ≠ 45 ∧ c ≠ 43 ∧ c ≠ 46 := by
  refine ⟨?_, ?_, ?_⟩ <;> (rintro rfl; exact absurd h (by decide))
theorem minus (d : List UInt8) : parseL (45 :: d) = parseD true d := rfl
theorem plus (d : List UInt8) : parseL (43 :: d) = parseD false d := rfl

/-- The first byte of digits, a dot, digits is no sign. -/
theorem head_plain (x y : List UInt8) (hx : x.all digB = true) : parseL (x ++ 46 :: y) = parseD false (x ++ 46 :: y) := by
  cases x with
  | nil => exact signless _ 46 y rfl (by decide) (by decide)
  | cons a r =>
    have ha : digB a = true := by simp only [List.all_cons, Bool.and_eq_true] at hx; exact hx.1
    exact signless _ a (r ++ 46 :: y) rfl (digit_not a ha).1 (digit_not a ha).2.1
theorem head_whole (x : List UInt8) (hx : x.all digB = true) : parseL x = parseD false x := by
  cases x with
  | nil => rfl
  | cons a r =>
    have ha : digB a = true := by simp only [List.all_cons, Bool.and_eq_true] at hx; exact hx.1
    exact signless _ a r rfl (digit_not a ha).1 (digit_not a ha).2.1

theorem canon_parts {neg : Bool} {w f : List UInt8} (h : canonB neg w f = true) : w.all digB = true ∧ f.all digB = true ∧ w.head? ≠ some 48 ∧ f.getLast? ≠ some 48 ∧ ¬ (w = [] ∧ f = [] ∧ neg = true) := by
  unfold canonB at h
  simp only [Bool.and_eq_true, Bool.not_eq_true', Bool.and_eq_false_iff] at h
  obtain ⟨h1, h2, h3, h4, h5⟩ := h
  refine ⟨h1, h2, fun e => by rw [e] at h3; simp at h3, fun e => by rw [e] at h4; simp at h4, ?_⟩
  rintro ⟨rfl, rfl, rfl⟩
  simp at h5

/-- The sign as text. -/
def sgn (neg : Bool) : List UInt8 := if neg then [45] else []
def sgnP (neg : Bool) : List UInt8 := if neg then [45] else [43]

/-- The writing with a dot; n zeros in front, m behind; the sign as sgn or sgnP. -/
theorem reads_dot (neg : Bool) (w f : List UInt8) (n m : Nat) (h : canonB neg w f = true) (hne : ¬ (List.replicate n 48 ++ w = [] ∧ f ++ List.replicate m 48 = [])) :
    parseL (sgn neg ++ ((List.replicate n 48 ++ w) ++ 46 :: (f ++ List.replicate m 48))) = (true, neg, w, f) ∧ parseL (sgnP neg ++ ((List.replicate n 48 ++ w) ++ 46 :: (f ++ List.replicate m 48))) = (true, neg, w, f) := by
  obtain ⟨c1, c2, c3, c4, c5⟩ := canon_parts h
  have hx : (List.replicate n 48 ++ w).all digB = true := by rw [List.all_append, digits_zeros, c1]; rfl
  have key := ans_canon neg w f n m c1 c2 c3 c4 c5 hne
  cases neg
  · refine ⟨?_, ?_⟩
    · show parseL ([] ++ _) = _
      rw [List.nil_append, head_plain _ _ hx, parseD_dot false _ _ hx, key]
    · exact (plus _).trans ((parseD_dot false _ _ hx).trans key)
  · refine ⟨?_, ?_⟩
    · exact (minus _).trans ((parseD_dot true _ _ hx).trans key)
    · exact (minus _).trans ((parseD_dot true _ _ hx).trans key)
/-- The writing without a dot. -/
theorem reads_whole (neg : Bool) (w : List UInt8) (n : Nat) (h : canonB neg w [] = true) (hne : ¬ (List.replicate n 48 ++ w = [])) : parseL (sgn neg ++ (List.replicate n 48 ++ w)) = (true, neg, w, []) := by
  obtain ⟨c1, c2, c3, c4, c5⟩ := canon_parts h
  have hx : (List.replicate n 48 ++ w).all digB = true := by rw [List.all_append, digits_zeros, c1]; rfl
  have key := ans_canon neg w [] n 0 c1 c2 c3 c4 c5 (fun x => hne x.1)
  cases neg
  · show parseL ([] ++ _) = _
    rw [List.nil_append, head_whole _ hx, parseD_whole false _ hx]
    exact key
  · exact (minus _).trans ((parseD_whole true _ hx).trans key)
end Go.Proofs.Qxb6605545aDoor
