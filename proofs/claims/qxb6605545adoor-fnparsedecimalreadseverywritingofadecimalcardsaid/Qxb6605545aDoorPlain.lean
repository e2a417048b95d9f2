/-
  THE PLAIN LAYER of this seat: decimal numbers as text, over lists of bytes. No Go in sight.
-/
import Derived.Lib.IndexMore
import Derived.Lib.TrimByte
import Derived.Lib.Strings
namespace Go.Proofs.Qxb6605545aDoor

def digB (c : UInt8) : Bool := decide (48 ≤ c.toNat) && decide (c.toNat ≤ 57)
def allD (l : List UInt8) : Bool := l.all digB
theorem digB_iff (c : UInt8) : digB c = true ↔ (48 ≤ c.toNat ∧ c.toNat ≤ 57) := by
  unfold digB
  simp only [Bool.and_eq_true, decide_eq_true_eq]

theorem index_no (c : UInt8) : ∀ l : List UInt8, c ∉ l → Lib.index l [c] = -1
  | [], _ => rfl
  | b :: l, h => by
    have hb : ¬ c = b := fun e => h (by rw [e]; exact List.mem_cons_self ..)
    have hl : c ∉ l := fun e => h (List.mem_cons_of_mem _ e)
    unfold Lib.index
    rw [if_neg (by simp [List.isPrefixOf, hb]), index_no c l hl]
    rfl
theorem index_yes (c : UInt8) (r : List UInt8) : ∀ a : List UInt8, c ∉ a → Lib.index (a ++ c :: r) [c] = (a.length : Nat)
  | [], _ => by unfold Lib.index; simp [List.isPrefixOf]
  | b :: l, h => by
    have hb : ¬ c = b := fun e => h (by rw [e]; exact List.mem_cons_self ..)
    have hl : c ∉ l := fun e => h (List.mem_cons_of_mem _ e)
    rw [List.cons_append]
    unfold Lib.index
    rw [if_neg (by simp [List.isPrefixOf, hb]), index_yes c r l hl, if_neg (by simp), List.length_cons]
    omega
theorem cut_no (c : UInt8) (l : List UInt8) (h : c ∉ l) : Lib.cut l [c] = (l, [], false) := by
  unfold Lib.cut; rw [index_no c l h]; rfl
theorem cut_yes (c : UInt8) (a r : List UInt8) (h : c ∉ a) : Lib.cut (a ++ c :: r) [c] = (a, r, true) := by
  unfold Lib.cut; rw [index_yes c r a h, if_pos (by omega), Int.toNat_natCast]
  simp
theorem part_at (c : UInt8) : ∀ l : List UInt8, c ∉ l ∨ ∃ a r, l = a ++ c :: r ∧ c ∉ a
  | [] => .inl (by simp)
  | b :: l => by
    by_cases hb : c = b
    · exact .inr ⟨[], l, by rw [hb]; rfl, by simp⟩
    · rcases part_at c l with h | ⟨a, r, rfl, h⟩
      · exact .inl (by simp [hb, h])
      · exact .inr ⟨b :: a, r, rfl, by simp [hb, h]⟩


/-- What stands behind the sign cannot be read. -/
def badB (w f : List UInt8) : Bool := (w.isEmpty && f.isEmpty) || (!w.all digB || !f.all digB)
/-- The answer: read or not, negative, the whole digits, the fraction's. -/
def ansOf (neg : Bool) (w f : List UInt8) : Bool × Bool × List UInt8 × List UInt8 :=
  if badB w f then (false, false, [], []) else (true, neg && !((Lib.trimLeftB w 48).isEmpty && (Lib.trimRightB f 48).isEmpty), Lib.trimLeftB w 48, Lib.trimRightB f 48)
def parseD (neg : Bool) (d : List UInt8) : Bool × Bool × List UInt8 × List UInt8 := ansOf neg (Lib.cut d [46]).1 (Lib.cut d [46]).2.1
/-- The sign's length and whether it is a minus. -/
def signLen : List UInt8 → Nat
  | [] => 0
  | c :: _ => if c == 45 || c == 43 then 1 else 0
def signNeg : List UInt8 → Bool
  | [] => false
  | c :: _ => c == 45
def parseL (l : List UInt8) : Bool × Bool × List UInt8 × List UInt8 := parseD (signNeg l) (l.drop (signLen l))

theorem signLen_le (l : List UInt8) : signLen l ≤ 1 ∧ signLen l ≤ l.length := by
  cases l with
  | nil => simp [signLen]
  | cons c r => simp only [signLen]; split <;> simp

/-! ### the scanner's answer is the same -/
/-- A run of digits that ends at a byte that is none, nor a dot: not read. -/
theorem parseD_bad (neg : Bool) (d : List UInt8) (k : Nat) (c : UInt8) (h1 : ∀ m b, m < k → d[m]? = some b → digB b = true) (h2 : d[k]? = some c) (h3 : digB c = false) (h4 : c ≠ 46) : parseD neg d = (false, false, [], []) := by
  unfold parseD
  have key : ∀ w f : List UInt8, w.all digB = false → ansOf neg w f = (false, false, [], []) := fun w f h => by
    unfold ansOf badB; rw [h]; simp
  apply key
  rcases part_at 46 d with hn | ⟨a, r, rfl, hn⟩
  · rw [cut_no 46 d hn]
    rw [← Bool.not_eq_true, List.all_eq_true]
    intro h
    have := h c (List.mem_of_getElem? h2)
    rw [h3] at this; cases this
  · rw [cut_yes 46 a r hn]
    rw [← Bool.not_eq_true, List.all_eq_true]
    intro h
    by_cases hk : k < a.length
    · rw [List.getElem?_append_left hk] at h2
      have := h c (List.mem_of_getElem? h2)
      rw [h3] at this; cases this
    · by_cases he : k = a.length
      · subst he
        simp at h2
        exact h4 h2.symm
      · have := h1 a.length 46 (by omega) (by simp)
        exact absurd this (by decide)
/-- Digits, a dot, digits, then a byte that is no digit: not read. -/
theorem parseD_bad2 (neg : Bool) (d : List UInt8) (k j : Nat) (c : UInt8) (h1 : ∀ m b, m < k → d[m]? = some b → digB b = true) (h2 : d[k]? = some 46) (hj : k < j) (h3 : d[j]? = some c) (h4 : digB c = false) : parseD neg d = (false, false, [], []) := by
  unfold parseD
  have key : ∀ w f : List UInt8, f.all digB = false → ansOf neg w f = (false, false, [], []) := fun w f h => by
    unfold ansOf badB; rw [h]; simp
  apply key
  rcases part_at 46 d with hn | ⟨a, r, rfl, hn⟩
  · exact absurd (List.mem_of_getElem? h2) hn
  · rw [cut_yes 46 a r hn]
    have hk : k = a.length := by
      rcases Nat.lt_trichotomy k a.length with x | x | x
      · rw [List.getElem?_append_left x] at h2
        exact absurd (List.mem_of_getElem? h2) hn
      · exact x
      · have := h1 a.length 46 x (by simp)
        exact absurd this (by decide)
    rw [← Bool.not_eq_true, List.all_eq_true]
    intro h
    rw [List.getElem?_append_right (by omega), List.getElem?_cons, if_neg (by omega)] at h3
    have := h c (List.mem_of_getElem? h3)
    rw [h4] at this; cases this
/-- Digits to the end: no dot. -/
theorem parseD_whole (neg : Bool) (d : List UInt8) (h : d.all digB = true) : parseD neg d = ansOf neg d [] := by
  unfold parseD
  rw [cut_no 46 d (fun hm => absurd (List.all_eq_true.1 h 46 hm) (by decide))]
/-- Digits, a dot. -/
theorem parseD_dot (neg : Bool) (a r : List UInt8) (h : a.all digB = true) : parseD neg (a ++ 46 :: r) = ansOf neg a r := by
  unfold parseD
  rw [cut_yes 46 a r (fun hm => absurd (List.all_eq_true.1 h 46 hm) (by decide))]
theorem ansOf_none (neg : Bool) : ansOf neg [] [] = (false, false, [], []) := rfl
theorem ansOf_ok (neg : Bool) (w f : List UInt8) (h1 : w.all digB = true) (h2 : f.all digB = true) (h3 : ¬ (w = [] ∧ f = [])) :
    ansOf neg w f = (true, neg && !((Lib.trimLeftB w 48).isEmpty && (Lib.trimRightB f 48).isEmpty), Lib.trimLeftB w 48, Lib.trimRightB f 48) := by
  unfold ansOf badB
  rw [h1, h2, if_neg]
  intro h
  cases w <;> cases f <;> simp at h h3
end Go.Proofs.Qxb6605545aDoor
