/-
  THE PLAIN LAYER of the bracketed key: a text cut at its first byte c, a text trimmed of its digits. No Go in sight.
-/
import Derived.Test.Qxb6605164aDoorPlain
import Derived.Lib.IndexMore
import Derived.Lib.SlTrimSet
import Derived.Lib.Strings
namespace Go.Proofs.Qxb6605164aDoor

theorem index_no (c : UInt8) : ∀ l : List UInt8, c ∉ l → Lib.index l [c] = -1
  | [], _ => rfl
  | b :: l, h => by
    have hb : ¬ c = b := fun e => h (by rw [e]; exact List.mem_cons_self ..)
    have hl : c ∉ l := fun e => h (List.mem_cons_of_mem _ e)
    unfold Lib.index
    rw [if_neg (by simp [List.isPrefixOf, hb]), index_no c l hl]
    rfl
theorem index_yes (c : UInt8) (r : List UInt8) : ∀ a : List UInt8, c ∉ a → Lib.index (a ++ c :: r) [c] = (a.length : Nat)
  | [], _ => by unfold Lib.index; simp [List.isPrefixOf]
  | b :: l, h => by
    have hb : ¬ c = b := fun e => h (by rw [e]; exact List.mem_cons_self ..)
    have hl : c ∉ l := fun e => h (List.mem_cons_of_mem _ e)
    rw [List.cons_append]
    unfold Lib.index
    rw [if_neg (by simp [List.isPrefixOf, hb]), index_yes c r l hl, if_neg (by simp), List.length_cons]
    omega
theorem cut_no (c : UInt8) (l : List UInt8) (h : c ∉ l) : Lib.cut l [c] = (l, [], false) := by
  unfold Lib.cut; rw [index_no c l h]; rfl
theorem cut_yes (c : UInt8) (a r : List UInt8) (h : c ∉ a) : Lib.cut (a ++ c :: r) [c] = (a, r, true) := by
  unfold Lib.cut; rw [index_yes c r a h, if_pos (by omega), Int.toNat_natCast]
  simp
theorem part_at (c : UInt8) : ∀ l : List UInt8, c ∉ l ∨ ∃ a r, l = a ++ c :: r ∧ c ∉ a
  | [] => .inl (by simp)
  | b :: l => by
    by_cases hb : c = b
    · exact .inr ⟨[], l, by rw [hb]; rfl, by simp⟩
    · rcases part_at c l with h | ⟨a, r, rfl, h⟩
      · exact .inl (by simp [hb, h])
      · exact .inr ⟨b :: a, r, rfl, by simp [hb, h]⟩

/-! ### trimming digits -/
def digits : List UInt8 := [48, 49, 50, 51, 52, 53, 54, 55, 56, 57]
theorem digits_mem (c : UInt8) : digits.contains c = digB c := by
  rw [Bool.eq_iff_iff, digB_iff]
  have h : ∀ n : Nat, (c = n.toUInt8 ∧ n < 256) → c.toNat = n := fun n ⟨e, h⟩ => by rw [e]; simp; omega
  simp only [digits, List.contains_cons, List.contains_nil, Bool.or_false, Bool.or_eq_true, beq_iff_eq]
  constructor
  · rintro (rfl | rfl | rfl | rfl | rfl | rfl | rfl | rfl | rfl | rfl) <;> decide
  · intro hh
    have : c.toNat = 48 ∨ c.toNat = 49 ∨ c.toNat = 50 ∨ c.toNat = 51 ∨ c.toNat = 52 ∨ c.toNat = 53 ∨ c.toNat = 54 ∨ c.toNat = 55 ∨ c.toNat = 56 ∨ c.toNat = 57 := by omega
    have k : ∀ d : UInt8, c.toNat = d.toNat → c = d := fun d e => UInt8.toNat_inj.1 e
    rcases this with e | e | e | e | e | e | e | e | e | e
    · exact .inl (k 48 e)
    · exact .inr (.inl (k 49 e))
    · exact .inr (.inr (.inl (k 50 e)))
    · exact .inr (.inr (.inr (.inl (k 51 e))))
    · exact .inr (.inr (.inr (.inr (.inl (k 52 e)))))
    · exact .inr (.inr (.inr (.inr (.inr (.inl (k 53 e))))))
    · exact .inr (.inr (.inr (.inr (.inr (.inr (.inl (k 54 e)))))))
    · exact .inr (.inr (.inr (.inr (.inr (.inr (.inr (.inl (k 55 e))))))))
    · exact .inr (.inr (.inr (.inr (.inr (.inr (.inr (.inr (.inl (k 56 e)))))))))
    · exact .inr (.inr (.inr (.inr (.inr (.inr (.inr (.inr (.inr (k 57 e)))))))))

theorem dropWhile_nil {p : UInt8 → Bool} : ∀ l : List UInt8, (l.dropWhile p = [] ↔ l.all p = true)
  | [] => by simp
  | a :: l => by
    rw [List.dropWhile_cons]
    cases hp : p a <;> simp [hp, dropWhile_nil l]
theorem dropWhile_head {p : UInt8 → Bool} : ∀ (l : List UInt8) (a : UInt8) (r : List UInt8), l.dropWhile p = a :: r → p a = false
  | [], _, _, h => by simp at h
  | b :: l, a, r, h => by
    rw [List.dropWhile_cons] at h
    cases hp : p b
    · rw [hp] at h; simp at h; rw [← h.1]; exact hp
    · rw [hp] at h; exact dropWhile_head l a r h
/-- What is left of a text trimmed of its digits is nothing just where it holds digits alone. -/
theorem trim_digits (l : List UInt8) : (Lib.trimS l digits).isEmpty = l.all digB := by
  have e : (fun x => digits.contains x) = digB := funext digits_mem
  unfold Lib.trimS Lib.trimLeftS Lib.trimRightS
  rw [e, Bool.eq_iff_iff, List.isEmpty_iff, dropWhile_nil]
  constructor
  · intro h
    cases hr : l.reverse.dropWhile digB with
    | nil => have := (dropWhile_nil (p := digB) l.reverse).1 hr; simpa using this
    | cons a r =>
      rw [hr, List.all_reverse] at h
      have h1 : digB a = true := by simp only [List.all_cons, Bool.and_eq_true] at h; exact h.1
      rw [dropWhile_head _ _ _ hr] at h1
      cases h1
  · intro h
    have : l.reverse.dropWhile digB = [] := (dropWhile_nil _).2 (by simpa using h)
    rw [this]; rfl

/-! ### the bracketed key -/
/-- 'unindexed', as the program computes it: cut at the first '[', cut the ']' off, look at the digits. -/
def unidx (l : List UInt8) : List UInt8 :=
  if (Lib.hasSuffix (Lib.cut l [91]).2.1 [93] && (!(Lib.trimSuffix (Lib.cut l [91]).2.1 [93]).isEmpty && (Lib.trimSuffix (Lib.cut l [91]).2.1 [93]).all digB)) = true then (Lib.cut l [91]).1 else l
/-- l is 'a[d]', d one digit or more, no '[' in a. -/
def IsIdx (l a : List UInt8) : Prop := ∃ d, l = a ++ 91 :: (d ++ [93]) ∧ 91 ∉ a ∧ d ≠ [] ∧ d.all digB = true

theorem suffix_of (d : List UInt8) (c : UInt8) : Lib.hasSuffix (d ++ [c]) [c] = true := by
  unfold Lib.hasSuffix; rw [List.isSuffixOf_iff_suffix]; exact List.suffix_append _ _
theorem trim_of (d : List UInt8) (c : UInt8) : Lib.trimSuffix (d ++ [c]) [c] = d := by
  unfold Lib.trimSuffix; rw [if_pos (suffix_of d c)]; simp
theorem suffix_inv (l : List UInt8) (c : UInt8) (h : Lib.hasSuffix l [c] = true) : ∃ d, l = d ++ [c] := by
  unfold Lib.hasSuffix at h; rw [List.isSuffixOf_iff_suffix] at h
  obtain ⟨d, hd⟩ := h
  exact ⟨d, hd.symm⟩
theorem unidx_yes (l a : List UInt8) (h : IsIdx l a) : unidx l = a := by
  obtain ⟨d, rfl, h1, h2, h3⟩ := h
  unfold unidx
  rw [cut_yes 91 a _ h1]
  have : d.isEmpty = false := by cases d <;> simp at h2 ⊢
  simp only [suffix_of, trim_of, h3, this]
  rfl
theorem unidx_no (l : List UInt8) (h : ∀ a, ¬ IsIdx l a) : unidx l = l := by
  unfold unidx
  split
  · rename_i hc
    exfalso
    rcases part_at 91 l with hn | ⟨a, r, rfl, hn⟩
    · rw [cut_no 91 l hn] at hc
      simp [Lib.hasSuffix, List.isSuffixOf] at hc
    · rw [cut_yes 91 a r hn] at hc
      simp only [Bool.and_eq_true] at hc
      obtain ⟨c1, c2, c3⟩ := hc
      obtain ⟨d, rfl⟩ := suffix_inv _ _ c1
      rw [trim_of] at c2 c3
      exact h a ⟨d, rfl, hn, by cases d <;> simp at c2 ⊢, c3⟩
  · rfl
theorem isIdx_not (l a : List UInt8) (hn : 91 ∉ l) : ¬ IsIdx l a := by
  rintro ⟨d, rfl, _⟩
  exact hn (by simp)
theorem unidx_fix (l : List UInt8) : unidx (unidx l) = unidx l := by
  by_cases h : ∃ a, IsIdx l a
  · obtain ⟨a, ha⟩ := h
    rw [unidx_yes l a ha]
    obtain ⟨d, _, h1, _⟩ := ha
    exact unidx_no a fun b => isIdx_not a b h1
  · have e := unidx_no l fun a ha => h ⟨a, ha⟩
    rw [e, e]

/-- What a bracketed key holds at its places. -/
theorem isIdx_at {l a : List UInt8} (h : IsIdx l a) : a.length + 2 < l.length ∧ l[a.length]? = some 91 ∧ (∀ m c, a.length < m → m + 1 < l.length → l[m]? = some c → digB c = true) ∧ l[l.length - 1]? = some 93 ∧ (∀ m, m < a.length → l[m]? ≠ some 91) := by
  obtain ⟨d, rfl, h1, h2, h3⟩ := h
  have hd : 0 < d.length := List.length_pos_iff.2 h2
  refine ⟨by simp; omega, by simp, ?_, ?_, ?_⟩
  · intro m c hm hn hc
    simp only [List.length_append, List.length_cons, List.length_nil] at hn
    rw [List.getElem?_append_right (by omega), List.getElem?_cons, if_neg (by omega), List.getElem?_append_left (by omega)] at hc
    exact List.all_eq_true.1 h3 c (List.mem_of_getElem? hc)
  · rw [List.getElem?_append_right (by simp), List.getElem?_cons, if_neg (by simp), List.getElem?_append_right (by simp)]
    simp
  · intro m hm hc
    rw [List.getElem?_append_left hm] at hc
    exact h1 (List.mem_of_getElem? hc)
/-- .. and a text that holds this at its places is one. -/
theorem isIdx_mk (l : List UInt8) (p : Nat) (h0 : p + 2 < l.length) (h1 : l[p]? = some 91) (h2 : ∀ m c, p < m → m + 1 < l.length → l[m]? = some c → digB c = true) (h3 : l[l.length - 1]? = some 93) (h4 : ∀ m, m < p → l[m]? ≠ some 91) : IsIdx l (l.take p) := by
  refine ⟨(l.drop (p + 1)).take (l.length - 1 - (p + 1)), ?_, ?_, ?_, ?_⟩
  · apply List.ext_getElem?
    intro i
    by_cases c1 : i < p
    · rw [List.getElem?_append_left (by simp; omega), List.getElem?_take_of_lt c1]
    · rw [List.getElem?_append_right (by simp; omega), List.length_take, Nat.min_eq_left (by omega), List.getElem?_cons]
      by_cases c2 : i = p
      · subst c2; rw [if_pos (by omega), h1]
      · rw [if_neg (by omega)]
        by_cases c3 : i + 1 < l.length
        · rw [List.getElem?_append_left (by simp; omega), List.getElem?_take_of_lt (by omega), List.getElem?_drop]
          congr 1; omega
        · rw [List.getElem?_append_right (by simp; omega)]
          by_cases c4 : i + 1 = l.length
          · have e1 : i = l.length - 1 := by omega
            have e2 : i - p - 1 - ((l.drop (p + 1)).take (l.length - 1 - (p + 1))).length = 0 := by simp; omega
            rw [e2, e1, h3]; rfl
          · rw [List.getElem?_eq_none (by omega), List.getElem?_eq_none (by simp; omega)]
  · intro hm
    obtain ⟨m, hm1, hm2⟩ := List.mem_iff_getElem.1 hm
    simp at hm1
    refine h4 m (by omega) ?_
    rw [List.getElem?_eq_getElem (by omega)]
    rw [List.getElem_take] at hm2
    rw [hm2]
  · intro e
    have := congrArg List.length e
    simp at this
    omega
  · rw [List.all_eq_true]
    intro x hx
    obtain ⟨m, hm1, hm2⟩ := List.mem_iff_getElem.1 hx
    simp at hm1
    refine h2 (p + 1 + m) x (by omega) (by omega) ?_
    rw [List.getElem?_eq_getElem (by omega)]
    rw [List.getElem_take, List.getElem_drop] at hm2
    rw [hm2]
end Go.Proofs.Qxb6605164aDoor
