/-
  THE PLAIN LAYER of this seat: names, dotted names, bracketed keys over lists of bytes. No Go in sight.
-/
namespace Go.Proofs.Qxb6605164aDoor

/-- A byte that may open a name. -/
def startB (c : UInt8) : Bool := c == 95 || (decide (97 ≤ c.toNat) && decide (c.toNat ≤ 122)) || (decide (65 ≤ c.toNat) && decide (c.toNat ≤ 90))
/-- A decimal digit. -/
def digB (c : UInt8) : Bool := decide (48 ≤ c.toNat) && decide (c.toNat ≤ 57)
def contB (c : UInt8) : Bool := startB c || digB c
/-- A prefix of a name (the empty one counts). -/
def okP : List UInt8 → Bool
  | [] => true
  | c :: r => startB c && r.all contB
/-- A plain name of 1 to 63 bytes. -/
def ident (l : List UInt8) : Bool := !l.isEmpty && (decide (l.length ≤ 63) && okP l)

theorem okP_snoc (l : List UInt8) (c : UInt8) : okP (l ++ [c]) = (okP l && if l.isEmpty then startB c else contB c) := by
  cases l with
  | nil => simp [okP]
  | cons a r => simp [okP, List.all_append, Bool.and_assoc]

theorem okP_take (l : List UInt8) (k : Nat) (h : okP l = true) : okP (l.take k) = true := by
  cases l with
  | nil => simp [okP]
  | cons a r =>
    cases k with
    | zero => simp [okP]
    | succ k =>
      simp only [okP, Bool.and_eq_true, List.take_succ_cons] at h ⊢
      refine ⟨h.1, ?_⟩
      rw [List.all_eq_true] at h ⊢
      intro x hx
      exact h.2 x (List.mem_of_mem_take hx)

theorem ident_bad (l : List UInt8) (k : Nat) (h : okP (l.take k) = false) : ident l = false := by
  cases hp : okP l with
  | false => simp [ident, hp]
  | true => rw [okP_take l k hp] at h; cases h

theorem startB_iff (c : UInt8) : startB c = true ↔ (c.toNat = 95 ∨ (97 ≤ c.toNat ∧ c.toNat ≤ 122) ∨ (65 ≤ c.toNat ∧ c.toNat ≤ 90)) := by
  unfold startB
  have e : (c == 95) = decide (c.toNat = 95) := by
    rw [Bool.eq_iff_iff]
    simp only [beq_iff_eq, decide_eq_true_eq]
    exact ⟨fun h => by rw [h]; rfl, fun h => UInt8.toNat_inj.1 h⟩
  rw [e]
  simp only [Bool.or_eq_true, Bool.and_eq_true, decide_eq_true_eq]
  omega
theorem digB_iff (c : UInt8) : digB c = true ↔ (48 ≤ c.toNat ∧ c.toNat ≤ 57) := by
  unfold digB
  simp only [Bool.and_eq_true, decide_eq_true_eq]

/-- One byte more of a name. -/
theorem okP_next (l : List UInt8) (c : UInt8) (h : okP l = true) :
    okP (l ++ [c]) = decide (c.toNat = 95 ∨ (97 ≤ c.toNat ∧ c.toNat ≤ 122) ∨ (65 ≤ c.toNat ∧ c.toNat ≤ 90) ∨ ((48 ≤ c.toNat ∧ c.toNat ≤ 57) ∧ 0 < l.length)) := by
  rw [okP_snoc, h, Bool.true_and, Bool.eq_iff_iff]
  cases l with
  | nil => simp [startB_iff]
  | cons a r => simp [contB, startB_iff, digB_iff]; omega

/-- The three states of the law's own automaton. -/
def stOf (l : List UInt8) : Int := if l.isEmpty then 0 else if okP l then 1 else 2
theorem stOf_snoc (l : List UInt8) (c : UInt8) :
    stOf (l ++ [c]) = if l.isEmpty then (if startB c then 1 else 2) else (if okP l then (if contB c then 1 else 2) else 2) := by
  unfold stOf
  rw [okP_snoc]
  cases l with
  | nil => simp [okP]
  | cons a r => cases okP (a :: r) <;> simp

/-- A table name: a plain name, or two of them with one dot between. -/
def dotted (l : List UInt8) : Bool :=
  if l.count 46 = 0 then ident l else if l.count 46 = 1 then ident (l.take (l.idxOf 46)) && ident (l.drop (l.idxOf 46 + 1)) else false

/-- Where the law's own scan keeps the first dot, k bytes read. -/
def atOf (l : List UInt8) (k : Nat) : Int := if (l.take k).count 46 = 0 then -1 else (l.idxOf 46 : Nat)

theorem idx_here (l : List UInt8) (k : Nat) (h : k < l.length) (h0 : (l.take k).count 46 = 0) (hc : l[k] = 46) : l.idxOf 46 = k := by
  have e : l = l.take k ++ 46 :: l.drop (k + 1) := by
    rw [← hc]
    simp
  have hn : (46 : UInt8) ∉ l.take k := fun hm => by
    have := List.count_pos_iff.2 hm
    omega
  rw [e, List.idxOf_append, if_neg hn, List.idxOf_cons_self, List.length_take]
  omega

theorem idx_lt (l : List UInt8) (h : l.count 46 ≠ 0) : l.idxOf 46 < l.length :=
  List.idxOf_lt_length_of_mem (List.count_pos_iff.1 (by omega))
end Go.Proofs.Qxb6605164aDoor
