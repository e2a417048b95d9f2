/-
  THE WALK of parseDecimal.
-/
import Derived.Test.Qxb6605545aDoorA1
import Derived.Handy
namespace Go.Proofs.Qxb6605545aDoor
open Go.RowKit

theorem cut_le (l : List UInt8) : (Lib.cut l [46]).1.length ≤ l.length ∧ (Lib.cut l [46]).2.1.length ≤ l.length := by
  rcases part_at 46 l with h | ⟨a, r, rfl, h⟩
  · rw [cut_no 46 l h]; simp
  · rw [cut_yes 46 a r h]; simp; omega
/-- The answer as the program's pair of a struct and a bool. -/
def pairOf (x : Bool × Bool × List UInt8 × List UInt8) : Value := .tuple #[.agg #[.bool x.2.1, .string ⟨x.2.2.1.toArray⟩, .string ⟨x.2.2.2.toArray⟩], .bool x.1]
theorem pair_bad : pairOf (false, false, [], []) = .tuple #[.agg #[.bool false, .string ⟨#[]⟩, .string ⟨#[]⟩], .bool false] := rfl

theorem empty_eq (c : ByteArray) : c.toList.isEmpty = c.data.toList.isEmpty := by rw [ByteArray.toList_eq]
/-- What is not read. -/
theorem ans_bad (neg : Bool) (c1 c2 : ByteArray) (h : (c1.toList.isEmpty && c2.toList.isEmpty || (!allD c1.data.toList || !allD c2.data.toList)) = true) : pairOf (ansOf neg c1.data.toList c2.data.toList) = .tuple #[.agg #[.bool false, .string ⟨#[]⟩, .string ⟨#[]⟩], .bool false] := by
  rw [empty_eq, empty_eq] at h
  unfold ansOf
  rw [if_pos (show badB _ _ = true from h)]
  rfl
/-- What is read. -/
theorem ans_good (neg : Bool) (c1 c2 L R : ByteArray) (h : (c1.toList.isEmpty && c2.toList.isEmpty || (!allD c1.data.toList || !allD c2.data.toList)) = false)
    (hL : L = ⟨(Lib.trimLeftB c1.data.toList 48).toArray⟩) (hR : R = ⟨(Lib.trimRightB c2.data.toList 48).toArray⟩) :
    pairOf (ansOf neg c1.data.toList c2.data.toList) = .tuple #[.agg #[.bool (neg && !(L.toList.isEmpty && R.toList.isEmpty)), .string L, .string R], .bool true] := by
  rw [empty_eq, empty_eq] at h
  unfold ansOf
  rw [if_neg (by rw [show badB _ _ = false from h]; decide)]
  subst hL hR
  unfold pairOf
  rw [ByteArray.toList_mk, ByteArray.toList_mk]

/-- strings.Cut at the dot, its two parts named. -/
theorem cut_named (D : ByteArray) (hD : D.size ≤ 2097152) : ∃ (c1 c2 : ByteArray) (f : Bool), c1.data.toList = (Lib.cut D.data.toList [46]).1 ∧ c2.data.toList = (Lib.cut D.data.toList [46]).2.1 ∧ c1.size ≤ 2097152 ∧ c2.size ≤ 2097152 ∧
      ∀ w, HasMax w → Calls Tryd.prog 20 #[.string D, .string ⟨#[46]⟩] w fun e w' => e = .returned (.tuple #[.string c1, .string c2, .bool f]) ∧ ∃ n, w' = w.drewN n := by
  have hl := cut_le D.data.toList
  have hDl : D.data.toList.length = D.size := by simp
  exact ⟨⟨(Lib.cut D.data.toList [46]).1.toArray⟩, ⟨(Lib.cut D.data.toList [46]).2.1.toArray⟩, (Lib.cut D.data.toList [46]).2.2, rfl, rfl, by rw [Lib.size_mk]; omega, by rw [Lib.size_mk]; omega, fun w hm => cut_any D w hm hD⟩
theorem HasMax.two {w : World} (h : HasMax w) (A B : Obj) : HasMax ((w.alloc A).alloc B) := h.below h.size (((Below.refl _ _).alloc (Nat.le_refl _) _).alloc (by simp) _)
theorem head_of (s : ByteArray) (hp : 0 < s.size) : s.data.toList = s[0] :: s.data.toList.drop 1 := by
  have hlen : s.data.toList.length = s.size := by simp
  cases hq : s.data.toList with
  | nil => rw [hq] at hlen; simp at hlen; omega
  | cons a r =>
    have := at_get s 0 hp
    rw [hq] at this
    simp at this
    rw [← this]; rfl
theorem rest_of (s : ByteArray) : (s.extract 1 s.size).data.toList = s.data.toList.drop 1 := by
  have hlen : s.data.toList.length = s.size := by simp
  rw [Lib.extract_data, List.take_of_length_le]; rw [List.length_drop, hlen]; omega
theorem nonempty_of (s : ByteArray) (hp : 0 < s.size) : s.toList.isEmpty = false := by
  rw [ByteArray.toList_eq, head_of s hp]; rfl

set_option maxHeartbeats 1600000 in
theorem parse_minus (s : ByteArray) (w : World) (h : HasMax w) (hs : s.size ≤ 2097152) (hp : 0 < s.size) (h45 : s[0].toNat = 45) :
    Calls Tryd.prog 17 #[.string s] w fun e w' => e = .returned (pairOf (parseL s.data.toList)) ∧ Below w.heap.size w w' := by
  have hmx := fun A B => h.two A B
  obtain ⟨c1, c2, f, e1, e2, b1, b2, hcut⟩ := cut_named (s.extract 1 s.size) (by rw [ByteArray.size_extract]; omega)
  have hP : parseL s.data.toList = ansOf true c1.data.toList c2.data.toList := by
    have e45 : s[0] = 45 := eq_of_toNat h45
    rw [e1, e2, rest_of, head_of s hp, e45]; rfl
  rw [hP]
  have he := nonempty_of s hp
  have hb45 : ((s[0].toNat : Int) == 45) = true := by rw [beq_iff_eq]; omega
  clear hP e1 e2 h
  obtain ⟨L, hL⟩ : ∃ L : ByteArray, L = ⟨(Lib.trimLeftB c1.data.toList 48).toArray⟩ := ⟨_, rfl⟩
  obtain ⟨R, hR⟩ : ∃ R : ByteArray, R = ⟨(Lib.trimRightB c2.data.toList 48).toArray⟩ := ⟨_, rfl⟩
  have hl := fun w => left_any c1 w
  have hr := fun w => right_any c2 w b2
  rw [← hL] at hl
  rw [← hR] at hr
  have ha1 := fun w => all_any c1 w b1
  have ha2 := fun w => all_any c2 w b2
  cases hbad : (c1.toList.isEmpty && c2.toList.isEmpty || (!allD c1.data.toList || !allD c2.data.toList))
  · rw [ans_good true c1 c2 L R hbad hL hR]
    clear hL hR
    have d1 : allD c1.data.toList = true := by cases d : allD c1.data.toList <;> simp [d] at hbad ⊢
    have d2 : allD c2.data.toList = true := by cases d : allD c2.data.toList <;> simp [d] at hbad ⊢
    rw [d1] at ha1
    rw [d2] at ha2
    rcases (show c1.toList.isEmpty = false ∨ (c1.toList.isEmpty = true ∧ c2.toList.isEmpty = false) by cases q1 : c1.toList.isEmpty <;> cases q2 : c2.toList.isEmpty <;> simp [q1, q2] at hbad ⊢) with q1 | ⟨q1, q2⟩
    all_goals clear hbad d1 d2
    all_goals rcases (show L.toList.isEmpty = false ∨ (L.toList.isEmpty = true ∧ R.toList.isEmpty = false) ∨ (L.toList.isEmpty = true ∧ R.toList.isEmpty = true) by cases L.toList.isEmpty <;> cases R.toList.isEmpty <;> simp) with p1 | ⟨p1, p2⟩ | ⟨p1, p2⟩
    all_goals first | rw [p1, p2] | rw [p1]
    all_goals simp only [Bool.false_and, Bool.and_true, Bool.and_false, Bool.not_false, Bool.not_true]
    all_goals go_enter Tryd.func17, Tryd.ntmps17
    all_goals go_wp2_with (first | (go_at_call 20; refine (hcut _ ?_).mono ?_; exact hmx _ _; rintro e w' ⟨rfl, n, rfl⟩) | (go_at_call_of 21 c1; refine (ha1 _).mono ?_; rintro e w' ⟨rfl, rfl⟩) | (go_at_call_of 21 c2; refine (ha2 _).mono ?_; rintro e w' ⟨rfl, rfl⟩) | (go_at_call 22; refine (hl _).mono ?_; rintro e w' ⟨rfl, rfl⟩) | (go_at_call 23; refine (hr _).mono ?_; rintro e w' ⟨rfl, rfl⟩))
    all_goals refine bodyPost_ret (v := .tuple #[.agg #[.bool _, .string L, .string R], .bool true]) (by simp [results, Tryd.results17, go_sem]) rfl ⟨rfl, ?_⟩
    all_goals go_grown
    all_goals exact below_drawn (by go_grown) _
  · rw [ans_bad true c1 c2 hbad]
    clear hL hR hl hr
    rcases (show (c1.toList.isEmpty = true ∧ c2.toList.isEmpty = true) ∨ (c1.toList.isEmpty = false ∧ allD c1.data.toList = false) ∨ (c1.toList.isEmpty = false ∧ allD c1.data.toList = true ∧ allD c2.data.toList = false) ∨ ((c1.toList.isEmpty = true ∧ c2.toList.isEmpty = false) ∧ allD c1.data.toList = false) ∨ ((c1.toList.isEmpty = true ∧ c2.toList.isEmpty = false) ∧ allD c1.data.toList = true ∧ allD c2.data.toList = false) by
      cases q1 : c1.toList.isEmpty <;> cases q2 : c2.toList.isEmpty <;> cases d1 : allD c1.data.toList <;> cases d2 : allD c2.data.toList <;> simp [q1, q2, d1, d2] at hbad ⊢) with ⟨q1, q2⟩ | ⟨q1, d1⟩ | ⟨q1, d1, d2⟩ | ⟨⟨q1, q2⟩, d1⟩ | ⟨⟨q1, q2⟩, d1, d2⟩
    all_goals clear hbad
    all_goals (try rw [d1] at ha1)
    all_goals (try rw [d2] at ha2)
    all_goals (try clear d1)
    all_goals (try clear d2)
    all_goals go_enter Tryd.func17, Tryd.ntmps17
    all_goals go_wp2_with (first | (go_at_call 20; refine (hcut _ ?_).mono ?_; exact hmx _ _; rintro e w' ⟨rfl, n, rfl⟩) | (go_at_call_of 21 c1; refine (ha1 _).mono ?_; rintro e w' ⟨rfl, rfl⟩) | (go_at_call_of 21 c2; refine (ha2 _).mono ?_; rintro e w' ⟨rfl, rfl⟩))
    all_goals refine bodyPost_ret (v := .tuple #[.agg #[.bool false, .string ⟨#[]⟩, .string ⟨#[]⟩], .bool false]) (by simp [results, Tryd.results17, go_sem]) rfl ⟨rfl, ?_⟩
    all_goals go_grown
    all_goals exact below_drawn (by go_grown) _

set_option maxHeartbeats 1600000 in
theorem parse_plus (s : ByteArray) (w : World) (h : HasMax w) (hs : s.size ≤ 2097152) (hp : 0 < s.size) (h43 : s[0].toNat = 43) :
    Calls Tryd.prog 17 #[.string s] w fun e w' => e = .returned (pairOf (parseL s.data.toList)) ∧ Below w.heap.size w w' := by
  have hmx := fun A B => h.two A B
  obtain ⟨c1, c2, f, e1, e2, b1, b2, hcut⟩ := cut_named (s.extract 1 s.size) (by rw [ByteArray.size_extract]; omega)
  have hP : parseL s.data.toList = ansOf false c1.data.toList c2.data.toList := by
    have e43 : s[0] = 43 := eq_of_toNat h43
    rw [e1, e2, rest_of, head_of s hp, e43]; rfl
  rw [hP]
  have he := nonempty_of s hp
  have hb45 : ((s[0].toNat : Int) == 45) = false := by rw [beq_eq_false_iff_ne]; omega
  have hb43 : ((s[0].toNat : Int) == 43) = true := by rw [beq_iff_eq]; omega
  clear hP e1 e2 h
  obtain ⟨L, hL⟩ : ∃ L : ByteArray, L = ⟨(Lib.trimLeftB c1.data.toList 48).toArray⟩ := ⟨_, rfl⟩
  obtain ⟨R, hR⟩ : ∃ R : ByteArray, R = ⟨(Lib.trimRightB c2.data.toList 48).toArray⟩ := ⟨_, rfl⟩
  have hl := fun w => left_any c1 w
  have hr := fun w => right_any c2 w b2
  rw [← hL] at hl
  rw [← hR] at hr
  have ha1 := fun w => all_any c1 w b1
  have ha2 := fun w => all_any c2 w b2
  cases hbad : (c1.toList.isEmpty && c2.toList.isEmpty || (!allD c1.data.toList || !allD c2.data.toList))
  · rw [ans_good false c1 c2 L R hbad hL hR]
    clear hL hR
    have d1 : allD c1.data.toList = true := by cases d : allD c1.data.toList <;> simp [d] at hbad ⊢
    have d2 : allD c2.data.toList = true := by cases d : allD c2.data.toList <;> simp [d] at hbad ⊢
    rw [d1] at ha1
    rw [d2] at ha2
    rcases (show c1.toList.isEmpty = false ∨ (c1.toList.isEmpty = true ∧ c2.toList.isEmpty = false) by cases q1 : c1.toList.isEmpty <;> cases q2 : c2.toList.isEmpty <;> simp [q1, q2] at hbad ⊢) with q1 | ⟨q1, q2⟩
    all_goals clear hbad d1 d2
    all_goals rcases (show L.toList.isEmpty = false ∨ (L.toList.isEmpty = true ∧ R.toList.isEmpty = false) ∨ (L.toList.isEmpty = true ∧ R.toList.isEmpty = true) by cases L.toList.isEmpty <;> cases R.toList.isEmpty <;> simp) with p1 | ⟨p1, p2⟩ | ⟨p1, p2⟩
    all_goals first | rw [p1, p2] | rw [p1]
    all_goals simp only [Bool.false_and, Bool.and_true, Bool.and_false, Bool.not_false, Bool.not_true]
    all_goals go_enter Tryd.func17, Tryd.ntmps17
    all_goals go_wp2_with (first | (go_at_call 20; refine (hcut _ ?_).mono ?_; exact hmx _ _; rintro e w' ⟨rfl, n, rfl⟩) | (go_at_call_of 21 c1; refine (ha1 _).mono ?_; rintro e w' ⟨rfl, rfl⟩) | (go_at_call_of 21 c2; refine (ha2 _).mono ?_; rintro e w' ⟨rfl, rfl⟩) | (go_at_call 22; refine (hl _).mono ?_; rintro e w' ⟨rfl, rfl⟩) | (go_at_call 23; refine (hr _).mono ?_; rintro e w' ⟨rfl, rfl⟩))
    all_goals refine bodyPost_ret (v := .tuple #[.agg #[.bool _, .string L, .string R], .bool true]) (by simp [results, Tryd.results17, go_sem]) rfl ⟨rfl, ?_⟩
    all_goals go_grown
    all_goals exact below_drawn (by go_grown) _
  · rw [ans_bad false c1 c2 hbad]
    clear hL hR hl hr
    rcases (show (c1.toList.isEmpty = true ∧ c2.toList.isEmpty = true) ∨ (c1.toList.isEmpty = false ∧ allD c1.data.toList = false) ∨ (c1.toList.isEmpty = false ∧ allD c1.data.toList = true ∧ allD c2.data.toList = false) ∨ ((c1.toList.isEmpty = true ∧ c2.toList.isEmpty = false) ∧ allD c1.data.toList = false) ∨ ((c1.toList.isEmpty = true ∧ c2.toList.isEmpty = false) ∧ allD c1.data.toList = true ∧ allD c2.data.toList = false) by
      cases q1 : c1.toList.isEmpty <;> cases q2 : c2.toList.isEmpty <;> cases d1 : allD c1.data.toList <;> cases d2 : allD c2.data.toList <;> simp [q1, q2, d1, d2] at hbad ⊢) with ⟨q1, q2⟩ | ⟨q1, d1⟩ | ⟨q1, d1, d2⟩ | ⟨⟨q1, q2⟩, d1⟩ | ⟨⟨q1, q2⟩, d1, d2⟩
    all_goals clear hbad
    all_goals (try rw [d1] at ha1)
    all_goals (try rw [d2] at ha2)
    all_goals (try clear d1)
    all_goals (try clear d2)
    all_goals go_enter Tryd.func17, Tryd.ntmps17
    all_goals go_wp2_with (first | (go_at_call 20; refine (hcut _ ?_).mono ?_; exact hmx _ _; rintro e w' ⟨rfl, n, rfl⟩) | (go_at_call_of 21 c1; refine (ha1 _).mono ?_; rintro e w' ⟨rfl, rfl⟩) | (go_at_call_of 21 c2; refine (ha2 _).mono ?_; rintro e w' ⟨rfl, rfl⟩))
    all_goals refine bodyPost_ret (v := .tuple #[.agg #[.bool false, .string ⟨#[]⟩, .string ⟨#[]⟩], .bool false]) (by simp [results, Tryd.results17, go_sem]) rfl ⟨rfl, ?_⟩
    all_goals go_grown
    all_goals exact below_drawn (by go_grown) _

set_option maxHeartbeats 1600000 in
theorem parse_none (s : ByteArray) (w : World) (h : HasMax w) (hs : s.size ≤ 2097152) (hp : 0 < s.size) (h45 : s[0].toNat ≠ 45) (h43 : s[0].toNat ≠ 43) :
    Calls Tryd.prog 17 #[.string s] w fun e w' => e = .returned (pairOf (parseL s.data.toList)) ∧ Below w.heap.size w w' := by
  have hmx := fun A B => h.two A B
  obtain ⟨c1, c2, f, e1, e2, b1, b2, hcut⟩ := cut_named s hs
  have hP : parseL s.data.toList = ansOf false c1.data.toList c2.data.toList := by
    have n45 : s[0] ≠ 45 := fun e => h45 (by rw [e]; rfl)
    have n43 : s[0] ≠ 43 := fun e => h43 (by rw [e]; rfl)
    have hh := head_of s hp
    have e0 : signLen s.data.toList = 0 := by rw [hh]; unfold signLen; simp [n45, n43]
    have e9 : signNeg s.data.toList = false := by rw [hh]; unfold signNeg; simp [n45]
    unfold parseL parseD
    rw [e1, e2, e0, e9]; rfl
  rw [hP]
  have he := nonempty_of s hp
  have hb45 : ((s[0].toNat : Int) == 45) = false := by rw [beq_eq_false_iff_ne]; omega
  have hb43 : ((s[0].toNat : Int) == 43) = false := by rw [beq_eq_false_iff_ne]; omega
  clear hP e1 e2 h
  obtain ⟨L, hL⟩ : ∃ L : ByteArray, L = ⟨(Lib.trimLeftB c1.data.toList 48).toArray⟩ := ⟨_, rfl⟩
  obtain ⟨R, hR⟩ : ∃ R : ByteArray, R = ⟨(Lib.trimRightB c2.data.toList 48).toArray⟩ := ⟨_, rfl⟩
  have hl := fun w => left_any c1 w
  have hr := fun w => right_any c2 w b2
  rw [← hL] at hl
  rw [← hR] at hr
  have ha1 := fun w => all_any c1 w b1
  have ha2 := fun w => all_any c2 w b2
  cases hbad : (c1.toList.isEmpty && c2.toList.isEmpty || (!allD c1.data.toList || !allD c2.data.toList))
  · rw [ans_good false c1 c2 L R hbad hL hR]
    clear hL hR
    have d1 : allD c1.data.toList = true := by cases d : allD c1.data.toList <;> simp [d] at hbad ⊢
    have d2 : allD c2.data.toList = true := by cases d : allD c2.data.toList <;> simp [d] at hbad ⊢
    rw [d1] at ha1
    rw [d2] at ha2
    rcases (show c1.toList.isEmpty = false ∨ (c1.toList.isEmpty = true ∧ c2.toList.isEmpty = false) by cases q1 : c1.toList.isEmpty <;> cases q2 : c2.toList.isEmpty <;> simp [q1, q2] at hbad ⊢) with q1 | ⟨q1, q2⟩
    all_goals clear hbad d1 d2
    all_goals rcases (show L.toList.isEmpty = false ∨ (L.toList.isEmpty = true ∧ R.toList.isEmpty = false) ∨ (L.toList.isEmpty = true ∧ R.toList.isEmpty = true) by cases L.toList.isEmpty <;> cases R.toList.isEmpty <;> simp) with p1 | ⟨p1, p2⟩ | ⟨p1, p2⟩
    all_goals first | rw [p1, p2] | rw [p1]
    all_goals simp only [Bool.false_and, Bool.and_true, Bool.and_false, Bool.not_false, Bool.not_true]
    all_goals go_enter Tryd.func17, Tryd.ntmps17
    all_goals go_wp2_with (first | (go_at_call 20; refine (hcut _ ?_).mono ?_; exact hmx _ _; rintro e w' ⟨rfl, n, rfl⟩) | (go_at_call_of 21 c1; refine (ha1 _).mono ?_; rintro e w' ⟨rfl, rfl⟩) | (go_at_call_of 21 c2; refine (ha2 _).mono ?_; rintro e w' ⟨rfl, rfl⟩) | (go_at_call 22; refine (hl _).mono ?_; rintro e w' ⟨rfl, rfl⟩) | (go_at_call 23; refine (hr _).mono ?_; rintro e w' ⟨rfl, rfl⟩))
    all_goals refine bodyPost_ret (v := .tuple #[.agg #[.bool _, .string L, .string R], .bool true]) (by simp [results, Tryd.results17, go_sem]) rfl ⟨rfl, ?_⟩
    all_goals go_grown
    all_goals exact below_drawn (by go_grown) _
  · rw [ans_bad false c1 c2 hbad]
    clear hL hR hl hr
    rcases (show (c1.toList.isEmpty = true ∧ c2.toList.isEmpty = true) ∨ (c1.toList.isEmpty = false ∧ allD c1.data.toList = false) ∨ (c1.toList.isEmpty = false ∧ allD c1.data.toList = true ∧ allD c2.data.toList = false) ∨ ((c1.toList.isEmpty = true ∧ c2.toList.isEmpty = false) ∧ allD c1.data.toList = false) ∨ ((c1.toList.isEmpty = true ∧ c2.toList.isEmpty = false) ∧ allD c1.data.toList = true ∧ allD c2.data.toList = false) by
      cases q1 : c1.toList.isEmpty <;> cases q2 : c2.toList.isEmpty <;> cases d1 : allD c1.data.toList <;> cases d2 : allD c2.data.toList <;> simp [q1, q2, d1, d2] at hbad ⊢) with ⟨q1, q2⟩ | ⟨q1, d1⟩ | ⟨q1, d1, d2⟩ | ⟨⟨q1, q2⟩, d1⟩ | ⟨⟨q1, q2⟩, d1, d2⟩
    all_goals clear hbad
    all_goals (try rw [d1] at ha1)
    all_goals (try rw [d2] at ha2)
    all_goals (try clear d1)
    all_goals (try clear d2)
    all_goals go_enter Tryd.func17, Tryd.ntmps17
    all_goals go_wp2_with (first | (go_at_call 20; refine (hcut _ ?_).mono ?_; exact hmx _ _; rintro e w' ⟨rfl, n, rfl⟩) | (go_at_call_of 21 c1; refine (ha1 _).mono ?_; rintro e w' ⟨rfl, rfl⟩) | (go_at_call_of 21 c2; refine (ha2 _).mono ?_; rintro e w' ⟨rfl, rfl⟩))
    all_goals refine bodyPost_ret (v := .tuple #[.agg #[.bool false, .string ⟨#[]⟩, .string ⟨#[]⟩], .bool false]) (by simp [results, Tryd.results17, go_sem]) rfl ⟨rfl, ?_⟩
    all_goals go_grown
    all_goals exact below_drawn (by go_grown) _

set_option maxHeartbeats 800000 in
theorem parse_empty (s : ByteArray) (w : World) (h : HasMax w) (h0 : s.size = 0) :
    Calls Tryd.prog 17 #[.string s] w fun e w' => e = .returned (pairOf (parseL s.data.toList)) ∧ Below w.heap.size w w' := by
  have hl : s.data.toList = [] := List.length_eq_zero_iff.1 (by simpa using h0)
  have hcut := fun w hm => cut_any s w hm (by omega)
  rw [hl] at hcut
  have he : s.toList.isEmpty = true := by rw [ByteArray.toList_eq, hl]; rfl
  have hP : pairOf (parseL s.data.toList) = .tuple #[.agg #[.bool false, .string ⟨#[]⟩, .string ⟨#[]⟩], .bool false] := by rw [hl]; rfl
  have hc : Lib.cut [] [46] = (([] : List UInt8), ([] : List UInt8), false) := rfl
  rw [hc] at hcut
  rw [hP]
  have hmx := fun A B => h.two A B
  clear hP hc hl
  go_enter Tryd.func17, Tryd.ntmps17
  go_wp2_with (go_at_call 20; refine (hcut _ ?_).mono ?_; exact hmx _ _; rintro e w' ⟨rfl, n, rfl⟩)
  refine bodyPost_ret (v := .tuple #[.agg #[.bool false, .string ⟨#[]⟩, .string ⟨#[]⟩], .bool false]) (by simp [results, Tryd.results17, go_sem]) rfl ⟨rfl, ?_⟩
  go_grown
  exact below_drawn (by go_grown) _

theorem parse_any (s : ByteArray) (w : World) (h : HasMax w) (hs : s.size ≤ 2097152) :
    Calls Tryd.prog 17 #[.string s] w fun e w' => e = .returned (pairOf (parseL s.data.toList)) ∧ Below w.heap.size w w' := by
  by_cases h0 : s.size = 0
  · exact parse_empty s w h h0
  have hp : 0 < s.size := by omega
  by_cases h45 : s[0].toNat = 45
  · exact parse_minus s w h hs hp h45
  by_cases h43 : s[0].toNat = 43
  · exact parse_plus s w h hs hp h43
  exact parse_none s w h hs hp h45 h43
end Go.Proofs.Qxb6605545aDoor
