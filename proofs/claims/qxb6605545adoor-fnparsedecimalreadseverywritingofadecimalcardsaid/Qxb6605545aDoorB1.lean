/-
  THE WALKS of the second statement: canonicalDecimal, readsAs, the bound on the lengths.
-/
import Derived.Test.Qxb6605545aDoorA3
import Derived.Test.Qxb6605545aDoorPlain2
namespace Go.Proofs.Qxb6605545aDoor
open Go.RowKit

theorem all_of (s : ByteArray) (h : ∀ m c, m < s.size → s.data.toList[m]? = some c → digB c = true) : s.data.toList.all digB = true := by
  rw [List.all_eq_true]
  intro x hx
  obtain ⟨m, hm⟩ := List.mem_iff_getElem?.1 hx
  have := (List.getElem?_eq_some_iff.1 hm).1
  rw [← Lib.size_eq] at this
  exact h m x this hm
theorem canon_w (neg : Bool) (a b : ByteArray) (k : Nat) (hk : k < a.size) (hd : digB a[k] = false) : canonB neg a.data.toList b.data.toList = false := by
  have := allD_bad a k hk hd
  unfold allD at this
  unfold canonB; rw [this]; rfl
theorem canon_f (neg : Bool) (a b : ByteArray) (k : Nat) (hk : k < b.size) (hd : digB b[k] = false) : canonB neg a.data.toList b.data.toList = false := by
  have := allD_bad b k hk hd
  unfold allD at this
  unfold canonB; rw [this]; simp
theorem first_at (a : ByteArray) (h : 0 < a.size) : a.data.toList.head? = some a[0] := by
  rw [List.head?_eq_getElem?]; exact at_get a 0 h
theorem last_at (a : ByteArray) (h : 0 < a.size) : a.data.toList.getLast? = some (a[a.size - 1]'(by omega)) := by
  rw [List.getLast?_eq_getElem?, ← Lib.size_eq]; exact at_get a _ (by omega)
theorem canon_all (neg : Bool) (a b : ByteArray) (ha : a.data.toList.all digB = true) (hb : b.data.toList.all digB = true) :
    canonB neg a.data.toList b.data.toList = !((a.data.toList.head? == some 48) || ((b.data.toList.getLast? == some 48) || (a.toList.isEmpty && (b.toList.isEmpty && neg)))) := by
  unfold canonB
  rw [ha, hb, empty_eq a, empty_eq b]
  simp only [Bool.true_and, Bool.not_or]

theorem empty_size (c : ByteArray) : c.toList.isEmpty = decide (c.size = 0) := by
  rw [ByteArray.toList_eq, Lib.size_eq]
  cases c.data.toList <;> simp
/-- What a text shows at its first byte. -/
theorem first_cases (a : ByteArray) : (∃ h : 0 < a.size, (((a[0]'h).toNat : Int) == 48) = true ∧ a.toList.isEmpty = false ∧ (a.data.toList.head? == some 48) = true) ∨ (∃ h : 0 < a.size, (((a[0]'h).toNat : Int) == 48) = false ∧ a.toList.isEmpty = false ∧ (a.data.toList.head? == some 48) = false) ∨ (¬ 0 < a.size ∧ a.toList.isEmpty = true ∧ (a.data.toList.head? == some 48) = false) := by
  by_cases h : 0 < a.size
  · have he : a.toList.isEmpty = false := by rw [empty_size]; exact decide_eq_false (by omega)
    by_cases h48 : (a[0]'h).toNat = 48
    · exact .inl ⟨h, by rw [beq_iff_eq]; omega, he, by rw [first_at a h, eq_of_toNat (show (a[0]'h).toNat = (48 : UInt8).toNat from h48)]; rfl⟩
    · refine .inr (.inl ⟨h, by rw [beq_eq_false_iff_ne]; omega, he, ?_⟩)
      rw [first_at a h, beq_eq_false_iff_ne]
      intro e; exact h48 (by rw [Option.some.inj e]; rfl)
  · have hl : a.data.toList = [] := List.length_eq_zero_iff.1 (by rw [← Lib.size_eq]; omega)
    exact .inr (.inr ⟨h, by rw [empty_size]; exact decide_eq_true (by omega), by rw [hl]; rfl⟩)
theorem last_cases (a : ByteArray) : (∃ h : 0 < a.size, (((a[a.size - 1]'(by omega)).toNat : Int) == 48) = true ∧ a.toList.isEmpty = false ∧ (a.data.toList.getLast? == some 48) = true) ∨ (∃ h : 0 < a.size, (((a[a.size - 1]'(by omega)).toNat : Int) == 48) = false ∧ a.toList.isEmpty = false ∧ (a.data.toList.getLast? == some 48) = false) ∨ (¬ 0 < a.size ∧ a.toList.isEmpty = true ∧ (a.data.toList.getLast? == some 48) = false) := by
  by_cases h : 0 < a.size
  · have he : a.toList.isEmpty = false := by rw [empty_size]; exact decide_eq_false (by omega)
    by_cases h48 : (a[a.size - 1]'(by omega)).toNat = 48
    · exact .inl ⟨h, by rw [beq_iff_eq]; omega, he, by rw [last_at a h, eq_of_toNat (show (a[a.size - 1]'(by omega)).toNat = (48 : UInt8).toNat from h48)]; rfl⟩
    · refine .inr (.inl ⟨h, by rw [beq_eq_false_iff_ne]; omega, he, ?_⟩)
      rw [last_at a h, beq_eq_false_iff_ne]
      intro e; exact h48 (by rw [Option.some.inj e]; rfl)
  · have hl : a.data.toList = [] := List.length_eq_zero_iff.1 (by rw [← Lib.size_eq]; omega)
    exact .inr (.inr ⟨h, by rw [empty_size]; exact decide_eq_true (by omega), by rw [hl]; rfl⟩)

set_option maxHeartbeats 1600000 in
theorem canon_any (neg : Bool) (a b : ByteArray) (w : World) (ha : a.size ≤ 1048576) (hb : b.size ≤ 1048576) :
    Calls Tryd.prog 11 #[.bool neg, .string a, .string b] w fun e w' => e = .returned (.bool (canonB neg a.data.toList b.data.toList)) ∧ w' = w := by
  go_enter Tryd.func11, Tryd.ntmps11
  go_wp2
  go_loop [7] (fun v => ∃ k : Nat, k ≤ a.size ∧ v = .int .i64 k ∧ (∀ m c, m < k → a.data.toList[m]? = some c → digB c = true)) (fun v => a.size - (intOf v).toNat)
  case atStart => exact ⟨0, Nat.zero_le _, rfl, fun m c h => absurd h (Nat.not_lt_zero _)⟩
  case round =>
    obtain ⟨k, hk, rfl, hall⟩ := hrel
    have HA : Hid (∀ m c, m < k → a.data.toList[m]? = some c → digB c = true) := hall
    clear hall
    by_cases hlt : k < a.size
    · cases hd : digB a[k]
      · have HF : Hid (canonB neg a.data.toList b.data.toList = false) := canon_w neg a b k hlt hd
        go_wp2_with (go_at_call 18; refine (dec_any _ _).mono ?_; rintro e w' ⟨rfl, rfl⟩)
        go_ret
        exact ⟨ret_bool HF.out.symm, rfl⟩
      · go_wp2_with (go_at_call 18; refine (dec_any _ _).mono ?_; rintro e w' ⟨rfl, rfl⟩)
        refine ⟨⟨k + 1, by omega, by go_num, ?_⟩, by simp [intOf]; omega⟩
        intro m c hm hc
        by_cases e : m = k
        · subst e
          rw [at_get a m hlt] at hc
          rw [← Option.some.inj hc]; exact hd
        · exact HA.out m c (by omega) hc
    · have HW : Hid (a.data.toList.all digB = true) := all_of a fun m c hm hc => HA.out m c (by omega) hc
      clear HA
      go_wp2
      go_loop [8] (fun v => ∃ k : Nat, k ≤ b.size ∧ v = .int .i64 k ∧ (∀ m c, m < k → b.data.toList[m]? = some c → digB c = true)) (fun v => b.size - (intOf v).toNat)
      case atStart => exact ⟨0, Nat.zero_le _, rfl, fun m c h => absurd h (Nat.not_lt_zero _)⟩
      case round =>
        obtain ⟨j, hj, rfl, hall⟩ := hrel
        have HA : Hid (∀ m c, m < j → b.data.toList[m]? = some c → digB c = true) := hall
        clear hall
        by_cases hjl : j < b.size
        · cases hd : digB b[j]
          · have HF : Hid (canonB neg a.data.toList b.data.toList = false) := canon_f neg a b j hjl hd
            go_wp2_with (go_at_call 18; refine (dec_any _ _).mono ?_; rintro e w' ⟨rfl, rfl⟩)
            go_ret
            exact ⟨ret_bool HF.out.symm, rfl⟩
          · go_wp2_with (go_at_call 18; refine (dec_any _ _).mono ?_; rintro e w' ⟨rfl, rfl⟩)
            refine ⟨⟨j + 1, by omega, by go_num, ?_⟩, by simp [intOf]; omega⟩
            intro m c hm hc
            by_cases e : m = j
            · subst e
              rw [at_get b m hjl] at hc
              rw [← Option.some.inj hc]; exact hd
            · exact HA.out m c (by omega) hc
        · have HV : Hid (b.data.toList.all digB = true) := all_of b fun m c hm hc => HA.out m c (by omega) hc
          have hC := canon_all neg a b HW.out HV.out
          clear HA HW HV
          rcases first_cases a with ⟨pa, ea, qa, ra⟩ | ⟨pa, ea, qa, ra⟩ | ⟨pa, qa, ra⟩ <;> rcases last_cases b with ⟨pb, eb, qb, rb⟩ | ⟨pb, eb, qb, rb⟩ | ⟨pb, qb, rb⟩ <;> rw [qa, qb, ra, rb] at hC <;> clear ra rb
          all_goals (have HC : Hid (canonB neg a.data.toList b.data.toList = _) := hC; clear hC)
          all_goals cases neg
          all_goals go_wp2
          all_goals go_ret
          all_goals exact ⟨ret_bool (by rw [HC.out]; rfl), rfl⟩

theorem reads_any (s : ByteArray) (neg : Bool) (a b : ByteArray) (w : World) (h : HasMax w) (hs : s.size ≤ 2097152) (hP : parseL s.data.toList = (true, neg, a.data.toList, b.data.toList)) :
    Calls Tryd.prog 12 #[.string s, .bool neg, .string a, .string b] w fun e w' => e = .returned (.bool true) ∧ Below w.heap.size w w' := by
  have h1 := zzparse_any s w h hs
  rw [hP] at h1
  have e1 : fourOf (true, neg, a.data.toList, b.data.toList) = .tuple #[.bool neg, .string a, .string b, .bool true] := by unfold fourOf; simp only [Lib.mk_data]
  rw [e1] at h1
  clear e1 hP h
  go_enter Tryd.func12, Tryd.ntmps12
  go_wp2_with (go_at_call 8; refine h1.mono ?_; rintro e w1 ⟨rfl, hb⟩)
  go_ret
  exact ⟨rfl, hb⟩
theorem bytes2 (neg : Bool) (a b : ByteArray) (w : World) (ha : a.size ≤ maxLen) (hb : b.size ≤ maxLen) :
    Calls Tryd.prog 10 #[.bool neg, .string a, .string b] w fun e w' => e = .returned (.bool (decide (a.size + b.size ≤ 1048576))) ∧ w' = w := by
  unfold maxLen at ha hb
  by_cases h : a.size + b.size ≤ 1048576
  · rw [decide_eq_true h]
    go_enter Tryd.func10, Tryd.ntmps10
    go_wp2
    go_ret
    exact ⟨rfl, rfl⟩
  · rw [decide_eq_false h]
    go_enter Tryd.func10, Tryd.ntmps10
    go_wp2
    all_goals go_ret
    all_goals exact ⟨rfl, rfl⟩

/-! ### the writings, as the law builds them -/
def sgnA (neg : Bool) : ByteArray := if neg then ⟨#[45]⟩ else ⟨#[]⟩
def sgnQ (neg : Bool) : ByteArray := if neg then ⟨#[45]⟩ else ⟨#[43]⟩
theorem sgnA_data (neg : Bool) : (sgnA neg).data.toList = sgn neg := by cases neg <;> rfl
theorem sgnQ_data (neg : Bool) : (sgnQ neg).data.toList = sgnP neg := by cases neg <;> rfl
theorem nil_of {a : ByteArray} (h : a.toList.isEmpty = true) : a.data.toList = [] := by
  rw [ByteArray.toList_eq] at h; exact List.isEmpty_iff.1 h
theorem not_nil_of {a : ByteArray} (h : a.toList.isEmpty = false) : a.data.toList ≠ [] := by
  rw [ByteArray.toList_eq] at h; intro e; rw [e] at h; cases h
theorem writ1 (neg : Bool) (a b : ByteArray) (h : canonB neg a.data.toList b.data.toList = true) (hn : ¬ (a.data.toList = [] ∧ b.data.toList = [])) :
    parseL (sgnA neg ++ a ++ ⟨#[46]⟩ ++ b).data.toList = (true, neg, a.data.toList, b.data.toList) := by
  have k := (reads_dot neg _ _ 0 0 h (by simpa using hn)).1
  simp only [ByteArray.data_append, Array.toList_append, sgnA_data]
  simpa using k
theorem writ2 (neg : Bool) (a b : ByteArray) (h : canonB neg a.data.toList b.data.toList = true) (hb : b.data.toList = []) (ha : a.data.toList ≠ []) :
    parseL (sgnA neg ++ a).data.toList = (true, neg, a.data.toList, b.data.toList) := by
  rw [hb] at h ⊢
  have k := reads_whole neg _ 0 h (by simpa using ha)
  simp only [ByteArray.data_append, Array.toList_append, sgnA_data]
  simpa using k
theorem writ3 (neg : Bool) (a b : ByteArray) (h : canonB neg a.data.toList b.data.toList = true) (ha : a.data.toList = []) :
    parseL (sgnA neg ++ ⟨#[48]⟩ ++ ⟨#[46]⟩ ++ b).data.toList = (true, neg, a.data.toList, b.data.toList) := by
  rw [ha] at h ⊢
  have k := (reads_dot neg _ _ 1 0 h (by simp)).1
  simp only [ByteArray.data_append, Array.toList_append, sgnA_data]
  simpa using k
theorem writ4 (neg : Bool) (a b : ByteArray) (h : canonB neg a.data.toList b.data.toList = true) (ha : a.data.toList = []) (hb : b.data.toList = []) :
    parseL (sgnA neg ++ ⟨#[48]⟩).data.toList = (true, neg, a.data.toList, b.data.toList) := by
  rw [ha, hb] at h ⊢
  have k := reads_whole neg _ 1 h (by simp)
  simp only [ByteArray.data_append, Array.toList_append, sgnA_data]
  simpa using k
theorem writ5 (neg : Bool) (a b : ByteArray) (h : canonB neg a.data.toList b.data.toList = true) :
    parseL (sgnQ neg ++ ⟨#[48, 48]⟩ ++ a ++ ⟨#[46]⟩ ++ b ++ ⟨#[48, 48]⟩).data.toList = (true, neg, a.data.toList, b.data.toList) := by
  have k := (reads_dot neg _ _ 2 2 h (by simp)).2
  simp only [ByteArray.data_append, Array.toList_append, sgnQ_data]
  simpa [List.replicate] using k

/-- What stands behind each reading: nothing that was there has turned. -/
def Inv (w0 w : World) : Prop := HasMax w ∧ Below w0.heap.size w0 w
theorem reads_inv (w0 : World) (neg : Bool) (a b : ByteArray) (X : ByteArray) (hs : X.size ≤ 2097152) (hP : parseL X.data.toList = (true, neg, a.data.toList, b.data.toList)) (w : World) (h : Inv w0 w) :
    Calls Tryd.prog 12 #[.string X, .bool neg, .string a, .string b] w fun e w' => e = .returned (.bool true) ∧ Inv w0 w' :=
  (reads_any X neg a b w h.1 hs hP).mono fun _ _ ⟨h1, h2⟩ => ⟨h1, h.1.below h.1.size h2, h.2.trans (h2.mono h.2.size)⟩
end Go.Proofs.Qxb6605545aDoor
