/-
  THE WALKS of this seat, second part: the law's own reading of a table name.
-/
import Derived.Test.Qxb6605164aDoorA1
import Derived.Lib.Strings
namespace Go.Proofs.Qxb6605164aDoor
open Go.RowKit

theorem count_le (l : List UInt8) (k : Nat) : (l.take k).count 46 ≤ k := Nat.le_trans List.count_le_length (List.length_take_le _ _)
theorem count_step (s : ByteArray) (k : Nat) (h : k < s.size) : (s.data.toList.take (k + 1)).count 46 = (s.data.toList.take k).count 46 + (if s[k].toNat = 46 then 1 else 0) := by
  rw [take_snoc s k h, List.count_append, List.count_singleton]
  have e : (s[k] == 46) = decide (s[k].toNat = 46) := by
    rw [Bool.eq_iff_iff]
    simp only [beq_iff_eq, decide_eq_true_eq]
    exact ⟨fun h => by rw [h]; rfl, fun h => UInt8.toNat_inj.1 h⟩
  rw [e]
  by_cases h : s[k].toNat = 46 <;> simp [h]

set_option maxHeartbeats 800000 in
theorem dotted_any (s : ByteArray) (w : World) (hs : s.size ≤ 1048576) :
    Calls Tryd.prog 8 #[.string s] w fun e w' => e = .returned (.bool (dotted s.data.toList)) ∧ w' = w := by
  have hlen : s.data.toList.length = s.size := by simp
  go_enter Tryd.func8, Tryd.ntmps8
  go_wp2
  go_loop [3, 4, 5] (fun d a i => ∃ k : Nat, k ≤ s.size ∧ i = .int .i64 k ∧ d = .int .i64 (((s.data.toList.take k).count 46 : Nat) : Int) ∧ a = .int .i64 (atOf s.data.toList k)) (fun _ _ i => s.size - (intOf i).toNat)
  case atStart => exact ⟨0, Nat.zero_le _, rfl, rfl, rfl⟩
  case round =>
    obtain ⟨k, hk, rfl, rfl, rfl⟩ := hrel
    by_cases hlt : k < s.size
    · have HC : Hid ((s.data.toList.take (k + 1)).count 46 = (s.data.toList.take k).count 46 + (if s[k].toNat = 46 then 1 else 0)) := count_step s k hlt
      have hcl := count_le s.data.toList k
      have hg : s.data.toList[k]'(by omega) = s[k] := rfl
      by_cases h0 : (s.data.toList.take k).count 46 = 0
      · have ha : atOf s.data.toList k = -1 := by unfold atOf; rw [if_pos h0]
        rw [ha]
        have H0 : Hid ((s.data.toList.take k).count 46 = 0) := h0
        clear ha h0
        go_wp2
        all_goals simp only [beq_iff_eq, beq_eq_false_iff_ne] at *
        · have h46 : s[k].toNat = 46 := by omega
          refine ⟨⟨k + 1, by omega, by go_num, ?_, ?_⟩, by simp [intOf]; omega⟩
          · rw [HC.out, if_pos h46]; go_num
          · have e1 : atOf s.data.toList (k + 1) = k := by
              unfold atOf
              rw [HC.out, if_pos h46, if_neg (by omega), idx_here s.data.toList k (by omega) H0.out (by rw [hg]; exact UInt8.toNat_inj.1 h46)]
            rw [e1]
        · have h46 : ¬ s[k].toNat = 46 := by omega
          refine ⟨⟨k + 1, by omega, by go_num, ?_, ?_⟩, by simp [intOf]; omega⟩
          · rw [HC.out, if_neg h46]; rfl
          · have e1 : atOf s.data.toList (k + 1) = -1 := by
              unfold atOf
              rw [HC.out, if_neg h46, H0.out]; rfl
            rw [e1]
      · have ha : atOf s.data.toList k = ((s.data.toList.idxOf 46 : Nat) : Int) := by unfold atOf; rw [if_neg h0]
        rw [ha]
        have H0 : Hid (¬ (s.data.toList.take k).count 46 = 0) := h0
        have H1 : Hid (atOf s.data.toList (k + 1) = ((s.data.toList.idxOf 46 : Nat) : Int)) := by
          show atOf _ _ = _
          unfold atOf; rw [HC.out, if_neg (by omega)]
        clear ha h0
        generalize s.data.toList.idxOf 46 = x at H1 ⊢
        go_wp2
        all_goals simp only [beq_iff_eq, beq_eq_false_iff_ne] at *
        · have h46 : s[k].toNat = 46 := by omega
          refine ⟨⟨k + 1, by omega, by go_num, ?_, ?_⟩, by simp [intOf]; omega⟩
          · rw [HC.out, if_pos h46]; go_num
          · rw [H1.out]
        · have h46 : ¬ s[k].toNat = 46 := by omega
          refine ⟨⟨k + 1, by omega, by go_num, ?_, ?_⟩, by simp [intOf]; omega⟩
          · rw [HC.out, if_neg h46]; rfl
          · rw [H1.out]
    · have hk' : k = s.size := by omega
      subst hk'
      have ht : s.data.toList.take s.size = s.data.toList := List.take_of_length_le (by omega)
      have hat : atOf s.data.toList s.size = if s.data.toList.count 46 = 0 then -1 else ((s.data.toList.idxOf 46 : Nat) : Int) := by unfold atOf; rw [ht]
      rw [ht, hat]
      clear hat ht hlt hk
      have hcl : s.data.toList.count 46 ≤ s.size := by rw [← hlen]; exact List.count_le_length
      by_cases h0 : s.data.toList.count 46 = 0
      · have HD : Hid (dotted s.data.toList = ident s.data.toList) := by show dotted _ = _; unfold dotted; rw [if_pos h0]
        rw [if_pos h0, h0]
        clear h0 hcl
        go_wp2_with (go_at_call 11; refine (grammar_any _ _).mono ?_; rintro e w' ⟨rfl, rfl⟩)
        go_ret
        exact ⟨ret_bool HD.out.symm, rfl⟩
      rw [if_neg h0]
      have hx := idx_lt s.data.toList h0
      rw [hlen] at hx
      by_cases h1 : s.data.toList.count 46 = 1
      · have HD : Hid (dotted s.data.toList = (ident (s.data.toList.take (s.data.toList.idxOf 46)) && ident ((s.data.toList.drop (s.data.toList.idxOf 46 + 1)).take (s.size - (s.data.toList.idxOf 46 + 1))))) := by
          show dotted _ = _
          unfold dotted
          rw [if_neg h0, if_pos h1, List.take_of_length_le (l := List.drop (_ + 1) _)]
          rw [List.length_drop, hlen]; omega
        rw [h1]
        clear h0 h1 hcl
        generalize s.data.toList.idxOf 46 = x at hx HD ⊢
        cases hi : ident (s.data.toList.take x)
        all_goals
          go_wp2_with (go_at_call 11; refine (grammar_any _ _).mono ?_; rintro e w' ⟨rfl, rfl⟩)
          go_ret
          refine ⟨ret_bool ?_, rfl⟩
          rw [HD.out, hi]; rfl
      · have HD : Hid (dotted s.data.toList = false) := by show dotted _ = _; unfold dotted; rw [if_neg h0, if_neg h1]
        have c2 : 2 ≤ s.data.toList.count 46 := by omega
        clear h0 h1 hx
        generalize s.data.toList.count 46 = y at hcl c2 ⊢
        go_wp2
        go_ret
        exact ⟨ret_bool HD.out.symm, rfl⟩
end Go.Proofs.Qxb6605164aDoor
