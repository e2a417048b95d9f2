/-
  THE WALKS of this seat: isDigits over strings.Trim's contract; the law.
-/
import Derived.Test.Qxb6606268aDoorProg
import Derived.Test.Qxb6606268aDoorPlain
import Derived.Test.Qxb6606268aDoorShelf
import Derived.WalkKit
namespace Go.Proofs.Qxb6606268aDoor
open Go.RowKit Go.Shelf

theorem ret_bool {a b : Bool} (h : a = b) : Ending.returned (.bool a) = .returned (.bool b) := by rw [h]
theorem val_bool {a b : Bool} (h : a = b) : Value.bool a = .bool b := by rw [h]
theorem take_snoc (s : ByteArray) (k : Nat) (h : k < s.size) : s.data.toList.take (k + 1) = s.data.toList.take k ++ [s[k]] := by
  rw [List.take_succ_eq_append_getElem (by simpa using h)]; rfl
theorem empty_eq (c : ByteArray) : c.toList.isEmpty = decide (c.size = 0) := by
  rw [ByteArray.toList_eq, Lib.size_eq]
  cases c.data.toList <;> simp

/-- strings.Trim of the ten digits. -/
theorem trim_any (s : ByteArray) (w : World) (hs : s.size ≤ 1048576) :
    Calls Tryd.prog 15 #[.string s, .string ⟨#[48, 49, 50, 51, 52, 53, 54, 55, 56, 57]⟩] w fun e w' => (∃ r : ByteArray, e = .returned (.string r) ∧ r.toList.isEmpty = allD s.data.toList) ∧ Below w.heap.size w w' := by
  have hcon := Any.strings_Trim_laid Tryd.lays160 (by kernel_rfl) s ⟨#[48, 49, 50, 51, 52, 53, 54, 55, 56, 57]⟩ w (by omega) (by decide) (ascii_of_all (by decide))
  refine Calls.mono (show Calls Tryd.prog 15 _ _ _ from hcon) fun e w' ⟨h1, h2⟩ => ⟨⟨_, h1, ?_⟩, h2⟩
  rw [ByteArray.toList_mk]
  exact trim_digits _

theorem digits_any (s : ByteArray) (w : World) (hs : s.size ≤ 1048576) :
    Calls Tryd.prog 11 #[.string s] w fun e w' => e = .returned (.bool (decide (0 < s.size) && allD s.data.toList)) ∧ Below w.heap.size w w' := by
  have htr := fun w => trim_any s w hs
  have he := empty_eq s
  by_cases h0 : s.size = 0
  · have hq : s.toList.isEmpty = true := by rw [he, decide_eq_true h0]
    rw [decide_eq_false (by omega), Bool.false_and]
    clear he htr
    go_enter Tryd.func11, Tryd.ntmps11
    go_wp2
    go_ret
    exact ⟨rfl, Below.refl _ _⟩
  · have hq : s.toList.isEmpty = false := by rw [he, decide_eq_false h0]
    rw [decide_eq_true (show 0 < s.size by omega), Bool.true_and]
    clear he
    generalize allD s.data.toList = d at htr ⊢
    go_enter Tryd.func11, Tryd.ntmps11
    go_wp2_with (go_at_call 15; refine (htr _).mono ?_; rintro e w' ⟨⟨r, rfl, hr⟩, hb⟩)
    go_ret
    exact ⟨ret_bool (by simp), hb⟩
theorem zzdigits_any (s : ByteArray) (w : World) (hs : s.size ≤ 1048576) :
    Calls Tryd.prog 6 #[.string s] w fun e w' => e = .returned (.bool (decide (0 < s.size) && allD s.data.toList)) ∧ Below w.heap.size w w' := by
  have hd := digits_any s w hs
  generalize (decide (0 < s.size) && allD s.data.toList) = d at hd ⊢
  go_enter Tryd.func6, Tryd.ntmps6
  go_wp2_with (go_at_call 11; refine hd.mono ?_; rintro e w' ⟨rfl, hb⟩)
  go_ret
  exact ⟨rfl, hb⟩
theorem bytes1 (s : ByteArray) (w : World) (hs : s.size ≤ maxLen) :
    Calls Tryd.prog 5 #[.string s] w fun e w' => e = .returned (.bool (decide (s.size ≤ 1048576))) ∧ w' = w := by
  unfold maxLen at hs
  by_cases h : s.size ≤ 1048576
  · rw [decide_eq_true h]
    go_enter Tryd.func5, Tryd.ntmps5
    go_wp2
    go_ret
    exact ⟨rfl, rfl⟩
  · rw [decide_eq_false h]
    go_enter Tryd.func5, Tryd.ntmps5
    go_wp2
    go_ret
    exact ⟨rfl, rfl⟩

set_option maxHeartbeats 800000 in
theorem law1 (s : ByteArray) (w : World) (hs : s.size ≤ maxLen) :
    Calls Tryd.prog 3 #[.string s] w fun e w' => e = .returned (.bool true) ∧ Below w.heap.size w w' := by
  have hb := bytes1 s w hs
  unfold maxLen at hs
  by_cases h : s.size ≤ 1048576
  · rw [decide_eq_true h] at hb
    have hz := fun w => zzdigits_any s w h
    go_enter Tryd.func3, Tryd.ntmps3
    go_wp2_with (go_at_call 5; refine hb.mono ?_; rintro e w' ⟨rfl, rfl⟩)
    go_loop [3, 4] (fun v i => ∃ k : Nat, k ≤ s.size ∧ i = .int .i64 k ∧ v = .bool (decide (0 < s.size) && allD (s.data.toList.take k))) (fun _ i => s.size - (intOf i).toNat)
    case atStart => exact ⟨0, Nat.zero_le _, rfl, val_bool (by simp [allD])⟩
    case round =>
      obtain ⟨k, hk, rfl, rfl⟩ := hrel
      by_cases hlt : k < s.size
      · have HS : Hid (allD (s.data.toList.take (k + 1)) = (allD (s.data.toList.take k) && digB s[k])) := by rw [take_snoc s k hlt]; exact allD_snoc _ _
        generalize allD (s.data.toList.take k) = d at HS ⊢
        cases hd : digB s[k]
        · have hd' : ¬ (48 ≤ s[k].toNat ∧ s[k].toNat ≤ 57) := fun x => by rw [(digB_iff _).2 x] at hd; cases hd
          have HD : Hid (digB s[k] = false) := hd
          clear hd
          go_wp2
          all_goals refine ⟨⟨k + 1, by omega, by go_num, val_bool ?_⟩, by simp [intOf]; omega⟩
          all_goals rw [HS.out, HD.out]
          all_goals simp
        · have hd' := (digB_iff _).1 hd
          have HD : Hid (digB s[k] = true) := hd
          clear hd
          go_wp2
          refine ⟨⟨k + 1, by omega, by go_num, val_bool ?_⟩, by simp [intOf]; omega⟩
          rw [HS.out, HD.out]
          simp
      · have ht : s.data.toList.take k = s.data.toList := List.take_of_length_le (by rw [← Lib.size_eq]; omega)
        rw [ht]
        clear ht
        generalize (decide (0 < s.size) && allD s.data.toList) = d at hz ⊢
        go_wp2_with (go_at_call 6; refine (hz _).mono ?_; rintro e w' ⟨rfl, hb1⟩)
        go_ret
        exact ⟨ret_bool (by simp), hb1⟩
  · rw [decide_eq_false h] at hb
    go_enter Tryd.func3, Tryd.ntmps3
    go_wp2_with (go_at_call 5; refine hb.mono ?_; rintro e w' ⟨rfl, rfl⟩)
    go_ret
    exact ⟨rfl, Below.refl _ _⟩
end Go.Proofs.Qxb6606268aDoor
