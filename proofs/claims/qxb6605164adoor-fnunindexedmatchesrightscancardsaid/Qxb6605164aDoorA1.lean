/-
  THE WALKS of the small functions of this seat: a byte that opens a name, a digit, a plain name by the program and by the law's own automaton.
-/
import Derived.Test.Qxb6605164aDoorProg
import Derived.Test.Qxb6605164aDoorPlain
import Derived.WalkKit
import Derived.KernelRfl
namespace Go.Proofs.Qxb6605164aDoor
open Go.RowKit

theorem ret_bool {a b : Bool} (h : a = b) : Ending.returned (.bool a) = .returned (.bool b) := by rw [h]
theorem start_tab : ((List.range 256).all fun n => startB n.toUInt8 == (((n : Int) == 95) || (decide (97 ≤ bits .or .u8 (n : Int) 32) && decide (bits .or .u8 (n : Int) 32 ≤ 122)))) = true := by kernel_rfl
theorem start_eq (c : UInt8) : startB c = (((c.toNat : Int) == 95) || (decide (97 ≤ bits .or .u8 (c.toNat : Int) 32) && decide (bits .or .u8 (c.toNat : Int) 32 ≤ 122))) := by
  have h := List.all_eq_true.1 start_tab c.toNat (List.mem_range.2 c.toNat_lt)
  have e : c.toNat.toUInt8 = c := by simp
  rw [e] at h
  exact eq_of_beq h

theorem start_any (c : UInt8) (w : World) : Calls Tryd.prog 17 #[.int .u8 (c.toNat : Int)] w fun e w' => e = .returned (.bool (startB c)) ∧ w' = w := by
  rw [start_eq]
  generalize (c.toNat : Int) = n
  go_enter Tryd.func17, Tryd.ntmps17
  go_wp2
  · go_ret
    exact ⟨ret_bool (by simp [*]), rfl⟩
  · go_ret
    exact ⟨ret_bool (by simp [*]), rfl⟩
  · go_ret
    refine ⟨ret_bool ?_, rfl⟩
    have : ¬ 97 ≤ bits .or .u8 n 32 := by omega
    simp [*]

theorem dec_any (c : UInt8) (w : World) : Calls Tryd.prog 18 #[.int .u8 (c.toNat : Int)] w fun e w' => e = .returned (.bool (digB c)) ∧ w' = w := by
  have e1 : digB c = (decide (48 ≤ (c.toNat : Int)) && decide ((c.toNat : Int) ≤ 57)) := by
    unfold digB; congr 1 <;> (rw [decide_eq_decide]; omega)
  rw [e1]
  generalize (c.toNat : Int) = n
  go_enter Tryd.func18, Tryd.ntmps18
  go_wp2
  · go_ret
    exact ⟨ret_bool (by simp [*]), rfl⟩
  · go_ret
    refine ⟨ret_bool ?_, rfl⟩
    have : ¬ 48 ≤ n := by omega
    simp [this]

theorem take_snoc (s : ByteArray) (k : Nat) (h : k < s.size) : s.data.toList.take (k + 1) = s.data.toList.take k ++ [s[k]] := by
  rw [List.take_succ_eq_append_getElem (by simpa using h)]; rfl

theorem isEmpty_toList (s : ByteArray) : s.toList.isEmpty = s.data.toList.isEmpty := by rw [ByteArray.toList_eq]
theorem isEmpty_size (s : ByteArray) : s.data.toList.isEmpty = decide (s.size = 0) := by
  rw [show s.size = s.data.toList.length from by simp]
  cases s.data.toList <;> simp

set_option maxHeartbeats 400000 in
theorem ident_any (s : ByteArray) (w : World) :
    Calls Tryd.prog 16 #[.string s] w fun e w' => e = .returned (.bool (ident s.data.toList)) ∧ w' = w := by
  have hlen : s.data.toList.length = s.size := by simp
  have he0 := isEmpty_toList s
  have he1 := isEmpty_size s
  by_cases h0 : s.size = 0
  · have he : s.toList.isEmpty = true := by rw [he0, he1]; simp [h0]
    have hi : ident s.data.toList = false := by rw [he0] at he; simp [ident, he]
    clear he0 he1
    rw [hi]
    go_enter Tryd.func16, Tryd.ntmps16
    go_wp2
    go_ret
    exact ⟨rfl, rfl⟩
  have he : s.toList.isEmpty = false := by rw [he0, he1]; simp [h0]
  by_cases h63 : 63 < s.size
  · have hi : ident s.data.toList = false := by unfold ident; rw [hlen]; simp; omega
    clear he0 he1
    rw [hi]
    go_enter Tryd.func16, Tryd.ntmps16
    go_wp2
    go_ret
    exact ⟨rfl, rfl⟩
  have h63' : s.size ≤ 63 := by omega
  clear he0 he1
  go_enter Tryd.func16, Tryd.ntmps16
  go_wp2
  go_loop [3] (fun i => ∃ k : Nat, k ≤ s.size ∧ i = .int .i64 k ∧ okP (s.data.toList.take k) = true) (fun i => s.size - (intOf i).toNat)
  case atStart => exact ⟨0, Nat.zero_le _, rfl, rfl⟩
  case round =>
    obtain ⟨k, hk, rfl, hok⟩ := hrel
    by_cases hlt : k < s.size
    · have HS : Hid (okP (s.data.toList.take (k + 1)) = decide (s[k].toNat = 95 ∨ (97 ≤ s[k].toNat ∧ s[k].toNat ≤ 122) ∨ (65 ≤ s[k].toNat ∧ s[k].toNat ≤ 90) ∨ ((48 ≤ s[k].toNat ∧ s[k].toNat ≤ 57) ∧ 0 < k))) := by
        rw [take_snoc s k hlt, okP_next _ _ hok, List.length_take, hlen, Nat.min_eq_left hk]; exact rfl
      clear hok
      go_wp2
      all_goals simp only [beq_iff_eq, beq_eq_false_iff_ne] at *
      all_goals first
        | (refine ⟨⟨k + 1, by omega, by go_num, ?_⟩, by simp [intOf]; omega⟩
           rw [HS.out]; exact decide_eq_true (by omega))
        | (go_ret
           refine ⟨ret_bool ?_, rfl⟩
           exact (ident_bad _ (k + 1) (by rw [HS.out]; exact decide_eq_false (by omega))).symm)
    · go_wp2
      go_ret
      refine ⟨ret_bool ?_, rfl⟩
      rw [List.take_of_length_le (by omega)] at hok
      simp [ident, hok]
      exact ⟨fun e => by rw [e] at hlen; simp at hlen; omega, by omega⟩

theorem ident_st (l : List UInt8) (h : l.length ≤ 63) : (stOf l == 1) = ident l := by
  unfold stOf ident
  cases l with
  | nil => rfl
  | cons a r => cases hp : okP (a :: r) <;> simp_all

set_option maxHeartbeats 800000 in
theorem grammar_any (s : ByteArray) (w : World) :
    Calls Tryd.prog 11 #[.string s] w fun e w' => e = .returned (.bool (ident s.data.toList)) ∧ w' = w := by
  have hlen : s.data.toList.length = s.size := by simp
  by_cases h63 : 63 < s.size
  · have hi : ident s.data.toList = false := by unfold ident; rw [hlen]; simp; omega
    rw [hi]
    go_enter Tryd.func11, Tryd.ntmps11
    go_wp2
    go_ret
    exact ⟨rfl, rfl⟩
  have h63' : s.size ≤ 63 := by omega
  go_enter Tryd.func11, Tryd.ntmps11
  go_wp2
  go_loop [3, 4] (fun st i => ∃ k : Nat, k ≤ s.size ∧ i = .int .i64 k ∧ st = .int .i64 (stOf (s.data.toList.take k))) (fun _ i => s.size - (intOf i).toNat)
  case atStart => exact ⟨0, Nat.zero_le _, rfl, rfl⟩
  case round =>
    obtain ⟨k, hk, rfl, rfl⟩ := hrel
    by_cases hlt : k < s.size
    · have HS : Hid (stOf (s.data.toList.take (k + 1)) = if (s.data.toList.take k).isEmpty then (if startB s[k] then 1 else 2) else (if okP (s.data.toList.take k) then (if contB s[k] then 1 else 2) else 2)) := by
        rw [take_snoc s k hlt]; exact stOf_snoc _ _
      have hE : (s.data.toList.take k).isEmpty = decide (k = 0) := by
        rw [Bool.eq_iff_iff]; simp [List.isEmpty_iff]; intro h; rw [h] at hlen; simp at hlen; omega
      by_cases h0 : k = 0
      · have H1 : Hid (stOf (s.data.toList.take (k + 1)) = if startB s[k] then 1 else 2) := by rw [HS.out, hE]; simp [h0]; exact trivial
        have hz : stOf (s.data.toList.take k) = 0 := by unfold stOf; rw [hE]; simp [h0]
        rw [hz]
        clear HS hE h0 hz
        cases hc : startB s[k]
        all_goals
          go_wp2_with (go_at_call 17; refine (start_any _ _).mono ?_; rintro e w' ⟨rfl, rfl⟩)
          refine ⟨⟨k + 1, by omega, by go_num, ?_⟩, by simp [intOf]; omega⟩
          rw [H1.out, hc]; rfl
      · cases hp : okP (s.data.toList.take k)
        · have hz : stOf (s.data.toList.take k) = 2 := by unfold stOf; rw [hE, hp]; simp [h0]
          have H1 : Hid (stOf (s.data.toList.take (k + 1)) = 2) := by rw [HS.out, hE, hp]; simp [h0]; exact trivial
          rw [hz]
          clear HS hE h0 hz hp
          go_wp2
          refine ⟨⟨k + 1, by omega, by go_num, ?_⟩, by simp [intOf]; omega⟩
          rw [H1.out]
        · have hz : stOf (s.data.toList.take k) = 1 := by unfold stOf; rw [hE, hp]; simp [h0]
          have H1 : Hid (stOf (s.data.toList.take (k + 1)) = if contB s[k] then 1 else 2) := by rw [HS.out, hE, hp]; simp [h0]; exact trivial
          rw [hz]
          clear HS hE h0 hz hp
          cases hc : startB s[k] <;> cases hd : digB s[k]
          all_goals
            go_wp2_with (first | (go_at_call 17; refine (start_any _ _).mono ?_; rintro e w' ⟨rfl, rfl⟩) | (go_at_call 18; refine (dec_any _ _).mono ?_; rintro e w' ⟨rfl, rfl⟩))
            refine ⟨⟨k + 1, by omega, by go_num, ?_⟩, by simp [intOf]; omega⟩
            rw [H1.out]; unfold contB; rw [hc, hd]; rfl
    · go_wp2
      go_ret
      refine ⟨ret_bool ?_, rfl⟩
      rw [List.take_of_length_le (by omega)]
      exact ident_st _ (by omega)
end Go.Proofs.Qxb6605164aDoor
