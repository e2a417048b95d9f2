/-
  THE PLAIN LAYER: the grammar by counting says what the reader's cuts say. No Go in sight.
-/
import Derived.Test.Qxb6606252aFmtMp
namespace Go.Proofs.Qxb6606252aFmt
open Go

theorem part_sep (c : UInt8) (hc : c.toNat < 128) (h42 : c ≠ 42) (f wild : Bool) (hb : badR f c.toNat = true) (s : ByteArray) (h : c ∈ s.data.toList) : partOk f wild s = false := by
  unfold partOk
  rw [okRunes_ascii (badR f) s c h hc hb]
  have : (s.data.toList == [42]) = false := by
    rw [beq_eq_false_iff_ne]; intro e; rw [e] at h; simp at h; exact h42 h
  rw [this]
  simp
theorem part_c (f wild : Bool) (s : ByteArray) (h : 58 ∈ s.data.toList) : partOk f wild s = false := part_sep 58 (by decide) (by decide) f wild rfl s h
theorem part_h (f wild : Bool) (s : ByteArray) (h : 35 ∈ s.data.toList) : partOk f wild s = false := part_sep 35 (by decide) (by decide) f wild rfl s h

/-- The object's grammar. -/
theorem obj_fin (fm : Bool) (s : ByteArray) (n p : Int) (h : St 58 s s.size n p) :
    (n ≠ 1 ∧ objOk fm s = false) ∨
    (n = 1 ∧ ∃ j : Nat, p = j ∧ j < s.size ∧ cutA 58 s = s.extract 0 j ∧ cutB 58 s = s.extract (j + 1) s.size ∧ objOk fm s = (partOk fm false (s.extract 0 j) && partOk fm false (s.extract (j + 1) s.size))) := by
  rcases h.fin with ⟨h1, _, hn⟩ | ⟨a, r, e, hn, hp, hc⟩
  · refine .inl ⟨by omega, ?_⟩
    unfold objOk
    rw [(cut_none 58 s hn).1]; rfl
  · obtain ⟨k1, k2, k3, k4, k5⟩ := cut_parts 58 s a r e hn
    have hs : s.size = a.length + (r.length + 1) := by rw [Lib.size_eq, e]; simp
    by_cases h0 : r.count 58 = 0
    · refine .inr ⟨by omega, a.length, hp, by omega, k4, k5, ?_⟩
      unfold objOk
      rw [k1, k4, k5, Bool.true_and]
    · refine .inl ⟨by omega, ?_⟩
      unfold objOk
      rw [part_c fm false (cutB 58 s) (by rw [k3]; exact List.count_pos_iff.1 (by omega))]
      simp

/-- The user's grammar. -/
theorem usr_fin (fm : Bool) (s : ByteArray) (n p m q : Int) (h : St 58 s s.size n p) (g : St 35 s s.size m q) :
    ((n ≠ 1 ∨ 1 < m ∨ (m = 1 ∧ q < p)) ∧ usrOk fm s = false) ∨
    (n = 1 ∧ m = 0 ∧ ∃ j : Nat, p = j ∧ j < s.size ∧ cutA 58 s = s.extract 0 j ∧ cutA 35 (cutB 58 s) = s.extract (j + 1) s.size ∧ cutB 35 (cutB 58 s) = ⟨#[]⟩ ∧
      usrOk fm s = (partOk fm false (s.extract 0 j) && partOk fm true (s.extract (j + 1) s.size))) ∨
    (n = 1 ∧ m = 1 ∧ ∃ j k : Nat, p = j ∧ q = k ∧ j < k ∧ k < s.size ∧ cutA 58 s = s.extract 0 j ∧ cutA 35 (cutB 58 s) = s.extract (j + 1) k ∧ cutB 35 (cutB 58 s) = s.extract (k + 1) s.size ∧
      usrOk fm s = ((partOk fm false (s.extract 0 j) && partOk fm false (s.extract (j + 1) k)) && partOk fm false (s.extract (k + 1) s.size))) := by
  rcases h.fin with ⟨h1, _, hn⟩ | ⟨a, r, e, hn, hp, hc⟩
  · refine .inl ⟨.inl (by omega), ?_⟩
    unfold usrOk
    rw [(cut_none 58 s hn).1]; rfl
  obtain ⟨k1, k2, k3, k4, k5⟩ := cut_parts 58 s a r e hn
  have hs : s.size = a.length + (r.length + 1) := by rw [Lib.size_eq, e]; simp
  by_cases h0 : r.count 58 = 0
  case neg =>
    refine .inl ⟨.inl (by omega), ?_⟩
    have hm : 58 ∈ r := List.count_pos_iff.1 (by omega)
    unfold usrOk
    rcases part_at 35 r with hx | ⟨x, y, ex, hx⟩
    · rw [(cut_none 35 (cutB 58 s) (by rw [k3]; exact hx)).2.1, part_c fm _ (cutB 58 s) (by rw [k3]; exact hm)]
      simp
    · obtain ⟨l1, l2, l3, _, _⟩ := cut_parts 35 (cutB 58 s) x y (by rw [k3]; exact ex) hx
      rw [ex] at hm
      rcases List.mem_append.1 hm with hm | hm
      · rw [part_c fm _ (cutA 35 (cutB 58 s)) (by rw [l2]; exact hm)]
        simp
      · have hm' : 58 ∈ y := by simpa using hm
        rw [l1, part_c fm false (cutB 35 (cutB 58 s)) (by rw [l3]; exact hm')]
        simp
  by_cases ha : 35 ∈ a
  · -- a hash ahead of the colon
    refine .inl ⟨?_, ?_⟩
    · rcases g.fin with ⟨_, _, gn⟩ | ⟨a2, r2, e2, hn2, hq, hc2⟩
      · exact absurd (by rw [e]; exact List.mem_append_left _ ha) gn
      · have hlt : a2.length < a.length := by
          obtain ⟨x, y, ex, hx⟩ : ∃ x y, a = x ++ 35 :: y ∧ 35 ∉ x := by
            rcases part_at 35 a with hh | hh
            · exact absurd ha hh
            · exact hh
          have : s.data.toList.idxOf 35 = x.length := by
            rw [e, ex]
            rw [show (x ++ 35 :: y) ++ 58 :: r = x ++ 35 :: (y ++ 58 :: r) by simp]
            exact idx_mid 35 _ _ hx
          have h2 : s.data.toList.idxOf 35 = a2.length := by rw [e2]; exact idx_mid 35 _ _ hn2
          rw [ex]; simp; omega
        omega
    · unfold usrOk
      rw [part_h fm false (cutA 58 s) (by rw [k2]; exact ha)]
      simp
  rcases part_at 35 r with hx | ⟨x, y, ex, hx⟩
  · -- no hash
    have gn : 35 ∉ s.data.toList := by
      rw [e]; simp only [List.mem_append, List.mem_cons]
      rintro (hh | hh | hh)
      · exact ha hh
      · cases hh
      · exact hx hh
    obtain ⟨c1, c2, c3⟩ := cut_none 35 (cutB 58 s) (by rw [k3]; exact hx)
    rcases g.fin with ⟨g1, _, _⟩ | ⟨a2, r2, e2, _, _, _⟩
    · refine .inr (.inl ⟨by omega, g1, a.length, hp, by omega, k4, by rw [c2, k5], c3, ?_⟩)
      unfold usrOk
      rw [k1, c1, c2, k4, k5]
      simp
    · exact absurd (by rw [e2]; simp) gn
  · obtain ⟨l1, l2, l3, l4, l5⟩ := cut_parts 35 (cutB 58 s) x y (by rw [k3]; exact ex) hx
    have es : s.data.toList = (a ++ 58 :: x) ++ 35 :: y := by rw [e, ex]; simp
    have hnx : 35 ∉ a ++ 58 :: x := by
      simp only [List.mem_append, List.mem_cons]
      rintro (hh | hh | hh)
      · exact ha hh
      · cases hh
      · exact hx hh
    have hm : m = 1 + (y.count 35 : Nat) ∧ q = ((a ++ 58 :: x).length : Nat) := by
      have hidx : s.data.toList.idxOf 35 = (a ++ 58 :: x).length := by rw [es]; exact idx_mid 35 _ _ hnx
      rcases g.fin with ⟨_, _, gn⟩ | ⟨a2, r2, e2, hn2, hq, hc2⟩
      · exact absurd (by rw [es]; simp) gn
      · have h2 : s.data.toList.idxOf 35 = a2.length := by rw [e2]; exact idx_mid 35 _ _ hn2
        have h3 : s.data.toList.count 35 = 1 + r2.count 35 := by rw [e2, List.count_append, List.count_eq_zero.2 hn2, List.count_cons_self]; omega
        have h4 : s.data.toList.count 35 = 1 + y.count 35 := by rw [es, List.count_append, List.count_eq_zero.2 hnx, List.count_cons_self]; omega
        omega
    obtain ⟨hm, hq⟩ := hm
    have hlen : (a ++ 58 :: x).length = a.length + 1 + x.length := by simp; omega
    have hrl : r.length = x.length + (y.length + 1) := by rw [ex]; simp
    by_cases hy : y.count 35 = 0
    · have eA : cutA 35 (cutB 58 s) = s.extract (a.length + 1) (a.length + 1 + x.length) := by
        apply array_ext
        rw [l2, Lib.extract_data, es]
        rw [show (a ++ 58 :: x) ++ 35 :: y = (a ++ [58]) ++ (x ++ 35 :: y) by simp, List.drop_append_of_le_length (by simp), List.drop_of_length_le (by simp), List.nil_append, Nat.add_sub_cancel_left]
        simp
      have eB : cutB 35 (cutB 58 s) = s.extract (a.length + 1 + x.length + 1) s.size := by
        apply array_ext
        have eS : s.data.toList = (a ++ 58 :: x ++ [35]) ++ y := by rw [es]; simp
        have hl2 : (a ++ 58 :: x ++ [35]).length = a.length + 1 + x.length + 1 := by simp; omega
        rw [l3, Lib.extract_data, eS, ← hl2, List.drop_left, List.take_of_length_le (by rw [hl2, hs, hrl]; omega)]
      refine .inr (.inr ⟨by omega, by omega, a.length, a.length + 1 + x.length, hp, by omega, by omega, by omega, k4, eA, eB, ?_⟩)
      unfold usrOk
      rw [k1, l1, k4, eA, eB]
      simp
    · refine .inl ⟨.inr (.inl (by omega)), ?_⟩
      unfold usrOk
      rw [l1, part_h fm false (cutB 35 (cutB 58 s)) (by rw [l3]; exact List.count_pos_iff.1 (by omega))]
      simp
end Go.Proofs.Qxb6606252aFmt
