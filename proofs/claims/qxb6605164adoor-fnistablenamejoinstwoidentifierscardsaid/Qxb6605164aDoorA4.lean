/-
  THE WALK of isTableName over strings.Split's contract.
-/
import Derived.Test.Qxb6605164aDoorA2
import Derived.Test.Qxb6605164aDoorCut
import Derived.Test.Qxb6605164aDoorShelf
import Derived.Handy
namespace Go.Proofs.Qxb6605164aDoor
open Go.RowKit

theorem dot_index_no (s : ByteArray) (h : s.data.toList.count 46 = 0) : Lib.indexB s ⟨#[46]⟩ = -1 :=
  index_no 46 _ (fun hm => by have := List.count_pos_iff.2 hm; omega)
theorem dot_index (s : ByteArray) (h : s.data.toList.count 46 ≠ 0) : Lib.indexB s ⟨#[46]⟩ = ((s.data.toList.idxOf 46 : Nat) : Int) := by
  show Lib.index s.data.toList [46] = _
  rcases part_at 46 s.data.toList with hn | ⟨a, r, e, hn⟩
  · exact absurd (List.count_eq_zero.2 hn) h
  · rw [e, index_yes 46 r a hn, List.idxOf_append, if_neg hn, List.idxOf_cons_self]
    simp
theorem dot_count (s : ByteArray) : Lib.countB s ⟨#[46]⟩ = s.data.toList.count 46 := Lib.count_one 46 _

/-- strings.Split at a dot: no dot, one dot, more. -/
theorem split_none (s : ByteArray) (w : World) (hsh : w.ShapedOpen Tryd.prog) (hs : s.size ≤ 1048577) (h : s.data.toList.count 46 = 0) :
    Calls Tryd.prog 20 #[.string s, .string ⟨#[46]⟩] w fun e w' => e = .returned (.slice (some ⟨w.heap.size, 0, none⟩) 1 1) ∧ w' = w.alloc (.cells #[.string s] 9) := by
  have hcon := Any.strings_Split_shaped Tryd.laysM146 s ⟨#[46]⟩ w hsh (by omega) (by decide)
  rw [dot_count, h] at hcon
  exact hcon
theorem split_one (s : ByteArray) (w : World) (hsh : w.ShapedOpen Tryd.prog) (hs : s.size ≤ 1048577) (h : s.data.toList.count 46 = 1) :
    Calls Tryd.prog 20 #[.string s, .string ⟨#[46]⟩] w fun e w' => e = .returned (.slice (some ⟨w.heap.size, 0, none⟩) 2 2) ∧ w' = w.alloc (.cells #[.string (s.extract 0 (s.data.toList.idxOf 46)), .string (s.extract (s.data.toList.idxOf 46 + 1) s.size)] 9) := by
  have hcon := Any.strings_Split_shaped Tryd.laysM146 s ⟨#[46]⟩ w hsh (by omega) (by decide)
  rw [dot_count, h, Lib.splitB_hit ⟨#[46]⟩ 0 0 s _ (dot_index s (by omega))] at hcon
  exact hcon
theorem split_many (s : ByteArray) (w : World) (hsh : w.ShapedOpen Tryd.prog) (hs : s.size ≤ 1048577) (n : Nat) (h : s.data.toList.count 46 = n) :
    Calls Tryd.prog 20 #[.string s, .string ⟨#[46]⟩] w fun e w' => e = .returned (.slice (some ⟨w.heap.size, 0, none⟩) (n + 1) (n + 1)) ∧ ∃ o, w' = w.alloc o := by
  have hcon := Any.strings_Split_shaped Tryd.laysM146 s ⟨#[46]⟩ w hsh (by omega) (by decide)
  rw [dot_count, h] at hcon
  exact hcon.mono fun e w' ⟨h1, h2⟩ => ⟨h1, _, h2⟩

set_option maxHeartbeats 800000 in
theorem table_any (s : ByteArray) (w : World) (hsh : w.ShapedOpen Tryd.prog) (hs : s.size ≤ 1048577) :
    Calls Tryd.prog 15 #[.string s] w fun e w' => e = .returned (.bool (dotted s.data.toList)) ∧ ∃ o, w' = w.alloc o := by
  have hlen : s.data.toList.length = s.size := by simp
  by_cases h0 : s.data.toList.count 46 = 0
  · have hD : dotted s.data.toList = ident s.data.toList := by unfold dotted; rw [if_pos h0]
    rw [hD]
    have hcon := split_none s w hsh hs h0
    clear h0 hD hsh
    cases hi : ident s.data.toList
    · go_enter Tryd.func15, Tryd.ntmps15
      go_wp2_with (go_at_call 20; refine hcon.mono ?_; rintro e w' ⟨rfl, rfl⟩)
      refine wp_loop_rounds 1 ?_
      rw [rounds_succ]
      go_wp2_with (go_at_call 16; refine (ident_any _ _).mono ?_; rintro e w' ⟨rfl, rfl⟩)
      go_ret
      exact ⟨rfl, _, rfl⟩
    · go_enter Tryd.func15, Tryd.ntmps15
      go_wp2_with (go_at_call 20; refine hcon.mono ?_; rintro e w' ⟨rfl, rfl⟩)
      refine wp_loop_rounds 2 ?_
      rw [rounds_succ]
      go_wp2_with (go_at_call 16; refine (ident_any _ _).mono ?_; rintro e w' ⟨rfl, rfl⟩)
      rw [rounds_succ]
      go_wp2
      go_ret
      exact ⟨rfl, _, rfl⟩
  by_cases h1 : s.data.toList.count 46 = 1
  · have hx := idx_lt s.data.toList h0
    rw [hlen] at hx
    have hD : dotted s.data.toList = (ident (s.data.toList.take (s.data.toList.idxOf 46)) && ident ((s.data.toList.drop (s.data.toList.idxOf 46 + 1)).take (s.size - (s.data.toList.idxOf 46 + 1)))) := by
      unfold dotted
      rw [if_neg h0, if_pos h1, List.take_of_length_le (l := List.drop (_ + 1) _)]
      rw [List.length_drop, hlen]; omega
    rw [hD]
    have hcon := split_one s w hsh hs h1
    clear h0 h1 hD hsh
    generalize s.data.toList.idxOf 46 = x at hx hcon ⊢
    cases hi : ident (s.data.toList.take x)
    · go_enter Tryd.func15, Tryd.ntmps15
      go_wp2_with (go_at_call 20; refine hcon.mono ?_; rintro e w' ⟨rfl, rfl⟩)
      refine wp_loop_rounds 1 ?_
      rw [rounds_succ]
      go_wp2_with (go_at_call 16; refine (ident_any _ _).mono ?_; rintro e w' ⟨rfl, rfl⟩)
      go_ret
      exact ⟨rfl, _, rfl⟩
    · cases hj : ident ((s.data.toList.drop (x + 1)).take (s.size - (x + 1)))
      · go_enter Tryd.func15, Tryd.ntmps15
        go_wp2_with (go_at_call 20; refine hcon.mono ?_; rintro e w' ⟨rfl, rfl⟩)
        refine wp_loop_rounds 2 ?_
        rw [rounds_succ]
        go_wp2_with (go_at_call 16; refine (ident_any _ _).mono ?_; rintro e w' ⟨rfl, rfl⟩)
        rw [rounds_succ]
        go_wp2_with (go_at_call 16; refine (ident_any _ _).mono ?_; rintro e w' ⟨rfl, rfl⟩)
        go_ret
        exact ⟨rfl, _, rfl⟩
      · go_enter Tryd.func15, Tryd.ntmps15
        go_wp2_with (go_at_call 20; refine hcon.mono ?_; rintro e w' ⟨rfl, rfl⟩)
        refine wp_loop_rounds 3 ?_
        rw [rounds_succ]
        go_wp2_with (go_at_call 16; refine (ident_any _ _).mono ?_; rintro e w' ⟨rfl, rfl⟩)
        rw [rounds_succ]
        go_wp2_with (go_at_call 16; refine (ident_any _ _).mono ?_; rintro e w' ⟨rfl, rfl⟩)
        rw [rounds_succ]
        go_wp2
        go_ret
        exact ⟨rfl, _, rfl⟩
  · have hD : dotted s.data.toList = false := by unfold dotted; rw [if_neg h0, if_neg h1]
    rw [hD]
    have hcl : s.data.toList.count 46 ≤ s.size := by rw [← hlen]; exact List.count_le_length
    have h2 : 2 ≤ s.data.toList.count 46 := by omega
    have hcon := split_many s w hsh hs _ rfl
    clear h0 h1 hD hsh
    generalize s.data.toList.count 46 = n at hcl h2 hcon
    go_enter Tryd.func15, Tryd.ntmps15
    go_wp2_with (go_at_call 20; refine hcon.mono ?_; rintro e w' ⟨rfl, o, rfl⟩)
    go_ret
    exact ⟨rfl, _, rfl⟩

theorem zztable_any (s : ByteArray) (w : World) (hsh : w.ShapedOpen Tryd.prog) (hs : s.size ≤ 1048577) :
    Calls Tryd.prog 7 #[.string s] w fun e w' => e = .returned (.bool (dotted s.data.toList)) ∧ ∃ o, w' = w.alloc o := by
  go_enter Tryd.func7, Tryd.ntmps7
  go_wp2_with (go_at_call 15; refine (table_any _ _ hsh hs).mono ?_; rintro e w' ⟨rfl, o, rfl⟩)
  go_ret
  exact ⟨rfl, _, rfl⟩
theorem zzident_any (s : ByteArray) (w : World) :
    Calls Tryd.prog 10 #[.string s] w fun e w' => e = .returned (.bool (ident s.data.toList)) ∧ w' = w := by
  go_enter Tryd.func10, Tryd.ntmps10
  go_wp2_with (go_at_call 16; refine (ident_any _ _).mono ?_; rintro e w' ⟨rfl, rfl⟩)
  go_ret
  exact ⟨rfl, rfl⟩
end Go.Proofs.Qxb6605164aDoor
