/-
  THE WALK of strconv.QuoteRune at an ASCII rune that is neither the quote nor a backslash: it gives some short text; nothing that was there has turned.
-/
import Derived.Test.Qxb6606252aFmtProg
import Derived.WalkKit
import Derived.WalkSpells
import Derived.Handy
import Derived.Lib.BufSteps
import Derived.Lib.Quote
import Derived.Laws.BytesArg
import Derived.BigCall
namespace Go.Proofs.Qxb6606252aFmt
open Go.RowKit

theorem byteInfo : (Tryf.prog.info? 5).map (fun i => (i.zero, i.size, i.bytes)) = some (some (.int .u8 0), 1, 1) := by kernel_rfl

theorem isPrint_ascii (r : Int) (w : World) (h0 : 0 ≤ r) (h1 : r ≤ 127) :
    Calls Tryf.prog 54 #[.int .i32 r] w fun e w' => e = .returned (.bool (decide (32 ≤ r) && decide (r ≤ 126))) ∧ w' = w := by
  by_cases h : 32 ≤ r
  · rw [decide_eq_true h]
    by_cases h2 : r ≤ 126
    · rw [decide_eq_true h2]
      go_enter Tryf.func54, Tryf.ntmps54
      go_wp2
      go_ret
      exact ⟨rfl, rfl⟩
    · rw [decide_eq_false h2]
      go_enter Tryf.func54, Tryf.ntmps54
      go_wp2
      go_ret
      exact ⟨rfl, rfl⟩
  · rw [decide_eq_false h]
    go_enter Tryf.func54, Tryf.ntmps54
    go_wp2
    go_ret
    exact ⟨rfl, rfl⟩
theorem validRune_ascii (r : Int) (w : World) (h0 : 0 ≤ r) (h1 : r ≤ 127) :
    Calls Tryf.prog 52 #[.int .i32 r] w fun e w' => e = .returned (.bool true) ∧ w' = w := by
  go_enter Tryf.func52, Tryf.ntmps52
  go_wp2
  go_ret
  exact ⟨rfl, rfl⟩

/-- A buffer of bytes that the call owns, and what it holds. -/
def Buf (B : Nat) (v : Value) (zs : List Int) (W0 w : World) : Prop := Lib.OwnBuf B 5 v zs.length (Lib.intCells zs) W0 w

set_option maxHeartbeats 800000 in
theorem appendRune_ascii (B : Nat) (v : Value) (zs : List Int) (r : Int) (W0 w : World) (hb : Buf B v zs W0 w) (hl : zs.length ≤ 100) (h0 : 0 ≤ r) (h1 : r ≤ 127) :
    Calls Tryf.prog 56 #[v, .int .i32 r] w fun e w' => ∃ v', e = .returned v' ∧ Buf B v' (zs ++ [r]) W0 w' := by
  obtain ⟨i0, hi, hz0, hz1, hz2⟩ := info_parts byteInfo
  unfold Buf at hb
  go_enter Tryf.func56, Tryf.ntmps56
  go_big_wp2_with (at_builtin; refine Lib.wpList_append_byte rfl _ _ 92 rfl B 5 i0 Tryf.underlying92 hi hz0 hz1 hz2 _ _ _ rfl W0 _ _ (by assumption) rfl (by omega) ?_; intro _ _ hb2)
  go_ret
  refine ⟨_, rfl, ?_⟩
  unfold Buf
  simpa [Lib.intCells] using hb2

/-- What each escape leaves: some bytes more, at most four. -/
def Longer (B : Nat) (zs : List Int) (W0 : World) (e : Ending) (w' : World) : Prop := ∃ v' ys, e = .returned v' ∧ Buf B v' (zs ++ ys) W0 w' ∧ ys.length ≤ 4

theorem buf_text {B : Nat} {v : Value} {zs : List Int} {W0 w : World} (s : ByteArray) (h : Lib.OwnBuf B 5 v (zs.length + s.size) (Lib.intCells zs ++ Lib.strCells s) W0 w) :
    Buf B v (zs ++ s.data.toList.map fun b => (b.toNat : Int)) W0 w := by
  unfold Buf
  have e1 : (zs ++ s.data.toList.map fun b => ((b.toNat : Nat) : Int)).length = zs.length + s.size := by simp
  have e2 : Lib.intCells (zs ++ s.data.toList.map fun b => ((b.toNat : Nat) : Int)) = Lib.intCells zs ++ Lib.strCells s := by
    simp [Lib.intCells, Lib.strCells]
  rw [e1, e2]; exact h

set_option maxHeartbeats 1600000 in
theorem escape_print (B : Nat) (v : Value) (zs : List Int) (r : Int) (W0 w : World) (hb : Buf B v zs W0 w) (hl : zs.length ≤ 100) (h0 : 32 ≤ r) (h1 : r ≤ 126) (hq : (r == 39) = false) (hs : (r == 92) = false) :
    Calls Tryf.prog 53 #[v, .int .i32 r, .int .u8 39, .bool false, .bool false] w (Longer B zs W0) := by
  have c1 := fun w => isPrint_ascii r w (by omega) (by omega)
  rw [decide_eq_true h0, decide_eq_true h1] at c1
  have c2 := appendRune_ascii B v zs r W0 w hb hl (by omega) (by omega)
  go_enter Tryf.func53, Tryf.ntmps53
  go_wp2_with (first | (go_at_call 54; refine (c1 _).mono ?_; rintro e w' ⟨rfl, rfl⟩) | (go_at_call 56; refine c2.mono ?_; rintro e w' ⟨v', rfl, hb'⟩))
  go_ret
  exact ⟨v', [r], rfl, hb', by simp⟩

set_option maxHeartbeats 3200000 in
theorem escape_named (B : Nat) (v : Value) (zs : List Int) (r : Int) (W0 w : World) (hb : Buf B v zs W0 w) (hl : zs.length ≤ 100) (hr : r = 7 ∨ r = 8 ∨ r = 9 ∨ r = 10 ∨ r = 11 ∨ r = 12 ∨ r = 13) :
    Calls Tryf.prog 53 #[v, .int .i32 r, .int .u8 39, .bool false, .bool false] w (Longer B zs W0) := by
  obtain ⟨i0, hi, hz0, hz1, hz2⟩ := info_parts byteInfo
  have c1 := fun w => isPrint_ascii r w (by omega) (by omega)
  rw [decide_eq_false (by omega), Bool.false_and] at c1
  unfold Buf at hb
  rcases hr with rfl | rfl | rfl | rfl | rfl | rfl | rfl
  all_goals go_enter Tryf.func53, Tryf.ntmps53
  all_goals go_big_wp2_with (first | (go_at_call 54; refine (c1 _).mono ?_; rintro e w' ⟨rfl, rfl⟩) | (at_builtin; refine Lib.wpList_append_text rfl _ _ 92 9 rfl B 5 i0 Tryf.underlying92 Tryf.underlying9 hi hz0 hz1 hz2 _ _ _ rfl W0 (by assumption) _ rfl (by simp only [Lib.size_two]; omega) ?_; intro _ _ hb2))
  all_goals go_ret
  all_goals exact ⟨_, _, rfl, buf_text _ hb2, by simp⟩

theorem buf_byte {B : Nat} {v : Value} {zs : List Int} {c : Int} {W0 w : World} (h : Lib.OwnBuf B 5 v (zs.length + 1) (Lib.intCells zs ++ [.int .u8 c]) W0 w) : Buf B v (zs ++ [c]) W0 w := by
  unfold Buf
  simpa [Lib.intCells] using h
theorem buf_hex {B : Nat} {v : Value} {zs : List Int} {c d : Int} {W0 w : World} (h : Lib.OwnBuf B 5 v (zs.length + (ByteArray.mk #[92, 120]).size + 1 + 1) (Lib.intCells zs ++ Lib.strCells ⟨#[92, 120]⟩ ++ [.int .u8 c] ++ [.int .u8 d]) W0 w) : Buf B v (zs ++ [92, 120, c, d]) W0 w := by
  unfold Buf
  have e1 : (zs ++ [92, 120, c, d]).length = zs.length + (ByteArray.mk #[92, 120]).size + 1 + 1 := by rw [List.length_append]; rfl
  have e2 : Lib.intCells (zs ++ [92, 120, c, d]) = Lib.intCells zs ++ Lib.strCells ⟨#[92, 120]⟩ ++ [.int .u8 c] ++ [.int .u8 d] := by
    simp [Lib.intCells, Lib.strCells]
  rw [e1, e2]; exact h
set_option maxHeartbeats 6400000 in
theorem escape_hex (B : Nat) (v : Value) (zs : List Int) (r : Int) (W0 w : World) (hb : Buf B v zs W0 w) (hl : zs.length ≤ 100) (hr : (0 ≤ r ∧ r ≤ 6) ∨ (14 ≤ r ∧ r ≤ 31) ∨ r = 127) :
    Calls Tryf.prog 53 #[v, .int .i32 r, .int .u8 39, .bool false, .bool false] w (Longer B zs W0) := by
  obtain ⟨i0, hi, hz0, hz1, hz2⟩ := info_parts byteInfo
  have c1 := fun w => isPrint_ascii r w (by omega) (by omega)
  have hp : (decide (32 ≤ r) && decide (r ≤ 126)) = false := by rw [Bool.and_eq_false_iff, decide_eq_false_iff_not, decide_eq_false_iff_not]; omega
  rw [hp] at c1
  clear hp
  unfold Buf at hb
  have hr' : r = 0 ∨ r = 1 ∨ r = 2 ∨ r = 3 ∨ r = 4 ∨ r = 5 ∨ r = 6 ∨ r = 14 ∨ r = 15 ∨ r = 16 ∨ r = 17 ∨ r = 18 ∨ r = 19 ∨ r = 20 ∨ r = 21 ∨ r = 22 ∨ r = 23 ∨ r = 24 ∨ r = 25 ∨ r = 26 ∨ r = 27 ∨ r = 28 ∨ r = 29 ∨ r = 30 ∨ r = 31 ∨ r = 127 := by omega
  clear hr
  rcases hr' with rfl | rfl | rfl | rfl | rfl | rfl | rfl | rfl | rfl | rfl | rfl | rfl | rfl | rfl | rfl | rfl | rfl | rfl | rfl | rfl | rfl | rfl | rfl | rfl | rfl | rfl
  all_goals go_enter Tryf.func53, Tryf.ntmps53
  all_goals go_big_wp2_with (first | (go_at_call 54; refine (c1 _).mono ?_; rintro e w' ⟨rfl, rfl⟩) | (at_builtin; first | (refine Lib.wpList_append_byte rfl _ _ 92 rfl B 5 i0 Tryf.underlying92 hi hz0 hz1 hz2 _ _ _ rfl W0 _ _ (by assumption) rfl (by simp only [Lib.size_two]; omega) ?_; intro _ _ hb3) | (refine Lib.wpList_append_text rfl _ _ 92 9 rfl B 5 i0 Tryf.underlying92 Tryf.underlying9 hi hz0 hz1 hz2 _ _ _ rfl W0 (by assumption) _ rfl (by simp only [Lib.size_two]; omega) ?_; intro _ _ hb2)))
  all_goals go_ret
  all_goals exact ⟨_, [92, 120, _, _], rfl, buf_hex hb3, by simp⟩

theorem escape_any (B : Nat) (v : Value) (zs : List Int) (r : Int) (W0 w : World) (hb : Buf B v zs W0 w) (hl : zs.length ≤ 100) (h0 : 0 ≤ r) (h1 : r ≤ 127) (hq : r ≠ 39) (hs : r ≠ 92) :
    Calls Tryf.prog 53 #[v, .int .i32 r, .int .u8 39, .bool false, .bool false] w (Longer B zs W0) := by
  by_cases hp : 32 ≤ r ∧ r ≤ 126
  · exact escape_print B v zs r W0 w hb hl hp.1 hp.2 (by rw [beq_eq_false_iff_ne]; exact hq) (by rw [beq_eq_false_iff_ne]; exact hs)
  · by_cases hn : 7 ≤ r ∧ r ≤ 13
    · exact escape_named B v zs r W0 w hb hl (by omega)
    · exact escape_hex B v zs r W0 w hb hl (by omega)

end Go.Proofs.Qxb6606252aFmt
