/-
  THE WALK of the law's own zzIsCf: the general category Cf; cut inside its one region (written by program).
-/
import Derived.Test.Qxb6606252aFmtZa
import Derived.Test.Qxb6606252aFmtZz1
import Derived.Test.Qxb6606252aFmtZz3
import Derived.Deep.DeepCutAuto
import Derived.Deep.CutBlock
namespace Go.Proofs.Qxb6606252aFmt
open Go.RowKit

theorem iff_t {p : Prop} (h : p) : true = true ↔ p := ⟨fun _ => h, fun _ => rfl⟩
theorem iff_f {p : Prop} (h : ¬ p) : false = true ↔ p := ⟨(fun e => by cases e), fun h' => absurd h' h⟩
/-- The i-th value of a list. -/
def nthV : List Value → Nat → Value
  | [], _ => undef
  | a :: _, 0 => a
  | _ :: l, n + 1 => nthV l n
/-- A region's operations in two pieces: between them the frame is 'mk u b', where b says whether p. -/
theorem cut_chunk {P : Program} {ops : Array Oper} {Q : Exit → Act → World → Prop} {l : List Oper} {a : Act} {w : World} (k : Nat) (p : Prop) (mk : (Nat → Value) → Bool → Array Value)
    (h1 : ∀ K : Act → World → Prop, Hid (∀ (b : Bool) (u : Nat → Value), Hid (b = true ↔ p) → K { tmps := mk u b, defers := [] } w) → wpList P ops (Exit.then K Q) (l.take k) a w)
    (h2 : ∀ (b : Bool) (u : Nat → Value), Hid (b = true ↔ p) → wpList P ops Q (l.drop k) { tmps := mk u b, defers := [] } w) : wpList P ops Q l a w := by
  have := wpList_app (Q' := Exit.then (fun a' w' => ∃ (b : Bool) (u : Nat → Value), Hid (b = true ↔ p) ∧ a' = { tmps := mk u b, defers := [] } ∧ w' = w) Q) (Q := Q) (ops := ops) (P := P) (l.drop k)
    (fun a w ⟨b, u, h, e, e'⟩ => by subst e; subst e'; exact h2 b u h) (fun e a w hne h => by cases e <;> first | exact absurd rfl hne | exact h) (l.take k) a w (h1 _ fun b u h => ⟨b, u, h, rfl, rfl⟩)
  rwa [List.take_append_drop] at this
/-- A piece's end: the frame read off. -/
theorem cut_give {K : Act → World → Prop} {w : World} {p : Prop} {mk : (Nat → Value) → Bool → Array Value} (hK : Hid (∀ (b : Bool) (u : Nat → Value), Hid (b = true ↔ p) → K { tmps := mk u b, defers := [] } w))
    {t : Array Value} (b : Bool) (h : mk (nthV t.toList) b = t) (hb : b = true ↔ p) : K { tmps := t, defers := [] } w := by
  have := hK.out b (nthV t.toList) hb
  rwa [h] at this

set_option maxHeartbeats 16000000 in
set_option maxRecDepth 100000 in
theorem zzCf_walk (r : Nat) (w : World) (_hr : r ≤ 2147483647) :
    Calls Tryf.prog 27 #[.int .i32 r] w (SaysB (cfQ r) w) := by
  go_enter Tryf.func27, Tryf.ntmps27
  go_upto_region 1 with fail
  refine wp_region_lit ?_
  refine cut_chunk 18 (r = 173 ∨ (1536 ≤ r ∧ r ≤ 1541) ∨ r = 1564 ∨ r = 1757) (fun u b => #[.int .i32 r, undef, .bool false, u 3, u 4, u 5, u 6, u 7, u 8, u 9, u 10, u 11, u 12, u 13, u 14, u 15, u 16, u 17, u 18, u 19, .bool b, undef, undef, undef, undef, undef, undef, undef, undef, undef, undef, undef, undef, undef, undef, undef, undef, undef, undef, undef, undef, undef, undef, undef, undef, undef, undef, undef, undef, undef, undef, undef, undef, undef, undef, undef, undef, undef, undef, undef, undef, undef, undef, undef, undef, undef, undef, undef, undef, undef, undef, undef, undef, undef, undef, undef, undef, undef, undef, undef, undef, undef, undef, undef, undef, undef, undef, undef, undef, undef, undef, undef, undef, undef, undef, undef, undef, undef, undef, undef, undef, undef, undef, undef, undef, undef, undef, undef, undef, undef, undef, undef, undef, undef, undef, undef, undef, undef, undef, undef, undef, undef, undef, undef, undef, undef, undef, undef, undef]) ?_ ?_
  · intro K hK
    simp [List.take]
    have hu : undef = Value.tuple #[] := rfl
    go_wp2
    all_goals (first | exact cut_give hK _ rfl (by first | exact iff_t (by omega) | exact iff_f (by omega) | (simp only [Bool.or_eq_true, decide_eq_true_eq, beq_iff_eq]; omega)) | (obtain rfl : r = 173 := (by omega); exact cut_give hK _ rfl (by first | exact iff_t (by omega) | exact iff_f (by omega) | (simp only [Bool.or_eq_true, decide_eq_true_eq, beq_iff_eq]; omega))) | (obtain rfl : r = 1564 := (by omega); exact cut_give hK _ rfl (by first | exact iff_t (by omega) | exact iff_f (by omega) | (simp only [Bool.or_eq_true, decide_eq_true_eq, beq_iff_eq]; omega))) | (obtain rfl : r = 1757 := (by omega); exact cut_give hK _ rfl (by first | exact iff_t (by omega) | exact iff_f (by omega) | (simp only [Bool.or_eq_true, decide_eq_true_eq, beq_iff_eq]; omega))))
  intro b u hb
  simp [List.drop]
  refine cut_chunk 16 (r = 173 ∨ (1536 ≤ r ∧ r ≤ 1541) ∨ r = 1564 ∨ r = 1757 ∨ r = 1807 ∨ r = 2192 ∨ r = 2193 ∨ r = 2274) (fun u b => #[.int .i32 r, undef, .bool false, u 3, u 4, u 5, u 6, u 7, u 8, u 9, u 10, u 11, u 12, u 13, u 14, u 15, u 16, u 17, u 18, u 19, u 20, u 21, u 22, u 23, u 24, u 25, u 26, u 27, u 28, u 29, u 30, u 31, u 32, u 33, u 34, u 35, .bool b, undef, undef, undef, undef, undef, undef, undef, undef, undef, undef, undef, undef, undef, undef, undef, undef, undef, undef, undef, undef, undef, undef, undef, undef, undef, undef, undef, undef, undef, undef, undef, undef, undef, undef, undef, undef, undef, undef, undef, undef, undef, undef, undef, undef, undef, undef, undef, undef, undef, undef, undef, undef, undef, undef, undef, undef, undef, undef, undef, undef, undef, undef, undef, undef, undef, undef, undef, undef, undef, undef, undef, undef, undef, undef, undef, undef, undef, undef, undef, undef, undef, undef, undef, undef, undef, undef, undef, undef, undef, undef, undef, undef]) ?_ ?_
  · intro K hK
    simp [List.take]
    have hu : undef = Value.tuple #[] := rfl
    cases b
    · go_wp2
      all_goals (have hb' := hb.out; simp only [Bool.false_eq_true, false_iff] at hb'; first | exact cut_give hK _ rfl (by first | exact iff_t (by omega) | exact iff_f (by omega) | (simp only [Bool.or_eq_true, beq_iff_eq]; omega)) | (obtain rfl : r = 1807 := (by omega); exact cut_give hK _ rfl (by first | exact iff_t (by omega) | exact iff_f (by omega) | (simp only [Bool.or_eq_true, beq_iff_eq]; omega))) | (obtain rfl : r = 2192 := (by omega); exact cut_give hK _ rfl (by first | exact iff_t (by omega) | exact iff_f (by omega) | (simp only [Bool.or_eq_true, beq_iff_eq]; omega))) | (obtain rfl : r = 2193 := (by omega); exact cut_give hK _ rfl (by first | exact iff_t (by omega) | exact iff_f (by omega) | (simp only [Bool.or_eq_true, beq_iff_eq]; omega))) | (obtain rfl : r = 2274 := (by omega); exact cut_give hK _ rfl (by first | exact iff_t (by omega) | exact iff_f (by omega) | (simp only [Bool.or_eq_true, beq_iff_eq]; omega))))
    · go_wp2
      all_goals (have hb' := hb.out; simp only [true_iff] at hb'; exact cut_give hK _ rfl (iff_t (by omega)))
  intro b u hb
  simp [List.drop]
  refine cut_chunk 20 (r = 173 ∨ (1536 ≤ r ∧ r ≤ 1541) ∨ r = 1564 ∨ r = 1757 ∨ r = 1807 ∨ r = 2192 ∨ r = 2193 ∨ r = 2274 ∨ r = 6158 ∨ (8203 ≤ r ∧ r ≤ 8207) ∨ (8234 ≤ r ∧ r ≤ 8238)) (fun u b => #[.int .i32 r, undef, .bool false, u 3, u 4, u 5, u 6, u 7, u 8, u 9, u 10, u 11, u 12, u 13, u 14, u 15, u 16, u 17, u 18, u 19, u 20, u 21, u 22, u 23, u 24, u 25, u 26, u 27, u 28, u 29, u 30, u 31, u 32, u 33, u 34, u 35, u 36, u 37, u 38, u 39, u 40, u 41, u 42, u 43, u 44, u 45, u 46, u 47, u 48, u 49, u 50, u 51, u 52, u 53, u 54, u 55, .bool b, undef, undef, undef, undef, undef, undef, undef, undef, undef, undef, undef, undef, undef, undef, undef, undef, undef, undef, undef, undef, undef, undef, undef, undef, undef, undef, undef, undef, undef, undef, undef, undef, undef, undef, undef, undef, undef, undef, undef, undef, undef, undef, undef, undef, undef, undef, undef, undef, undef, undef, undef, undef, undef, undef, undef, undef, undef, undef, undef, undef, undef, undef, undef, undef, undef, undef, undef, undef, undef, undef, undef, undef]) ?_ ?_
  · intro K hK
    simp [List.take]
    have hu : undef = Value.tuple #[] := rfl
    cases b
    · go_wp2
      all_goals (have hb' := hb.out; simp only [Bool.false_eq_true, false_iff] at hb'; first | exact cut_give hK _ rfl (by first | exact iff_t (by omega) | exact iff_f (by omega) | (simp only [Bool.or_eq_true, decide_eq_true_eq, beq_iff_eq]; omega)) | (obtain rfl : r = 6158 := (by omega); exact cut_give hK _ rfl (by first | exact iff_t (by omega) | exact iff_f (by omega) | (simp only [Bool.or_eq_true, decide_eq_true_eq, beq_iff_eq]; omega))))
    · go_wp2
      all_goals (have hb' := hb.out; simp only [true_iff] at hb'; exact cut_give hK _ rfl (iff_t (by omega)))
  intro b u hb
  simp [List.drop]
  refine cut_chunk 16 (r = 173 ∨ (1536 ≤ r ∧ r ≤ 1541) ∨ r = 1564 ∨ r = 1757 ∨ r = 1807 ∨ r = 2192 ∨ r = 2193 ∨ r = 2274 ∨ r = 6158 ∨ (8203 ≤ r ∧ r ≤ 8207) ∨ (8234 ≤ r ∧ r ≤ 8238) ∨ (8288 ≤ r ∧ r ≤ 8292) ∨ (8294 ≤ r ∧ r ≤ 8303)) (fun u b => #[.int .i32 r, undef, .bool false, u 3, u 4, u 5, u 6, u 7, u 8, u 9, u 10, u 11, u 12, u 13, u 14, u 15, u 16, u 17, u 18, u 19, u 20, u 21, u 22, u 23, u 24, u 25, u 26, u 27, u 28, u 29, u 30, u 31, u 32, u 33, u 34, u 35, u 36, u 37, u 38, u 39, u 40, u 41, u 42, u 43, u 44, u 45, u 46, u 47, u 48, u 49, u 50, u 51, u 52, u 53, u 54, u 55, u 56, u 57, u 58, u 59, u 60, u 61, u 62, u 63, u 64, u 65, u 66, u 67, u 68, u 69, u 70, u 71, .bool b, undef, undef, undef, undef, undef, undef, undef, undef, undef, undef, undef, undef, undef, undef, undef, undef, undef, undef, undef, undef, undef, undef, undef, undef, undef, undef, undef, undef, undef, undef, undef, undef, undef, undef, undef, undef, undef, undef, undef, undef, undef, undef, undef, undef, undef, undef, undef, undef, undef, undef, undef, undef, undef, undef, undef, undef]) ?_ ?_
  · intro K hK
    simp [List.take]
    have hu : undef = Value.tuple #[] := rfl
    cases b
    · go_wp2
      all_goals (have hb' := hb.out; simp only [Bool.false_eq_true, false_iff] at hb'; first | exact cut_give hK _ rfl (by first | exact iff_t (by omega) | exact iff_f (by omega) | (simp only [Bool.or_eq_true, decide_eq_true_eq]; omega)))
    · go_wp2
      all_goals (have hb' := hb.out; simp only [true_iff] at hb'; exact cut_give hK _ rfl (iff_t (by omega)))
  intro b u hb
  simp [List.drop]
  refine cut_chunk 16 (r = 173 ∨ (1536 ≤ r ∧ r ≤ 1541) ∨ r = 1564 ∨ r = 1757 ∨ r = 1807 ∨ r = 2192 ∨ r = 2193 ∨ r = 2274 ∨ r = 6158 ∨ (8203 ≤ r ∧ r ≤ 8207) ∨ (8234 ≤ r ∧ r ≤ 8238) ∨ (8288 ≤ r ∧ r ≤ 8292) ∨ (8294 ≤ r ∧ r ≤ 8303) ∨ r = 65279 ∨ (65529 ≤ r ∧ r ≤ 65531) ∨ r = 69821) (fun u b => #[.int .i32 r, undef, .bool false, u 3, u 4, u 5, u 6, u 7, u 8, u 9, u 10, u 11, u 12, u 13, u 14, u 15, u 16, u 17, u 18, u 19, u 20, u 21, u 22, u 23, u 24, u 25, u 26, u 27, u 28, u 29, u 30, u 31, u 32, u 33, u 34, u 35, u 36, u 37, u 38, u 39, u 40, u 41, u 42, u 43, u 44, u 45, u 46, u 47, u 48, u 49, u 50, u 51, u 52, u 53, u 54, u 55, u 56, u 57, u 58, u 59, u 60, u 61, u 62, u 63, u 64, u 65, u 66, u 67, u 68, u 69, u 70, u 71, u 72, u 73, u 74, u 75, u 76, u 77, u 78, u 79, u 80, u 81, u 82, u 83, u 84, u 85, u 86, u 87, .bool b, undef, undef, undef, undef, undef, undef, undef, undef, undef, undef, undef, undef, undef, undef, undef, undef, undef, undef, undef, undef, undef, undef, undef, undef, undef, undef, undef, undef, undef, undef, undef, undef, undef, undef, undef, undef, undef, undef, undef, undef]) ?_ ?_
  · intro K hK
    simp [List.take]
    have hu : undef = Value.tuple #[] := rfl
    cases b
    · go_wp2
      all_goals (have hb' := hb.out; simp only [Bool.false_eq_true, false_iff] at hb'; first | exact cut_give hK _ rfl (by first | exact iff_t (by omega) | exact iff_f (by omega) | (simp only [Bool.or_eq_true, decide_eq_true_eq, beq_iff_eq]; omega)) | (obtain rfl : r = 65279 := (by omega); exact cut_give hK _ rfl (by first | exact iff_t (by omega) | exact iff_f (by omega) | (simp only [Bool.or_eq_true, decide_eq_true_eq, beq_iff_eq]; omega))) | (obtain rfl : r = 69821 := (by omega); exact cut_give hK _ rfl (by first | exact iff_t (by omega) | exact iff_f (by omega) | (simp only [Bool.or_eq_true, decide_eq_true_eq, beq_iff_eq]; omega))))
    · go_wp2
      all_goals (have hb' := hb.out; simp only [true_iff] at hb'; exact cut_give hK _ rfl (iff_t (by omega)))
  intro b u hb
  simp [List.drop]
  refine cut_chunk 20 (r = 173 ∨ (1536 ≤ r ∧ r ≤ 1541) ∨ r = 1564 ∨ r = 1757 ∨ r = 1807 ∨ r = 2192 ∨ r = 2193 ∨ r = 2274 ∨ r = 6158 ∨ (8203 ≤ r ∧ r ≤ 8207) ∨ (8234 ≤ r ∧ r ≤ 8238) ∨ (8288 ≤ r ∧ r ≤ 8292) ∨ (8294 ≤ r ∧ r ≤ 8303) ∨ r = 65279 ∨ (65529 ≤ r ∧ r ≤ 65531) ∨ r = 69821 ∨ r = 69837 ∨ (78896 ≤ r ∧ r ≤ 78911) ∨ (113824 ≤ r ∧ r ≤ 113827)) (fun u b => #[.int .i32 r, undef, .bool false, u 3, u 4, u 5, u 6, u 7, u 8, u 9, u 10, u 11, u 12, u 13, u 14, u 15, u 16, u 17, u 18, u 19, u 20, u 21, u 22, u 23, u 24, u 25, u 26, u 27, u 28, u 29, u 30, u 31, u 32, u 33, u 34, u 35, u 36, u 37, u 38, u 39, u 40, u 41, u 42, u 43, u 44, u 45, u 46, u 47, u 48, u 49, u 50, u 51, u 52, u 53, u 54, u 55, u 56, u 57, u 58, u 59, u 60, u 61, u 62, u 63, u 64, u 65, u 66, u 67, u 68, u 69, u 70, u 71, u 72, u 73, u 74, u 75, u 76, u 77, u 78, u 79, u 80, u 81, u 82, u 83, u 84, u 85, u 86, u 87, u 88, u 89, u 90, u 91, u 92, u 93, u 94, u 95, u 96, u 97, u 98, u 99, u 100, u 101, u 102, u 103, u 104, u 105, u 106, u 107, .bool b, undef, undef, undef, undef, undef, undef, undef, undef, undef, undef, undef, undef, undef, undef, undef, undef, undef, undef, undef, undef]) ?_ ?_
  · intro K hK
    simp [List.take]
    have hu : undef = Value.tuple #[] := rfl
    cases b
    · go_wp2
      all_goals (have hb' := hb.out; simp only [Bool.false_eq_true, false_iff] at hb'; first | exact cut_give hK _ rfl (by first | exact iff_t (by omega) | exact iff_f (by omega) | (simp only [Bool.or_eq_true, decide_eq_true_eq, beq_iff_eq]; omega)) | (obtain rfl : r = 69837 := (by omega); exact cut_give hK _ rfl (by first | exact iff_t (by omega) | exact iff_f (by omega) | (simp only [Bool.or_eq_true, decide_eq_true_eq, beq_iff_eq]; omega))))
    · go_wp2
      all_goals (have hb' := hb.out; simp only [true_iff] at hb'; exact cut_give hK _ rfl (iff_t (by omega)))
  intro b u hb
  simp [List.drop]
  have hu : undef = Value.tuple #[] := rfl
  cases b
  · go_wp2
    all_goals go_ret
    all_goals refine ⟨_, rfl, ?_, rfl⟩
    all_goals unfold cfQ
    all_goals (have hb' := hb.out; simp only [Bool.false_eq_true, false_iff] at hb'; simp only [Bool.or_eq_true, decide_eq_true_eq, beq_iff_eq, or_assoc, true_iff]; omega)
  · go_wp2
    all_goals go_ret
    all_goals refine ⟨_, rfl, ?_, rfl⟩
    all_goals unfold cfQ
    all_goals (have hb' := hb.out; simp only [true_iff] at hb' ⊢; omega)
end Go.Proofs.Qxb6606252aFmt
