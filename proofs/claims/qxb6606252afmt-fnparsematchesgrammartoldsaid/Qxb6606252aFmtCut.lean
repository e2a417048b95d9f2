/-
  THE PLAIN LAYER: a text cut at a byte. No Go in sight.
-/
import Derived.Test.Qxb6606252aFmtPlain
namespace Go.Proofs.Qxb6606252aFmt

theorem index_no (c : UInt8) : ∀ l : List UInt8, c ∉ l → Lib.index l [c] = -1
  | [], _ => rfl
  | b :: l, h => by
    have hb : ¬ c = b := fun e => h (by rw [e]; exact List.mem_cons_self ..)
    have hl : c ∉ l := fun e => h (List.mem_cons_of_mem _ e)
    unfold Lib.index
    rw [if_neg (by simp [List.isPrefixOf, hb]), index_no c l hl]
    rfl
theorem index_yes (c : UInt8) (r : List UInt8) : ∀ a : List UInt8, c ∉ a → Lib.index (a ++ c :: r) [c] = (a.length : Nat)
  | [], _ => by unfold Lib.index; simp [List.isPrefixOf]
  | b :: l, h => by
    have hb : ¬ c = b := fun e => h (by rw [e]; exact List.mem_cons_self ..)
    have hl : c ∉ l := fun e => h (List.mem_cons_of_mem _ e)
    rw [List.cons_append]
    unfold Lib.index
    rw [if_neg (by simp [List.isPrefixOf, hb]), index_yes c r l hl, if_neg (by simp), List.length_cons]
    omega
theorem cut_no (c : UInt8) (l : List UInt8) (h : c ∉ l) : Lib.cut l [c] = (l, [], false) := by
  unfold Lib.cut; rw [index_no c l h]; rfl
theorem cut_yes (c : UInt8) (a r : List UInt8) (h : c ∉ a) : Lib.cut (a ++ c :: r) [c] = (a, r, true) := by
  unfold Lib.cut; rw [index_yes c r a h, if_pos (by omega), Int.toNat_natCast]
  simp
theorem part_at (c : UInt8) : ∀ l : List UInt8, c ∉ l ∨ ∃ a r, l = a ++ c :: r ∧ c ∉ a
  | [] => .inl (by simp)
  | b :: l => by
    by_cases hb : c = b
    · exact .inr ⟨[], l, by rw [hb]; rfl, by simp⟩
    · rcases part_at c l with h | ⟨a, r, rfl, h⟩
      · exact .inl (by simp [hb, h])
      · exact .inr ⟨b :: a, r, rfl, by simp [hb, h]⟩
/-- What stands before the first c, and behind it; whether there is one. -/
def cutA (c : UInt8) (s : ByteArray) : ByteArray := ⟨(Lib.cut s.data.toList [c]).1.toArray⟩
def cutB (c : UInt8) (s : ByteArray) : ByteArray := ⟨(Lib.cut s.data.toList [c]).2.1.toArray⟩
def cutF (c : UInt8) (s : ByteArray) : Bool := (Lib.cut s.data.toList [c]).2.2
theorem size_list (s : ByteArray) : s.data.toList.length = s.size := by simp
theorem cutA_le (c : UInt8) (s : ByteArray) : (cutA c s).size ≤ s.size := by
  rw [← size_list, ← size_list s]
  show (Lib.cut s.data.toList [c]).1.length ≤ _
  rcases part_at c s.data.toList with h | ⟨a, r, e, h⟩
  · rw [cut_no c _ h]; exact Nat.le_refl _
  · rw [e, cut_yes c a r h]; simp
theorem cutB_le (c : UInt8) (s : ByteArray) : (cutB c s).size ≤ s.size := by
  rw [← size_list, ← size_list s]
  show (Lib.cut s.data.toList [c]).2.1.length ≤ _
  rcases part_at c s.data.toList with h | ⟨a, r, e, h⟩
  · rw [cut_no c _ h]; exact Nat.zero_le _
  · rw [e, cut_yes c a r h]; simp; omega
/-- Whether the text reads as an object. -/
def objOk (fm : Bool) (s : ByteArray) : Bool := cutF 58 s && (partOk fm false (cutA 58 s) && partOk fm false (cutB 58 s))
/-- Whether the text reads as a user: its id may be the wildcard where no relation stands. -/
def usrOk (fm : Bool) (s : ByteArray) : Bool :=
  cutF 58 s && ((partOk fm false (cutA 58 s) && partOk fm (!cutF 35 (cutB 58 s)) (cutA 35 (cutB 58 s))) && (!cutF 35 (cutB 58 s) || partOk fm false (cutB 35 (cutB 58 s))))
end Go.Proofs.Qxb6606252aFmt
