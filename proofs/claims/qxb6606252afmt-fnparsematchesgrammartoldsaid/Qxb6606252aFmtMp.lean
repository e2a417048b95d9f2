/-
  THE PLAIN LAYER of the law's own grammar: bytes counted, the first place kept. No Go in sight.
-/
import Derived.Test.Qxb6606252aFmtCut
namespace Go.Proofs.Qxb6606252aFmt
open Go

/-- Ahead of place k: n times the byte c, first at p (-1: never). -/
def St (c : UInt8) (s : ByteArray) (k : Nat) (n p : Int) : Prop :=
  n = ((s.data.toList.take k).count c : Nat) ∧ ((n = 0 ∧ p = -1) ∨ (0 < n ∧ p = ((s.data.toList.idxOf c : Nat) : Int) ∧ s.data.toList.idxOf c < k))
theorem St.start (c : UInt8) (s : ByteArray) : St c s 0 0 (-1) := ⟨by simp, .inl ⟨rfl, rfl⟩⟩
theorem St.bound {c : UInt8} {s : ByteArray} {k : Nat} {n p : Int} (h : St c s k n p) : 0 ≤ n ∧ n ≤ k ∧ -1 ≤ p ∧ p < k ∧ (p < 0 ↔ n = 0) := by
  have hl : (s.data.toList.take k).count c ≤ k := Nat.le_trans List.count_le_length (List.length_take_le _ _)
  obtain ⟨h1, h2 | h2⟩ := h <;> omega
theorem snoc (s : ByteArray) (k : Nat) (h : k < s.size) : s.data.toList.take (k + 1) = s.data.toList.take k ++ [s[k]] := by
  rw [List.take_succ_eq_append_getElem (by simpa using h)]; rfl
theorem count_snoc (c : UInt8) (s : ByteArray) (k : Nat) (h : k < s.size) : (s.data.toList.take (k + 1)).count c = (s.data.toList.take k).count c + (if s[k].toNat = c.toNat then 1 else 0) := by
  rw [snoc s k h, List.count_append, List.count_singleton]
  have e : (s[k] == c) = decide (s[k].toNat = c.toNat) := by
    rw [Bool.eq_iff_iff]
    simp only [beq_iff_eq, decide_eq_true_eq]
    exact ⟨fun h => by rw [h], fun h => UInt8.toNat_inj.1 h⟩
  rw [e]
  by_cases h : s[k].toNat = c.toNat <;> simp [h]
theorem idx_mid (c : UInt8) : ∀ (a r : List UInt8), c ∉ a → (a ++ c :: r).idxOf c = a.length
  | [], r, _ => by simp
  | b :: a, r, h => by
    have hb : ¬ b = c := fun e => h (by rw [e]; exact List.mem_cons_self ..)
    rw [List.cons_append, List.idxOf_cons]
    have : (b == c) = false := by rw [beq_eq_false_iff_ne]; exact hb
    rw [this, idx_mid c a r (fun e => h (List.mem_cons_of_mem _ e))]
    rfl
theorem idx_at (c : UInt8) (l : List UInt8) (k : Nat) (h : k < l.length) (h0 : (l.take k).count c = 0) (hc : l[k] = c) : l.idxOf c = k := by
  have e : l = l.take k ++ c :: l.drop (k + 1) := by
    rw [← hc]
    simp
  have hn : c ∉ l.take k := List.count_eq_zero.1 h0
  rw [e, idx_mid c _ _ hn, List.length_take]
  omega
theorem St.miss {c : UInt8} {s : ByteArray} {k : Nat} {n p : Int} (h : St c s k n p) (hk : k < s.size) (hne : s[k].toNat ≠ c.toNat) : St c s (k + 1) n p := by
  obtain ⟨h1, h2⟩ := h
  refine ⟨by rw [count_snoc c s k hk, if_neg hne]; exact h1, ?_⟩
  rcases h2 with h2 | ⟨h2, h3, h4⟩
  · exact .inl h2
  · exact .inr ⟨h2, h3, by omega⟩
theorem St.hit0 {c : UInt8} {s : ByteArray} {k : Nat} {n p : Int} (h : St c s k n p) (hk : k < s.size) (he : s[k].toNat = c.toNat) (hp : p < 0) : St c s (k + 1) (n + 1) k := by
  have hb := h.bound
  obtain ⟨h1, _⟩ := h
  have hx : s.data.toList.idxOf c = k := idx_at c _ k (by simpa using hk) (by omega) (UInt8.toNat_inj.1 he)
  refine ⟨by rw [count_snoc c s k hk, if_pos he]; omega, .inr ⟨by omega, by omega, by omega⟩⟩
theorem St.hit1 {c : UInt8} {s : ByteArray} {k : Nat} {n p : Int} (h : St c s k n p) (hk : k < s.size) (he : s[k].toNat = c.toNat) (hp : ¬ p < 0) : St c s (k + 1) (n + 1) p := by
  obtain ⟨h1, h2⟩ := h
  refine ⟨by rw [count_snoc c s k hk, if_pos he]; omega, ?_⟩
  rcases h2 with h2 | ⟨h2, h3, h4⟩
  · omega
  · exact .inr ⟨by omega, h3, by omega⟩

theorem array_ext {a b : ByteArray} (h : a.data.toList = b.data.toList) : a = b := by
  cases a with | mk x => cases b with | mk y => cases x with | mk l => cases y with | mk m => simp at h; subst h; rfl
theorem cut_parts (c : UInt8) (s : ByteArray) (a r : List UInt8) (e : s.data.toList = a ++ c :: r) (h : c ∉ a) :
    cutF c s = true ∧ (cutA c s).data.toList = a ∧ (cutB c s).data.toList = r ∧ cutA c s = s.extract 0 a.length ∧ cutB c s = s.extract (a.length + 1) s.size := by
  have hs : s.size = a.length + (r.length + 1) := by rw [Lib.size_eq, e]; simp
  unfold cutF cutA cutB
  rw [e, cut_yes c a r h]
  refine ⟨rfl, rfl, rfl, array_ext ?_, array_ext ?_⟩
  · rw [Lib.extract_data, e]; simp
  · rw [Lib.extract_data, e, hs, show a.length + (r.length + 1) - (a.length + 1) = r.length by omega]; simp
theorem cut_none (c : UInt8) (s : ByteArray) (h : c ∉ s.data.toList) : cutF c s = false ∧ cutA c s = s ∧ cutB c s = ⟨#[]⟩ := by
  unfold cutF cutA cutB
  rw [cut_no c _ h]
  exact ⟨rfl, array_ext rfl, rfl⟩
/-- What the count says of the cut. -/
theorem St.fin {c : UInt8} {s : ByteArray} {n p : Int} (h : St c s s.size n p) :
    (n = 0 ∧ p = -1 ∧ c ∉ s.data.toList) ∨
    (∃ a r : List UInt8, s.data.toList = a ++ c :: r ∧ c ∉ a ∧ p = (a.length : Nat) ∧ n = 1 + (r.count c : Nat)) := by
  obtain ⟨h1, h2⟩ := h
  rw [List.take_of_length_le (by simp)] at h1
  rcases part_at c s.data.toList with hn | ⟨a, r, e, hn⟩
  · rw [List.count_eq_zero.2 hn] at h1
    refine .inl ⟨by omega, by omega, hn⟩
  · refine .inr ⟨a, r, e, hn, ?_, ?_⟩
    · rw [e, List.count_append, List.count_eq_zero.2 hn, List.count_cons_self] at h1
      rw [e, idx_mid c _ _ hn] at h2
      omega
    · rw [e, List.count_append, List.count_eq_zero.2 hn, List.count_cons_self] at h1
      omega
end Go.Proofs.Qxb6606252aFmt
