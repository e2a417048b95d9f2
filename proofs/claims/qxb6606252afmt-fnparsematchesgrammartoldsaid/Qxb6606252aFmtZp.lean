/-
  THE PLAIN LAYER: valid UTF-8, step by step over the model's own decoder. No Go in sight.
-/
import Derived.Test.Qxb6606252aFmtPlain
import Derived.Lib.TrimUEq
namespace Go.Proofs.Qxb6606252aFmt
open Go

/-- No step of the decoder from place pos on fails. -/
def vFrom (s : ByteArray) : Nat → Nat → Bool
  | 0, _ => true
  | f + 1, pos => if pos < s.size then (if Utf8.decode s pos = (65533, 1) then false else vFrom s f (pos + (Utf8.decode s pos).2)) else true
theorem vFrom_eq (s : ByteArray) : ∀ f pos, Lib.validGoD f (s.data.toList.drop pos) = vFrom s f pos
  | 0, pos => rfl
  | f + 1, pos => by
    unfold Lib.validGoD vFrom
    rw [Lib.decodeL_drop, List.drop_drop, vFrom_eq s f]
    by_cases h : pos < s.size
    · rw [if_pos h, if_neg (by rw [List.drop_eq_nil_iff]; rw [← Lib.size_eq]; omega)]
      by_cases hb : Utf8.decode s pos = (65533, 1)
      · rw [if_pos hb, if_pos (by rw [hb]; exact ⟨rfl, rfl⟩)]
      · rw [if_neg hb, if_neg (fun h => hb (Prod.ext h.1 h.2))]
    · rw [if_neg h, if_pos (by rw [List.drop_eq_nil_iff]; rw [← Lib.size_eq]; omega)]
theorem valid_eq (s : ByteArray) : Lib.validD s.data.toList = vFrom s s.size 0 := by
  unfold Lib.validD
  rw [← vFrom_eq s, ← Lib.size_eq]
  rfl
theorem vFrom_end (s : ByteArray) (f pos : Nat) (h : ¬ pos < s.size) : vFrom s f pos = true := by
  cases f with
  | zero => rfl
  | succ f => unfold vFrom; rw [if_neg h]
theorem vFrom_bad (s : ByteArray) (f pos : Nat) (h : pos < s.size) (hd : Utf8.decode s pos = (65533, 1)) : vFrom s (f + 1) pos = false := by
  unfold vFrom; rw [if_pos h, if_pos hd]
theorem vFrom_good (s : ByteArray) (f pos : Nat) (h : pos < s.size) (r k : Nat) (hd : Utf8.decode s pos = (r, k)) (hne : ¬ (r = 65533 ∧ k = 1)) : vFrom s (f + 1) pos = vFrom s f (pos + k) := by
  rw [vFrom, if_pos h, hd, if_neg (by intro e; exact hne ⟨congrArg Prod.fst e, congrArg Prod.snd e⟩)]

/-! ### One step, by its first byte -/
theorem dec_lead (s : ByteArray) (pos c : Nat) (h0 : (s.get! pos).toNat = c) (h : (128 ≤ c ∧ c < 194) ∨ 245 ≤ c) : Utf8.decode s pos = (65533, 1) := by
  simp only [Utf8.decode, Nat.add_zero, h0, Utf8.valid, Utf8.runeError]
  repeat' split
  all_goals (try simp only [Bool.and_eq_true, Bool.or_eq_true, beq_iff_eq, decide_eq_true_eq, ge_iff_le] at *)
  all_goals first | (exfalso; omega) | rfl
/-- A sequence is cut short, or a byte behind the first does not carry on. -/
theorem dec_short (s : ByteArray) (pos c n k : Nat) (h0 : (s.get! pos).toNat = c) (hc : (194 ≤ c ∧ c ≤ 223 ∧ n = 1) ∨ (224 ≤ c ∧ c ≤ 239 ∧ n = 2) ∨ (240 ≤ c ∧ c ≤ 244 ∧ n = 3)) (hk1 : 1 ≤ k) (hkn : k ≤ n)
    (h : s.size ≤ pos + k ∨ (s.get! (pos + k)).toNat / 64 ≠ 2) : Utf8.decode s pos = (65533, 1) := by
  have key : ∀ j, j = k → ¬ (pos + j < s.size ∧ (s.get! (pos + j)).toNat / 64 = 2) := fun j e hh => by
    subst e; rcases h with h | h
    · omega
    · exact h hh.2
  have k1 := key 1; have k2 := key 2; have k3 := key 3
  clear key h
  simp only [Utf8.decode, Nat.add_zero, h0, Utf8.valid, Utf8.runeError]
  repeat' split
  all_goals (try simp only [Bool.and_eq_true, Bool.or_eq_true, beq_iff_eq, decide_eq_true_eq, ge_iff_le] at *)
  all_goals first | (exfalso; omega) | rfl
theorem dec_two (s : ByteArray) (pos c b1 : Nat) (h0 : (s.get! pos).toNat = c) (hc : 194 ≤ c ∧ c ≤ 223) (hs : pos + 1 < s.size) (h1 : (s.get! (pos + 1)).toNat = b1) (hb1 : b1 / 64 = 2) :
    Utf8.decode s pos = (c % 32 * 64 + b1 % 64, 2) := by
  simp only [Utf8.decode, Nat.add_zero, h0, h1, Utf8.valid, Utf8.runeError]
  repeat' split
  all_goals (try simp only [Bool.and_eq_true, Bool.or_eq_true, beq_iff_eq, decide_eq_true_eq, ge_iff_le] at *)
  all_goals first | (exfalso; omega) | rfl
theorem dec_three (s : ByteArray) (pos c b1 b2 v : Nat) (h0 : (s.get! pos).toNat = c) (hc : 224 ≤ c ∧ c ≤ 239) (hs : pos + 2 < s.size) (h1 : (s.get! (pos + 1)).toNat = b1) (hb1 : b1 / 64 = 2) (h2 : (s.get! (pos + 2)).toNat = b2) (hb2 : b2 / 64 = 2) (hv : v = c % 16 * 4096 + b1 % 64 * 64 + b2 % 64) :
    Utf8.decode s pos = if v < 2048 ∨ (55296 ≤ v ∧ v ≤ 57343) then (65533, 1) else (v, 3) := by
  subst hv
  simp only [Utf8.decode, Nat.add_zero, h0, h1, h2, Utf8.valid, Utf8.runeError]
  repeat' split
  all_goals (try simp only [Bool.and_eq_true, Bool.or_eq_true, beq_iff_eq, decide_eq_true_eq, ge_iff_le] at *)
  all_goals first | (exfalso; omega) | rfl
theorem dec_four (s : ByteArray) (pos c b1 b2 b3 v : Nat) (h0 : (s.get! pos).toNat = c) (hc : 240 ≤ c ∧ c ≤ 244) (hs : pos + 3 < s.size) (h1 : (s.get! (pos + 1)).toNat = b1) (hb1 : b1 / 64 = 2) (h2 : (s.get! (pos + 2)).toNat = b2) (hb2 : b2 / 64 = 2) (h3 : (s.get! (pos + 3)).toNat = b3) (hb3 : b3 / 64 = 2)
    (hv : v = c % 8 * 262144 + b1 % 64 * 4096 + b2 % 64 * 64 + b3 % 64) :
    Utf8.decode s pos = if v < 65536 ∨ 1114111 < v then (65533, 1) else (v, 4) := by
  subst hv
  simp only [Utf8.decode, Nat.add_zero, h0, h1, h2, h3, Utf8.valid, Utf8.runeError]
  repeat' split
  all_goals (try simp only [Bool.and_eq_true, Bool.or_eq_true, beq_iff_eq, decide_eq_true_eq, ge_iff_le] at *)
  all_goals first | (exfalso; omega) | rfl
end Go.Proofs.Qxb6606252aFmt
