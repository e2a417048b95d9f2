/-
  THE PLAIN LAYER of this seat: names over strings, rune by rune. No Go in sight but the model's own decoder of UTF-8.
-/
import Derived.Lib.IndexMore
import Derived.Lib.Strings
import Derived.Lib.IsU
import Derived.Lib.ValidU
import Derived.Laws.RangeAny
import Derived.Shelf.Unicode.IsSpaceAny
namespace Go.Proofs.Qxb6606252aFmt
open Go

/-- unicode.Cf as Go's library lays it. -/
def cfT : Lib.RTab := { r16 := #[(173, 1536, 1363), (1537, 1541, 1), (1564, 1757, 193), (1807, 2192, 385), (2193, 2274, 81), (6158, 8203, 2045), (8204, 8207, 1), (8234, 8238, 1), (8288, 8292, 1), (8294, 8303, 1), (65279, 65529, 250), (65530, 65531, 1)], r32 := #[(69821, 69837, 16), (78896, 78911, 1), (113824, 113827, 1), (119155, 119162, 1), (917505, 917536, 31), (917537, 917631, 1)], off := 0 }

/-- A rune that no part of a tuple may hold. -/
def badR (formats : Bool) (r : Nat) : Bool :=
  (r : Int) == 58 || ((r : Int) == 35 || ((r : Int) == 42 || (Lib.isSpaceZ r || (Lib.isControlU r || (!formats && Lib.isGo cfT r)))))
/-- No rune from place pos on is bad. -/
def okFrom (bad : Nat → Bool) (s : ByteArray) : Nat → Nat → Bool
  | 0, _ => true
  | f + 1, pos => if pos < s.size then !bad (Utf8.decode s pos).1 && okFrom bad s f (pos + (Utf8.decode s pos).2) else true
def okRunes (bad : Nat → Bool) (s : ByteArray) : Bool := okFrom bad s s.size 0
/-- What checkPart lets by. -/
def partOk (formats wild : Bool) (s : ByteArray) : Bool :=
  !s.data.toList.isEmpty && (Lib.validD s.data.toList && ((s.data.toList == [42] && wild) || okRunes (badR formats) s))

theorem get_of (s : ByteArray) (i : Nat) (h : i < s.size) : s.get! i = s[i] := by
  simp [ByteArray.get!, getElem!_pos, h]
  rfl
theorem width_pos (s : ByteArray) (pos : Nat) (h : pos < s.size) : 1 ≤ (Utf8.decode s pos).2 := by
  by_cases ha : (s[pos]'h).toNat < 128
  · rw [decode_ascii s pos h ha]
    exact Nat.le_refl _
  · exact (decode_high s pos h (by omega)).2
/-- A step of the decoder passes over no ASCII byte. -/
theorem decode_skip (s : ByteArray) (pos i : Nat) (h : pos < i) (hi : i < s.size) (ha : s[i].toNat < 128) : pos + (Utf8.decode s pos).2 ≤ i := by
  have hg := get_of s i hi
  have key : ∀ k, pos + k = i → ¬ ((s.get! (pos + k)).toNat / 64 == 2) = true := fun k e => by
    rw [e, hg]; simp; omega
  simp only [Utf8.decode]
  have k1 := key 1; have k2 := key 2; have k3 := key 3
  repeat' split
  all_goals simp only [Bool.and_eq_true] at *
  all_goals by_cases e1 : pos + 1 = i
  all_goals first
    | omega
    | exact absurd (by simp_all) (k1 e1)
    | skip
  all_goals by_cases e2 : pos + 2 = i
  all_goals first
    | omega
    | exact absurd (by simp_all) (k2 e2)
    | skip
  all_goals by_cases e3 : pos + 3 = i
  all_goals first
    | omega
    | exact absurd (by simp_all) (k3 e3)
theorem okFrom_ascii (bad : Nat → Bool) (s : ByteArray) (i : Nat) (hi : i < s.size) (ha : s[i].toNat < 128) (hb : bad s[i].toNat = true) : ∀ f pos, pos ≤ i → s.size ≤ pos + f → okFrom bad s f pos = false
  | 0, pos, h1, h2 => by omega
  | f + 1, pos, h1, h2 => by
    have hp : pos < s.size := by omega
    unfold okFrom
    rw [if_pos hp]
    by_cases e : pos = i
    · subst e
      rw [decode_ascii s pos hi ha]
      simp only [hb]
      rfl
    · have hk := decode_skip s pos i (by omega) hi ha
      have hw := width_pos s pos hp
      rw [okFrom_ascii bad s i hi ha hb f _ hk (by omega), Bool.and_false]
theorem okRunes_ascii (bad : Nat → Bool) (s : ByteArray) (c : UInt8) (hc : c ∈ s.data.toList) (ha : c.toNat < 128) (hb : bad c.toNat = true) : okRunes bad s = false := by
  obtain ⟨i, hi, e⟩ := List.mem_iff_getElem.1 hc
  have hi' : i < s.size := by rw [Lib.size_eq]; exact hi
  have e' : s[i] = c := e
  exact okFrom_ascii bad s i hi' (by rw [e']; exact ha) (by rw [e']; exact hb) s.size 0 (Nat.zero_le _) (by omega)
theorem bad_colon (f : Bool) : badR f 58 = true := rfl
theorem bad_hash (f : Bool) : badR f 35 = true := rfl
theorem bad_star (f : Bool) : badR f 42 = true := rfl
/-- A part that holds a colon is refused. -/
theorem part_colon (f : Bool) (s : ByteArray) (h : 58 ∈ s.data.toList) : partOk f false s = false := by
  unfold partOk
  rw [okRunes_ascii (badR f) s 58 h (by decide) rfl]
  simp
theorem part_hash (f : Bool) (s : ByteArray) (h : 35 ∈ s.data.toList) : partOk f false s = false := by
  unfold partOk
  rw [okRunes_ascii (badR f) s 35 h (by decide) rfl]
  simp
theorem part_star (f : Bool) (s : ByteArray) (h : 42 ∈ s.data.toList) : partOk f false s = false := by
  unfold partOk
  rw [okRunes_ascii (badR f) s 42 h (by decide) rfl]
  simp
end Go.Proofs.Qxb6606252aFmt
