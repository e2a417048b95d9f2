/-
  THE WALKS of this seat, first part: a digit, all digits, the library's contracts at this dump.
-/
import Derived.Test.Qxb6605545aDoorProg
import Derived.Test.Qxb6605545aDoorPlain
import Derived.Test.Qxb6605545aDoorShelf
import Derived.WalkKit
namespace Go.Proofs.Qxb6605545aDoor
open Go.RowKit

theorem ret_bool {a b : Bool} (h : a = b) : Ending.returned (.bool a) = .returned (.bool b) := by rw [h]
theorem eq_of_toNat {a b : UInt8} (h : a.toNat = b.toNat) : a = b := UInt8.toNat_inj.1 h
theorem at_get (s : ByteArray) (m : Nat) (h : m < s.size) : s.data.toList[m]? = some s[m] := by
  rw [List.getElem?_eq_getElem (by simpa using h)]; rfl
theorem below_drawn {B : Nat} {a w : World} (h : Below B a w) (n : Nat) : Below B a (w.drewN n) := h.trans ⟨rfl, rfl, rfl, Nat.le_refl _, fun _ _ => rfl⟩

theorem dec_any (c : UInt8) (w : World) : Calls Tryd.prog 18 #[.int .u8 (c.toNat : Int)] w fun e w' => e = .returned (.bool (digB c)) ∧ w' = w := by
  have e1 : digB c = (decide (48 ≤ (c.toNat : Int)) && decide ((c.toNat : Int) ≤ 57)) := by
    unfold digB; congr 1 <;> (rw [decide_eq_decide]; omega)
  rw [e1]
  generalize (c.toNat : Int) = n
  go_enter Tryd.func18, Tryd.ntmps18
  go_wp2
  · go_ret
    exact ⟨ret_bool (by simp [*]), rfl⟩
  · go_ret
    refine ⟨ret_bool ?_, rfl⟩
    have : ¬ 48 ≤ n := by omega
    simp [this]

theorem allD_bad (s : ByteArray) (k : Nat) (hlt : k < s.size) (hd : digB s[k] = false) : allD s.data.toList = false := by
  unfold allD
  rw [← Bool.not_eq_true, List.all_eq_true]
  intro h
  have := h _ (List.mem_of_getElem? (at_get s k hlt))
  rw [hd] at this; cases this

set_option maxHeartbeats 400000 in
theorem all_any (s : ByteArray) (w : World) (hs : s.size ≤ 2097152) :
    Calls Tryd.prog 21 #[.string s] w fun e w' => e = .returned (.bool (allD s.data.toList)) ∧ w' = w := by
  have hlen : s.data.toList.length = s.size := by simp
  go_enter Tryd.func21, Tryd.ntmps21
  go_wp2
  go_loop [3] (fun v => ∃ k : Nat, k ≤ s.size ∧ v = .int .i64 k ∧ (∀ m c, m < k → s.data.toList[m]? = some c → digB c = true)) (fun v => s.size - (intOf v).toNat)
  case atStart => exact ⟨0, Nat.zero_le _, rfl, fun m c h => absurd h (Nat.not_lt_zero _)⟩
  case round =>
    obtain ⟨k, hk, rfl, hall⟩ := hrel
    have HA : Hid (∀ m c, m < k → s.data.toList[m]? = some c → digB c = true) := hall
    clear hall
    by_cases hlt : k < s.size
    · cases hd : digB s[k]
      · have HF : Hid (allD s.data.toList = false) := allD_bad s k hlt hd
        have hd' : ¬ (48 ≤ s[k].toNat ∧ s[k].toNat ≤ 57) := fun h => by rw [(digB_iff _).2 h] at hd; cases hd
        clear hd
        go_wp2
        all_goals go_ret
        all_goals exact ⟨ret_bool HF.out.symm, rfl⟩
      · have hd' := (digB_iff _).1 hd
        have HD : Hid (digB s[k] = true) := hd
        clear hd
        go_wp2
        refine ⟨⟨k + 1, by omega, by go_num, ?_⟩, by simp [intOf]; omega⟩
        intro m c hm hc
        by_cases e : m = k
        · subst e
          rw [at_get s m hlt] at hc
          rw [← Option.some.inj hc]; exact HD.out
        · exact HA.out m c (by omega) hc
    · go_wp2
      go_ret
      refine ⟨ret_bool ?_, rfl⟩
      symm
      unfold allD
      rw [List.all_eq_true]
      intro x hx
      obtain ⟨m, hm⟩ := List.mem_iff_getElem?.1 hx
      have : m < s.data.toList.length := (List.getElem?_eq_some_iff.1 hm).1
      exact HA.out m x (by omega) hm

/-- The library's own variable internal/bytealg.MaxLen holds some int. -/
def HasMax (w : World) : Prop := ∃ m, w.cell? ⟨0, 0, none⟩ = some (.int .i64 m)
theorem HasMax.of_shaped {w : World} (h : w.ShapedOpen Tryd.prog) : HasMax w := Tryd.laysM145.s1_3 w h
theorem HasMax.size {w : World} (h : HasMax w) : 0 < w.heap.size := by
  obtain ⟨m, hm⟩ := h
  by_cases e : 0 < w.heap.size
  · exact e
  · have : w.heap[0]? = none := Array.getElem?_eq_none (by omega)
    simp [World.cell?, this] at hm
theorem HasMax.below {B : Nat} {w w' : World} (h : HasMax w) (hB : 0 < B) (hb : Below B w w') : HasMax w' := by
  obtain ⟨m, hm⟩ := h
  exact ⟨m, (hb.cell (p := ⟨0, 0, none⟩) hB).trans hm⟩

theorem cut_any (s : ByteArray) (w : World) (h : HasMax w) (hs : s.size ≤ 2097152) :
    Calls Tryd.prog 20 #[.string s, .string ⟨#[46]⟩] w fun e w' => e = .returned (.tuple #[.string ⟨(Lib.cut s.data.toList [46]).1.toArray⟩, .string ⟨(Lib.cut s.data.toList [46]).2.1.toArray⟩, .bool (Lib.cut s.data.toList [46]).2.2]) ∧ ∃ n, w' = w.drewN n := by
  obtain ⟨m, hm⟩ := h
  exact Any.strings_Cut { Tryd.laysM145 with } s ⟨#[46]⟩ m w (by omega) hm
theorem left_any (s : ByteArray) (w : World) :
    Calls Tryd.prog 22 #[.string s, .string ⟨#[48]⟩] w fun e w' => e = .returned (.string ⟨(Lib.trimLeftB s.data.toList 48).toArray⟩) ∧ w' = w :=
  Any.strings_TrimLeft_one Tryd.lays161 s 48 (by decide) w
theorem right_any (s : ByteArray) (w : World) (hs : s.size ≤ 2097152) :
    Calls Tryd.prog 23 #[.string s, .string ⟨#[48]⟩] w fun e w' => e = .returned (.string ⟨(Lib.trimRightB s.data.toList 48).toArray⟩) ∧ w' = w :=
  Any.strings_TrimRight_one Tryd.lays162 s 48 (by decide) w (by omega)
end Go.Proofs.Qxb6605545aDoor
