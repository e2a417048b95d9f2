/-
  THE WALK of the law's own zzRefused and zzNameOK.
-/
import Derived.Test.Qxb6606252aFmtZb
import Derived.Test.Qxb6606252aFmtZz3
import Derived.Test.Qxb6606252aFmtZv
import Derived.Test.Qxb6606252aFmtPart
namespace Go.Proofs.Qxb6606252aFmt
open Go.RowKit

theorem zzCf_any (r : Nat) (w : World) (hr : r ≤ 2147483647) :
    Calls Tryf.prog 27 #[.int .i32 r] w fun e w' => e = .returned (.bool (Lib.isGo cfT r)) ∧ w' = w :=
  (zzCf_walk r w hr).mono fun _ _ ⟨b, h1, h2, h3⟩ => ⟨by
    have e : b = Lib.isGo cfT r := by
      rw [Bool.eq_iff_iff, h2, cf_iff r hr]
    rw [h1, e], h3⟩

set_option maxHeartbeats 1600000 in
set_option maxRecDepth 100000 in
theorem refused_any (r : Nat) (fm : Bool) (w : World) (hr : r ≤ 2147483647) :
    Calls Tryf.prog 19 #[.int .i32 r, .bool fm] w fun e w' => e = .returned (.bool (badR fm r)) ∧ w' = w := by
  have hsp := fun w => zzSpace_any r w hr
  have hct := fun w => zzControl_any r w hr
  have hcf := fun w => zzCf_any r w hr
  cases e58 : ((r : Int) == 58)
  case true =>
    rw [show badR fm r = true by simp [badR, e58]]
    go_enter Tryf.func19, Tryf.ntmps19
    go_wp2
    go_ret
    exact ⟨rfl, rfl⟩
  cases e35 : ((r : Int) == 35)
  case true =>
    rw [show badR fm r = true by simp [badR, e35]]
    go_enter Tryf.func19, Tryf.ntmps19
    go_wp2
    go_ret
    exact ⟨rfl, rfl⟩
  cases e42 : ((r : Int) == 42)
  case true =>
    rw [show badR fm r = true by simp [badR, e42]]
    go_enter Tryf.func19, Tryf.ntmps19
    go_wp2
    go_ret
    exact ⟨rfl, rfl⟩
  cases esp : Lib.isSpaceZ r
  case true =>
    rw [show badR fm r = true by simp [badR, esp]]
    rw [esp] at hsp
    go_enter Tryf.func19, Tryf.ntmps19
    go_wp2_with (go_at_call 25; refine (hsp _).mono ?_; rintro e w' ⟨rfl, rfl⟩)
    go_ret
    exact ⟨rfl, rfl⟩
  rw [esp] at hsp
  cases ect : Lib.isControlU r
  case true =>
    rw [show badR fm r = true by simp [badR, ect]]
    rw [ect] at hct
    go_enter Tryf.func19, Tryf.ntmps19
    go_wp2_with (first | (go_at_call 25; refine (hsp _).mono ?_; rintro e w' ⟨rfl, rfl⟩) | (go_at_call 26; refine (hct _).mono ?_; rintro e w' ⟨rfl, rfl⟩))
    go_ret
    exact ⟨rfl, rfl⟩
  rw [ect] at hct
  cases fm
  case true =>
    rw [show badR true r = false by simp [badR, e58, e35, e42, esp, ect]]
    go_enter Tryf.func19, Tryf.ntmps19
    go_wp2_with (first | (go_at_call 25; refine (hsp _).mono ?_; rintro e w' ⟨rfl, rfl⟩) | (go_at_call 26; refine (hct _).mono ?_; rintro e w' ⟨rfl, rfl⟩))
    go_ret
    exact ⟨rfl, rfl⟩
  rw [show badR false r = Lib.isGo cfT r by simp [badR, e58, e35, e42, esp, ect]]
  go_enter Tryf.func19, Tryf.ntmps19
  go_wp2_with (first | (go_at_call 25; refine (hsp _).mono ?_; rintro e w' ⟨rfl, rfl⟩) | (go_at_call 26; refine (hct _).mono ?_; rintro e w' ⟨rfl, rfl⟩) | (go_at_call 27; refine (hcf _).mono ?_; rintro e w' ⟨rfl, rfl⟩))
  go_ret
  exact ⟨rfl, rfl⟩

set_option maxHeartbeats 1600000 in
set_option maxRecDepth 100000 in
theorem nameOK_any (fm : Bool) (s : ByteArray) (w : World) (hs : s.size ≤ 2000000) :
    Calls Tryf.prog 11 #[.string s, .bool fm] w fun e w' => e = .returned (.bool (partOk fm false s)) ∧ Below w.heap.size w w' := by
  have hval := fun w => zzValid_any s w hs
  unfold partOk
  by_cases he : s.size = 0
  · have he1 : s.data.toList = [] := List.eq_nil_of_length_eq_zero (by rw [← Lib.size_eq]; exact he)
    have hz : ((s.size : Int) == 0) = true := by rw [beq_iff_eq]; omega
    rw [he1]
    go_enter Tryf.func11, Tryf.ntmps11
    go_wp2
    go_ret
    exact ⟨rfl, Below.refl _ _⟩
  have hz : ((s.size : Int) == 0) = false := by rw [beq_eq_false_iff_ne]; omega
  have hne2 : s.data.toList.isEmpty = false := by
    cases hl : s.data.toList with
    | nil => rw [Lib.size_eq, hl] at he; exact absurd rfl he
    | cons _ _ => rfl
  rw [hne2, Bool.and_false, Bool.false_or, Bool.not_false, Bool.true_and]
  cases hv : Lib.validD s.data.toList
  · rw [hv] at hval
    go_enter Tryf.func11, Tryf.ntmps11
    go_wp2_with (go_at_call 18; refine (hval _).mono ?_; rintro e w' ⟨rfl, rfl⟩)
    go_ret
    exact ⟨rfl, Below.refl _ _⟩
  rw [hv] at hval
  rw [Bool.true_and]
  go_enter Tryf.func11, Tryf.ntmps11
  go_wp2_with (go_at_call 18; refine (hval _).mono ?_; rintro e w1 ⟨rfl, rfl⟩)
  obtain ⟨K, hK⟩ : ∃ K, K = w1.heap.size := ⟨_, rfl⟩
  have hI0 : Inv K w1 s 0 (w1.iter s 0) := ⟨by rw [hK]; exact (Below.refl _ w1).alloc (Nat.le_refl _) _, by rw [hK]; exact World.iter_heap w1 s 0, by omega⟩
  rw [← hK]
  have hfin : ∀ (p : Nat) w', Inv K w1 s p w' → Below w1.heap.size w1 w' := fun p w' h => h.base
  clear hK
  go_loopw [] (fun wr => ∃ (pos fuel : Nat), Inv K w1 s pos wr ∧ okFrom (badR fm) s fuel pos = okRunes (badR fm) s ∧ s.size ≤ pos + fuel) (fun wr => s.size - wr.iterPos K)
  case atStart => exact ⟨0, s.size, hI0, rfl, by omega⟩
  case round =>
    obtain ⟨pos, fuel, hI, hok, hfu⟩ := hrel
    have hit := hI.2.1
    by_cases hps : pos < s.size
    · have hnx0 : ∀ ty, (Instr.next (.pointer (some ⟨K, 0, none⟩)) true ty).run Tryf.prog wr = _ := fun ty => Lib.run_next_any_at wr K s pos ty hit hps
      have hwd := width_pos s pos hps
      have hd1 := decode_le s pos
      obtain ⟨f, rfl⟩ : ∃ f, fuel = f + 1 := ⟨fuel - 1, by omega⟩
      have hok2 : okRunes (badR fm) s = (!badR fm (Utf8.decode s pos).1 && okFrom (badR fm) s f (pos + (Utf8.decode s pos).2)) := by
        rw [← hok]; conv => lhs; unfold okFrom
        rw [if_pos hps]
      have hI2 := hI.step (pos + (Utf8.decode s pos).2)
      revert hnx0 hwd hd1 hok2 hI2
      generalize (Utf8.decode s pos).1 = r
      generalize hp2 : pos + (Utf8.decode s pos).2 = pos2
      intro hnx hwd hd1 hok2 hI2
      have hrf := fun w => refused_any r fm w hd1
      have hb2 := hfin _ _ hI2
      clear hok hI hI0
      cases hbad : badR fm r
      · rw [hbad] at hrf
        go_wp2_with (go_at_call 19; refine (hrf _).mono ?_; rintro e w3 ⟨rfl, rfl⟩)
        go_roundw
        case rel => exact ⟨pos2, f, hI2, by rw [hok2, hbad]; rfl, by omega⟩
        case measure =>
          simp only [World.iterPos, hI2.2.1, hit]; omega
      · rw [hbad] at hrf
        go_wp2_with (go_at_call 19; refine (hrf _).mono ?_; rintro e w3 ⟨rfl, rfl⟩)
        go_ret
        rw [hok2, hbad]
        exact ⟨rfl, hb2⟩
    · have hnx : ∀ ty, (Instr.next (.pointer (some ⟨K, 0, none⟩)) true ty).run Tryf.prog wr = _ := fun ty => Lib.run_next_end_at wr K s pos ty hit hps
      have hb2 := hfin _ _ hI
      go_wp2
      go_ret
      rw [← hok, okFrom_end _ s fuel pos hps]
      exact ⟨rfl, hb2⟩
end Go.Proofs.Qxb6606252aFmt
