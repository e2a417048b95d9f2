/-
  THE WALK of the program's checkPart: a part is let by just where 'partOk' says so.
-/
import Derived.Test.Qxb6606252aFmtEnv
import Derived.WalkKit
import Derived.BigCall
namespace Go.Proofs.Qxb6606252aFmt
open Go.RowKit Go.Extern.Stop Go.Stop Go.Extern Go.Shelf

/-- What checkPart and checkTypeID give back: a text that is empty just where the part is let by. -/
def Told (b : Bool) (w : World) (e : Ending) (w' : World) : Prop := (∃ q : ByteArray, e = .returned (.string q) ∧ q.data.toList.isEmpty = b ∧ q.size ≤ 256) ∧ Below w.heap.size w w'

theorem okFrom_end (bad : Nat → Bool) (s : ByteArray) (fuel pos : Nat) (h : ¬ pos < s.size) : okFrom bad s fuel pos = true := by
  cases fuel with
  | zero => rfl
  | succ f => simp [okFrom, h]

/-- The world of the loop: the iterator at K stands at p; below K all is as it was. -/
def Inv (K : Nat) (w0 : World) (s : ByteArray) (p : Nat) (w : World) : Prop := Below K w0 w ∧ w.heap[K]? = some (.stringIter s p) ∧ w0.heap.size ≤ K
theorem Inv.after {K : Nat} {w0 : World} {s : ByteArray} {p : Nat} {w w' : World} (h : Inv K w0 s p w) (hb : Below w.heap.size w w') : Inv K w0 s p w' := by
  have hlt : K < w.heap.size := (Array.getElem?_eq_some_iff.1 h.2.1).1
  exact ⟨h.1.trans (hb.mono (Nat.le_of_lt hlt)), (hb.block K hlt).trans h.2.1, h.2.2⟩
theorem Inv.base {K : Nat} {w0 : World} {s : ByteArray} {p : Nat} {w : World} (h : Inv K w0 s p w) : Below w0.heap.size w0 w := h.1.mono h.2.2
theorem Inv.step {K : Nat} {w0 : World} {s : ByteArray} {p : Nat} {w : World} (h : Inv K w0 s p w) (p' : Nat) : Inv K w0 s p' (w.iterAt K s p') :=
  ⟨Lib.below_iterAt h.1 (Nat.le_refl _) s p', Lib.iterAt_heap w K s p p' h.2.1, h.2.2⟩

theorem told_of {b : Bool} {w w' : World} (q : ByteArray) (hq : q.data.toList.isEmpty = b) (hl : q.size ≤ 256) (hb : Below w.heap.size w w') : Told b w (.returned (.string q)) w' := ⟨⟨q, rfl, hq, hl⟩, hb⟩
theorem size_append (a b : ByteArray) : (a ++ b).size = a.size + b.size := ByteArray.size_append
theorem empty_of_size (q : ByteArray) (h : 0 < q.size) : q.data.toList.isEmpty = false := by
  rw [Lib.size_eq] at h
  cases hq : q.data.toList with
  | nil => rw [hq] at h; simp at h
  | cons _ _ => rfl

set_option maxHeartbeats 4000000 in
set_option maxRecDepth 100000 in
theorem part_any (F : Interp) (fm wild : Bool) (part s : ByteArray) (w : World) (hE : Env F w) (hp : part.size ≤ 64) (hs : s.size ≤ 2000000) :
    Calls Tryf.prog 24 #[.agg #[.bool fm], .string part, .string s, .bool wild] w (Told (partOk fm wild s) w) := by
  have hb0 : Below w.heap.size w (w.alloc (.cells #[.bool fm] 44)) := (Below.refl _ w).alloc (Nat.le_refl _) _
  have hval := valid_any (hE.below hb0) s (by omega)
  have hsz0 : (w.alloc (.cells #[.bool fm] 44)).heap.size = w.heap.size + 1 := by simp
  unfold partOk
  have hpart : part.size ≤ 64 := hp
  go_enter Tryf.func24, Tryf.ntmps24
  by_cases he : s.data.toList = []
  · have he1 : s = ⟨#[]⟩ := by cases s with | mk d => cases d with | mk l => simp at he; subst he; rfl
    subst he1
    go_wp2
    go_ret
    exact told_of _ (empty_of_size _ (by rw [size_append]; show 0 < 6 + part.size; omega)) (by rw [size_append]; show 6 + part.size ≤ 256; omega) hb0
  · have hne : s.toList.isEmpty = false := by
      rw [ByteArray.toList_eq]; cases hl : s.data.toList with | nil => exact absurd hl he | cons _ _ => rfl
    have hne2 : s.data.toList.isEmpty = false := by rw [← ByteArray.toList_eq]; exact hne
    cases hv : Lib.validD s.data.toList
    · rw [hv] at hval
      go_wp2_with (go_at_call 32; refine hval.mono ?_; rintro e w1 ⟨rfl, hb1⟩)
      go_ret
      exact told_of _ ((empty_of_size _ (by rw [size_append]; show 0 < part.size + 19; omega)).trans (by simp)) (by rw [size_append]; show part.size + 19 ≤ 256; omega) (hb0.trans (hb1.mono (by omega)))
    rw [hv] at hval
    by_cases hw : (s.data.toList == [42] && wild) = true
    · simp only [Bool.and_eq_true] at hw
      obtain ⟨hw1, rfl⟩ := hw
      have hw2 : s.toList = [42] := by rw [ByteArray.toList_eq]; simpa using hw1
      rw [hw1, hne2]
      clear hw1
      go_wp2_with (go_at_call 32; refine hval.mono ?_; rintro e w1 ⟨rfl, hb1⟩)
      go_ret
      exact told_of _ rfl (by decide) (hb0.trans (hb1.mono (by omega)))
    rw [hne2, (Bool.eq_false_iff.2 hw : (s.data.toList == [42] && wild) = false)]
    have hw2 : ¬ (s.toList = [42] ∧ wild = true) := by
      rintro ⟨h1, h2⟩; rw [ByteArray.toList_eq] at h1; exact hw (by rw [h1, h2]; rfl)
    clear hw
    have fin : ∀ (q : ByteArray) (w' : World), q.size ≤ 64 → okRunes (badR fm) s = false → Below w.heap.size w w' →
        Told (!false && (true && (false || okRunes (badR fm) s))) w (.returned (.string (part ++ ⟨#[32, 104, 111, 108, 100, 115, 32]⟩ ++ q))) w' := fun q w' hq ho hb => by
      rw [ho]
      exact told_of _ (empty_of_size _ (by rw [size_append, size_append]; show 0 < part.size + 7 + q.size; omega)) (by rw [size_append, size_append]; show part.size + 7 + q.size ≤ 256; omega) hb
    have hcase : (s.toList = [42] ∧ wild = false) ∨ ¬ s.toList = [42] := by
      by_cases h42 : s.toList = [42]
      · exact .inl ⟨h42, by cases wild; rfl; exact absurd ⟨h42, rfl⟩ hw2⟩
      · exact .inr h42
    clear hw2
    rcases hcase with ⟨h42, rfl⟩ | h42
    all_goals
      go_wp2_with (go_at_call 32; refine hval.mono ?_; rintro e w1 ⟨rfl, hb1⟩)
      have hE1 := (hE.below hb0).below hb1
      have hbw := hb0.trans (hb1.mono (B' := w.heap.size) (by omega))
      have hbox : w1.cell? ⟨w.heap.size, 0, none⟩ = some (.bool fm) := cell_below hb1 (by simp [go_sem])
      obtain ⟨K, hK⟩ : ∃ K, K = w1.heap.size := ⟨_, rfl⟩
      have hI0 : Inv K w1 s 0 (w1.iter s 0) := ⟨by rw [hK]; exact (Below.refl _ w1).alloc (Nat.le_refl _) _, by rw [hK]; exact World.iter_heap w1 s 0, by omega⟩
      obtain ⟨a, hpa, hcfa⟩ := cf_any hE1
      rw [← hK]
      clear hval hb1 hE hK
      go_loopw [] (fun wr => ∃ (pos fuel : Nat), Inv K w1 s pos wr ∧ okFrom (badR fm) s fuel pos = okRunes (badR fm) s ∧ s.size ≤ pos + fuel) (fun wr => s.size - wr.iterPos K)
      case atStart => exact ⟨0, s.size, hI0, rfl, by omega⟩
      case round =>
        obtain ⟨pos, fuel, hI, hok, hfu⟩ := hrel
        have hit := hI.2.1
        by_cases hps : pos < s.size
        · have hnx0 : ∀ ty, (Instr.next (.pointer (some ⟨K, 0, none⟩)) true ty).run Tryf.prog wr = _ := fun ty => Lib.run_next_any_at wr K s pos ty hit hps
          have hwd := width_pos s pos hps
          have hd1 := decode_le s pos
          obtain ⟨f, rfl⟩ : ∃ f, fuel = f + 1 := ⟨fuel - 1, by omega⟩
          have hok2 : okRunes (badR fm) s = (!badR fm (Utf8.decode s pos).1 && okFrom (badR fm) s f (pos + (Utf8.decode s pos).2)) := by
            rw [← hok]; conv => lhs; unfold okFrom
            rw [if_pos hps]
          have hI2 := hI.step (pos + (Utf8.decode s pos).2)
          revert hnx0 hwd hd1 hok2 hI2
          generalize (Utf8.decode s pos).1 = r
          generalize hp2 : pos + (Utf8.decode s pos).2 = pos2
          intro hnx hwd hd1 hok2 hI2
          have hsp : ∀ w', Inv K w1 s pos2 w' → Calls Tryf.prog 33 #[.int .i32 r] w' fun e w2 => e = .returned (.bool (Lib.isSpaceZ r)) ∧ Inv K w1 s pos2 w2 := fun w' h => (space_any (hE1.below h.base) r hd1).mono fun e w2 h2 => ⟨h2.1, h.after h2.2⟩
          have hct : ∀ w', Inv K w1 s pos2 w' → Calls Tryf.prog 34 #[.int .i32 r] w' fun e w2 => e = .returned (.bool (Lib.isControlU r)) ∧ Inv K w1 s pos2 w2 := fun w' h => (control_any (hE1.below h.base) r hd1).mono fun e w2 h2 => ⟨h2.1, h.after h2.2⟩
          have hcf : ∀ w', Inv K w1 s pos2 w' → Calls Tryf.prog 35 #[.pointer (some a), .int .i32 r] w' fun e w2 => e = .returned (.bool (Lib.isGo cfT r)) ∧ Inv K w1 s pos2 w2 := fun w' h => (hcfa r w' hd1 h.base).mono fun e w2 h2 => ⟨h2.1, h.after h2.2⟩
          have hnm : badR fm r = true → ∀ w', Inv K w1 s pos2 w' → Calls Tryf.prog 36 #[.int .i32 r] w' fun e w2 => ∃ q : ByteArray, e = .returned (.string q) ∧ q.size ≤ 64 ∧ Inv K w1 s pos2 w2 := fun hb w' h => (named_any F r w' (hE1.below h.base).ans hE1.short (by omega) (by omega) (by intro e; have : r = 39 := (by omega); subst this; rw [bad_39] at hb; cases hb) (by intro e; have : r = 92 := (by omega); subst this; rw [bad_92] at hb; cases hb)).mono fun e w2 ⟨⟨q, h1, h2⟩, h3⟩ => ⟨q, h1, h2, h.after h3⟩
          have hbx : ∀ w', Inv K w1 s pos2 w' → w'.cell? ⟨w.heap.size, 0, none⟩ = some (.bool fm) := fun w' h => cell_below h.base hbox
          have hpc : ∀ w', Inv K w1 s pos2 w' → w'.cell? ⟨1, 0, none⟩ = some (.pointer (some a)) := fun w' h => cell_below h.base hpa
          have hend : badR fm r = true → ∀ (q : ByteArray) w', q.size ≤ 64 → Inv K w1 s pos2 w' → Told (!false && (true && (false || okRunes (badR fm) s))) w (.returned (.string (part ++ ⟨#[32, 104, 111, 108, 100, 115, 32]⟩ ++ q))) w' := fun hb q w' hq h => fin q w' hq (by rw [hok2, hb]; rfl) (hbw.trans (h.base.mono hbw.size))
          clear hok hI hbox hpa hcfa hE1 hI0 fin
          cases e58 : ((r : Int) == 58)
          case true =>
            have hbad : badR fm r = true := by simp [badR, e58]
            go_wp2_with (first | (go_at_call 33; refine (hsp _ (by assumption)).mono ?_; rintro e w4 ⟨rfl, hI4⟩) | (go_at_call 34; refine (hct _ (by assumption)).mono ?_; rintro e w5 ⟨rfl, hI5⟩; have hbx5 := hbx _ hI5; have hpc5 := hpc _ hI5) | (go_at_call 35; refine (hcf _ (by assumption)).mono ?_; rintro e w6 ⟨rfl, hI6⟩) | (go_at_call 36; refine (hnm hbad _ (by assumption)).mono ?_; rintro e w7 ⟨q, rfl, hq, hI7⟩))
            go_ret
            exact hend hbad _ _ hq hI7
          cases e35 : ((r : Int) == 35)
          case true =>
            have hbad : badR fm r = true := by simp [badR, e35]
            go_wp2_with (first | (go_at_call 33; refine (hsp _ (by assumption)).mono ?_; rintro e w4 ⟨rfl, hI4⟩) | (go_at_call 34; refine (hct _ (by assumption)).mono ?_; rintro e w5 ⟨rfl, hI5⟩; have hbx5 := hbx _ hI5; have hpc5 := hpc _ hI5) | (go_at_call 35; refine (hcf _ (by assumption)).mono ?_; rintro e w6 ⟨rfl, hI6⟩) | (go_at_call 36; refine (hnm hbad _ (by assumption)).mono ?_; rintro e w7 ⟨q, rfl, hq, hI7⟩))
            go_ret
            exact hend hbad _ _ hq hI7
          cases e42 : ((r : Int) == 42)
          case true =>
            have hbad : badR fm r = true := by simp [badR, e42]
            go_wp2_with (first | (go_at_call 33; refine (hsp _ (by assumption)).mono ?_; rintro e w4 ⟨rfl, hI4⟩) | (go_at_call 34; refine (hct _ (by assumption)).mono ?_; rintro e w5 ⟨rfl, hI5⟩; have hbx5 := hbx _ hI5; have hpc5 := hpc _ hI5) | (go_at_call 35; refine (hcf _ (by assumption)).mono ?_; rintro e w6 ⟨rfl, hI6⟩) | (go_at_call 36; refine (hnm hbad _ (by assumption)).mono ?_; rintro e w7 ⟨q, rfl, hq, hI7⟩))
            go_ret
            exact hend hbad _ _ hq hI7
          cases esp : Lib.isSpaceZ r
          case true =>
            have hbad : badR fm r = true := by simp [badR, esp]
            rw [esp] at hsp
            go_wp2_with (first | (go_at_call 33; refine (hsp _ (by assumption)).mono ?_; rintro e w4 ⟨rfl, hI4⟩) | (go_at_call 34; refine (hct _ (by assumption)).mono ?_; rintro e w5 ⟨rfl, hI5⟩; have hbx5 := hbx _ hI5; have hpc5 := hpc _ hI5) | (go_at_call 35; refine (hcf _ (by assumption)).mono ?_; rintro e w6 ⟨rfl, hI6⟩) | (go_at_call 36; refine (hnm hbad _ (by assumption)).mono ?_; rintro e w7 ⟨q, rfl, hq, hI7⟩))
            go_ret
            exact hend hbad _ _ hq hI7
          rw [esp] at hsp
          cases ect : Lib.isControlU r
          case true =>
            have hbad : badR fm r = true := by simp [badR, ect]
            rw [ect] at hct
            go_wp2_with (first | (go_at_call 33; refine (hsp _ (by assumption)).mono ?_; rintro e w4 ⟨rfl, hI4⟩) | (go_at_call 34; refine (hct _ (by assumption)).mono ?_; rintro e w5 ⟨rfl, hI5⟩; have hbx5 := hbx _ hI5; have hpc5 := hpc _ hI5) | (go_at_call 35; refine (hcf _ (by assumption)).mono ?_; rintro e w6 ⟨rfl, hI6⟩) | (go_at_call 36; refine (hnm hbad _ (by assumption)).mono ?_; rintro e w7 ⟨q, rfl, hq, hI7⟩))
            go_ret
            exact hend hbad _ _ hq hI7
          rw [ect] at hct
          have hround : badR fm r = false → ∀ w', Inv K w1 s pos2 w' → ∃ (pos fuel : Nat), Inv K w1 s pos w' ∧ okFrom (badR fm) s fuel pos = okRunes (badR fm) s ∧ s.size ≤ pos + fuel := fun hb w' h => ⟨pos2, f, h, by rw [hok2, hb]; rfl, by omega⟩
          have hmeas : ∀ w', Inv K w1 s pos2 w' → s.size - w'.iterPos K < s.size - wr.iterPos K := fun w' h => by
            simp only [World.iterPos, h.2.1, hit]; omega
          cases fm
          case true =>
            have hbad : badR true r = false := by simp [badR, e58, e35, e42, esp, ect]
            go_wp2_with (first | (go_at_call 33; refine (hsp _ (by assumption)).mono ?_; rintro e w4 ⟨rfl, hI4⟩) | (go_at_call 34; refine (hct _ (by assumption)).mono ?_; rintro e w5 ⟨rfl, hI5⟩; have hbx5 := hbx _ hI5; have hpc5 := hpc _ hI5) | (go_at_call 35; refine (hcf _ (by assumption)).mono ?_; rintro e w6 ⟨rfl, hI6⟩) | (go_at_call 36; refine (hnm hbad _ (by assumption)).mono ?_; rintro e w7 ⟨q, rfl, hq, hI7⟩))
            go_roundw
            case rel => exact hround hbad _ hI5
            case measure => exact hmeas _ hI5
          cases ecf : Lib.isGo cfT r
          case true =>
            have hbad : badR false r = true := by simp [badR, ecf]
            rw [ecf] at hcf
            go_wp2_with (first | (go_at_call 33; refine (hsp _ (by assumption)).mono ?_; rintro e w4 ⟨rfl, hI4⟩) | (go_at_call 34; refine (hct _ (by assumption)).mono ?_; rintro e w5 ⟨rfl, hI5⟩; have hbx5 := hbx _ hI5; have hpc5 := hpc _ hI5) | (go_at_call 35; refine (hcf _ (by assumption)).mono ?_; rintro e w6 ⟨rfl, hI6⟩) | (go_at_call 36; refine (hnm hbad _ (by assumption)).mono ?_; rintro e w7 ⟨q, rfl, hq, hI7⟩))
            go_ret
            exact hend hbad _ _ hq hI7
          have hbad : badR false r = false := by simp [badR, e58, e35, e42, esp, ect, ecf]
          rw [ecf] at hcf
          go_wp2_with (first | (go_at_call 33; refine (hsp _ (by assumption)).mono ?_; rintro e w4 ⟨rfl, hI4⟩) | (go_at_call 34; refine (hct _ (by assumption)).mono ?_; rintro e w5 ⟨rfl, hI5⟩; have hbx5 := hbx _ hI5; have hpc5 := hpc _ hI5) | (go_at_call 35; refine (hcf _ (by assumption)).mono ?_; rintro e w6 ⟨rfl, hI6⟩) | (go_at_call 36; refine (hnm hbad _ (by assumption)).mono ?_; rintro e w7 ⟨q, rfl, hq, hI7⟩))
          go_roundw
          case rel => exact hround hbad _ hI6
          case measure => exact hmeas _ hI6
        · have hnx : ∀ ty, (Instr.next (.pointer (some ⟨K, 0, none⟩)) true ty).run Tryf.prog wr = _ := fun ty => Lib.run_next_end_at wr K s pos ty hit hps
          go_wp2
          go_ret
          rw [← hok, okFrom_end _ s fuel pos hps]
          exact told_of _ rfl (by decide) (hbw.trans (hI.base.mono hbw.size))
end Go.Proofs.Qxb6606252aFmt
