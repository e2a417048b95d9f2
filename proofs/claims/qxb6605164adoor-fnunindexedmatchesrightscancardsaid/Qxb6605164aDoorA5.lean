/-
  THE WALK of unindexed over the contracts of strings.Cut, CutSuffix and Trim.
-/
import Derived.Test.Qxb6605164aDoorA3
import Derived.Test.Qxb6605164aDoorShelf
namespace Go.Proofs.Qxb6605164aDoor
open Go.RowKit Go.Shelf

theorem below_drawn {B : Nat} {a w : World} (h : Below B a w) (n : Nat) : Below B a (w.drewN n) := h.trans ⟨rfl, rfl, rfl, Nat.le_refl _, fun _ _ => rfl⟩

/-- strings.Trim of the ten digits. -/
theorem trim_any (s : ByteArray) (w : World) (hs : s.size ≤ 1048576) :
    Calls Tryd.prog 23 #[.string s, .string ⟨#[48, 49, 50, 51, 52, 53, 54, 55, 56, 57]⟩] w fun e w' => (∃ r : ByteArray, e = .returned (.string r) ∧ r.toList.isEmpty = s.data.toList.all digB) ∧ Below w.heap.size w w' := by
  have hcon := Any.strings_Trim_laid Tryd.lays160 (by kernel_rfl) s ⟨#[48, 49, 50, 51, 52, 53, 54, 55, 56, 57]⟩ w (by omega) (by decide) (ascii_of_all (by decide))
  refine Calls.mono (show Calls Tryd.prog 23 _ _ _ from hcon) fun e w' ⟨h1, h2⟩ => ⟨⟨_, h1, ?_⟩, h2⟩
  rw [ByteArray.toList_mk]
  exact trim_digits _
/-- The library's own variable internal/bytealg.MaxLen holds some int. -/
def HasMax (w : World) : Prop := ∃ m, w.cell? ⟨0, 0, none⟩ = some (.int .i64 m)
theorem HasMax.of_shaped {w : World} (h : w.ShapedOpen Tryd.prog) : HasMax w := Tryd.laysM145.s1_3 w h
theorem HasMax.size {w : World} (h : HasMax w) : 0 < w.heap.size := by
  obtain ⟨m, hm⟩ := h
  by_cases e : 0 < w.heap.size
  · exact e
  · have : w.heap[0]? = none := Array.getElem?_eq_none (by omega)
    simp [World.cell?, this] at hm
theorem HasMax.below {w w' : World} (h : HasMax w) (hb : Below w.heap.size w w') : HasMax w' := by
  have hz := h.size
  obtain ⟨m, hm⟩ := h
  exact ⟨m, (hb.cell (p := ⟨0, 0, none⟩) hz).trans hm⟩

theorem cut_any (s : ByteArray) (w : World) (h : HasMax w) (hs : s.size ≤ 1048576) :
    Calls Tryd.prog 21 #[.string s, .string ⟨#[91]⟩] w fun e w' => e = .returned (.tuple #[.string ⟨(Lib.cut s.data.toList [91]).1.toArray⟩, .string ⟨(Lib.cut s.data.toList [91]).2.1.toArray⟩, .bool (Lib.cut s.data.toList [91]).2.2]) ∧ ∃ n, w' = w.drewN n := by
  obtain ⟨m, hm⟩ := h
  exact Any.strings_Cut { Tryd.laysM145 with } s ⟨#[91]⟩ m w (by omega) hm
theorem suffix_any (s : ByteArray) (w : World) (hs : s.size ≤ 1048576) :
    Calls Tryd.prog 22 #[.string s, .string ⟨#[93]⟩] w fun e w' => e = .returned (.tuple #[.string ⟨(Lib.trimSuffix s.data.toList [93]).toArray⟩, .bool (Lib.hasSuffix s.data.toList [93])]) ∧ w' = w :=
  Any.strings_CutSuffix Tryd.lays104 s ⟨#[93]⟩ w (by omega)

theorem cut_le (l : List UInt8) : (Lib.cut l [91]).1.length ≤ l.length ∧ (Lib.cut l [91]).2.1.length ≤ l.length := by
  rcases part_at 91 l with h | ⟨a, r, rfl, h⟩
  · rw [cut_no 91 l h]; simp
  · rw [cut_yes 91 a r h]; simp; omega
theorem tsuf_le (l : List UInt8) : (Lib.trimSuffix l [93]).length ≤ l.length := by
  unfold Lib.trimSuffix; split
  · simp
  · exact Nat.le_refl _

set_option maxHeartbeats 800000 in
theorem unidx_any (s : ByteArray) (w : World) (h : HasMax w) (hs : s.size ≤ 1048576) :
    Calls Tryd.prog 19 #[.string s] w fun e w' => e = .returned (.string ⟨(unidx s.data.toList).toArray⟩) ∧ Below w.heap.size w w' := by
  have hlen : s.data.toList.length = s.size := by simp
  have hcut := cut_any s w h hs
  have hl := (cut_le s.data.toList).2
  have hU : unidx s.data.toList = if (Lib.hasSuffix (Lib.cut s.data.toList [91]).2.1 [93] && (!(Lib.trimSuffix (Lib.cut s.data.toList [91]).2.1 [93]).isEmpty && (Lib.trimSuffix (Lib.cut s.data.toList [91]).2.1 [93]).all digB)) = true then (Lib.cut s.data.toList [91]).1 else s.data.toList := rfl
  generalize unidx s.data.toList = u at hU ⊢
  generalize Lib.cut s.data.toList [91] = c at hcut hl hU
  obtain ⟨c1, c2, c3⟩ := c
  simp only at hcut hl hU
  have hsuf : ∀ w, Calls Tryd.prog 22 #[.string ⟨c2.toArray⟩, .string ⟨#[93]⟩] w fun e w' => e = .returned (.tuple #[.string ⟨(Lib.trimSuffix c2 [93]).toArray⟩, .bool (Lib.hasSuffix c2 [93])]) ∧ w' = w := fun w => suffix_any ⟨c2.toArray⟩ w (by rw [Lib.size_eq]; simp; omega)
  have hl2 := tsuf_le c2
  generalize Lib.trimSuffix c2 [93] = d at hsuf hU hl2
  generalize Lib.hasSuffix c2 [93] = f at hsuf hU
  have htr := fun w => trim_any ⟨d.toArray⟩ w (by rw [Lib.size_eq]; simp; omega)
  have hall : (⟨d.toArray⟩ : ByteArray).data.toList.all digB = d.all digB := rfl
  rw [hall] at htr
  have hde : (⟨d.toArray⟩ : ByteArray).toList.isEmpty = d.isEmpty := by rw [ByteArray.toList_mk]
  generalize (⟨d.toArray⟩ : ByteArray) = D at hsuf htr hde
  generalize (⟨c2.toArray⟩ : ByteArray) = C at hcut hsuf
  have hk : u = s.data.toList → s = ⟨u.toArray⟩ := fun e => by rw [e]
  clear hall hl hl2 h
  cases f
  · have HK : Hid (s = ⟨u.toArray⟩) := hk (by rw [hU]; rfl)
    clear hU hk hde htr
    go_enter Tryd.func19, Tryd.ntmps19
    go_wp2_with (first | (go_at_call 21; refine hcut.mono ?_; rintro e w' ⟨rfl, n, rfl⟩) | (go_at_call 22; refine (hsuf _).mono ?_; rintro e w' ⟨rfl, rfl⟩))
    go_ret
    exact ⟨ret_str HK.out, below_drawn (Below.refl _ _) _⟩
  cases hdd : d.isEmpty
  · rw [hdd] at hde
    cases hda : d.all digB
    · have HK : Hid (s = ⟨u.toArray⟩) := hk (by rw [hU, hdd, hda]; rfl)
      rw [hda] at htr
      clear hU hk hdd hda
      go_enter Tryd.func19, Tryd.ntmps19
      go_wp2_with (first | (go_at_call 21; refine hcut.mono ?_; rintro e w' ⟨rfl, n, rfl⟩) | (go_at_call 22; refine (hsuf _).mono ?_; rintro e w' ⟨rfl, rfl⟩) | (go_at_call 23; refine (htr _).mono ?_; rintro e w' ⟨⟨r, rfl, hr⟩, hb⟩))
      go_ret
      exact ⟨ret_str HK.out, (below_drawn (Below.refl _ _) _).trans hb⟩
    · have HK : Hid (u = c1) := by show _ = _; rw [hU, hdd, hda]; rfl
      rw [hda] at htr
      clear hU hk hdd hda
      go_enter Tryd.func19, Tryd.ntmps19
      go_wp2_with (first | (go_at_call 21; refine hcut.mono ?_; rintro e w' ⟨rfl, n, rfl⟩) | (go_at_call 22; refine (hsuf _).mono ?_; rintro e w' ⟨rfl, rfl⟩) | (go_at_call 23; refine (htr _).mono ?_; rintro e w' ⟨⟨r, rfl, hr⟩, hb⟩))
      go_ret
      exact ⟨ret_str (by rw [HK.out]), (below_drawn (Below.refl _ _) _).trans hb⟩
  · rw [hdd] at hde
    have HK : Hid (s = ⟨u.toArray⟩) := hk (by rw [hU, hdd]; rfl)
    clear hU hk hdd htr
    go_enter Tryd.func19, Tryd.ntmps19
    go_wp2_with (first | (go_at_call 21; refine hcut.mono ?_; rintro e w' ⟨rfl, n, rfl⟩) | (go_at_call 22; refine (hsuf _).mono ?_; rintro e w' ⟨rfl, rfl⟩))
    go_ret
    exact ⟨ret_str HK.out, below_drawn (Below.refl _ _) _⟩
theorem zzunidx_any (s : ByteArray) (w : World) (h : HasMax w) (hs : s.size ≤ 1048576) :
    Calls Tryd.prog 13 #[.string s] w fun e w' => e = .returned (.string ⟨(unidx s.data.toList).toArray⟩) ∧ Below w.heap.size w w' := by
  have hc := unidx_any s w h hs
  generalize (⟨(unidx s.data.toList).toArray⟩ : ByteArray) = r at hc ⊢
  go_enter Tryd.func13, Tryd.ntmps13
  go_wp2_with (go_at_call 19; refine hc.mono ?_; rintro e w' ⟨rfl, hb⟩)
  go_ret
  exact ⟨rfl, hb⟩
end Go.Proofs.Qxb6605164aDoor
