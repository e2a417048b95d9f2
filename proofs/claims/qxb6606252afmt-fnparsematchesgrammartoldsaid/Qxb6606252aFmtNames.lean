/-
  THE WALK of checkTypeID, checkName, CheckName and Object.String.
-/
import Derived.Test.Qxb6606252aFmtPart
namespace Go.Proofs.Qxb6606252aFmt
open Go.RowKit Go.Extern.Stop Go.Stop Go.Extern Go.Shelf

/-- nil where b holds, an error else. -/
def errV (b : Bool) (x : Value) : Value := match b with | true => .nilIface | false => .iface 63 x
def Errs (b : Bool) (w : World) (e : Ending) (w' : World) : Prop := (∃ x, e = .returned (errV b x)) ∧ Below w.heap.size w w'

theorem part_42 (fm : Bool) (s : ByteArray) (h : s.data.toList = [42]) : partOk fm false s = false := part_star fm s (by rw [h]; simp)
theorem part_w42 (fm : Bool) (s : ByteArray) (h : s.data.toList = [42]) : partOk fm true s = true := by
  unfold partOk; rw [h]; rfl

theorem up_alloc {w w1 : World} {o : Obj} (h : Below (w.alloc o).heap.size (w.alloc o) w1) : Below w.heap.size w w1 :=
  ((Below.refl _ w).alloc (Nat.le_refl _) o).trans (h.mono (by simp))

set_option maxHeartbeats 1600000 in
set_option maxRecDepth 100000 in
theorem typeID_any (F : Interp) (fm wild : Bool) (typ id : ByteArray) (w : World) (hE : Env F w) (ht : typ.size ≤ 2000000) (hi : id.size ≤ 2000000) :
    Calls Tryf.prog 22 #[.agg #[.bool fm], .string typ, .string id, .bool wild] w (Told (partOk fm false typ && partOk fm wild id) w) := by
  have hb0 : Below w.heap.size w (w.alloc (.cells #[.bool fm] 44)) := (Below.refl _ w).alloc (Nat.le_refl _) _
  have hsz0 : (w.alloc (.cells #[.bool fm] 44)).heap.size = w.heap.size + 1 := by simp
  have hbox : (w.alloc (.cells #[.bool fm] 44)).cell? ⟨w.heap.size, 0, none⟩ = some (.bool fm) := by simp [go_sem]
  have hc1 := part_any F fm false ⟨#[116, 121, 112, 101]⟩ typ _ (hE.below hb0) (by decide) ht
  go_enter Tryf.func22, Tryf.ntmps22
  cases h1 : partOk fm false typ
  · rw [h1] at hc1
    go_wp2_with (go_at_call 24; refine hc1.mono ?_; rintro e w1 ⟨⟨q, rfl, hq, hl⟩, hb1⟩; rw [← ByteArray.toList_eq] at hq)
    go_ret
    rw [ByteArray.toList_eq] at hq
    exact told_of q hq hl (hb0.trans (hb1.mono (by omega)))
  · rw [h1] at hc1
    have hc2 : ∀ w1, Below w.heap.size w w1 → Calls Tryf.prog 24 #[.agg #[.bool fm], .string ⟨#[105, 100]⟩, .string id, .bool wild] w1 (Told (partOk fm wild id) w1) := fun w1 hb => part_any F fm wild ⟨#[105, 100]⟩ id w1 (hE.below hb) (by decide) hi
    by_cases h42 : id.toList = [42]
    · cases wild
      · rw [part_42 fm id (by rw [← ByteArray.toList_eq]; exact h42)]
        go_wp2_with (go_at_call 24; refine hc1.mono ?_; rintro e w1 ⟨⟨q, rfl, hq, hl⟩, hb1⟩; rw [← ByteArray.toList_eq] at hq)
        go_ret
        exact told_of _ rfl (by decide) (hb0.trans (hb1.mono (by omega)))
      · go_wp2_with (first | (go_at_call_of 24 typ; refine hc1.mono ?_; rintro e w1 ⟨⟨q, rfl, hq, hl⟩, hb1⟩; rw [← ByteArray.toList_eq] at hq; have hx := cell_below hb1 hbox; have hbw := up_alloc hb1) | (go_at_call_of 24 id; refine (hc2 _ hbw).mono ?_; rintro e w2 ⟨⟨q2, rfl, hq2, hl2⟩, hb2⟩))
        go_ret
        exact told_of _ (by rw [hq2]; rfl) hl2 (hbw.trans (hb2.mono hbw.size))
    · go_wp2_with (first | (go_at_call_of 24 typ; refine hc1.mono ?_; rintro e w1 ⟨⟨q, rfl, hq, hl⟩, hb1⟩; rw [← ByteArray.toList_eq] at hq; have hx := cell_below hb1 hbox; have hbw := up_alloc hb1) | (go_at_call_of 24 id; refine (hc2 _ hbw).mono ?_; rintro e w2 ⟨⟨q2, rfl, hq2, hl2⟩, hb2⟩))
      go_ret
      exact told_of _ (by rw [hq2]; rfl) hl2 (hbw.trans (hb2.mono hbw.size))

set_option maxHeartbeats 1600000 in
set_option maxRecDepth 100000 in
theorem checkName_any (F : Interp) (fm : Bool) (part s : ByteArray) (w : World) (hE : Env F w) (hp : part.size ≤ 64) (hs : s.size ≤ 2000000) :
    Calls Tryf.prog 17 #[.agg #[.bool fm], .string part, .string s] w (Errs (partOk fm false s) w) := by
  have hb0 : Below w.heap.size w (w.alloc (.cells #[.bool fm] 44)) := (Below.refl _ w).alloc (Nat.le_refl _) _
  have hsz0 : (w.alloc (.cells #[.bool fm] 44)).heap.size = w.heap.size + 1 := by simp
  have hc1 := part_any F fm false part s _ (hE.below hb0) hp hs
  go_enter Tryf.func17, Tryf.ntmps17
  cases h1 : partOk fm false s
  · rw [h1] at hc1
    go_wp2_with (go_at_call 24; refine hc1.mono ?_; rintro e w1 ⟨⟨q, rfl, hq, hl⟩, hb1⟩; rw [← ByteArray.toList_eq] at hq)
    have hbw := hb0.trans (hb1.mono (by rw [hsz0]; omega))
    refine (errorfC F part s q w1.heap.size _ ?_ ?_ ?_ ?_).mono ?_
    · exact (hE.below hbw).ans
    · simp [go_sem]
    · simp [go_sem]
    · simp [go_sem]
    rintro e w2 ⟨⟨v, rfl⟩, hb2⟩
    go_wp2
    go_ret
    exact ⟨⟨v, rfl⟩, hbw.trans ((up_alloc hb2).mono hbw.size)⟩
  · rw [h1] at hc1
    go_wp2_with (go_at_call 24; refine hc1.mono ?_; rintro e w1 ⟨⟨q, rfl, hq, hl⟩, hb1⟩; rw [← ByteArray.toList_eq] at hq)
    go_ret
    exact ⟨⟨.nilIface, rfl⟩, hb0.trans (hb1.mono (by rw [hsz0]; omega))⟩

set_option maxRecDepth 100000 in
theorem CheckName_any (F : Interp) (part s : ByteArray) (w : World) (hE : Env F w) (hg : w.cell? ⟨0, 0, none⟩ = some (.bool false)) (hp : part.size ≤ 64) (hs : s.size ≤ 2000000) :
    Calls Tryf.prog 9 #[.string part, .string s] w (Errs (partOk false false s) w) := by
  have hc := checkName_any F false part s w hE hp hs
  go_enter Tryf.func9, Tryf.ntmps9
  go_wp2_with (go_at_call 17; refine hc.mono ?_; rintro e w1 ⟨⟨v, rfl⟩, hb1⟩)
  go_ret
  exact ⟨⟨v, rfl⟩, hb1⟩
theorem string_any (typ id : ByteArray) (w : World) (h : typ.size + id.size ≤ 2000000) :
    Calls Tryf.prog 8 #[.agg #[.string typ, .string id]] w fun e w' => e = .returned (.string (typ ++ ⟨#[58]⟩ ++ id)) ∧ Below w.heap.size w w' := by
  go_enter Tryf.func8, Tryf.ntmps8
  go_wp2
  go_ret
  exact ⟨rfl, by go_grown⟩
end Go.Proofs.Qxb6606252aFmt
