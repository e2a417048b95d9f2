/-
  WHAT THE ROADS OF THIS SEAT FIND IN MEMORY, and the library's contracts under it.
-/
import Derived.Test.Qxb6606252aFmtPlain
import Derived.Test.Qxb6606252aFmtShelf
import Derived.Test.Qxb6606252aFmtQuote2
import Derived.Shelf.Unicode.PredsPay
import Derived.Lib.OthersKept
namespace Go.Proofs.Qxb6606252aFmt
open Go.RowKit Go.Extern.Stop Go.Stop Go.Extern Go.Shelf

/-- The library's variables as its text lays them; fmt's answers; a rune's text is short. -/
structure Env (F : Interp) (w : World) : Prop where
  maxi : ∃ m, w.cell? ⟨6, 0, none⟩ = some (.int .i64 m)
  ans : F.answers w.tape
  short : ShortU F
  utf : Lib.Utf8Tabs 2 3 w
  white : Lib.WhiteTab 4 w
  cf : Lib.RVar 1 cfT w
  props : Lib.TabIs Tryf.prog w "unicode.properties" .u8 Lib.propertiesTab
theorem props_named : Tryf.prog.globalNamed "unicode.properties" = some 5 := by kernel_rfl
theorem Env.below {F : Interp} {w w' : World} (h : Env F w) (hb : Below w.heap.size w w') : Env F w' :=
  ⟨h.maxi.imp fun _ e => cell_below hb e, by rw [hb.tape]; exact h.ans, h.short, Utf8Tabs_below h.utf hb, WhiteTab_below h.white hb, RVar_below h.cf hb, TabIs_below props_named h.props hb⟩
theorem cfT_ok : Lib.RTabOk cfT := Lib.RTabOk_of_B (by kernel_rfl)
theorem valid_any {F : Interp} {w : World} (h : Env F w) (s : ByteArray) (hs : s.size ≤ 9223372036854775807) :
    Calls Tryf.prog 32 #[.string s] w fun e w' => e = .returned (.bool (Lib.validD s.data.toList)) ∧ Below w.heap.size w w' :=
  Any.utf8_ValidString Tryf.lays196 s w hs h.utf
theorem space_any {F : Interp} {w : World} (h : Env F w) (r : Nat) (hr : r ≤ 2147483647) :
    Calls Tryf.prog 33 #[.int .i32 r] w fun e w' => e = .returned (.bool (Lib.isSpaceZ r)) ∧ Below w.heap.size w w' :=
  Any.unicode_IsSpace_any Tryf.lays199 r w (by omega) (by omega) h.white
theorem control_any {F : Interp} {w : World} (h : Env F w) (r : Nat) (hr : r ≤ 2147483647) :
    Calls Tryf.prog 34 #[.int .i32 r] w fun e w' => e = .returned (.bool (Lib.isControlU r)) ∧ Below w.heap.size w w' :=
  Any.unicode_IsControl_all Tryf.laysGn22 props_named r w (by omega) (by omega) h.props
theorem cf_any {F : Interp} {w : World} (h : Env F w) : ∃ a : Addr, w.cell? ⟨1, 0, none⟩ = some (.pointer (some a)) ∧
    ∀ (r : Nat) (w' : World), r ≤ 2147483647 → Below w.heap.size w w' → Calls Tryf.prog 35 #[.pointer (some a), .int .i32 r] w' fun e w2 => e = .returned (.bool (Lib.isGo cfT r)) ∧ Below w'.heap.size w' w2 := by
  obtain ⟨Tb, oT, hp, hA⟩ := h.cf
  exact ⟨_, hp, fun r w' hr hb => Any.unicode_Is_any Tryf.laysGn14 Tb oT cfT r w' (by omega) (by omega) (RTabAt_below hA hb) cfT_ok⟩
theorem bad_39 (f : Bool) : badR f 39 = false := by cases f <;> kernel_rfl
theorem bad_92 (f : Bool) : badR f 92 = false := by cases f <;> kernel_rfl
end Go.Proofs.Qxb6606252aFmt
