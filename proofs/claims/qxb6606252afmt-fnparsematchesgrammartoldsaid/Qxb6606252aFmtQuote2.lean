/-
  THE WALK of strconv.QuoteRune and of the program's 'named'.
-/
import Derived.Test.Qxb6606252aFmtQuote
import Derived.Test.Qxb6606252aFmtFmt
import Derived.Laws.BytesArg
namespace Go.Proofs.Qxb6606252aFmt
open Go.RowKit Go.Extern.Stop Go.Stop Go.Extern

set_option maxHeartbeats 1600000 in
set_option maxRecDepth 100000 in
theorem quoted_any (r : Int) (w : World) (h0 : 0 ≤ r) (h1 : r ≤ 127) (hq : r ≠ 39) (hs : r ≠ 92) :
    Calls Tryf.prog 51 #[.slice none 0 0, .int .i32 r, .int .u8 39, .bool false, .bool false] w fun e w' => ∃ v' ys, e = .returned v' ∧ Buf w.heap.size v' ys w w' ∧ 0 < ys.length ∧ ys.length ≤ 6 := by
  obtain ⟨i0, hi, hz0, hz1, hz2⟩ := info_parts byteInfo
  have hb : Lib.OwnBuf w.heap.size 5 (.slice none 0 0) 0 [] w w := ⟨World.ownsRowF_nil _ _ _ _, Below.refl _ _, Nat.le_refl _⟩
  have hesc : ∀ v w', Buf w.heap.size v [39] w w' → Calls Tryf.prog 53 #[v, .int .i32 r, .int .u8 39, .bool false, .bool false] w' (Longer w.heap.size [39] w) := fun v w' h => escape_any w.heap.size v [39] r w w' h (by simp) h0 h1 hq hs
  have hval := fun w => validRune_ascii r w h0 h1
  go_enter Tryf.func51, Tryf.ntmps51
  go_big_wp2_with (first | (go_at_call 52; refine (hval _).mono ?_; rintro e w' ⟨rfl, rfl⟩) | (at_builtin; refine Lib.wpList_append_byte rfl _ _ 92 rfl w.heap.size 5 i0 Tryf.underlying92 hi hz0 hz1 hz2 _ _ _ rfl w _ _ (by assumption) rfl (by omega) ?_; intro _ _ hb2))
  refine (hesc _ _ ?_).mono ?_
  · exact buf_byte (zs := []) (by simpa [Lib.intCells] using hb2)
  rintro e w3 ⟨v3, ys, rfl, hb3, hy⟩
  have hb4 : Lib.OwnBuf w.heap.size 5 v3 ([39] ++ ys).length (Lib.intCells ([39] ++ ys)) w w3 := hb3
  clear hb2 hb3 hb hesc
  have hlen : ([39] ++ ys).length ≤ 5 := by simp; omega
  generalize ([39] ++ ys) = zs at hb4 hlen
  go_big_wp2_with (at_builtin; refine Lib.wpList_append_byte rfl _ _ 92 rfl w.heap.size 5 i0 Tryf.underlying92 hi hz0 hz1 hz2 _ _ _ rfl w _ _ (by assumption) rfl (by omega) ?_; intro _ _ hb5)
  go_ret
  exact ⟨_, zs ++ [39], rfl, buf_byte hb5, by simp, by simp; omega⟩

/-- The bytes that such a buffer holds, cell by cell. -/
theorem buf_read {B : Nat} {v : Value} {zs : List Int} {W0 w : World} (h : Buf B v zs W0 w) (hl : 0 < zs.length) :
    ∃ g cap, v = .slice (some ⟨g, 0, none⟩) zs.length cap ∧ ∀ i, i < zs.length → w.cell? ⟨g, 0 + i, none⟩ = some (.int .u8 (zs.getD i 0)) := by
  unfold Buf at h
  rcases h.1.2 with ⟨_, h0⟩ | ⟨g, cap, cur, fz, rfl, _⟩
  · omega
  · refine ⟨g, cap, rfl, fun i hi => ?_⟩
    have := h.1.cells (g := g) (by simp [Value.ownBlock]) i (.int .u8 (zs.getD i 0)) (by simp [Lib.intCells, List.getD, List.getElem?_eq_getElem hi])
    by_cases hi0 : i = 0 <;> simpa [Addr.add, hi0] using this
/-- A short text, over a world in which nothing that was there has turned. -/
def Short (w : World) (e : Ending) (w' : World) : Prop := (∃ q : ByteArray, e = .returned (.string q) ∧ q.size ≤ 64) ∧ Below w.heap.size w w'

theorem size_nums (zs : List Int) : (strOfNums zs).size = zs.length := by
  unfold strOfNums; simp [ByteArray.size]

set_option maxHeartbeats 1600000 in
set_option maxRecDepth 100000 in
theorem quoteWith_any (r : Int) (w : World) (h0 : 0 ≤ r) (h1 : r ≤ 127) (hq : r ≠ 39) (hs : r ≠ 92) :
    Calls Tryf.prog 48 #[.int .i32 r, .int .u8 39, .bool false, .bool false] w (Short w) := by
  have hc := quoted_any r w h0 h1 hq hs
  go_enter Tryf.func48, Tryf.ntmps48
  go_wp2_with (go_at_call 51; refine hc.mono ?_; rintro e w1 ⟨v1, ys, rfl, hb, hy0, hy⟩)
  obtain ⟨g, cap, rfl, hcells⟩ := buf_read hb hy0
  have hcv := run_convert_bytes_arg w1 92 5 Tryf.underlying92 Tryf.underlying5 g 0 _ cap ys rfl hcells 9 Tryf.underlying9
  rw [hcv]
  go_wp2
  go_ret
  exact ⟨⟨_, rfl, by rw [size_nums]; omega⟩, hb.2.1⟩
theorem quoteRune_any (r : Int) (w : World) (h0 : 0 ≤ r) (h1 : r ≤ 127) (hq : r ≠ 39) (hs : r ≠ 92) :
    Calls Tryf.prog 42 #[.int .i32 r] w (Short w) := by
  have hc := quoteWith_any r w h0 h1 hq hs
  go_enter Tryf.func42, Tryf.ntmps42
  go_wp2_with (go_at_call 48; refine hc.mono ?_; rintro e w1 ⟨⟨q, rfl, hq1⟩, hb⟩)
  go_ret
  exact ⟨⟨q, rfl, hq1⟩, hb⟩
/-- What fmt is asked for the rune r under %U. -/
def readU (r : Int) : List (List UInt8) := [[37, 85], shape21, digits 8 (r % 2 ^ 64).toNat]
/-- fmt's text of a rune is short. -/
def ShortU (F : Interp) : Prop := ∀ r : Int, -2147483648 ≤ r → r ≤ 2147483647 → (FmtStop.textOf (F "fmt.Sprintf" (readU r) 0)).size ≤ 64

set_option maxHeartbeats 1600000 in
set_option maxRecDepth 100000 in
theorem named_any (F : Interp) (r : Int) (w : World) (hF : F.answers w.tape) (hU : ShortU F) (h0 : 0 ≤ r) (h1 : r ≤ 2147483647) (hq : r ≠ 39) (hs : r ≠ 92) :
    Calls Tryf.prog 36 #[.int .i32 r] w (Short w) := by
  by_cases h : r < 128
  · have hc := quoteRune_any r w h0 (by omega) hq hs
    go_enter Tryf.func36, Tryf.ntmps36
    go_wp2_with (go_at_call 42; refine hc.mono ?_; rintro e w1 ⟨⟨q, rfl, hq1⟩, hb⟩)
    go_ret
    exact ⟨⟨q, rfl, hq1⟩, hb⟩
  · have hF' := answers_open hF
    have c43 := call43; have g := guardF; have p := fmtD; have o := opR85; have p' := fmtD'
    have hu := hU r (by omega) h1
    go_enter Tryf.func36, Tryf.ntmps36
    go_wp2
    go_ret
    exact ⟨⟨_, rfl, hu⟩, by go_grown⟩
end Go.Proofs.Qxb6606252aFmt
