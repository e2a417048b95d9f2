/-
  THE WALK of parseObject and ZZparseObject.
-/
import Derived.Test.Qxb6606252aFmtNames
import Derived.Test.Qxb6606252aFmtCut
import Derived.Handy
namespace Go.Proofs.Qxb6606252aFmt
open Go.RowKit Go.Extern.Stop Go.Stop Go.Extern Go.Shelf

theorem below_drawn {B : Nat} {a w : World} (h : Below B a w) (n : Nat) : Below B a (w.drewN n) := h.trans ⟨rfl, rfl, rfl, Nat.le_refl _, fun _ _ => rfl⟩
theorem cut_any {F : Interp} {w : World} (h : Env F w) (c : UInt8) (s : ByteArray) (hs : s.size ≤ 2000000) :
    Calls Tryf.prog 21 #[.string s, .string ⟨#[c]⟩] w fun e w' => e = .returned (.tuple #[.string (cutA c s), .string (cutB c s), .bool (cutF c s)]) ∧ Below w.heap.size w w' := by
  obtain ⟨m, hm⟩ := h.maxi
  refine (Any.strings_Cut { Tryf.laysM145 with } s ⟨#[c]⟩ m w (by omega) hm).mono ?_
  rintro e w' ⟨rfl, n, rfl⟩
  exact ⟨rfl, below_drawn (Below.refl _ _) _⟩
/-- The object read, or none. -/
def objV (b : Bool) (x y : ByteArray) : Value := match b with | true => .agg #[.string x, .string y] | false => .agg #[.string ⟨#[]⟩, .string ⟨#[]⟩]

theorem two_cells {w2 : World} {b : Nat} {x y : Value} {T : TypeId} (h : w2.heap[b]? = some (.cells #[x, y] T)) :
    w2.cell? ⟨b, 0, none⟩ = some x ∧ w2.cell? ⟨b, 1, none⟩ = some y ∧ w2.frozen? ⟨b, 0, none⟩ = false ∧ w2.frozen? ⟨b, 1, none⟩ = false := by
  refine ⟨by simp [World.cell?, h], by simp [World.cell?, h], by simp [World.frozen?, h], by simp [World.frozen?, h]⟩
theorem two_alloc {w w1 : World} {o o' : Obj} (h : Below ((w.alloc o).alloc o').heap.size ((w.alloc o).alloc o') w1) : Below w.heap.size w w1 := up_alloc (up_alloc h)
set_option maxHeartbeats 1600000 in
set_option maxRecDepth 100000 in
theorem parseObject_any (F : Interp) (fm : Bool) (s : ByteArray) (w : World) (hE : Env F w) (hs : s.size ≤ 2000000) :
    Calls Tryf.prog 16 #[.agg #[.bool fm], .string s] w fun e w' => (∃ x, e = .returned (.tuple #[objV (objOk fm s) (cutA 58 s) (cutB 58 s), errV (objOk fm s) x])) ∧ Below w.heap.size w w' := by
  have hA := cutA_le 58 s
  have hB := cutB_le 58 s
  obtain ⟨W0, hW0⟩ : ∃ W0, W0 = (w.alloc (.cells #[.bool fm] 44)).alloc (.cells #[.string ⟨#[]⟩, .string ⟨#[]⟩] 24) := ⟨_, rfl⟩
  have hb0 : Below w.heap.size w W0 := by rw [hW0]; exact ((Below.refl _ w).alloc (Nat.le_refl _) _).alloc (by simp) _
  have hsz0 : W0.heap.size = w.heap.size + 2 := by rw [hW0]; simp
  have hbox : W0.cell? ⟨w.heap.size, 0, none⟩ = some (.bool fm) := by rw [hW0]; simp [go_sem]
  have hres : W0.heap[w.heap.size + 1]? = some (.cells #[.string ⟨#[]⟩, .string ⟨#[]⟩] 24) := by
    have := heap_alloc_new (w.alloc (.cells #[.bool fm] 44)) (.cells #[.string ⟨#[]⟩, .string ⟨#[]⟩] 24)
    rw [hW0]; simpa using this
  have hcut := cut_any (hE.below hb0) 58 s hs
  unfold objOk
  revert hcut hA hB
  generalize cutA 58 s = a
  generalize cutB 58 s = b
  intro hA hB hcut
  have htid : ∀ w1, Below W0.heap.size W0 w1 → Calls Tryf.prog 22 #[.agg #[.bool fm], .string a, .string b, .bool false] w1 (Told (partOk fm false a && partOk fm false b) w1) := fun w1 hb => typeID_any F fm false a b w1 ((hE.below hb0).below hb) (by omega) (by omega)
  rw [hW0] at hcut
  go_enter Tryf.func16, Tryf.ntmps16
  cases hF : cutF 58 s
  · rw [hF] at hcut
    go_wp2_with (go_at_call 21; refine hcut.mono ?_; rintro e w1 ⟨rfl, hb1⟩)
    rw [← hW0] at hb1
    refine (errorfA F s ⟨#[119, 97, 110, 116, 32, 116, 121, 112, 101, 58, 105, 100]⟩ w1.heap.size _ ?_ ?_ ?_).mono ?_
    · exact ((hE.below hb0).below hb1).ans
    · simp [go_sem]
    · simp [go_sem]
    rintro e w2 ⟨⟨v, rfl⟩, hb2⟩
    have hb3 := up_alloc hb2
    obtain ⟨hc20, hc21, hf20, hf21⟩ := two_cells (w2 := w2) (b := w.heap.size + 1) (show w2.heap[w.heap.size + 1]? = some (.cells #[.string ⟨#[]⟩, .string ⟨#[]⟩] 24) by
      have := hb1.size
      rw [hb3.block _ (by omega), hb1.block _ (by omega)]; exact hres)
    go_wp2
    refine bodyPost_ret (v := .tuple #[.agg #[.string ⟨#[]⟩, .string ⟨#[]⟩], .iface 63 v]) (by simp [results, Tryf.results16, go_sem, hc20, hc21]) rfl ⟨⟨v, rfl⟩, ?_⟩
    exact ((hb0.trans ((hb1.mono hb0.size).trans (hb3.mono (Nat.le_trans hb0.size hb1.size)))).setCell (by simp) _).setCell (by simp) _
  · rw [hF] at hcut
    cases hok : (partOk fm false a && partOk fm false b)
    · go_wp2_with (first | (go_at_call 21; refine hcut.mono ?_; rintro e w1 ⟨rfl, hb1⟩; rw [← hW0] at hb1; have hx := cell_below hb1 hbox) | (go_at_call 22; refine (htid _ hb1).mono ?_; rw [hok]; rintro e w4 ⟨⟨q, rfl, hq, hl⟩, hb4⟩; rw [← ByteArray.toList_eq] at hq))
      have hb5 := hb1.trans (hb4.mono hb1.size)
      refine (errorfA F s q w4.heap.size _ ?_ ?_ ?_).mono ?_
      · exact ((hE.below hb0).below hb5).ans
      · simp [go_sem]
      · simp [go_sem]
      rintro e w2 ⟨⟨v, rfl⟩, hb2⟩
      have hb3 := up_alloc hb2
      obtain ⟨hc20, hc21, hf20, hf21⟩ := two_cells (w2 := w2) (b := w.heap.size + 1) (show w2.heap[w.heap.size + 1]? = some (.cells #[.string ⟨#[]⟩, .string ⟨#[]⟩] 24) by
        have := hb5.size
        rw [hb3.block _ (by omega), hb5.block _ (by omega)]; exact hres)
      go_wp2
      refine bodyPost_ret (v := .tuple #[.agg #[.string ⟨#[]⟩, .string ⟨#[]⟩], .iface 63 v]) (by simp [results, Tryf.results16, go_sem, hc20, hc21]) rfl ⟨⟨v, rfl⟩, ?_⟩
      exact ((hb0.trans ((hb5.mono hb0.size).trans (hb3.mono (Nat.le_trans hb0.size hb5.size)))).setCell (by simp) _).setCell (by simp) _
    · go_wp2_with (first | (go_at_call 21; refine hcut.mono ?_; rintro e w1 ⟨rfl, hb1⟩; rw [← hW0] at hb1; have hx := cell_below hb1 hbox) | (go_at_call 22; refine (htid _ hb1).mono ?_; rw [hok]; rintro e w2 ⟨⟨q, rfl, hq, hl⟩, hb4⟩; rw [← ByteArray.toList_eq] at hq; have hb5 := hb1.trans (hb4.mono hb1.size); obtain ⟨hc20, hc21, hf20, hf21⟩ := two_cells (w2 := w2) (b := w.heap.size + 1) ((hb5.block _ (hsz0 ▸ Nat.lt_succ_self _)).trans hres)))
      refine bodyPost_ret (v := .tuple #[.agg #[.string a, .string b], .nilIface]) (by simp [results, Tryf.results16, go_sem, hc20, hc21]) rfl ⟨⟨.nilIface, rfl⟩, ?_⟩
      exact ((hb0.trans (hb5.mono hb0.size)).setCell (by simp) _).setCell (by simp) _

set_option maxRecDepth 100000 in
theorem zzObject_any (F : Interp) (fm : Bool) (s : ByteArray) (w : World) (hE : Env F w) (hs : s.size ≤ 2000000) :
    Calls Tryf.prog 7 #[.bool fm, .string s] w fun e w' => (∃ x, e = .returned (.tuple #[objV (objOk fm s) (cutA 58 s) (cutB 58 s), errV (objOk fm s) x])) ∧ Below w.heap.size w w' := by
  obtain ⟨W0, hW0⟩ : ∃ W0, W0 = w.alloc (.cells #[.string ⟨#[]⟩, .string ⟨#[]⟩] 24) := ⟨_, rfl⟩
  have hb0 : Below w.heap.size w W0 := by rw [hW0]; exact (Below.refl _ w).alloc (Nat.le_refl _) _
  have hsz0 : W0.heap.size = w.heap.size + 1 := by rw [hW0]; simp
  have hres : W0.heap[w.heap.size]? = some (.cells #[.string ⟨#[]⟩, .string ⟨#[]⟩] 24) := by rw [hW0]; exact heap_alloc_new _ _
  have hc := parseObject_any F fm s W0 (hE.below hb0) hs
  rw [hW0] at hc
  go_enter Tryf.func7, Tryf.ntmps7
  cases hok : objOk fm s
  all_goals rw [hok] at hc
  · go_wp2_with (go_at_call 16; refine hc.mono ?_; rintro e w2 ⟨⟨x, rfl⟩, hb1⟩; rw [← hW0] at hb1; obtain ⟨hc20, hc21, hf20, hf21⟩ := two_cells (w2 := w2) (b := w.heap.size) ((hb1.block _ (hsz0 ▸ Nat.lt_succ_self _)).trans hres); simp only [objV])
    refine bodyPost_ret (v := .tuple #[.agg #[.string ⟨#[]⟩, .string ⟨#[]⟩], errV false x]) (by simp [results, Tryf.results7, go_sem, hc20, hc21]) rfl ⟨⟨x, rfl⟩, ?_⟩
    exact ((hb0.trans (hb1.mono hb0.size)).setCell (by simp) _).setCell (by simp) _
  · go_wp2_with (go_at_call 16; refine hc.mono ?_; rintro e w2 ⟨⟨x, rfl⟩, hb1⟩; rw [← hW0] at hb1; obtain ⟨hc20, hc21, hf20, hf21⟩ := two_cells (w2 := w2) (b := w.heap.size) ((hb1.block _ (hsz0 ▸ Nat.lt_succ_self _)).trans hres); simp only [objV])
    refine bodyPost_ret (v := .tuple #[.agg #[.string (cutA 58 s), .string (cutB 58 s)], errV true x]) (by simp [results, Tryf.results7, go_sem, hc20, hc21]) rfl ⟨⟨x, rfl⟩, ?_⟩
    exact ((hb0.trans (hb1.mono hb0.size)).setCell (by simp) _).setCell (by simp) _
end Go.Proofs.Qxb6606252aFmt
