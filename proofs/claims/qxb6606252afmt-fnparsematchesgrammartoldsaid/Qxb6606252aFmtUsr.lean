/-
  THE WALK of parseUser.
-/
import Derived.Test.Qxb6606252aFmtObj
namespace Go.Proofs.Qxb6606252aFmt
open Go.RowKit Go.Extern.Stop Go.Stop Go.Extern Go.Shelf

/-- The user read, or none. -/
def usrV (b : Bool) (x y z : ByteArray) : Value := match b with | true => .agg #[.string x, .string y, .string z] | false => .agg #[.string ⟨#[]⟩, .string ⟨#[]⟩, .string ⟨#[]⟩]
theorem three_cells {w2 : World} {b : Nat} {x y z : Value} {T : TypeId} (h : w2.heap[b]? = some (.cells #[x, y, z] T)) :
    w2.cell? ⟨b, 0, none⟩ = some x ∧ w2.cell? ⟨b, 1, none⟩ = some y ∧ w2.cell? ⟨b, 2, none⟩ = some z ∧ w2.frozen? ⟨b, 0, none⟩ = false ∧ w2.frozen? ⟨b, 1, none⟩ = false ∧ w2.frozen? ⟨b, 2, none⟩ = false := by
  refine ⟨by simp [World.cell?, h], by simp [World.cell?, h], by simp [World.cell?, h], by simp [World.frozen?, h], by simp [World.frozen?, h], by simp [World.frozen?, h]⟩

set_option maxHeartbeats 3200000 in
set_option maxRecDepth 100000 in
theorem parseUser_any (F : Interp) (fm : Bool) (s : ByteArray) (w : World) (hE : Env F w) (hs : s.size ≤ 2000000) :
    Calls Tryf.prog 28 #[.agg #[.bool fm], .string s] w fun e w' => (∃ x, e = .returned (.tuple #[usrV (usrOk fm s) (cutA 58 s) (cutA 35 (cutB 58 s)) (cutB 35 (cutB 58 s)), errV (usrOk fm s) x])) ∧ Below w.heap.size w w' := by
  have hA := cutA_le 58 s
  have hB := cutB_le 58 s
  have hC := cutA_le 35 (cutB 58 s)
  have hD := cutB_le 35 (cutB 58 s)
  obtain ⟨W0, hW0⟩ : ∃ W0, W0 = (w.alloc (.cells #[.bool fm] 44)).alloc (.cells #[.string ⟨#[]⟩, .string ⟨#[]⟩, .string ⟨#[]⟩] 34) := ⟨_, rfl⟩
  have hb0 : Below w.heap.size w W0 := by rw [hW0]; exact ((Below.refl _ w).alloc (Nat.le_refl _) _).alloc (by simp) _
  have hsz0 : W0.heap.size = w.heap.size + 2 := by rw [hW0]; simp
  have hbox : W0.cell? ⟨w.heap.size, 0, none⟩ = some (.bool fm) := by rw [hW0]; simp [go_sem]
  have hres : W0.heap[w.heap.size + 1]? = some (.cells #[.string ⟨#[]⟩, .string ⟨#[]⟩, .string ⟨#[]⟩] 34) := by
    have := heap_alloc_new (w.alloc (.cells #[.bool fm] 44)) (.cells #[.string ⟨#[]⟩, .string ⟨#[]⟩, .string ⟨#[]⟩] 34)
    rw [hW0]; simpa using this
  have hcut := cut_any (hE.below hb0) 58 s hs
  have hcut2 := fun w1 (hb : Below W0.heap.size W0 w1) => cut_any ((hE.below hb0).below hb) 35 (cutB 58 s) (by omega)
  unfold usrOk
  revert hcut hcut2 hA hB hC hD
  generalize cutA 58 s = a
  generalize cutB 58 s = R
  generalize cutA 35 R = b
  generalize cutB 35 R = c
  generalize cutF 35 R = g
  intro hA hB hC hD hcut hcut2
  have htid : ∀ w1, Below W0.heap.size W0 w1 → Calls Tryf.prog 22 #[.agg #[.bool fm], .string a, .string b, .bool !g] w1 (Told (partOk fm false a && partOk fm (!g) b) w1) := fun w1 hb => typeID_any F fm (!g) a b w1 ((hE.below hb0).below hb) (by omega) (by omega)
  have hprt : ∀ w1, Below W0.heap.size W0 w1 → Calls Tryf.prog 24 #[.agg #[.bool fm], .string ⟨#[114, 101, 108, 97, 116, 105, 111, 110]⟩, .string c, .bool false] w1 (Told (partOk fm false c) w1) := fun w1 hb => part_any F fm false ⟨#[114, 101, 108, 97, 116, 105, 111, 110]⟩ c w1 ((hE.below hb0).below hb) (by decide) (by omega)
  have fail : ∀ (q : ByteArray) (w4 : World), Below W0.heap.size W0 w4 → Calls Tryf.prog 23 #[.string ⟨#[117, 115, 101, 114, 32, 37, 113, 58, 32, 37, 115]⟩, .slice (some ⟨w4.heap.size, 0, none⟩) 2 2] (w4.alloc (.cells #[.iface 9 (.string s), .iface 9 (.string q)] 20)) fun e w2 => ∃ v, e = .returned (.iface 63 v) ∧ Below W0.heap.size W0 w2 := fun q w4 hb => by
    refine (errorfB F s q w4.heap.size _ ?_ ?_ ?_).mono ?_
    · exact ((hE.below hb0).below hb).ans
    · simp [go_sem]
    · simp [go_sem]
    · rintro e w2 ⟨⟨v, rfl⟩, hb2⟩
      exact ⟨v, rfl, hb.trans ((up_alloc hb2).mono hb.size)⟩
  have hcl : ∀ w2, Below W0.heap.size W0 w2 → w2.heap[w.heap.size + 1]? = some (.cells #[.string ⟨#[]⟩, .string ⟨#[]⟩, .string ⟨#[]⟩] 34) := fun w2 hb => (hb.block _ (by omega)).trans hres
  have hfin : ∀ w2 x y z, Below W0.heap.size W0 w2 → Below w.heap.size w (((w2.setCell ⟨w.heap.size + 1, 0, none⟩ x).setCell ⟨w.heap.size + 1, 1, none⟩ y).setCell ⟨w.heap.size + 1, 2, none⟩ z) := fun w2 x y z hb =>
    (((hb0.trans (hb.mono hb0.size)).setCell (by simp) _).setCell (by simp) _).setCell (by simp) _
  rw [hW0] at hcut
  go_enter Tryf.func28, Tryf.ntmps28
  cases hF : cutF 58 s
  · rw [hF] at hcut
    go_wp2_with (first
      | (go_at_call_of 21 s; (with_reducible refine hcut.mono ?_); rintro e w1 ⟨rfl, hb1⟩; rw [← hW0] at hb1)
      | (go_at_call_of 21 R; (with_reducible refine (hcut2 _ hb1).mono ?_); rintro e w2 ⟨rfl, hb2⟩; replace hb2 := hb1.trans (hb2.mono hb1.size); have hx2 := cell_below hb2 hbox)
      | (go_at_call 22; (with_reducible refine (htid _ hb2).mono ?_); rintro e w3 ⟨⟨q3, rfl, hq3, hl3⟩, hb3⟩; rw [← ByteArray.toList_eq] at hq3; replace hb3 := hb2.trans (hb3.mono hb2.size); have hx3 := cell_below hb3 hbox)
      | (go_at_call 24; (with_reducible refine (hprt _ hb3).mono ?_); rintro e w4 ⟨⟨q4, rfl, hq4, hl4⟩, hb4⟩; rw [← ByteArray.toList_eq] at hq4; replace hb4 := hb3.trans (hb4.mono hb3.size))
      | (go_at_call 23; (with_reducible refine (fail _ _ hb2).mono ?_); rintro e w5 ⟨v, rfl, hb5⟩; obtain ⟨c0, c1, c2, f0, f1, f2⟩ := three_cells (hcl _ hb5)))
    refine bodyPost_ret (v := .tuple #[.agg #[.string ⟨#[]⟩, .string ⟨#[]⟩, .string ⟨#[]⟩], .iface 63 v]) (by simp [results, Tryf.results28, go_sem, c0, c1, c2]) rfl ⟨⟨v, rfl⟩, ?_⟩
    exact hfin _ _ _ _ hb5
  rw [hF] at hcut
  cases h1 : (partOk fm false a && partOk fm (!g) b)
  · rw [h1] at htid
    go_wp2_with (first
      | (go_at_call_of 21 s; (with_reducible refine hcut.mono ?_); rintro e w1 ⟨rfl, hb1⟩; rw [← hW0] at hb1)
      | (go_at_call_of 21 R; (with_reducible refine (hcut2 _ hb1).mono ?_); rintro e w2 ⟨rfl, hb2⟩; replace hb2 := hb1.trans (hb2.mono hb1.size); have hx2 := cell_below hb2 hbox)
      | (go_at_call 22; (with_reducible refine (htid _ hb2).mono ?_); rintro e w3 ⟨⟨q3, rfl, hq3, hl3⟩, hb3⟩; rw [← ByteArray.toList_eq] at hq3; replace hb3 := hb2.trans (hb3.mono hb2.size); have hx3 := cell_below hb3 hbox)
      | (go_at_call 24; (with_reducible refine (hprt _ hb3).mono ?_); rintro e w4 ⟨⟨q4, rfl, hq4, hl4⟩, hb4⟩; rw [← ByteArray.toList_eq] at hq4; replace hb4 := hb3.trans (hb4.mono hb3.size))
      | (go_at_call 23; (with_reducible refine (fail _ _ hb3).mono ?_); rintro e w5 ⟨v, rfl, hb5⟩; obtain ⟨c0, c1, c2, f0, f1, f2⟩ := three_cells (hcl _ hb5)))
    refine bodyPost_ret (v := .tuple #[.agg #[.string ⟨#[]⟩, .string ⟨#[]⟩, .string ⟨#[]⟩], .iface 63 v]) (by simp [results, Tryf.results28, go_sem, c0, c1, c2]) rfl ⟨⟨v, rfl⟩, ?_⟩
    exact hfin _ _ _ _ hb5
  rw [h1] at htid
  cases g
  · simp only [Bool.not_false] at htid
    go_wp2_with (first
      | (go_at_call_of 21 s; (with_reducible refine hcut.mono ?_); rintro e w1 ⟨rfl, hb1⟩; rw [← hW0] at hb1)
      | (go_at_call_of 21 R; (with_reducible refine (hcut2 _ hb1).mono ?_); rintro e w2 ⟨rfl, hb2⟩; replace hb2 := hb1.trans (hb2.mono hb1.size); have hx2 := cell_below hb2 hbox)
      | (go_at_call 22; (with_reducible refine (htid _ hb2).mono ?_); rintro e w3 ⟨⟨q3, rfl, hq3, hl3⟩, hb3⟩; rw [← ByteArray.toList_eq] at hq3; replace hb3 := hb2.trans (hb3.mono hb2.size); have hx3 := cell_below hb3 hbox; obtain ⟨c0, c1, c2, f0, f1, f2⟩ := three_cells (hcl _ hb3))
      | (go_at_call 24; (with_reducible refine (hprt _ hb3).mono ?_); rintro e w4 ⟨⟨q4, rfl, hq4, hl4⟩, hb4⟩; rw [← ByteArray.toList_eq] at hq4; replace hb4 := hb3.trans (hb4.mono hb3.size); obtain ⟨d0, d1, d2, g0, g1, g2⟩ := three_cells (hcl _ hb4)))
    refine bodyPost_ret (v := .tuple #[.agg #[.string a, .string b, .string c], .nilIface]) (by simp [results, Tryf.results28, go_sem, c0, c1, c2]) rfl ⟨⟨.nilIface, rfl⟩, ?_⟩
    exact hfin _ _ _ _ hb3
  simp only [Bool.not_true] at htid
  cases h2 : partOk fm false c
  · rw [h2] at hprt
    go_wp2_with (first
      | (go_at_call_of 21 s; (with_reducible refine hcut.mono ?_); rintro e w1 ⟨rfl, hb1⟩; rw [← hW0] at hb1)
      | (go_at_call_of 21 R; (with_reducible refine (hcut2 _ hb1).mono ?_); rintro e w2 ⟨rfl, hb2⟩; replace hb2 := hb1.trans (hb2.mono hb1.size); have hx2 := cell_below hb2 hbox)
      | (go_at_call 22; (with_reducible refine (htid _ hb2).mono ?_); rintro e w3 ⟨⟨q3, rfl, hq3, hl3⟩, hb3⟩; rw [← ByteArray.toList_eq] at hq3; replace hb3 := hb2.trans (hb3.mono hb2.size); have hx3 := cell_below hb3 hbox)
      | (go_at_call 24; (with_reducible refine (hprt _ hb3).mono ?_); rintro e w4 ⟨⟨q4, rfl, hq4, hl4⟩, hb4⟩; rw [← ByteArray.toList_eq] at hq4; replace hb4 := hb3.trans (hb4.mono hb3.size))
      | (go_at_call 23; (with_reducible refine (fail _ _ hb4).mono ?_); rintro e w5 ⟨v, rfl, hb5⟩; obtain ⟨c0, c1, c2, f0, f1, f2⟩ := three_cells (hcl _ hb5)))
    refine bodyPost_ret (v := .tuple #[.agg #[.string ⟨#[]⟩, .string ⟨#[]⟩, .string ⟨#[]⟩], .iface 63 v]) (by simp [results, Tryf.results28, go_sem, c0, c1, c2]) rfl ⟨⟨v, rfl⟩, ?_⟩
    exact hfin _ _ _ _ hb5
  · rw [h2] at hprt
    go_wp2_with (first
      | (go_at_call_of 21 s; (with_reducible refine hcut.mono ?_); rintro e w1 ⟨rfl, hb1⟩; rw [← hW0] at hb1)
      | (go_at_call_of 21 R; (with_reducible refine (hcut2 _ hb1).mono ?_); rintro e w2 ⟨rfl, hb2⟩; replace hb2 := hb1.trans (hb2.mono hb1.size); have hx2 := cell_below hb2 hbox)
      | (go_at_call 22; (with_reducible refine (htid _ hb2).mono ?_); rintro e w3 ⟨⟨q3, rfl, hq3, hl3⟩, hb3⟩; rw [← ByteArray.toList_eq] at hq3; replace hb3 := hb2.trans (hb3.mono hb2.size); have hx3 := cell_below hb3 hbox; obtain ⟨c0, c1, c2, f0, f1, f2⟩ := three_cells (hcl _ hb3))
      | (go_at_call 24; (with_reducible refine (hprt _ hb3).mono ?_); rintro e w4 ⟨⟨q4, rfl, hq4, hl4⟩, hb4⟩; rw [← ByteArray.toList_eq] at hq4; replace hb4 := hb3.trans (hb4.mono hb3.size); obtain ⟨d0, d1, d2, g0, g1, g2⟩ := three_cells (hcl _ hb4)))
    refine bodyPost_ret (v := .tuple #[.agg #[.string a, .string b, .string c], .nilIface]) (by simp [results, Tryf.results28, go_sem, d0, d1, d2]) rfl ⟨⟨.nilIface, rfl⟩, ?_⟩
    exact hfin _ _ _ _ hb4
end Go.Proofs.Qxb6606252aFmt
