/-
  THE WALK of parse and ZZparse.
-/
import Derived.Test.Qxb6606252aFmtUsr
namespace Go.Proofs.Qxb6606252aFmt
open Go.RowKit Go.Extern.Stop Go.Stop Go.Extern Go.Shelf

/-- The tuple read, or none. -/
def tupV (ok : Bool) (a b c r d e : ByteArray) : Value := match ok with | true => .agg #[.string a, .string b, .string c, .string r, .string d, .string e] | false => .agg #[.string ⟨#[]⟩, .string ⟨#[]⟩, .string ⟨#[]⟩, .string ⟨#[]⟩, .string ⟨#[]⟩, .string ⟨#[]⟩]
theorem past_al {w : World} {o : Obj} {a : Addr} {v : Value} (h : w.cell? a = some v) : (w.alloc o).cell? a = some v := cell_below ((Below.refl _ w).alloc (Nat.le_refl _) o) h
theorem six_cells {w2 : World} {b : Nat} {x0 x1 x2 x3 x4 x5 : Value} {T : TypeId} (h : w2.heap[b]? = some (.cells #[x0, x1, x2, x3, x4, x5] T)) :
    (w2.cell? ⟨b, 0, none⟩ = some x0 ∧ w2.cell? ⟨b, 1, none⟩ = some x1 ∧ w2.cell? ⟨b, 2, none⟩ = some x2 ∧ w2.cell? ⟨b, 3, none⟩ = some x3 ∧ w2.cell? ⟨b, 4, none⟩ = some x4 ∧ w2.cell? ⟨b, 5, none⟩ = some x5) ∧
    (w2.frozen? ⟨b, 0, none⟩ = false ∧ w2.frozen? ⟨b, 1, none⟩ = false ∧ w2.frozen? ⟨b, 2, none⟩ = false ∧ w2.frozen? ⟨b, 3, none⟩ = false ∧ w2.frozen? ⟨b, 4, none⟩ = false ∧ w2.frozen? ⟨b, 5, none⟩ = false) := by
  refine ⟨⟨by simp [World.cell?, h], by simp [World.cell?, h], by simp [World.cell?, h], by simp [World.cell?, h], by simp [World.cell?, h], by simp [World.cell?, h]⟩, by simp [World.frozen?, h], by simp [World.frozen?, h], by simp [World.frozen?, h], by simp [World.frozen?, h], by simp [World.frozen?, h], by simp [World.frozen?, h]⟩
theorem six_set {B b : Nat} {w w2 : World} (h : Below B w w2) (hb : B ≤ b) (x0 x1 x2 x3 x4 x5 : Value) :
    Below B w ((((((w2.setCell ⟨b, 0, none⟩ x0).setCell ⟨b, 1, none⟩ x1).setCell ⟨b, 2, none⟩ x2).setCell ⟨b, 3, none⟩ x3).setCell ⟨b, 4, none⟩ x4).setCell ⟨b, 5, none⟩ x5) :=
  (((((h.setCell hb _).setCell hb _).setCell hb _).setCell hb _).setCell hb _).setCell hb _

set_option maxHeartbeats 3200000 in
set_option maxRecDepth 100000 in
theorem parse_any (F : Interp) (fm : Bool) (s rel o : ByteArray) (w : World) (hE : Env F w) (hs : s.size ≤ 2000000) (hr : rel.size ≤ 2000000) (ho : o.size ≤ 2000000) :
    Calls Tryf.prog 20 #[.agg #[.bool fm], .string s, .string rel, .string o] w fun e w' => (∃ x, e = .returned (.tuple #[tupV (usrOk fm s && (partOk fm false rel && objOk fm o)) (cutA 58 s) (cutA 35 (cutB 58 s)) (cutB 35 (cutB 58 s)) rel (cutA 58 o) (cutB 58 o), errV (usrOk fm s && (partOk fm false rel && objOk fm o)) x])) ∧ Below w.heap.size w w' := by
  obtain ⟨W0, hW0⟩ : ∃ W0, W0 = (w.alloc (.cells #[.bool fm] 44)).alloc (.cells #[.string ⟨#[]⟩, .string ⟨#[]⟩, .string ⟨#[]⟩, .string ⟨#[]⟩, .string ⟨#[]⟩, .string ⟨#[]⟩] 36) := ⟨_, rfl⟩
  have hb0 : Below w.heap.size w W0 := by rw [hW0]; exact ((Below.refl _ w).alloc (Nat.le_refl _) _).alloc (by simp) _
  have hsz0 : W0.heap.size = w.heap.size + 2 := by rw [hW0]; simp
  have hbox : W0.cell? ⟨w.heap.size, 0, none⟩ = some (.bool fm) := by rw [hW0]; simp [go_sem]
  have hres : W0.heap[w.heap.size + 1]? = some (.cells #[.string ⟨#[]⟩, .string ⟨#[]⟩, .string ⟨#[]⟩, .string ⟨#[]⟩, .string ⟨#[]⟩, .string ⟨#[]⟩] 36) := by
    have := heap_alloc_new (w.alloc (.cells #[.bool fm] 44)) (.cells #[.string ⟨#[]⟩, .string ⟨#[]⟩, .string ⟨#[]⟩, .string ⟨#[]⟩, .string ⟨#[]⟩, .string ⟨#[]⟩] 36)
    rw [hW0]; simpa using this
  have hU := parseUser_any F fm s W0 (hE.below hb0) hs
  have hN : ∀ w1, Below W0.heap.size W0 w1 → Calls Tryf.prog 17 #[.agg #[.bool fm], .string ⟨#[114, 101, 108, 97, 116, 105, 111, 110]⟩, .string rel] w1 (Errs (partOk fm false rel) w1) := fun w1 hb => checkName_any F fm _ rel w1 ((hE.below hb0).below hb) (by decide) hr
  have hO := fun w1 (hb : Below W0.heap.size W0 w1) => parseObject_any F fm o w1 ((hE.below hb0).below hb) ho
  have hcl : ∀ w2, Below W0.heap.size W0 w2 → w2.heap[w.heap.size + 1]? = some (.cells #[.string ⟨#[]⟩, .string ⟨#[]⟩, .string ⟨#[]⟩, .string ⟨#[]⟩, .string ⟨#[]⟩, .string ⟨#[]⟩] 36) := fun w2 hb => (hb.block _ (by omega)).trans hres
  have hup : ∀ w2, Below W0.heap.size W0 w2 → Below w.heap.size w w2 := fun w2 hb => hb0.trans (hb.mono hb0.size)
  clear hE
  revert hU hN hO
  generalize cutA 58 s = a
  generalize cutA 35 (cutB 58 s) = b
  generalize cutB 35 (cutB 58 s) = c
  generalize cutA 58 o = d
  generalize cutB 58 o = f
  generalize usrOk fm s = k1
  generalize partOk fm false rel = k2
  generalize objOk fm o = k3
  intro hU hN hO
  rw [hW0] at hU
  go_enter Tryf.func20, Tryf.ntmps20
  cases k1
  case false =>
    go_wp2_with (first
      | (go_at_call 28; (with_reducible refine hU.mono ?_); rintro e w1 ⟨⟨x1, rfl⟩, hb1⟩; rw [← hW0] at hb1; simp only [usrV, errV]; have hx1 := past_al (o := .cells #[.string ⟨#[]⟩, .string ⟨#[]⟩, .string ⟨#[]⟩] 34) (cell_below hb1 hbox); have hb1' := hb1.alloc hb1.size (.cells #[.string ⟨#[]⟩, .string ⟨#[]⟩, .string ⟨#[]⟩] 34); obtain ⟨⟨c0, c1, c2, c3, c4, c5⟩, f0, f1, f2, f3, f4, f5⟩ := six_cells (hcl _ hb1')))
    refine bodyPost_ret (v := .tuple #[.agg #[.string ⟨#[]⟩, .string ⟨#[]⟩, .string ⟨#[]⟩, .string ⟨#[]⟩, .string ⟨#[]⟩, .string ⟨#[]⟩], .iface 63 x1]) (by simp [results, Tryf.results20, go_sem, c0, c1, c2, c3, c4, c5]) rfl ⟨⟨x1, rfl⟩, ?_⟩
    exact six_set (hup _ hb1') (by omega) _ _ _ _ _ _
  cases k2
  case false =>
    go_wp2_with (first
      | (go_at_call 28; (with_reducible refine hU.mono ?_); rintro e w1 ⟨⟨x1, rfl⟩, hb1⟩; rw [← hW0] at hb1; simp only [usrV, errV]; have hx1 := past_al (o := .cells #[.string a, .string b, .string c] 34) (cell_below hb1 hbox); have hb1' := hb1.alloc hb1.size (.cells #[.string a, .string b, .string c] 34))
      | (go_at_call 17; (with_reducible refine (hN _ hb1').mono ?_); rintro e w2 ⟨⟨x2, rfl⟩, hb2⟩; simp only [errV]; have hx2 := cell_below hb2 hx1; have u0 := cell_below hb2 (a := ⟨w1.heap.size, 0, none⟩) (v := .string a) (by simp [go_sem]); have u1 := cell_below hb2 (a := ⟨w1.heap.size, 1, none⟩) (v := .string b) (by simp [go_sem]); have u2 := cell_below hb2 (a := ⟨w1.heap.size, 2, none⟩) (v := .string c) (by simp [go_sem]); replace hb2 := hb1'.trans (hb2.mono hb1'.size); obtain ⟨⟨c0, c1, c2, c3, c4, c5⟩, f0, f1, f2, f3, f4, f5⟩ := six_cells (hcl _ hb2)))
    refine bodyPost_ret (v := .tuple #[.agg #[.string ⟨#[]⟩, .string ⟨#[]⟩, .string ⟨#[]⟩, .string ⟨#[]⟩, .string ⟨#[]⟩, .string ⟨#[]⟩], .iface 63 x2]) (by simp [results, Tryf.results20, go_sem, c0, c1, c2, c3, c4, c5]) rfl ⟨⟨x2, rfl⟩, ?_⟩
    exact six_set (hup _ hb2) (by omega) _ _ _ _ _ _
  cases k3
  case false =>
    go_wp2_with (first
      | (go_at_call 28; (with_reducible refine hU.mono ?_); rintro e w1 ⟨⟨x1, rfl⟩, hb1⟩; rw [← hW0] at hb1; simp only [usrV, errV]; have hx1 := past_al (o := .cells #[.string a, .string b, .string c] 34) (cell_below hb1 hbox); have hb1' := hb1.alloc hb1.size (.cells #[.string a, .string b, .string c] 34))
      | (go_at_call 17; (with_reducible refine (hN _ hb1').mono ?_); rintro e w2 ⟨⟨x2, rfl⟩, hb2⟩; simp only [errV]; have hx2 := cell_below hb2 hx1; have u0 := cell_below hb2 (a := ⟨w1.heap.size, 0, none⟩) (v := .string a) (by simp [go_sem]); have u1 := cell_below hb2 (a := ⟨w1.heap.size, 1, none⟩) (v := .string b) (by simp [go_sem]); have u2 := cell_below hb2 (a := ⟨w1.heap.size, 2, none⟩) (v := .string c) (by simp [go_sem]); replace hb2 := hb1'.trans (hb2.mono hb1'.size))
      | (go_at_call 16; (with_reducible refine (hO _ hb2).mono ?_); rintro e w3 ⟨⟨x3, rfl⟩, hb3⟩; simp only [objV, errV]; have v0 := past_al (o := .cells #[.string ⟨#[]⟩, .string ⟨#[]⟩] 24) (cell_below hb3 u0); have v1 := past_al (o := .cells #[.string ⟨#[]⟩, .string ⟨#[]⟩] 24) (cell_below hb3 u1); have v2 := past_al (o := .cells #[.string ⟨#[]⟩, .string ⟨#[]⟩] 24) (cell_below hb3 u2); replace hb3 := hb2.trans (hb3.mono hb2.size); have hb3' := hb3.alloc hb3.size (.cells #[.string ⟨#[]⟩, .string ⟨#[]⟩] 24); obtain ⟨⟨c0, c1, c2, c3, c4, c5⟩, f0, f1, f2, f3, f4, f5⟩ := six_cells (hcl _ hb3')))
    refine bodyPost_ret (v := .tuple #[.agg #[.string ⟨#[]⟩, .string ⟨#[]⟩, .string ⟨#[]⟩, .string ⟨#[]⟩, .string ⟨#[]⟩, .string ⟨#[]⟩], .iface 63 x3]) (by simp [results, Tryf.results20, go_sem, c0, c1, c2, c3, c4, c5]) rfl ⟨⟨x3, rfl⟩, ?_⟩
    exact six_set (hup _ hb3') (by omega) _ _ _ _ _ _
  go_wp2_with (first
    | (go_at_call 28; (with_reducible refine hU.mono ?_); rintro e w1 ⟨⟨x1, rfl⟩, hb1⟩; rw [← hW0] at hb1; simp only [usrV, errV]; have hx1 := past_al (o := .cells #[.string a, .string b, .string c] 34) (cell_below hb1 hbox); have hb1' := hb1.alloc hb1.size (.cells #[.string a, .string b, .string c] 34))
    | (go_at_call 17; (with_reducible refine (hN _ hb1').mono ?_); rintro e w2 ⟨⟨x2, rfl⟩, hb2⟩; simp only [errV]; have hx2 := cell_below hb2 hx1; have u0 := cell_below hb2 (a := ⟨w1.heap.size, 0, none⟩) (v := .string a) (by simp [go_sem]); have u1 := cell_below hb2 (a := ⟨w1.heap.size, 1, none⟩) (v := .string b) (by simp [go_sem]); have u2 := cell_below hb2 (a := ⟨w1.heap.size, 2, none⟩) (v := .string c) (by simp [go_sem]); replace hb2 := hb1'.trans (hb2.mono hb1'.size))
    | (go_at_call 16; (with_reducible refine (hO _ hb2).mono ?_); rintro e w3 ⟨⟨x3, rfl⟩, hb3⟩; simp only [objV, errV]; have v0 := past_al (o := .cells #[.string d, .string f] 24) (cell_below hb3 u0); have v1 := past_al (o := .cells #[.string d, .string f] 24) (cell_below hb3 u1); have v2 := past_al (o := .cells #[.string d, .string f] 24) (cell_below hb3 u2); replace hb3 := hb2.trans (hb3.mono hb2.size); have hb3' := hb3.alloc hb3.size (.cells #[.string d, .string f] 24); obtain ⟨⟨c0, c1, c2, c3, c4, c5⟩, f0, f1, f2, f3, f4, f5⟩ := six_cells (hcl _ hb3')))
  refine bodyPost_ret (v := .tuple #[.agg #[.string a, .string b, .string c, .string rel, .string d, .string f], .nilIface]) (by simp [results, Tryf.results20, go_sem, c0, c1, c2, c3, c4, c5]) rfl ⟨⟨.nilIface, rfl⟩, ?_⟩
  exact six_set (hup _ hb3') (by omega) _ _ _ _ _ _

set_option maxHeartbeats 1600000 in
set_option maxRecDepth 100000 in
theorem zzParse_any (F : Interp) (fm : Bool) (s rel o : ByteArray) (w : World) (hE : Env F w) (hs : s.size ≤ 2000000) (hr : rel.size ≤ 2000000) (ho : o.size ≤ 2000000) :
    Calls Tryf.prog 13 #[.bool fm, .string s, .string rel, .string o] w fun e w' => (∃ x, e = .returned (.tuple #[tupV (usrOk fm s && (partOk fm false rel && objOk fm o)) (cutA 58 s) (cutA 35 (cutB 58 s)) (cutB 35 (cutB 58 s)) rel (cutA 58 o) (cutB 58 o), errV (usrOk fm s && (partOk fm false rel && objOk fm o)) x])) ∧ Below w.heap.size w w' := by
  obtain ⟨W0, hW0⟩ : ∃ W0, W0 = w.alloc (.cells #[.string ⟨#[]⟩, .string ⟨#[]⟩, .string ⟨#[]⟩, .string ⟨#[]⟩, .string ⟨#[]⟩, .string ⟨#[]⟩] 36) := ⟨_, rfl⟩
  have hb0 : Below w.heap.size w W0 := by rw [hW0]; exact (Below.refl _ w).alloc (Nat.le_refl _) _
  have hsz0 : W0.heap.size = w.heap.size + 1 := by rw [hW0]; simp
  have hres : W0.heap[w.heap.size]? = some (.cells #[.string ⟨#[]⟩, .string ⟨#[]⟩, .string ⟨#[]⟩, .string ⟨#[]⟩, .string ⟨#[]⟩, .string ⟨#[]⟩] 36) := by rw [hW0]; exact heap_alloc_new _ _
  have hc := parse_any F fm s rel o W0 (hE.below hb0) hs hr ho
  have hcl : ∀ w2, Below W0.heap.size W0 w2 → w2.heap[w.heap.size]? = some (.cells #[.string ⟨#[]⟩, .string ⟨#[]⟩, .string ⟨#[]⟩, .string ⟨#[]⟩, .string ⟨#[]⟩, .string ⟨#[]⟩] 36) := fun w2 hb => (hb.block _ (by omega)).trans hres
  have hup : ∀ w2, Below W0.heap.size W0 w2 → Below w.heap.size w w2 := fun w2 hb => hb0.trans (hb.mono hb0.size)
  clear hE
  revert hc
  generalize cutA 58 s = a
  generalize cutA 35 (cutB 58 s) = b
  generalize cutB 35 (cutB 58 s) = c
  generalize cutA 58 o = d
  generalize cutB 58 o = f
  generalize (usrOk fm s && (partOk fm false rel && objOk fm o)) = ok
  intro hc
  rw [hW0] at hc
  go_enter Tryf.func13, Tryf.ntmps13
  cases ok
  · go_wp2_with (go_at_call 20; (with_reducible refine hc.mono ?_); rintro e w1 ⟨⟨x1, rfl⟩, hb1⟩; rw [← hW0] at hb1; simp only [tupV]; obtain ⟨⟨c0, c1, c2, c3, c4, c5⟩, f0, f1, f2, f3, f4, f5⟩ := six_cells (hcl _ hb1))
    refine bodyPost_ret (v := .tuple #[.agg #[.string ⟨#[]⟩, .string ⟨#[]⟩, .string ⟨#[]⟩, .string ⟨#[]⟩, .string ⟨#[]⟩, .string ⟨#[]⟩], errV false x1]) (by simp [results, Tryf.results13, go_sem, c0, c1, c2, c3, c4, c5]) rfl ⟨⟨x1, rfl⟩, ?_⟩
    exact six_set (hup _ hb1) (by omega) _ _ _ _ _ _
  · go_wp2_with (go_at_call 20; (with_reducible refine hc.mono ?_); rintro e w1 ⟨⟨x1, rfl⟩, hb1⟩; rw [← hW0] at hb1; simp only [tupV]; obtain ⟨⟨c0, c1, c2, c3, c4, c5⟩, f0, f1, f2, f3, f4, f5⟩ := six_cells (hcl _ hb1))
    refine bodyPost_ret (v := .tuple #[.agg #[.string a, .string b, .string c, .string rel, .string d, .string f], errV true x1]) (by simp [results, Tryf.results13, go_sem, c0, c1, c2, c3, c4, c5]) rfl ⟨⟨x1, rfl⟩, ?_⟩
    exact six_set (hup _ hb1) (by omega) _ _ _ _ _ _
end Go.Proofs.Qxb6606252aFmt
