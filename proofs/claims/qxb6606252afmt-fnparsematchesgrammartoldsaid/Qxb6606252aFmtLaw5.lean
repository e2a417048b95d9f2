/-
  THE LAW FnParseMatchesGrammar, walked.
-/
import Derived.Test.Qxb6606252aFmtPrs
import Derived.Test.Qxb6606252aFmtMod2
namespace Go.Proofs.Qxb6606252aFmt
open Go.RowKit Go.Extern.Stop Go.Stop Go.Extern Go.Shelf

theorem bytes5_any (fm : Bool) (s rel o : ByteArray) (w : World) (_h1 : s.size ≤ maxLen) (_h2 : rel.size ≤ maxLen) (_h3 : o.size ≤ maxLen) :
    Calls Tryf.prog 12 #[.bool fm, .string s, .string rel, .string o] w fun e w' => e = .returned (.bool (decide (s.size + rel.size + o.size ≤ 1048576))) ∧ w' = w := by
  by_cases hs : s.size + rel.size + o.size ≤ 1048576
  · rw [decide_eq_true hs]
    go_enter Tryf.func12, Tryf.ntmps12
    go_wp2
    go_ret
    exact ⟨rfl, rfl⟩
  · rw [decide_eq_false hs]
    by_cases k1 : s.size ≤ 1048576
    · by_cases k2 : rel.size ≤ 1048576
      · by_cases k4 : s.size + rel.size ≤ 1048576
        · by_cases k3 : o.size ≤ 1048576
          all_goals go_enter Tryf.func12, Tryf.ntmps12
          all_goals go_wp2
          all_goals go_ret
          all_goals exact ⟨rfl, rfl⟩
        · go_enter Tryf.func12, Tryf.ntmps12
          go_wp2
          go_ret
          exact ⟨rfl, rfl⟩
      · go_enter Tryf.func12, Tryf.ntmps12
        go_wp2
        go_ret
        exact ⟨rfl, rfl⟩
    · go_enter Tryf.func12, Tryf.ntmps12
      go_wp2
      go_ret
      exact ⟨rfl, rfl⟩

theorem lt_of {w : World} {b : Nat} {o : Obj} (h : w.heap[b]? = some o) : b < w.heap.size := (Array.getElem?_eq_some_iff.1 h).1
theorem own_block (w : World) (o : Obj) : (w.alloc o).heap[w.heap.size]? = some o := heap_alloc_new w o
theorem kept {w w' : World} {b : Nat} {o : Obj} (hb : Below w.heap.size w w') (h : w.heap[b]? = some o) : w'.heap[b]? = some o := (hb.block b (lt_of h)).trans h

set_option maxHeartbeats 3200000 in
set_option maxRecDepth 100000 in
theorem law5 (F : Interp) (fm : Bool) (s rel o : ByteArray) (w : World) (hE : Env F w) (hN : NameOK fm) (h1 : s.size ≤ maxLen) (h2 : rel.size ≤ maxLen) (h3 : o.size ≤ maxLen) :
    Calls Tryf.prog 5 #[.bool fm, .string s, .string rel, .string o] w fun e w' => e = .returned (.bool true) ∧ Below w.heap.size w w' := by
  have hby := bytes5_any fm s rel o w h1 h2 h3
  by_cases hs : s.size + rel.size + o.size ≤ 1048576
  case neg =>
    rw [decide_eq_false hs] at hby
    go_enter Tryf.func5, Tryf.ntmps5
    go_wp2_with (go_at_call 12; refine hby.mono ?_; rintro e w1 ⟨rfl, rfl⟩)
    go_ret
    exact ⟨rfl, Below.refl _ _⟩
  rw [decide_eq_true hs] at hby
  by_cases t1 : s.size ≤ 262144
  case neg =>
    go_enter Tryf.func5, Tryf.ntmps5
    go_wp2_with (go_at_call 12; refine hby.mono ?_; rintro e w1 ⟨rfl, rfl⟩)
    go_ret
    exact ⟨rfl, Below.refl _ _⟩
  by_cases t2 : rel.size ≤ 262144
  case neg =>
    go_enter Tryf.func5, Tryf.ntmps5
    go_wp2_with (go_at_call 12; refine hby.mono ?_; rintro e w1 ⟨rfl, rfl⟩)
    go_ret
    exact ⟨rfl, Below.refl _ _⟩
  by_cases t3 : o.size ≤ 262144
  case neg =>
    go_enter Tryf.func5, Tryf.ntmps5
    go_wp2_with (go_at_call 12; refine hby.mono ?_; rintro e w1 ⟨rfl, rfl⟩)
    go_ret
    exact ⟨rfl, Below.refl _ _⟩
  have hP := zzParse_any F fm s rel o w hE (by omega) (by omega) (by omega)
  have hMU := fun w => modUser_any fm s w hN (by omega)
  have hMO := fun w => modObject_any fm o w hN (by omega)
  have hNM := fun w => hN rel w (by omega)
  clear hE hN
  revert hP hMU hMO hNM
  generalize cutA 58 s = a
  generalize cutA 35 (cutB 58 s) = b
  generalize cutB 35 (cutB 58 s) = c
  generalize cutA 58 o = d
  generalize cutB 58 o = f
  generalize usrOk fm s = k1
  generalize partOk fm false rel = k2
  generalize objOk fm o = k3
  intro hP hMU hMO hNM
  cases k1
  case false =>
    simp only [Bool.false_and] at hP
    cases k3
    all_goals skip
    all_goals
      go_enter Tryf.func5, Tryf.ntmps5
      go_wp2_with (first
        | (go_at_call 12; (with_reducible refine hby.mono ?_); rintro e wa ⟨rfl, rfl⟩)
        | (go_at_call 13; (with_reducible refine hP.mono ?_); rintro e w1 ⟨⟨x1, rfl⟩, hb1⟩; simp only [tupV, errV])
        | (go_at_call 14; (with_reducible refine (hMU _).mono ?_); rintro e w2 ⟨rfl, hb2⟩; simp only [modU]; have q2 := kept hb2 (own_block w1 (.cells #[.string ⟨#[]⟩, .string ⟨#[]⟩, .string ⟨#[]⟩, .string ⟨#[]⟩, .string ⟨#[]⟩, .string ⟨#[]⟩] 36)); replace hb2 := hb1.trans ((up_alloc hb2).mono hb1.size))
        | (go_at_call 15; (with_reducible refine (hMO _).mono ?_); rintro e w3 ⟨rfl, hb3⟩; simp only [modO]; have q3 := kept hb3 q2; replace hb3 := hb2.trans (hb3.mono hb2.size); obtain ⟨⟨c0, c1, c2, c3, c4, c5⟩, _⟩ := six_cells q3; have p0 := past_al (o := .cells #[.string ⟨#[]⟩, .string ⟨#[]⟩, .string ⟨#[]⟩, .string ⟨#[]⟩, .string ⟨#[]⟩, .string ⟨#[]⟩] 36) c0; have p1 := past_al (o := .cells #[.string ⟨#[]⟩, .string ⟨#[]⟩, .string ⟨#[]⟩, .string ⟨#[]⟩, .string ⟨#[]⟩, .string ⟨#[]⟩] 36) c1; have p2 := past_al (o := .cells #[.string ⟨#[]⟩, .string ⟨#[]⟩, .string ⟨#[]⟩, .string ⟨#[]⟩, .string ⟨#[]⟩, .string ⟨#[]⟩] 36) c2; have p3 := past_al (o := .cells #[.string ⟨#[]⟩, .string ⟨#[]⟩, .string ⟨#[]⟩, .string ⟨#[]⟩, .string ⟨#[]⟩, .string ⟨#[]⟩] 36) c3; have p4 := past_al (o := .cells #[.string ⟨#[]⟩, .string ⟨#[]⟩, .string ⟨#[]⟩, .string ⟨#[]⟩, .string ⟨#[]⟩, .string ⟨#[]⟩] 36) c4; have p5 := past_al (o := .cells #[.string ⟨#[]⟩, .string ⟨#[]⟩, .string ⟨#[]⟩, .string ⟨#[]⟩, .string ⟨#[]⟩, .string ⟨#[]⟩] 36) c5))
      go_ret
      exact ⟨rfl, hb3.alloc hb3.size _⟩
  cases k3
  case false =>
    simp only [Bool.and_false] at hP
    go_enter Tryf.func5, Tryf.ntmps5
    go_wp2_with (first
      | (go_at_call 12; (with_reducible refine hby.mono ?_); rintro e wa ⟨rfl, rfl⟩)
      | (go_at_call 13; (with_reducible refine hP.mono ?_); rintro e w1 ⟨⟨x1, rfl⟩, hb1⟩; simp only [tupV, errV])
      | (go_at_call 14; (with_reducible refine (hMU _).mono ?_); rintro e w2 ⟨rfl, hb2⟩; simp only [modU]; have q2 := kept hb2 (own_block w1 (.cells #[.string ⟨#[]⟩, .string ⟨#[]⟩, .string ⟨#[]⟩, .string ⟨#[]⟩, .string ⟨#[]⟩, .string ⟨#[]⟩] 36)); replace hb2 := hb1.trans ((up_alloc hb2).mono hb1.size))
      | (go_at_call 15; (with_reducible refine (hMO _).mono ?_); rintro e w3 ⟨rfl, hb3⟩; simp only [modO]; have q3 := kept hb3 q2; replace hb3 := hb2.trans (hb3.mono hb2.size); obtain ⟨⟨c0, c1, c2, c3, c4, c5⟩, _⟩ := six_cells q3; have p0 := past_al (o := .cells #[.string ⟨#[]⟩, .string ⟨#[]⟩, .string ⟨#[]⟩, .string ⟨#[]⟩, .string ⟨#[]⟩, .string ⟨#[]⟩] 36) c0; have p1 := past_al (o := .cells #[.string ⟨#[]⟩, .string ⟨#[]⟩, .string ⟨#[]⟩, .string ⟨#[]⟩, .string ⟨#[]⟩, .string ⟨#[]⟩] 36) c1; have p2 := past_al (o := .cells #[.string ⟨#[]⟩, .string ⟨#[]⟩, .string ⟨#[]⟩, .string ⟨#[]⟩, .string ⟨#[]⟩, .string ⟨#[]⟩] 36) c2; have p3 := past_al (o := .cells #[.string ⟨#[]⟩, .string ⟨#[]⟩, .string ⟨#[]⟩, .string ⟨#[]⟩, .string ⟨#[]⟩, .string ⟨#[]⟩] 36) c3; have p4 := past_al (o := .cells #[.string ⟨#[]⟩, .string ⟨#[]⟩, .string ⟨#[]⟩, .string ⟨#[]⟩, .string ⟨#[]⟩, .string ⟨#[]⟩] 36) c4; have p5 := past_al (o := .cells #[.string ⟨#[]⟩, .string ⟨#[]⟩, .string ⟨#[]⟩, .string ⟨#[]⟩, .string ⟨#[]⟩, .string ⟨#[]⟩] 36) c5))
    go_ret
    exact ⟨rfl, hb3.alloc hb3.size _⟩
  cases k2
  case false =>
    simp only [Bool.true_and, Bool.and_true] at hP
    go_enter Tryf.func5, Tryf.ntmps5
    go_wp2_with (first
      | (go_at_call 12; (with_reducible refine hby.mono ?_); rintro e wa ⟨rfl, rfl⟩)
      | (go_at_call 13; (with_reducible refine hP.mono ?_); rintro e w1 ⟨⟨x1, rfl⟩, hb1⟩; simp only [tupV, errV])
      | (go_at_call 14; (with_reducible refine (hMU _).mono ?_); rintro e w2 ⟨rfl, hb2⟩; simp only [modU]; have q2 := kept hb2 (own_block w1 (.cells #[.string ⟨#[]⟩, .string ⟨#[]⟩, .string ⟨#[]⟩, .string ⟨#[]⟩, .string ⟨#[]⟩, .string ⟨#[]⟩] 36)); replace hb2 := hb1.trans ((up_alloc hb2).mono hb1.size))
      | (go_at_call 15; (with_reducible refine (hMO _).mono ?_); rintro e w3 ⟨rfl, hb3⟩; simp only [modO]; have q3 := kept hb3 q2; replace hb3 := hb2.trans (hb3.mono hb2.size))
      | (go_at_call 11; (with_reducible refine (hNM _).mono ?_); rintro e w4 ⟨rfl, hb4⟩; have q4 := kept hb4 q3; replace hb4 := hb3.trans (hb4.mono hb3.size); obtain ⟨⟨c0, c1, c2, c3, c4, c5⟩, _⟩ := six_cells q4; have p0 := past_al (o := .cells #[.string ⟨#[]⟩, .string ⟨#[]⟩, .string ⟨#[]⟩, .string ⟨#[]⟩, .string ⟨#[]⟩, .string ⟨#[]⟩] 36) c0; have p1 := past_al (o := .cells #[.string ⟨#[]⟩, .string ⟨#[]⟩, .string ⟨#[]⟩, .string ⟨#[]⟩, .string ⟨#[]⟩, .string ⟨#[]⟩] 36) c1; have p2 := past_al (o := .cells #[.string ⟨#[]⟩, .string ⟨#[]⟩, .string ⟨#[]⟩, .string ⟨#[]⟩, .string ⟨#[]⟩, .string ⟨#[]⟩] 36) c2; have p3 := past_al (o := .cells #[.string ⟨#[]⟩, .string ⟨#[]⟩, .string ⟨#[]⟩, .string ⟨#[]⟩, .string ⟨#[]⟩, .string ⟨#[]⟩] 36) c3; have p4 := past_al (o := .cells #[.string ⟨#[]⟩, .string ⟨#[]⟩, .string ⟨#[]⟩, .string ⟨#[]⟩, .string ⟨#[]⟩, .string ⟨#[]⟩] 36) c4; have p5 := past_al (o := .cells #[.string ⟨#[]⟩, .string ⟨#[]⟩, .string ⟨#[]⟩, .string ⟨#[]⟩, .string ⟨#[]⟩, .string ⟨#[]⟩] 36) c5))
    go_ret
    exact ⟨rfl, hb4.alloc hb4.size _⟩
  simp only [Bool.and_true] at hP
  go_enter Tryf.func5, Tryf.ntmps5
  go_wp2_with (first
    | (go_at_call 12; (with_reducible refine hby.mono ?_); rintro e wa ⟨rfl, rfl⟩)
    | (go_at_call 13; (with_reducible refine hP.mono ?_); rintro e w1 ⟨⟨x1, rfl⟩, hb1⟩; simp only [tupV, errV])
    | (go_at_call 14; (with_reducible refine (hMU _).mono ?_); rintro e w2 ⟨rfl, hb2⟩; simp only [modU]; have q2 := kept hb2 (own_block w1 (.cells #[.string a, .string b, .string c, .string rel, .string d, .string f] 36)); replace hb2 := hb1.trans ((up_alloc hb2).mono hb1.size))
    | (go_at_call 15; (with_reducible refine (hMO _).mono ?_); rintro e w3 ⟨rfl, hb3⟩; simp only [modO]; have q3 := kept hb3 q2; replace hb3 := hb2.trans (hb3.mono hb2.size))
    | (go_at_call 11; (with_reducible refine (hNM _).mono ?_); rintro e w4 ⟨rfl, hb4⟩; have q4 := kept hb4 q3; replace hb4 := hb3.trans (hb4.mono hb3.size); obtain ⟨⟨c0, c1, c2, c3, c4, c5⟩, _⟩ := six_cells q4; have p0 := past_al (o := .cells #[.string a, .string b, .string c, .string rel, .string d, .string f] 36) c0; have p1 := past_al (o := .cells #[.string a, .string b, .string c, .string rel, .string d, .string f] 36) c1; have p2 := past_al (o := .cells #[.string a, .string b, .string c, .string rel, .string d, .string f] 36) c2; have p3 := past_al (o := .cells #[.string a, .string b, .string c, .string rel, .string d, .string f] 36) c3; have p4 := past_al (o := .cells #[.string a, .string b, .string c, .string rel, .string d, .string f] 36) c4; have p5 := past_al (o := .cells #[.string a, .string b, .string c, .string rel, .string d, .string f] 36) c5))
  go_ret
  exact ⟨rfl, hb4.alloc hb4.size _⟩
end Go.Proofs.Qxb6606252aFmt
