/-
  THE LAW FnObjectStringParsesBack, walked.
-/
import Derived.Test.Qxb6606252aFmtObj
import Derived.Deep.DeepCutAuto
import Derived.Deep.CutBlock
namespace Go.Proofs.Qxb6606252aFmt
open Go.RowKit Go.Extern.Stop Go.Stop Go.Extern Go.Shelf

theorem bytes_inj' {a b : ByteArray} (h : a.data.toList = b.data.toList) : a = b := by
  cases a with | mk x => cases b with | mk y => cases x with | mk l => cases y with | mk m => simp at h; subst h; rfl
/-- What the object's own text reads as. -/
theorem obj_text (typ id : ByteArray) :
    (58 ∉ typ.data.toList ∧ cutF 58 (typ ++ ⟨#[58]⟩ ++ id) = true ∧ cutA 58 (typ ++ ⟨#[58]⟩ ++ id) = typ ∧ cutB 58 (typ ++ ⟨#[58]⟩ ++ id) = id) ∨
    (partOk false false typ = false ∧ (cutA 58 (typ ++ ⟨#[58]⟩ ++ id)).toList ≠ typ.toList) := by
  have hl : (typ ++ (⟨#[58]⟩ : ByteArray) ++ id).data.toList = typ.data.toList ++ 58 :: id.data.toList := by simp
  by_cases h : 58 ∈ typ.data.toList
  · refine .inr ⟨part_colon false typ h, ?_⟩
    rw [ByteArray.toList_eq, ByteArray.toList_eq]
    rcases part_at 58 typ.data.toList with hn | ⟨a, r, e, hn⟩
    · exact absurd h hn
    · unfold cutA
      rw [hl, e]
      rw [show (a ++ 58 :: r) ++ 58 :: id.data.toList = a ++ 58 :: (r ++ 58 :: id.data.toList) by simp, cut_yes 58 a _ hn]
      intro e2
      have : a = a ++ 58 :: r := e2
      have := congrArg List.length this
      simp at this
  · refine .inl ⟨h, ?_⟩
    unfold cutA cutB cutF
    rw [hl, cut_yes 58 _ _ h]
    exact ⟨rfl, bytes_inj' rfl, bytes_inj' rfl⟩

theorem past_alloc {w : World} {o : Obj} {a : Addr} {v : Value} (h : w.cell? a = some v) : (w.alloc o).cell? a = some v := cell_below ((Below.refl _ w).alloc (Nat.le_refl _) o) h

theorem bytes_any (typ id : ByteArray) (w : World) (_h1 : typ.size ≤ maxLen) (_h2 : id.size ≤ maxLen) :
    Calls Tryf.prog 6 #[.string typ, .string id] w fun e w' => e = .returned (.bool (decide (typ.size + id.size ≤ 1048576))) ∧ w' = w := by
  by_cases hs : typ.size + id.size ≤ 1048576
  · rw [decide_eq_true hs]
    go_enter Tryf.func6, Tryf.ntmps6
    go_wp2
    go_ret
    exact ⟨rfl, rfl⟩
  · rw [decide_eq_false hs]
    by_cases ht : typ.size ≤ 1048576
    · by_cases hi : id.size ≤ 1048576
      · go_enter Tryf.func6, Tryf.ntmps6
        go_wp2
        go_ret
        exact ⟨rfl, rfl⟩
      · go_enter Tryf.func6, Tryf.ntmps6
        go_wp2
        go_ret
        exact ⟨rfl, rfl⟩
    · go_enter Tryf.func6, Tryf.ntmps6
      go_wp2
      go_ret
      exact ⟨rfl, rfl⟩

/-- The calls on the law's road, their answers named. -/
theorem calls3 (F : Interp) (typ id : ByteArray) (w : World) (hE : Env F w) (hg : w.cell? ⟨0, 0, none⟩ = some (.bool false)) (ht : typ.size ≤ 524288) (hi : id.size ≤ 524288) :
    ∃ (s a b : ByteArray) (ok b1 b2 : Bool), ((ok = (b1 && b2) ∧ typ = a ∧ id = b) ∨ (b1 = false ∧ a.toList ≠ typ.toList)) ∧
      (∀ w1, Calls Tryf.prog 8 #[.agg #[.string typ, .string id]] w1 fun e w' => e = .returned (.string s) ∧ Below w1.heap.size w1 w') ∧
      (∀ w1, Below w.heap.size w w1 → Calls Tryf.prog 7 #[.bool false, .string s] w1 fun e w' => (∃ x, e = .returned (.tuple #[objV ok a b, errV ok x])) ∧ Below w1.heap.size w1 w') ∧
      (∀ w1, Below w.heap.size w w1 → Calls Tryf.prog 9 #[.string ⟨#[116, 121, 112, 101]⟩, .string typ] w1 (Errs b1 w1)) ∧
      (∀ w1, Below w.heap.size w w1 → Calls Tryf.prog 9 #[.string ⟨#[116, 121, 112, 101]⟩, .string id] w1 (Errs b2 w1)) := by
  have hsz : (typ ++ (⟨#[58]⟩ : ByteArray) ++ id).size ≤ 2000000 := by
    have e1 : (⟨#[58]⟩ : ByteArray).size = 1 := rfl
    rw [size_append, size_append, e1]; omega
  have hx := obj_text typ id
  have k1 := fun w1 => string_any typ id w1 (by omega)
  revert hx k1 hsz
  generalize typ ++ (⟨#[58]⟩ : ByteArray) ++ id = s
  intro hsz hx k1
  have k2 := fun w1 (hb1 : Below w.heap.size w w1) => zzObject_any F false s w1 (hE.below hb1) hsz
  have k3 := fun w1 (hb1 : Below w.heap.size w w1) => CheckName_any F ⟨#[116, 121, 112, 101]⟩ typ w1 (hE.below hb1) (cell_below hb1 hg) (by decide) (by omega)
  have k4 := fun w1 (hb1 : Below w.heap.size w w1) => CheckName_any F ⟨#[116, 121, 112, 101]⟩ id w1 (hE.below hb1) (cell_below hb1 hg) (by decide) (by omega)
  have k5 : (objOk false s = (partOk false false typ && partOk false false id) ∧ typ = cutA 58 s ∧ id = cutB 58 s) ∨ (partOk false false typ = false ∧ (cutA 58 s).toList ≠ typ.toList) := by
    rcases hx with ⟨_, h1, h2, h3⟩ | h
    · refine .inl ⟨?_, h2.symm, h3.symm⟩
      unfold objOk
      rw [h1, h2, h3, Bool.true_and]
    · exact .inr h
  exact ⟨s, cutA 58 s, cutB 58 s, objOk false s, partOk false false typ, partOk false false id, k5, k1, k2, k3, k4⟩

set_option maxHeartbeats 400000 in
set_option maxRecDepth 100000 in
theorem law3 (F : Interp) (typ id : ByteArray) (w : World) (hE : Env F w) (hg : w.cell? ⟨0, 0, none⟩ = some (.bool false)) (h1 : typ.size ≤ maxLen) (h2 : id.size ≤ maxLen) :
    Calls Tryf.prog 3 #[.string typ, .string id] w fun e w' => e = .returned (.bool true) ∧ Below w.heap.size w w' := by
  have hb := bytes_any typ id w h1 h2
  by_cases hs : typ.size + id.size ≤ 1048576
  case neg =>
    rw [decide_eq_false hs] at hb
    go_enter Tryf.func3, Tryf.ntmps3
    go_wp2_with (go_at_call 6; refine hb.mono ?_; rintro e w1 ⟨rfl, rfl⟩)
    go_ret
    exact ⟨rfl, Below.refl _ _⟩
  rw [decide_eq_true hs] at hb
  by_cases ht : typ.size ≤ 524288
  case neg =>
    go_enter Tryf.func3, Tryf.ntmps3
    go_wp2_with (go_at_call 6; refine hb.mono ?_; rintro e w1 ⟨rfl, rfl⟩)
    go_ret
    exact ⟨rfl, Below.refl _ _⟩
  by_cases hi : id.size ≤ 524288
  case neg =>
    go_enter Tryf.func3, Tryf.ntmps3
    go_wp2_with (go_at_call 6; refine hb.mono ?_; rintro e w1 ⟨rfl, rfl⟩)
    go_ret
    exact ⟨rfl, Below.refl _ _⟩
  obtain ⟨s, a, b, ok, b1, b2, hab, hstr, hobj, hn1, hn2⟩ := calls3 F typ id w hE hg ht hi
  clear hE hg
  rcases hab with ⟨rfl, rfl, rfl⟩ | ⟨rfl, hne⟩
  · cases b1
    · go_enter Tryf.func3, Tryf.ntmps3
      go_wp2_with (first
        | (go_at_call 6; refine hb.mono ?_; rintro e wa ⟨rfl, rfl⟩)
        | (go_at_call 8; refine (hstr _).mono ?_; rintro e w2 ⟨rfl, hb2⟩; have c20 := cell_below hb2 (a := ⟨wa.heap.size, 0, none⟩) (v := .string typ) (by simp [go_sem]); have c21 := cell_below hb2 (a := ⟨wa.heap.size, 1, none⟩) (v := .string id) (by simp [go_sem]); replace hb2 := up_alloc hb2)
        | (go_at_call 7; refine (hobj _ hb2).mono ?_; rintro e w3 ⟨⟨x, rfl⟩, hb3⟩; simp only [objV, errV]; have c30 := cell_below hb3 c20; have c31 := cell_below hb3 c21; replace hb3 := hb2.trans (hb3.mono hb2.size))
        | (go_at_call_of 9 typ; refine (hn1 _ (hb3.alloc hb3.size _)).mono ?_; rintro e w4 ⟨⟨y, rfl⟩, hb4⟩; simp only [errV]; have c40 := cell_below hb4 (past_alloc c30); have c41 := cell_below hb4 (past_alloc c31); have d40 := cell_below hb4 (a := ⟨w3.heap.size, 0, none⟩) (v := .string ⟨#[]⟩) (by simp [go_sem]); have d41 := cell_below hb4 (a := ⟨w3.heap.size, 1, none⟩) (v := .string ⟨#[]⟩) (by simp [go_sem]); replace hb4 := hb3.trans ((up_alloc hb4).mono hb3.size))
        | (go_at_call_of 9 id; refine (hn2 _ hb4).mono ?_; rintro e w5 ⟨⟨z, rfl⟩, hb5⟩; simp only [errV]; have c50 := cell_below hb5 c40; have c51 := cell_below hb5 c41; have d50 := cell_below hb5 d40; have d51 := cell_below hb5 d41; replace hb5 := hb4.trans (hb5.mono hb4.size)))
      go_ret
      exact ⟨rfl, hb4⟩
    · cases b2
      · go_enter Tryf.func3, Tryf.ntmps3
        go_wp2_with (first
          | (go_at_call 6; refine hb.mono ?_; rintro e wa ⟨rfl, rfl⟩)
          | (go_at_call 8; refine (hstr _).mono ?_; rintro e w2 ⟨rfl, hb2⟩; have c20 := cell_below hb2 (a := ⟨wa.heap.size, 0, none⟩) (v := .string typ) (by simp [go_sem]); have c21 := cell_below hb2 (a := ⟨wa.heap.size, 1, none⟩) (v := .string id) (by simp [go_sem]); replace hb2 := up_alloc hb2)
          | (go_at_call 7; refine (hobj _ hb2).mono ?_; rintro e w3 ⟨⟨x, rfl⟩, hb3⟩; simp only [objV, errV]; have c30 := cell_below hb3 c20; have c31 := cell_below hb3 c21; replace hb3 := hb2.trans (hb3.mono hb2.size))
          | (go_at_call_of 9 typ; refine (hn1 _ (hb3.alloc hb3.size _)).mono ?_; rintro e w4 ⟨⟨y, rfl⟩, hb4⟩; simp only [errV]; have c40 := cell_below hb4 (past_alloc c30); have c41 := cell_below hb4 (past_alloc c31); have d40 := cell_below hb4 (a := ⟨w3.heap.size, 0, none⟩) (v := .string ⟨#[]⟩) (by simp [go_sem]); have d41 := cell_below hb4 (a := ⟨w3.heap.size, 1, none⟩) (v := .string ⟨#[]⟩) (by simp [go_sem]); replace hb4 := hb3.trans ((up_alloc hb4).mono hb3.size))
          | (go_at_call_of 9 id; refine (hn2 _ hb4).mono ?_; rintro e w5 ⟨⟨z, rfl⟩, hb5⟩; simp only [errV]; have c50 := cell_below hb5 c40; have c51 := cell_below hb5 c41; have d50 := cell_below hb5 d40; have d51 := cell_below hb5 d41; replace hb5 := hb4.trans (hb5.mono hb4.size)))
        go_ret
        exact ⟨rfl, hb5⟩
      · go_enter Tryf.func3, Tryf.ntmps3
        go_wp2_with (first
          | (go_at_call 6; refine hb.mono ?_; rintro e wa ⟨rfl, rfl⟩)
          | (go_at_call 8; refine (hstr _).mono ?_; rintro e w2 ⟨rfl, hb2⟩; have c20 := cell_below hb2 (a := ⟨wa.heap.size, 0, none⟩) (v := .string typ) (by simp [go_sem]); have c21 := cell_below hb2 (a := ⟨wa.heap.size, 1, none⟩) (v := .string id) (by simp [go_sem]); replace hb2 := up_alloc hb2)
          | (go_at_call 7; refine (hobj _ hb2).mono ?_; rintro e w3 ⟨⟨x, rfl⟩, hb3⟩; simp only [objV, errV]; have c30 := cell_below hb3 c20; have c31 := cell_below hb3 c21; replace hb3 := hb2.trans (hb3.mono hb2.size))
          | (go_at_call_of 9 typ; refine (hn1 _ (hb3.alloc hb3.size _)).mono ?_; rintro e w4 ⟨⟨y, rfl⟩, hb4⟩; simp only [errV]; have c40 := cell_below hb4 (past_alloc c30); have c41 := cell_below hb4 (past_alloc c31); have d40 := cell_below hb4 (a := ⟨w3.heap.size, 0, none⟩) (v := .string typ) (by simp [go_sem]); have d41 := cell_below hb4 (a := ⟨w3.heap.size, 1, none⟩) (v := .string id) (by simp [go_sem]); replace hb4 := hb3.trans ((up_alloc hb4).mono hb3.size))
          | (go_at_call_of 9 id; refine (hn2 _ hb4).mono ?_; rintro e w5 ⟨⟨z, rfl⟩, hb5⟩; simp only [errV]; have c50 := cell_below hb5 c40; have c51 := cell_below hb5 c41; have d50 := cell_below hb5 d40; have d51 := cell_below hb5 d41; replace hb5 := hb4.trans (hb5.mono hb4.size)))
        go_ret
        exact ⟨rfl, hb5⟩
  · cases ok
    · go_enter Tryf.func3, Tryf.ntmps3
      go_wp2_with (first
        | (go_at_call 6; refine hb.mono ?_; rintro e wa ⟨rfl, rfl⟩)
        | (go_at_call 8; refine (hstr _).mono ?_; rintro e w2 ⟨rfl, hb2⟩; have c20 := cell_below hb2 (a := ⟨wa.heap.size, 0, none⟩) (v := .string typ) (by simp [go_sem]); have c21 := cell_below hb2 (a := ⟨wa.heap.size, 1, none⟩) (v := .string id) (by simp [go_sem]); replace hb2 := up_alloc hb2)
        | (go_at_call 7; refine (hobj _ hb2).mono ?_; rintro e w3 ⟨⟨x, rfl⟩, hb3⟩; simp only [objV, errV]; have c30 := cell_below hb3 c20; have c31 := cell_below hb3 c21; replace hb3 := hb2.trans (hb3.mono hb2.size))
        | (go_at_call_of 9 typ; refine (hn1 _ (hb3.alloc hb3.size _)).mono ?_; rintro e w4 ⟨⟨y, rfl⟩, hb4⟩; simp only [errV]; have c40 := cell_below hb4 (past_alloc c30); have c41 := cell_below hb4 (past_alloc c31); have d40 := cell_below hb4 (a := ⟨w3.heap.size, 0, none⟩) (v := .string ⟨#[]⟩) (by simp [go_sem]); have d41 := cell_below hb4 (a := ⟨w3.heap.size, 1, none⟩) (v := .string ⟨#[]⟩) (by simp [go_sem]); replace hb4 := hb3.trans ((up_alloc hb4).mono hb3.size))
        | (go_at_call_of 9 id; refine (hn2 _ hb4).mono ?_; rintro e w5 ⟨⟨z, rfl⟩, hb5⟩; simp only [errV]; have c50 := cell_below hb5 c40; have c51 := cell_below hb5 c41; have d50 := cell_below hb5 d40; have d51 := cell_below hb5 d41; replace hb5 := hb4.trans (hb5.mono hb4.size)))
      go_ret
      exact ⟨rfl, hb4⟩
    · go_enter Tryf.func3, Tryf.ntmps3
      go_wp2_with (first
        | (go_at_call 6; refine hb.mono ?_; rintro e wa ⟨rfl, rfl⟩)
        | (go_at_call 8; refine (hstr _).mono ?_; rintro e w2 ⟨rfl, hb2⟩; have c20 := cell_below hb2 (a := ⟨wa.heap.size, 0, none⟩) (v := .string typ) (by simp [go_sem]); have c21 := cell_below hb2 (a := ⟨wa.heap.size, 1, none⟩) (v := .string id) (by simp [go_sem]); replace hb2 := up_alloc hb2)
        | (go_at_call 7; refine (hobj _ hb2).mono ?_; rintro e w3 ⟨⟨x, rfl⟩, hb3⟩; simp only [objV, errV]; have c30 := cell_below hb3 c20; have c31 := cell_below hb3 c21; replace hb3 := hb2.trans (hb3.mono hb2.size))
        | (go_at_call_of 9 typ; refine (hn1 _ (hb3.alloc hb3.size _)).mono ?_; rintro e w4 ⟨⟨y, rfl⟩, hb4⟩; simp only [errV]; have c40 := cell_below hb4 (past_alloc c30); have c41 := cell_below hb4 (past_alloc c31); have d40 := cell_below hb4 (a := ⟨w3.heap.size, 0, none⟩) (v := .string a) (by simp [go_sem]); have d41 := cell_below hb4 (a := ⟨w3.heap.size, 1, none⟩) (v := .string b) (by simp [go_sem]); replace hb4 := hb3.trans ((up_alloc hb4).mono hb3.size))
        | (go_at_call_of 9 id; refine (hn2 _ hb4).mono ?_; rintro e w5 ⟨⟨z, rfl⟩, hb5⟩; simp only [errV]; have c50 := cell_below hb5 c40; have c51 := cell_below hb5 c41; have d50 := cell_below hb5 d40; have d51 := cell_below hb5 d41; replace hb5 := hb4.trans (hb5.mono hb4.size)))
      go_ret
      exact ⟨rfl, hb4⟩
end Go.Proofs.Qxb6606252aFmt
