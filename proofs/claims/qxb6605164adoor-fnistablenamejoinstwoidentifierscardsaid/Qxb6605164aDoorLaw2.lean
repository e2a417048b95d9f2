/-
  THE CARD OF FnIsTableNameJoinsTwoIdentifiers.
-/
import Derived.Test.Qxb6605164aDoorTie
import Derived.Test.Qxb6605164aDoorCards
import Derived.Test.Qxb6605164aDoorFrame
import Derived.Test.Qxb6605164aDoorA4
import Derived.ProofKit
import Derived.OpenShut
import Derived.LaidMore
import Derived.Lay
import Derived.SevenTiedAt
import Derived.Stop.Joined
namespace Go.Proofs.Qxb6605164aDoor
open Go.ChangeShapes Go.WideShapes Go.ChangeAt Go.RowKit
open Go.ChangeMaps (open_string shut_string)

theorem own2 : ownKnob Tryd.prog.godebug = none := by kernel_rfl

theorem ident_nodot (l : List UInt8) (h : ident l = true) : l.count 46 = 0 := by
  rw [List.count_eq_zero]
  intro hm
  unfold ident at h
  simp only [Bool.and_eq_true] at h
  cases l with
  | nil => cases hm
  | cons a r =>
    obtain ⟨_, _, h3⟩ := h
    simp only [okP, Bool.and_eq_true] at h3
    rcases List.mem_cons.1 hm with e | e
    · rw [← e] at h3; exact absurd h3.1 (by decide)
    · exact absurd (List.all_eq_true.1 h3.2 46 e) (by decide)
theorem dotted_join (a b : List UInt8) : dotted (a ++ 46 :: b) = (ident a && ident b) := by
  have hc : (a ++ 46 :: b).count 46 = a.count 46 + (b.count 46 + 1) := by rw [List.count_append, List.count_cons]; simp
  unfold dotted
  rw [hc, if_neg (by omega)]
  by_cases h : a.count 46 = 0 ∧ b.count 46 = 0
  · have hn : (46 : UInt8) ∉ a := List.count_eq_zero.1 h.1
    rw [if_pos (by omega), List.idxOf_append, if_neg hn, List.idxOf_cons_self]
    simp
  · rw [if_neg (by omega)]
    cases ha : ident a
    · rfl
    · cases hb : ident b
      · rfl
      · exact absurd ⟨ident_nodot a ha, ident_nodot b hb⟩ h

theorem bytes2 (a b : ByteArray) (w : World) (ha : a.size ≤ maxLen) (hb : b.size ≤ maxLen) :
    Calls Tryd.prog 9 #[.string a, .string b] w fun e w' => e = .returned (.bool (decide (a.size + b.size ≤ 1048576))) ∧ w' = w := by
  unfold maxLen at ha hb
  by_cases h : a.size + b.size ≤ 1048576
  · rw [decide_eq_true h]
    go_enter Tryd.func9, Tryd.ntmps9
    go_wp2
    go_ret
    exact ⟨rfl, rfl⟩
  · rw [decide_eq_false h]
    go_enter Tryd.func9, Tryd.ntmps9
    go_wp2
    all_goals go_ret
    all_goals exact ⟨rfl, rfl⟩

theorem law2 (a b : ByteArray) (w : World) (hsh : w.ShapedOpen Tryd.prog) (ha : a.size ≤ maxLen) (hb : b.size ≤ maxLen) :
    Calls Tryd.prog 4 #[.string a, .string b] w fun e w' => e = .returned (.bool true) ∧ Below w.heap.size w w' := by
  have hby := bytes2 a b w ha hb
  unfold maxLen at ha hb
  by_cases h : a.size + b.size ≤ 1048576
  · rw [decide_eq_true h] at hby
    have e0 : (⟨#[46]⟩ : ByteArray).size = 1 := rfl
    have hz := zztable_any (a ++ ⟨#[46]⟩ ++ b) w hsh (by rw [ByteArray.size_append, ByteArray.size_append, e0]; omega)
    have e1 : (a ++ ⟨#[46]⟩ ++ b).data.toList = a.data.toList ++ 46 :: b.data.toList := by simp
    rw [e1, dotted_join] at hz
    clear e1 e0 hsh
    cases hi : ident a.data.toList <;> cases hj : ident b.data.toList
    all_goals
      rw [hi, hj] at hz
      go_enter Tryd.func4, Tryd.ntmps4
      go_wp2_with (first | (go_at_call 9; refine hby.mono ?_; rintro e w' ⟨rfl, rfl⟩) | (go_at_call 7; refine hz.mono ?_; rintro e w' ⟨rfl, o, rfl⟩) | (go_at_call 10; refine (zzident_any _ _).mono ?_; rintro e w' ⟨rfl, rfl⟩) | (go_at_call 11; refine (grammar_any _ _).mono ?_; rintro e w' ⟨rfl, rfl⟩))
      all_goals go_ret
      all_goals exact ⟨rfl, by first | exact Below.refl _ _ | exact (Below.refl _ _).alloc (Nat.le_refl _) _⟩
  · rw [decide_eq_false h] at hby
    go_enter Tryd.func4, Tryd.ntmps4
    go_wp2_with (go_at_call 9; refine hby.mono ?_; rintro e w' ⟨rfl, rfl⟩)
    go_ret
    exact ⟨rfl, Below.refl _ _⟩

set_option maxRecDepth 100000 in
theorem lifted2 (os : Os) (started : os.Started) (H : Type) (enc : TypeId × Value → H) :
    ReturnsInHanded {} Tryd.checked os 4 .any (fun w args => (Rows.fnIsTableNameJoinsTwoIdentifiersSpec.pre enc Tryd.prog Tryd.f4 Rows.fnIsTableNameJoinsTwoIdentifiersRow.domain false w args ∧ laidMetH Tryd.prog Rows.fnIsTableNameJoinsTwoIdentifiersRow.laid w) ∧ sizedMet enc Tryd.prog Tryd.f4 (OpenSpec.ofChange Rows.fnIsTableNameJoinsTwoIdentifiersSpec) false w args)
      (Rows.fnIsTableNameJoinsTwoIdentifiersSpec.post enc Tryd.prog Tryd.f4 false true false false) := by
  refine returns_listed_shaped (C := Tryd.checked) (X := fun w _ => laidMetH Tryd.prog Rows.fnIsTableNameJoinsTwoIdentifiersRow.laid w) (fun _ _ _ hh h => h.of_heap hh) own2 started (by kernel_rfl) Tryd.func4
    (ChangeSpec.witness_shaped (enc := enc) (C := Tryd.checked) (os := os) (X := fun w _ => laidMetH Tryd.prog Rows.fnIsTableNameJoinsTwoIdentifiersRow.laid w) false (World.laidAll Tryd.prog os Rows.fnIsTableNameJoinsTwoIdentifiersRow.laid) #[.string ⟨#[]⟩, .string ⟨#[]⟩] 8 (World.laidAll_os _ _ _)
      (World.shaped_of_ZipB (by kernel_rfl) (by kernel_rfl)) (by kernel_rfl) (by kernel_rfl) (by kernel_rfl)
      (by rw [MakeChecks.laidMetH_plain _ _ _ (by kernel_rfl)]; exact laidMet_laidAll _ (by kernel_rfl) (by kernel_rfl))) ?_
  intro W base args ds gs before hval0 hW hL hsh
  have hval : ∀ (j : Nat) t v, Tryd.f4.params[j]? = some t → args[j]? = some v → Value.okWide Tryd.prog W .any base t v := hval0
  have hW' := hW
  obtain ⟨p, q, hA0, hV, rfl, _, _⟩ := hW
  have hA : DataW.TrodAll enc Tryd.prog W 0 (fun _ => true) true Tryd.f4.params.toList args.toList ds p := hA0
  rw [Tryd.params4] at hA hval
  obtain ⟨v0, v1, d0, d1, p0, p1, rfl, rfl, rfl, h0, h1⟩ := trodAll_two hA
  obtain ⟨rfl, rfl⟩ := trodVars_none hV
  obtain ⟨a, rfl, rfl, rfl, ha⟩ := open_string Tryd.underlying9 (hval 0 9 v0 rfl rfl) h0
  obtain ⟨b, rfl, rfl, rfl, hb⟩ := open_string Tryd.underlying9 (hval 1 9 v1 rfl rfl) h1
  simp only [List.append_nil] at hW'
  refine (law2 a b W hsh ha hb).mono fun e W' ⟨he, hB⟩ => ?_
  subst he
  exact ⟨_, rfl, _, _, _, [], [], [], hW', trodAll_mk1 (shut_bool Tryd.underlying4 _), trodAll_mk2 (shut_string Tryd.underlying9 ha) (shut_string Tryd.underlying9 hb), rfl, hB.frame _, fun h => by cases h⟩

theorem holds2 : Rows.FnIsTableNameJoinsTwoIdentifiersSaid :=
  OpenClaim.holds_of_wide 4 Tryd.f4 rfl rfl rfl rfl rfl rfl rfl ⟨rfl, rfl, rfl, rfl, rfl⟩ rfl rfl rfl rfl rfl (by kernel_rfl) Tryd.func4 (by kernel_rfl)
    (of_decide_eq_true (by kernel_rfl)) (by unfold Func.isWrapper; first | (rw [if_pos (by decide +kernel)]; kernel_rfl) | (rw [if_neg (by decide +kernel)]; exact ⟨rfl, rfl⟩))
    (fun os started H enc _ => lifted2 os started H enc)

theorem card2 : Rows.FnIsTableNameJoinsTwoIdentifiersCardSaid :=
  Claim7.holds_tied_plain_at .later [] [.data, .pinned] true Rows.fnIsTableNameJoinsTwoIdentifiersCard.stood.harness false holds2 (fun _ h => by cases h) (by kernel_rfl) (fun _ h => by cases h) fnIsTableNameJoinsTwoIdentifiers_row_tie rfl ⟨rfl, rfl⟩ (by kernel_rfl) rfl
    (fun f fn hf hfn => by
      obtain rfl : f = 4 := Option.some.inj ((show Tryd.prog.funcNamed Rows.fnIsTableNameJoinsTwoIdentifiersRow.func = some 4 by kernel_rfl).symm.trans hf) |>.symm
      obtain rfl : fn = Tryd.f4 := (Option.some.inj (Tryd.func4.symm.trans hfn)).symm
      exact ⟨by kernel_rfl, fun j t ht => by
        rw [Tryd.params4] at ht
        have hm : t ∈ [9, 9] := by simpa using Array.mem_of_getElem? ht
        have hall : ([9, 9].all fun u => !Tryd.prog.wantsStandIn u) = true := by kernel_rfl
        exact (show Tryd.prog.wantsStandIn t = false by simpa using List.all_eq_true.1 hall t hm)⟩)
    (by kernel_rfl)
end Go.Proofs.Qxb6605164aDoor
