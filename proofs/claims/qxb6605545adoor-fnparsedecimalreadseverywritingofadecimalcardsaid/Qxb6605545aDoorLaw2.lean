/-
  THE CARD OF FnParseDecimalReadsEveryWritingOfADecimal.
-/
import Derived.Test.Qxb6605545aDoorTie
import Derived.Test.Qxb6605545aDoorCards
import Derived.Test.Qxb6605545aDoorFrame
import Derived.Test.Qxb6605545aDoorB1
import Derived.ProofKit
import Derived.OpenShut
import Derived.LaidMore
import Derived.Lay
import Derived.SevenTiedAt
import Derived.Stop.Joined
namespace Go.Proofs.Qxb6605545aDoor
open Go.ChangeShapes Go.WideShapes Go.ChangeAt Go.RowKit
open Go.ChangeMaps (open_string shut_string)

theorem own2 : ownKnob Tryd.prog.godebug = none := by kernel_rfl

set_option maxHeartbeats 1600000 in
theorem law2 (neg : Bool) (a b : ByteArray) (w : World) (hsh : w.ShapedOpen Tryd.prog) (ha : a.size ≤ maxLen) (hb : b.size ≤ maxLen) :
    Calls Tryd.prog 4 #[.bool neg, .string a, .string b] w fun e w' => e = .returned (.bool true) ∧ Below w.heap.size w w' := by
  have hby := bytes2 neg a b w ha hb
  unfold maxLen at ha hb
  by_cases h : a.size + b.size ≤ 1048576
  · rw [decide_eq_true h] at hby
    have hcan := fun w => canon_any neg a b w (by omega) (by omega)
    cases hc : canonB neg a.data.toList b.data.toList
    · rw [hc] at hcan
      go_enter Tryd.func4, Tryd.ntmps4
      go_wp2_with (first | (go_at_call 10; refine hby.mono ?_; rintro e w' ⟨rfl, rfl⟩) | (go_at_call 11; refine (hcan _).mono ?_; rintro e w' ⟨rfl, rfl⟩))
      all_goals go_ret
      all_goals exact ⟨rfl, Below.refl _ _⟩
    · rw [hc] at hcan
      by_cases hL : a.size ≤ 524288 ∧ b.size ≤ 524288
      · obtain ⟨hL1, hL2⟩ := hL
        have hI : Inv w w := ⟨HasMax.of_shaped hsh, Below.refl _ _⟩
        have z0 : (⟨#[]⟩ : ByteArray).size = 0 := rfl
        have z1 : (⟨#[45]⟩ : ByteArray).size = 1 := rfl
        have z2 : (⟨#[46]⟩ : ByteArray).size = 1 := rfl
        have z3 : (⟨#[48]⟩ : ByteArray).size = 1 := rfl
        have z4 : (⟨#[48, 48]⟩ : ByteArray).size = 2 := rfl
        have z5 : (⟨#[43]⟩ : ByteArray).size = 1 := rfl
        have r5 : ∀ wq, Inv w wq → Calls Tryd.prog 12 #[.string (sgnQ neg ++ ⟨#[48, 48]⟩ ++ a ++ ⟨#[46]⟩ ++ b ++ ⟨#[48, 48]⟩), .bool neg, .string a, .string b] wq fun e w' => e = .returned (.bool true) ∧ Inv w w' :=
          fun wq h => reads_inv w neg a b _ (by cases neg <;> simp only [sgnQ, ByteArray.size_append, z1, z2, z4, z5, if_true, Bool.false_eq_true, if_false] <;> omega) (writ5 neg a b hc) wq h
        cases qa : a.toList.isEmpty <;> cases qb : b.toList.isEmpty
        · have r1 : ∀ wq, Inv w wq → Calls Tryd.prog 12 #[.string (sgnA neg ++ a ++ ⟨#[46]⟩ ++ b), .bool neg, .string a, .string b] wq fun e w' => e = .returned (.bool true) ∧ Inv w w' :=
            fun wq h => reads_inv w neg a b _ (by cases neg <;> simp only [sgnA, ByteArray.size_append, z0, z1, z2, if_true, Bool.false_eq_true, if_false] <;> omega) (writ1 neg a b hc fun x => not_nil_of qa x.1) wq h
          clear hsh z0 z1 z2 z3 z4 z5 hc
          cases neg
          all_goals simp only [sgnA, sgnQ, if_true, Bool.false_eq_true, if_false] at r1 r5
          all_goals go_enter Tryd.func4, Tryd.ntmps4
          all_goals go_wp2_with (first | (go_at_call 10; refine hby.mono ?_; rintro e w' ⟨rfl, hw⟩; subst hw) | (go_at_call 11; refine (hcan _).mono ?_; rintro e w' ⟨rfl, hw⟩; subst hw))
          all_goals (refine (r1 _ hI).mono ?_; rintro e w1 ⟨rfl, hI1⟩)
          all_goals go_wp2_with fail
          all_goals (refine (r5 _ hI1).mono ?_; rintro e w2 ⟨rfl, hI2⟩)
          all_goals go_wp2_with fail
          all_goals (refine (r1 _ hI2).mono ?_; rintro e w3 ⟨rfl, hI3⟩)
          all_goals go_wp2
          all_goals go_ret
          all_goals exact ⟨rfl, hI3.2⟩
        · have r0 : ∀ wq, Inv w wq → Calls Tryd.prog 12 #[.string (sgnA neg ++ a), .bool neg, .string a, .string b] wq fun e w' => e = .returned (.bool true) ∧ Inv w w' :=
            fun wq h => reads_inv w neg a b _ (by cases neg <;> simp only [sgnA, ByteArray.size_append, z0, z1, if_true, Bool.false_eq_true, if_false] <;> omega) (writ2 neg a b hc (nil_of qb) (not_nil_of qa)) wq h
          have r1 : ∀ wq, Inv w wq → Calls Tryd.prog 12 #[.string (sgnA neg ++ a ++ ⟨#[46]⟩ ++ b), .bool neg, .string a, .string b] wq fun e w' => e = .returned (.bool true) ∧ Inv w w' :=
            fun wq h => reads_inv w neg a b _ (by cases neg <;> simp only [sgnA, ByteArray.size_append, z0, z1, z2, if_true, Bool.false_eq_true, if_false] <;> omega) (writ1 neg a b hc fun x => not_nil_of qa x.1) wq h
          clear hsh z0 z1 z2 z3 z4 z5 hc
          cases neg
          all_goals simp only [sgnA, sgnQ, if_true, Bool.false_eq_true, if_false] at r0 r1 r5
          all_goals go_enter Tryd.func4, Tryd.ntmps4
          all_goals go_wp2_with (first | (go_at_call 10; refine hby.mono ?_; rintro e w' ⟨rfl, hw⟩; subst hw) | (go_at_call 11; refine (hcan _).mono ?_; rintro e w' ⟨rfl, hw⟩; subst hw))
          all_goals (refine (r0 _ hI).mono ?_; rintro e w1 ⟨rfl, hI1⟩)
          all_goals go_wp2_with fail
          all_goals (refine (r5 _ hI1).mono ?_; rintro e w2 ⟨rfl, hI2⟩)
          all_goals go_wp2_with fail
          all_goals (refine (r1 _ hI2).mono ?_; rintro e w3 ⟨rfl, hI3⟩)
          all_goals go_wp2
          all_goals go_ret
          all_goals exact ⟨rfl, hI3.2⟩
        · have r0 : ∀ wq, Inv w wq → Calls Tryd.prog 12 #[.string (sgnA neg ++ ⟨#[48]⟩ ++ ⟨#[46]⟩ ++ b), .bool neg, .string a, .string b] wq fun e w' => e = .returned (.bool true) ∧ Inv w w' :=
            fun wq h => reads_inv w neg a b _ (by cases neg <;> simp only [sgnA, ByteArray.size_append, z0, z1, z2, z3, if_true, Bool.false_eq_true, if_false] <;> omega) (writ3 neg a b hc (nil_of qa)) wq h
          have r1 : ∀ wq, Inv w wq → Calls Tryd.prog 12 #[.string (sgnA neg ++ a ++ ⟨#[46]⟩ ++ b), .bool neg, .string a, .string b] wq fun e w' => e = .returned (.bool true) ∧ Inv w w' :=
            fun wq h => reads_inv w neg a b _ (by cases neg <;> simp only [sgnA, ByteArray.size_append, z0, z1, z2, if_true, Bool.false_eq_true, if_false] <;> omega) (writ1 neg a b hc fun x => not_nil_of qb x.2) wq h
          clear hsh z0 z1 z2 z3 z4 z5 hc
          cases neg
          all_goals simp only [sgnA, sgnQ, if_true, Bool.false_eq_true, if_false] at r0 r1 r5
          all_goals go_enter Tryd.func4, Tryd.ntmps4
          all_goals go_wp2_with (first | (go_at_call 10; refine hby.mono ?_; rintro e w' ⟨rfl, hw⟩; subst hw) | (go_at_call 11; refine (hcan _).mono ?_; rintro e w' ⟨rfl, hw⟩; subst hw))
          all_goals (refine (r0 _ hI).mono ?_; rintro e w1 ⟨rfl, hI1⟩)
          all_goals go_wp2_with fail
          all_goals (refine (r5 _ hI1).mono ?_; rintro e w2 ⟨rfl, hI2⟩)
          all_goals go_wp2_with fail
          all_goals (refine (r1 _ hI2).mono ?_; rintro e w3 ⟨rfl, hI3⟩)
          all_goals go_wp2
          all_goals go_ret
          all_goals exact ⟨rfl, hI3.2⟩
        · have r0 : ∀ wq, Inv w wq → Calls Tryd.prog 12 #[.string (sgnA neg ++ ⟨#[48]⟩), .bool neg, .string a, .string b] wq fun e w' => e = .returned (.bool true) ∧ Inv w w' :=
            fun wq h => reads_inv w neg a b _ (by cases neg <;> simp only [sgnA, ByteArray.size_append, z0, z1, z3, if_true, Bool.false_eq_true, if_false] <;> omega) (writ4 neg a b hc (nil_of qa) (nil_of qb)) wq h
          clear hsh z0 z1 z2 z3 z4 z5 hc
          cases neg
          all_goals simp only [sgnA, sgnQ, if_true, Bool.false_eq_true, if_false] at r0 r5
          all_goals go_enter Tryd.func4, Tryd.ntmps4
          all_goals go_wp2_with (first | (go_at_call 10; refine hby.mono ?_; rintro e w' ⟨rfl, hw⟩; subst hw) | (go_at_call 11; refine (hcan _).mono ?_; rintro e w' ⟨rfl, hw⟩; subst hw))
          all_goals (refine (r0 _ hI).mono ?_; rintro e w1 ⟨rfl, hI1⟩)
          all_goals go_wp2_with fail
          all_goals (refine (r5 _ hI1).mono ?_; rintro e w2 ⟨rfl, hI2⟩)
          all_goals go_wp2
          all_goals go_ret
          all_goals exact ⟨rfl, hI2.2⟩
      · have hL' : 524288 < a.size ∨ 524288 < b.size := by omega
        clear hL
        rcases hL' with x | x
        all_goals go_enter Tryd.func4, Tryd.ntmps4
        all_goals go_wp2_with (first | (go_at_call 10; refine hby.mono ?_; rintro e w' ⟨rfl, rfl⟩) | (go_at_call 11; refine (hcan _).mono ?_; rintro e w' ⟨rfl, rfl⟩))
        all_goals go_ret
        all_goals exact ⟨rfl, Below.refl _ _⟩
  · rw [decide_eq_false h] at hby
    go_enter Tryd.func4, Tryd.ntmps4
    go_wp2_with (go_at_call 10; refine hby.mono ?_; rintro e w' ⟨rfl, rfl⟩)
    go_ret
    exact ⟨rfl, Below.refl _ _⟩

set_option maxRecDepth 100000 in
theorem lifted2 (os : Os) (started : os.Started) (H : Type) (enc : TypeId × Value → H) :
    ReturnsInHanded {} Tryd.checked os 4 .any (fun w args => (Rows.fnParseDecimalReadsEveryWritingOfADecimalSpec.pre enc Tryd.prog Tryd.f4 Rows.fnParseDecimalReadsEveryWritingOfADecimalRow.domain false w args ∧ laidMetH Tryd.prog Rows.fnParseDecimalReadsEveryWritingOfADecimalRow.laid w) ∧ sizedMet enc Tryd.prog Tryd.f4 (OpenSpec.ofChange Rows.fnParseDecimalReadsEveryWritingOfADecimalSpec) false w args)
      (Rows.fnParseDecimalReadsEveryWritingOfADecimalSpec.post enc Tryd.prog Tryd.f4 false true false false) := by
  refine returns_listed_shaped (C := Tryd.checked) (X := fun w _ => laidMetH Tryd.prog Rows.fnParseDecimalReadsEveryWritingOfADecimalRow.laid w) (fun _ _ _ hh h => h.of_heap hh) own2 started (by kernel_rfl) Tryd.func4
    (ChangeSpec.witness_shaped (enc := enc) (C := Tryd.checked) (os := os) (X := fun w _ => laidMetH Tryd.prog Rows.fnParseDecimalReadsEveryWritingOfADecimalRow.laid w) false (World.laidAll Tryd.prog os Rows.fnParseDecimalReadsEveryWritingOfADecimalRow.laid) #[.bool false, .string ⟨#[]⟩, .string ⟨#[]⟩] 8 (World.laidAll_os _ _ _)
      (World.shaped_of_ZipB (by kernel_rfl) (by kernel_rfl)) (by kernel_rfl) (by kernel_rfl) (by kernel_rfl)
      (by rw [MakeChecks.laidMetH_plain _ _ _ (by kernel_rfl)]; exact laidMet_laidAll _ (by kernel_rfl) (by kernel_rfl))) ?_
  intro W base args ds gs before hval0 hW hL hsh
  have hval : ∀ (j : Nat) t v, Tryd.f4.params[j]? = some t → args[j]? = some v → Value.okWide Tryd.prog W .any base t v := hval0
  have hW' := hW
  obtain ⟨p, q, hA0, hV, rfl, _, _⟩ := hW
  have hA : DataW.TrodAll enc Tryd.prog W 0 (fun _ => true) true Tryd.f4.params.toList args.toList ds p := hA0
  rw [Tryd.params4] at hA hval
  obtain ⟨v0, v1, v2, d0, d1, d2, p0, p1, p2, rfl, rfl, rfl, h0, h1, h2⟩ := trodAll_three hA
  obtain ⟨rfl, rfl⟩ := trodVars_none hV
  obtain ⟨neg, rfl, rfl, rfl⟩ := open_bool Tryd.underlying4 (hval 0 4 v0 rfl rfl) h0
  obtain ⟨a, rfl, rfl, rfl, ha⟩ := open_string Tryd.underlying9 (hval 1 9 v1 rfl rfl) h1
  obtain ⟨b, rfl, rfl, rfl, hb⟩ := open_string Tryd.underlying9 (hval 2 9 v2 rfl rfl) h2
  simp only [List.append_nil] at hW'
  refine (law2 neg a b W hsh ha hb).mono fun e W' ⟨he, hB⟩ => ?_
  subst he
  exact ⟨_, rfl, _, _, _, [], [], [], hW', trodAll_mk1 (shut_bool Tryd.underlying4 _), trodAll_mk3 (shut_bool Tryd.underlying4 neg) (shut_string Tryd.underlying9 ha) (shut_string Tryd.underlying9 hb), rfl, hB.frame _, fun h => by cases h⟩

theorem holds2 : Rows.FnParseDecimalReadsEveryWritingOfADecimalSaid :=
  OpenClaim.holds_of_wide 4 Tryd.f4 rfl rfl rfl rfl rfl rfl rfl ⟨rfl, rfl, rfl, rfl, rfl⟩ rfl rfl rfl rfl rfl (by kernel_rfl) Tryd.func4 (by kernel_rfl)
    (of_decide_eq_true (by kernel_rfl)) (by unfold Func.isWrapper; first | (rw [if_pos (by decide +kernel)]; kernel_rfl) | (rw [if_neg (by decide +kernel)]; exact ⟨rfl, rfl⟩))
    (fun os started H enc _ => lifted2 os started H enc)

theorem card2 : Rows.FnParseDecimalReadsEveryWritingOfADecimalCardSaid :=
  Claim7.holds_tied_plain_at .later [] [.data, .pinned] true Rows.fnParseDecimalReadsEveryWritingOfADecimalCard.stood.harness false holds2 (fun _ h => by cases h) (by kernel_rfl) (fun _ h => by cases h) fnParseDecimalReadsEveryWritingOfADecimal_row_tie rfl ⟨rfl, rfl⟩ (by kernel_rfl) rfl
    (fun f fn hf hfn => by
      obtain rfl : f = 4 := Option.some.inj ((show Tryd.prog.funcNamed Rows.fnParseDecimalReadsEveryWritingOfADecimalRow.func = some 4 by kernel_rfl).symm.trans hf) |>.symm
      obtain rfl : fn = Tryd.f4 := (Option.some.inj (Tryd.func4.symm.trans hfn)).symm
      exact ⟨by kernel_rfl, fun j t ht => by
        rw [Tryd.params4] at ht
        have hm : t ∈ [4, 9, 9] := by simpa using Array.mem_of_getElem? ht
        have hall : ([4, 9, 9].all fun u => !Tryd.prog.wantsStandIn u) = true := by kernel_rfl
        exact (show Tryd.prog.wantsStandIn t = false by simpa using List.all_eq_true.1 hall t hm)⟩)
    (by kernel_rfl)
end Go.Proofs.Qxb6605545aDoor
