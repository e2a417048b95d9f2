/-
  THE CARD OF FnParseDecimalMatchesScanner.
-/
import Derived.Test.Qxb6605545aDoorTie
import Derived.Test.Qxb6605545aDoorCards
import Derived.Test.Qxb6605545aDoorFrame
import Derived.Test.Qxb6605545aDoorA4
import Derived.ProofKit
import Derived.OpenShut
import Derived.LaidMore
import Derived.Lay
import Derived.SevenTiedAt
import Derived.Stop.Joined
namespace Go.Proofs.Qxb6605545aDoor
open Go.ChangeShapes Go.WideShapes Go.ChangeAt Go.RowKit
open Go.ChangeMaps (open_string shut_string)

theorem own : ownKnob Tryd.prog.godebug = none := by kernel_rfl

theorem bytes1 (s : ByteArray) (w : World) (hs : s.size ≤ maxLen) :
    Calls Tryd.prog 7 #[.string s] w fun e w' => e = .returned (.bool (decide (s.size ≤ 1048576))) ∧ w' = w := by
  unfold maxLen at hs
  by_cases h : s.size ≤ 1048576
  · rw [decide_eq_true h]
    go_enter Tryd.func7, Tryd.ntmps7
    go_wp2
    go_ret
    exact ⟨rfl, rfl⟩
  · rw [decide_eq_false h]
    go_enter Tryd.func7, Tryd.ntmps7
    go_wp2
    go_ret
    exact ⟨rfl, rfl⟩

set_option maxHeartbeats 800000 in
theorem law1 (s : ByteArray) (w : World) (hsh : w.ShapedOpen Tryd.prog) (hs : s.size ≤ maxLen) :
    Calls Tryd.prog 3 #[.string s] w fun e w' => e = .returned (.bool true) ∧ Below w.heap.size w w' := by
  have hb := bytes1 s w hs
  unfold maxLen at hs
  by_cases h : s.size ≤ 1048576
  · rw [decide_eq_true h] at hb
    have h1 := zzparse_any s w (HasMax.of_shaped hsh) (by omega)
    have h2 := fun w => scan_any s w h
    have hbad : (parseL s.data.toList).1 = false → parseL s.data.toList = (false, false, [], []) := by
      unfold parseL parseD ansOf
      split
      · exact fun _ => rfl
      · intro h; cases h
    generalize parseL s.data.toList = x at h1 h2 hbad
    obtain ⟨ok, neg, c1, c2⟩ := x
    unfold fourOf at h1
    unfold scanOf at h2
    simp only at h1 h2
    cases ok
    · have e := hbad rfl
      simp only [Prod.mk.injEq, true_and] at e
      obtain ⟨rfl, rfl, rfl⟩ := e
      clear hbad
      go_enter Tryd.func3, Tryd.ntmps3
      go_wp2_with (first | (go_at_call 7; refine hb.mono ?_; rintro e w' ⟨rfl, rfl⟩) | (go_at_call 8; refine h1.mono ?_; rintro e w1 ⟨rfl, hb1⟩) | (go_at_call 9; refine (h2 _).mono ?_; rintro e w' ⟨rfl, rfl⟩))
      go_ret
      exact ⟨rfl, hb1⟩
    · clear hbad
      generalize (⟨c1.toArray⟩ : ByteArray) = C1 at h1 h2
      generalize (⟨c2.toArray⟩ : ByteArray) = C2 at h1 h2
      go_enter Tryd.func3, Tryd.ntmps3
      go_wp2_with (first | (go_at_call 7; refine hb.mono ?_; rintro e w' ⟨rfl, rfl⟩) | (go_at_call 8; refine h1.mono ?_; rintro e w1 ⟨rfl, hb1⟩) | (go_at_call 9; refine (h2 _).mono ?_; rintro e w' ⟨rfl, rfl⟩))
      go_ret
      exact ⟨rfl, hb1⟩
  · rw [decide_eq_false h] at hb
    go_enter Tryd.func3, Tryd.ntmps3
    go_wp2_with (go_at_call 7; refine hb.mono ?_; rintro e w' ⟨rfl, rfl⟩)
    go_ret
    exact ⟨rfl, Below.refl _ _⟩

set_option maxRecDepth 100000 in
theorem lifted1 (os : Os) (started : os.Started) (H : Type) (enc : TypeId × Value → H) :
    ReturnsInHanded {} Tryd.checked os 3 .any (fun w args => (Rows.fnParseDecimalMatchesScannerSpec.pre enc Tryd.prog Tryd.f3 Rows.fnParseDecimalMatchesScannerRow.domain false w args ∧ laidMetH Tryd.prog Rows.fnParseDecimalMatchesScannerRow.laid w) ∧ sizedMet enc Tryd.prog Tryd.f3 (OpenSpec.ofChange Rows.fnParseDecimalMatchesScannerSpec) false w args)
      (Rows.fnParseDecimalMatchesScannerSpec.post enc Tryd.prog Tryd.f3 false true false false) := by
  refine returns_listed_shaped (C := Tryd.checked) (X := fun w _ => laidMetH Tryd.prog Rows.fnParseDecimalMatchesScannerRow.laid w) (fun _ _ _ hh h => h.of_heap hh) own started (by kernel_rfl) Tryd.func3
    (ChangeSpec.witness_shaped (enc := enc) (C := Tryd.checked) (os := os) (X := fun w _ => laidMetH Tryd.prog Rows.fnParseDecimalMatchesScannerRow.laid w) false (World.laidAll Tryd.prog os Rows.fnParseDecimalMatchesScannerRow.laid) #[.string ⟨#[]⟩] 8 (World.laidAll_os _ _ _)
      (World.shaped_of_ZipB (by kernel_rfl) (by kernel_rfl)) (by kernel_rfl) (by kernel_rfl) (by kernel_rfl)
      (by rw [MakeChecks.laidMetH_plain _ _ _ (by kernel_rfl)]; exact laidMet_laidAll _ (by kernel_rfl) (by kernel_rfl))) ?_
  intro W base args ds gs before hval0 hW hL hsh
  have hval : ∀ (j : Nat) t v, Tryd.f3.params[j]? = some t → args[j]? = some v → Value.okWide Tryd.prog W .any base t v := hval0
  have hW' := hW
  obtain ⟨p, q, hA0, hV, rfl, _, _⟩ := hW
  have hA : DataW.TrodAll enc Tryd.prog W 0 (fun _ => true) true Tryd.f3.params.toList args.toList ds p := hA0
  rw [Tryd.params3] at hA hval
  obtain ⟨v0, d0, rfl, rfl, h0⟩ := trodAll_one hA
  obtain ⟨rfl, rfl⟩ := trodVars_none hV
  obtain ⟨s, rfl, rfl, rfl, hs⟩ := open_string Tryd.underlying9 (hval 0 9 v0 rfl rfl) h0
  simp only [List.append_nil] at hW'
  refine (law1 s W hsh hs).mono fun e W' ⟨he, hb⟩ => ?_
  subst he
  exact ⟨_, rfl, _, _, _, [], [], [], hW', trodAll_mk1 (shut_bool Tryd.underlying4 _), trodAll_mk1 (shut_string Tryd.underlying9 hs), rfl, hb.frame _, fun h => by cases h⟩

theorem holds1 : Rows.FnParseDecimalMatchesScannerSaid :=
  OpenClaim.holds_of_wide 3 Tryd.f3 rfl rfl rfl rfl rfl rfl rfl ⟨rfl, rfl, rfl, rfl, rfl⟩ rfl rfl rfl rfl rfl (by kernel_rfl) Tryd.func3 (by kernel_rfl)
    (of_decide_eq_true (by kernel_rfl)) (by unfold Func.isWrapper; first | (rw [if_pos (by decide +kernel)]; kernel_rfl) | (rw [if_neg (by decide +kernel)]; exact ⟨rfl, rfl⟩))
    (fun os started H enc _ => lifted1 os started H enc)

theorem card1 : Rows.FnParseDecimalMatchesScannerCardSaid :=
  Claim7.holds_tied_plain_at .later [] [.data, .pinned] true Rows.fnParseDecimalMatchesScannerCard.stood.harness false holds1 (fun _ h => by cases h) (by kernel_rfl) (fun _ h => by cases h) fnParseDecimalMatchesScanner_row_tie rfl ⟨rfl, rfl⟩ (by kernel_rfl) rfl
    (fun f fn hf hfn => by
      obtain rfl : f = 3 := Option.some.inj ((show Tryd.prog.funcNamed Rows.fnParseDecimalMatchesScannerRow.func = some 3 by kernel_rfl).symm.trans hf) |>.symm
      obtain rfl : fn = Tryd.f3 := (Option.some.inj (Tryd.func3.symm.trans hfn)).symm
      exact ⟨by kernel_rfl, fun j t ht => by
        rw [Tryd.params3] at ht
        have hm : t ∈ [9] := by simpa using Array.mem_of_getElem? ht
        have hall : ([9].all fun u => !Tryd.prog.wantsStandIn u) = true := by kernel_rfl
        exact (show Tryd.prog.wantsStandIn t = false by simpa using List.all_eq_true.1 hall t hm)⟩)
    (by kernel_rfl)
end Go.Proofs.Qxb6605545aDoor
