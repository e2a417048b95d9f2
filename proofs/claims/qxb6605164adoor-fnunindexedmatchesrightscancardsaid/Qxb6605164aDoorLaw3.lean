/-
  THE CARD OF FnUnindexedMatchesRightScan.
-/
import Derived.Test.Qxb6605164aDoorTie
import Derived.Test.Qxb6605164aDoorCards
import Derived.Test.Qxb6605164aDoorFrame
import Derived.Test.Qxb6605164aDoorA5
import Derived.ProofKit
import Derived.OpenShut
import Derived.LaidMore
import Derived.Lay
import Derived.SevenTiedAt
import Derived.Stop.Joined
namespace Go.Proofs.Qxb6605164aDoor
open Go.ChangeShapes Go.WideShapes Go.ChangeAt Go.RowKit
open Go.ChangeMaps (open_string shut_string)

theorem own3 : ownKnob Tryd.prog.godebug = none := by kernel_rfl

theorem bytes3 (s : ByteArray) (w : World) (hs : s.size ≤ maxLen) :
    Calls Tryd.prog 12 #[.string s] w fun e w' => e = .returned (.bool (decide (s.size ≤ 1048576))) ∧ w' = w := by
  unfold maxLen at hs
  by_cases h : s.size ≤ 1048576
  · rw [decide_eq_true h]
    go_enter Tryd.func12, Tryd.ntmps12
    go_wp2
    go_ret
    exact ⟨rfl, rfl⟩
  · rw [decide_eq_false h]
    go_enter Tryd.func12, Tryd.ntmps12
    go_wp2
    go_ret
    exact ⟨rfl, rfl⟩

theorem unidx_le (l : List UInt8) : (unidx l).length ≤ l.length := by
  unfold unidx
  split
  · exact (cut_le l).1
  · exact Nat.le_refl _

set_option maxHeartbeats 800000 in
theorem law3 (s : ByteArray) (w : World) (hsh : w.ShapedOpen Tryd.prog) (hs : s.size ≤ maxLen) :
    Calls Tryd.prog 5 #[.string s] w fun e w' => e = .returned (.bool true) ∧ Below w.heap.size w w' := by
  have hb := bytes3 s w hs
  unfold maxLen at hs
  have hm := HasMax.of_shaped hsh
  by_cases h : s.size ≤ 1048576
  · rw [decide_eq_true h] at hb
    have h1 := zzunidx_any s w hm h
    have h2 := fun w => right_any s w h
    have hlen : s.data.toList.length = s.size := by simp
    have h3 : ∀ w, HasMax w → Calls Tryd.prog 13 #[.string ⟨(unidx s.data.toList).toArray⟩] w fun e w' => e = .returned (.string ⟨(unidx s.data.toList).toArray⟩) ∧ Below w.heap.size w w' := fun w hm => by
      have := zzunidx_any ⟨(unidx s.data.toList).toArray⟩ w hm (by have := unidx_le s.data.toList; rw [Lib.size_eq]; simp; omega)
      rw [show (⟨(unidx s.data.toList).toArray⟩ : ByteArray).data.toList = unidx s.data.toList from rfl, unidx_fix] at this
      exact this
    clear hlen
    generalize (⟨(unidx s.data.toList).toArray⟩ : ByteArray) = r at h1 h2 h3
    go_enter Tryd.func5, Tryd.ntmps5
    go_wp2_with (go_at_call 12; refine hb.mono ?_; rintro e w' ⟨rfl, rfl⟩)
    refine h1.mono ?_
    rintro e w1 ⟨rfl, hb1⟩
    have hm1 := hm.below hb1
    clear h1
    go_wp2_with (go_at_call 14; refine (h2 _).mono ?_; rintro e w' ⟨rfl, rfl⟩)
    refine (h3 _ hm1).mono ?_
    rintro e w2 ⟨rfl, hb2⟩
    go_wp2
    go_ret
    exact ⟨rfl, hb1.trans (hb2.mono hb1.size)⟩
  · rw [decide_eq_false h] at hb
    go_enter Tryd.func5, Tryd.ntmps5
    go_wp2_with (go_at_call 12; refine hb.mono ?_; rintro e w' ⟨rfl, rfl⟩)
    go_ret
    exact ⟨rfl, Below.refl _ _⟩

set_option maxRecDepth 100000 in
theorem lifted3 (os : Os) (started : os.Started) (H : Type) (enc : TypeId × Value → H) :
    ReturnsInHanded {} Tryd.checked os 5 .any (fun w args => (Rows.fnUnindexedMatchesRightScanSpec.pre enc Tryd.prog Tryd.f5 Rows.fnUnindexedMatchesRightScanRow.domain false w args ∧ laidMetH Tryd.prog Rows.fnUnindexedMatchesRightScanRow.laid w) ∧ sizedMet enc Tryd.prog Tryd.f5 (OpenSpec.ofChange Rows.fnUnindexedMatchesRightScanSpec) false w args)
      (Rows.fnUnindexedMatchesRightScanSpec.post enc Tryd.prog Tryd.f5 false true false false) := by
  refine returns_listed_shaped (C := Tryd.checked) (X := fun w _ => laidMetH Tryd.prog Rows.fnUnindexedMatchesRightScanRow.laid w) (fun _ _ _ hh h => h.of_heap hh) own3 started (by kernel_rfl) Tryd.func5
    (ChangeSpec.witness_shaped (enc := enc) (C := Tryd.checked) (os := os) (X := fun w _ => laidMetH Tryd.prog Rows.fnUnindexedMatchesRightScanRow.laid w) false (World.laidAll Tryd.prog os Rows.fnUnindexedMatchesRightScanRow.laid) #[.string ⟨#[]⟩] 8 (World.laidAll_os _ _ _)
      (World.shaped_of_ZipB (by kernel_rfl) (by kernel_rfl)) (by kernel_rfl) (by kernel_rfl) (by kernel_rfl)
      (by rw [MakeChecks.laidMetH_plain _ _ _ (by kernel_rfl)]; exact laidMet_laidAll _ (by kernel_rfl) (by kernel_rfl))) ?_
  intro W base args ds gs before hval0 hW hL hsh
  have hval : ∀ (j : Nat) t v, Tryd.f5.params[j]? = some t → args[j]? = some v → Value.okWide Tryd.prog W .any base t v := hval0
  have hW' := hW
  obtain ⟨p, q, hA0, hV, rfl, _, _⟩ := hW
  have hA : DataW.TrodAll enc Tryd.prog W 0 (fun _ => true) true Tryd.f5.params.toList args.toList ds p := hA0
  rw [Tryd.params5] at hA hval
  obtain ⟨v0, d0, rfl, rfl, h0⟩ := trodAll_one hA
  obtain ⟨rfl, rfl⟩ := trodVars_none hV
  obtain ⟨s, rfl, rfl, rfl, hs⟩ := open_string Tryd.underlying9 (hval 0 9 v0 rfl rfl) h0
  simp only [List.append_nil] at hW'
  refine (law3 s W hsh hs).mono fun e W' ⟨he, hb⟩ => ?_
  subst he
  exact ⟨_, rfl, _, _, _, [], [], [], hW', trodAll_mk1 (shut_bool Tryd.underlying4 _), trodAll_mk1 (shut_string Tryd.underlying9 hs), rfl, hb.frame _, fun h => by cases h⟩

theorem holds3 : Rows.FnUnindexedMatchesRightScanSaid :=
  OpenClaim.holds_of_wide 5 Tryd.f5 rfl rfl rfl rfl rfl rfl rfl ⟨rfl, rfl, rfl, rfl, rfl⟩ rfl rfl rfl rfl rfl (by kernel_rfl) Tryd.func5 (by kernel_rfl)
    (of_decide_eq_true (by kernel_rfl)) (by unfold Func.isWrapper; first | (rw [if_pos (by decide +kernel)]; kernel_rfl) | (rw [if_neg (by decide +kernel)]; exact ⟨rfl, rfl⟩))
    (fun os started H enc _ => lifted3 os started H enc)

theorem card3 : Rows.FnUnindexedMatchesRightScanCardSaid :=
  Claim7.holds_tied_plain_at .later [] [.data, .pinned] true Rows.fnUnindexedMatchesRightScanCard.stood.harness false holds3 (fun _ h => by cases h) (by kernel_rfl) (fun _ h => by cases h) fnUnindexedMatchesRightScan_row_tie rfl ⟨rfl, rfl⟩ (by kernel_rfl) rfl
    (fun f fn hf hfn => by
      obtain rfl : f = 5 := Option.some.inj ((show Tryd.prog.funcNamed Rows.fnUnindexedMatchesRightScanRow.func = some 5 by kernel_rfl).symm.trans hf) |>.symm
      obtain rfl : fn = Tryd.f5 := (Option.some.inj (Tryd.func5.symm.trans hfn)).symm
      exact ⟨by kernel_rfl, fun j t ht => by
        rw [Tryd.params5] at ht
        have hm : t ∈ [9] := by simpa using Array.mem_of_getElem? ht
        have hall : ([9].all fun u => !Tryd.prog.wantsStandIn u) = true := by kernel_rfl
        exact (show Tryd.prog.wantsStandIn t = false by simpa using List.all_eq_true.1 hall t hm)⟩)
    (by kernel_rfl)
end Go.Proofs.Qxb6605164aDoor
