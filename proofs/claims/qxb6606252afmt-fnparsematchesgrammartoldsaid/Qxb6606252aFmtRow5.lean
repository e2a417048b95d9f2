/-
  THE TOLD AND TIED CARD OF FnParseMatchesGrammar, given that zzNameOK lets by just what checkPart lets by.
-/
import Derived.Test.Qxb6606252aFmtTie
import Derived.Test.Qxb6606252aFmtCards
import Derived.Test.Qxb6606252aFmtFrame
import Derived.Test.Qxb6606252aFmtLaw5
import Derived.ProofKit
import Derived.OpenShut
import Derived.Carry
import Derived.SevenTiedAt
namespace Go.Proofs.Qxb6606252aFmt
open Go.ChangeShapes Go.WideShapes Go.ChangeAt Go.RowKit Go.Kit
open Go.ChangeMaps (open_string shut_string)
open Go.Extern.Stop Go.Stop Go.Extern

theorem own5 : ownKnob Tryf.prog.godebug = none := by kernel_rfl
theorem laidOut5 : laidOutB Tryf.prog = true := by kernel_rfl
theorem stops5 : Tryf.pinned.checked.prog.stops = ["fmt.errorf", "fmt.Sprintf"] := by kernel_rfl
theorem stopKnobs5 : Tryf.pinned.checked.prog.stopKnobs = [] := by kernel_rfl
theorem quiet5 (os : Os) : Stop.quiet Tryf.pinned.checked.prog os := by
  intro k hk
  rw [stopKnobs5] at hk
  cases hk

set_option maxRecDepth 100000 in
theorem pre5 (os : Os) {H : Type} (enc : TypeId × Value → H) :
    (OpenSpec.ofChange Rows.fnParseMatchesGrammarSpec).preRow enc Tryf.prog Tryf.f5 Rows.fnParseMatchesGrammarRow.domain false Rows.fnParseMatchesGrammarRow.laid
      ((World.laidAll Tryf.prog os Rows.fnParseMatchesGrammarRow.laid).forCall (fun _ _ => 0) ⟨#[], #[.bool false, .string ⟨#[]⟩, .string ⟨#[]⟩, .string ⟨#[]⟩], []⟩).memory #[.bool false, .string ⟨#[]⟩, .string ⟨#[]⟩, .string ⟨#[]⟩] := by
  have hw : (DataW.whole enc Tryf.prog ((World.laidAll Tryf.prog os Rows.fnParseMatchesGrammarRow.laid).forCall (fun _ _ => 0) ⟨#[], #[.bool false, .string ⟨#[]⟩, .string ⟨#[]⟩, .string ⟨#[]⟩], []⟩).memory Tryf.f5.params.toList (OpenSpec.ofChange Rows.fnParseMatchesGrammarSpec).vars false #[Value.bool false, .string ⟨#[]⟩, .string ⟨#[]⟩, .string ⟨#[]⟩].toList 8).map (fun x => (x.1, x.2.1)) =
      some ([.lit (.bool false), .lit (.string []), .lit (.string []), .lit (.string [])], []) := by kernel_rfl
  obtain ⟨⟨x1, x2, x3⟩, hx, hx1⟩ := Option.map_eq_some_iff.1 hw
  simp only [Prod.mk.injEq] at hx1
  obtain ⟨rfl, rfl⟩ := hx1
  exact OpenSpec.preRow_of_cond 8 hx (by kernel_rfl) (fun k hk => by cases hk) (by kernel_rfl) (laidMet_laidAll _ (by kernel_rfl) (by kernel_rfl))

set_option maxRecDepth 100000 in
set_option maxHeartbeats 1600000 in
theorem lifted5 (hN : ∀ fm, NameOK fm) (os : Os) (started : os.Started) (H : Type) (enc : TypeId × Value → H) :
    ReturnsInTold none {} Tryf.checked os 5 .any Input.okWide ((OpenSpec.ofChange Rows.fnParseMatchesGrammarSpec).preRow enc Tryf.prog Tryf.f5 Rows.fnParseMatchesGrammarRow.domain false Rows.fnParseMatchesGrammarRow.laid)
      (fun F => ((OpenSpec.ofChange Rows.fnParseMatchesGrammarSpec).at F).post enc Tryf.prog Tryf.f5 false true false false) (aloneAtReturn Tryf.prog) nothingAlways := by
  refine told_shaped (C := Tryf.checked) (s := OpenSpec.ofChange Rows.fnParseMatchesGrammarSpec) (by kernel_rfl) own5 started (by kernel_rfl) Tryf.func5
    (witness_told (enc := enc) (C := Tryf.checked) (World.laidAll Tryf.prog os Rows.fnParseMatchesGrammarRow.laid) #[.bool false, .string ⟨#[]⟩, .string ⟨#[]⟩, .string ⟨#[]⟩] (World.laidAll_os _ _ _)
      (World.shaped_of_ZipB (by kernel_rfl) (by kernel_rfl)) (by kernel_rfl) (pre5 os enc)) ?_
  intro F W base args ds gs before hF hval0 hW hL hsh
  have hL' : laidMet Tryf.prog Rows.fnParseMatchesGrammarRow.laid W := by
    rw [← MakeChecks.laidMetH_plain _ _ _ (by kernel_rfl)]; exact hL
  have hE := env_of F (l := Rows.fnParseMatchesGrammarRow.laid) hF hsh hL' (by simp [Rows.fnParseMatchesGrammarRow]) (by simp [Rows.fnParseMatchesGrammarRow]) (by simp [Rows.fnParseMatchesGrammarRow]) (by simp [Rows.fnParseMatchesGrammarRow]) (by simp [Rows.fnParseMatchesGrammarRow])
  have hval : ∀ (j : Nat) t v, Tryf.f5.params[j]? = some t → args[j]? = some v → Value.okWide Tryf.prog W .any base t v := hval0
  have hW' := hW
  obtain ⟨p, q, hA0, hV, rfl, _, _⟩ := hW
  have hA : DataW.TrodAll enc Tryf.prog W 0 (fun _ => true) true Tryf.f5.params.toList args.toList ds p := hA0
  rw [Tryf.params5] at hA hval
  obtain ⟨v0, v1, v2, v3, d0, d1, d2, d3, p0, p1, p2, p3, rfl, rfl, rfl, h0, h1, h2, h3⟩ := trodAll_four hA
  obtain ⟨b0, rfl, rfl, rfl⟩ := open_bool Tryf.underlying4 (hval 0 4 v0 rfl rfl) h0
  obtain ⟨s1, rfl, rfl, rfl, w1⟩ := open_string Tryf.underlying9 (hval 1 9 v1 rfl rfl) h1
  obtain ⟨s2, rfl, rfl, rfl, w2⟩ := open_string Tryf.underlying9 (hval 2 9 v2 rfl rfl) h2
  obtain ⟨s3, rfl, rfl, rfl, w3⟩ := open_string Tryf.underlying9 (hval 3 9 v3 rfl rfl) h3
  obtain ⟨rfl, rfl⟩ := trodVars_none hV
  refine (law5 F.told b0 s1 s2 s3 W hE (hN b0) w1 w2 w3).mono fun e W' ⟨he, hb⟩ => ?_
  subst he
  exact ⟨_, rfl, _, _, _, [], [], [], hW', trodAll_mk1 (shut_bool Tryf.underlying4 _), trodAll_mk4 (shut_bool Tryf.underlying4 _) (shut_string Tryf.underlying9 w1) (shut_string Tryf.underlying9 w2) (shut_string Tryf.underlying9 w3), rfl, hb.frame _, fun h => by cases h⟩

theorem card5_of (hN : ∀ fm, NameOK fm) : Rows.FnParseMatchesGrammarToldSaid :=
  Claim7.holds_of_told_tied_any_at .later 5 Tryf.f5 "fmt.errorf" ["fmt.Sprintf"] [] _ _ _ _ _ (by kernel_rfl) rfl rfl rfl laidOut5 (by kernel_rfl) rfl ⟨rfl, rfl, rfl, rfl, rfl, rfl, rfl⟩ rfl rfl (by kernel_rfl) (by kernel_rfl) Tryf.func5 (by kernel_rfl)
    (of_decide_eq_true (by kernel_rfl)) (of_decide_eq_true (by kernel_rfl)) stops5.symm rfl stopKnobs5.symm (by kernel_rfl)
    (by kernel_rfl) (by kernel_rfl) (by kernel_rfl) (by kernel_rfl) (by kernel_rfl) (by kernel_rfl) (by kernel_rfl) (by kernel_rfl) (by kernel_rfl) rfl (by kernel_rfl) rfl rfl
    rfl rfl
    rfl (by kernel_rfl) (by kernel_rfl) (by kernel_rfl) (by decide) (by kernel_rfl) fnParseMatchesGrammar_row_tie
    (OpenClaim.moreEntering_of (by kernel_rfl) (by kernel_rfl) (by kernel_rfl) (by kernel_rfl) (by kernel_rfl) (by kernel_rfl) (by kernel_rfl) (by kernel_rfl) (by kernel_rfl) (by kernel_rfl))
    ⟨_, WideRow.started_initial, quiet5 _⟩
    (fun os started _ H enc _ => lifted5 hN os started H enc)
end Go.Proofs.Qxb6606252aFmt
