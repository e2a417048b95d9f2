/-
  THE TOLD AND TIED CARD OF FnObjectStringParsesBack.
-/
import Derived.Test.Qxb6606252aFmtTie
import Derived.Test.Qxb6606252aFmtCards
import Derived.Test.Qxb6606252aFmtFrame
import Derived.Test.Qxb6606252aFmtLaw3
import Derived.ProofKit
import Derived.OpenShut
import Derived.OpenVars
import Derived.ChangeVars
import Derived.SevenTiedAt
namespace Go.Proofs.Qxb6606252aFmt
open Go.ChangeShapes Go.WideShapes Go.ChangeAt Go.RowKit Go.Kit
open Go.ChangeMaps (open_string shut_string)
open Go.Extern.Stop Go.Stop Go.Extern

theorem own : ownKnob Tryf.prog.godebug = none := by kernel_rfl
theorem laidOut : laidOutB Tryf.prog = true := by kernel_rfl
theorem stops : Tryf.pinned.checked.prog.stops = ["fmt.errorf", "fmt.Sprintf"] := by kernel_rfl
theorem stopKnobs : Tryf.pinned.checked.prog.stopKnobs = [] := by kernel_rfl
theorem quiet (os : Os) : Stop.quiet Tryf.pinned.checked.prog os := by
  intro k hk
  rw [stopKnobs] at hk
  cases hk

set_option maxRecDepth 100000 in
theorem pre3 (os : Os) {H : Type} (enc : TypeId × Value → H) :
    (OpenSpec.ofChange Rows.fnObjectStringParsesBackSpec).preRow enc Tryf.prog Tryf.f3 Rows.fnObjectStringParsesBackRow.domain false Rows.fnObjectStringParsesBackRow.laid
      ((World.laidAll Tryf.prog os Rows.fnObjectStringParsesBackRow.laid).forCall (fun _ _ => 0) ⟨#[], #[.string ⟨#[]⟩, .string ⟨#[]⟩], []⟩).memory #[.string ⟨#[]⟩, .string ⟨#[]⟩] := by
  have hw : (DataW.whole enc Tryf.prog ((World.laidAll Tryf.prog os Rows.fnObjectStringParsesBackRow.laid).forCall (fun _ _ => 0) ⟨#[], #[.string ⟨#[]⟩, .string ⟨#[]⟩], []⟩).memory Tryf.f3.params.toList (OpenSpec.ofChange Rows.fnObjectStringParsesBackSpec).vars false #[Value.string ⟨#[]⟩, .string ⟨#[]⟩].toList 8).map (fun x => (x.1, x.2.1)) =
      some ([.lit (.string []), .lit (.string [])], [.agg [.lit (.bool false)]]) := by kernel_rfl
  obtain ⟨⟨x1, x2, x3⟩, hx, hx1⟩ := Option.map_eq_some_iff.1 hw
  simp only [Prod.mk.injEq] at hx1
  obtain ⟨rfl, rfl⟩ := hx1
  exact OpenSpec.preRow_of_cond 8 hx (by kernel_rfl) (fun k hk => by cases hk) (by kernel_rfl) (laidMet_laidAll _ (by kernel_rfl) (by kernel_rfl))

set_option maxRecDepth 100000 in
set_option maxHeartbeats 1600000 in
theorem lifted3 (os : Os) (started : os.Started) (H : Type) (enc : TypeId × Value → H) :
    ReturnsInTold none {} Tryf.checked os 3 .any Input.okWide ((OpenSpec.ofChange Rows.fnObjectStringParsesBackSpec).preRow enc Tryf.prog Tryf.f3 Rows.fnObjectStringParsesBackRow.domain false Rows.fnObjectStringParsesBackRow.laid)
      (fun F => ((OpenSpec.ofChange Rows.fnObjectStringParsesBackSpec).at F).post enc Tryf.prog Tryf.f3 false true false false) (aloneAtReturn Tryf.prog) nothingAlways := by
  refine told_shaped (C := Tryf.checked) (s := OpenSpec.ofChange Rows.fnObjectStringParsesBackSpec) (by kernel_rfl) own started (by kernel_rfl) Tryf.func3
    (witness_told (enc := enc) (C := Tryf.checked) (World.laidAll Tryf.prog os Rows.fnObjectStringParsesBackRow.laid) #[.string ⟨#[]⟩, .string ⟨#[]⟩] (World.laidAll_os _ _ _)
      (World.shaped_of_ZipB (by kernel_rfl) (by kernel_rfl)) (by kernel_rfl) (pre3 os enc)) ?_
  intro F W base args ds gs before hF hval0 hW hL hsh
  have hL' : laidMet Tryf.prog Rows.fnObjectStringParsesBackRow.laid W := by
    rw [← MakeChecks.laidMetH_plain _ _ _ (by kernel_rfl)]; exact hL
  have hE := env_of F (l := Rows.fnObjectStringParsesBackRow.laid) hF hsh hL' (by simp [Rows.fnObjectStringParsesBackRow]) (by simp [Rows.fnObjectStringParsesBackRow]) (by simp [Rows.fnObjectStringParsesBackRow]) (by simp [Rows.fnObjectStringParsesBackRow]) (by simp [Rows.fnObjectStringParsesBackRow])
  have hg := strict_of (Lib.laidMet.reads hL' (by simp [Rows.fnObjectStringParsesBackRow]))
  have hval : ∀ (j : Nat) t v, Tryf.f3.params[j]? = some t → args[j]? = some v → Value.okWide Tryf.prog W .any base t v := hval0
  have hW' := hW
  obtain ⟨p, q, hA0, hV, rfl, _, _⟩ := hW
  have hA : DataW.TrodAll enc Tryf.prog W 0 (fun _ => true) true Tryf.f3.params.toList args.toList ds p := hA0
  rw [Tryf.params3] at hA hval
  obtain ⟨v0, v1, d0, d1, p0, p1, rfl, rfl, rfl, h0, h1⟩ := trodAll_two hA
  obtain ⟨s0, rfl, rfl, rfl, w0⟩ := open_string Tryf.underlying9 (hval 0 9 v0 rfl rfl) h0
  obtain ⟨s1, rfl, rfl, rfl, w1⟩ := open_string Tryf.underlying9 (hval 1 9 v1 rfl rfl) h1
  have hV' : DataW.TrodVars enc Tryf.prog W (fun _ => true) Rows.fnObjectStringParsesBackSpec.vars gs q := hV
  obtain ⟨_, _, _, _, g1, _, rfl, _, _, _, _, _⟩ := trodVars_one hV'
  refine (law3 F.told s0 s1 W hE hg w0 w1).mono fun e W' ⟨he, hb⟩ => ?_
  subst he
  exact ⟨_, rfl, _, _, _, [], [], q, hW', trodAll_mk1 (shut_bool Tryf.underlying4 _), trodAll_mk2 (shut_string Tryf.underlying9 w0) (shut_string Tryf.underlying9 w1), Below.trodVars laidOut hb (by kernel_rfl) hV', hb.frame _, fun h => by cases h⟩

theorem card3 : Rows.FnObjectStringParsesBackToldSaid :=
  Claim7.holds_of_told_tied_any_at .later 3 Tryf.f3 "fmt.errorf" ["fmt.Sprintf"] [] _ _ _ _ _ (by kernel_rfl) rfl rfl rfl laidOut (by kernel_rfl) rfl ⟨rfl, rfl, rfl, rfl, rfl, rfl, rfl⟩ rfl rfl (by kernel_rfl) (by kernel_rfl) Tryf.func3 (by kernel_rfl)
    (of_decide_eq_true (by kernel_rfl)) (of_decide_eq_true (by kernel_rfl)) stops.symm rfl stopKnobs.symm (by kernel_rfl)
    (by kernel_rfl) (by kernel_rfl) (by kernel_rfl) (by kernel_rfl) (by kernel_rfl) (by kernel_rfl) (by kernel_rfl) (by kernel_rfl) (by kernel_rfl) rfl (by kernel_rfl) rfl rfl
    rfl rfl
    rfl (by kernel_rfl) (by kernel_rfl) (by kernel_rfl) (by decide) (by kernel_rfl) fnObjectStringParsesBack_row_tie
    (OpenClaim.moreEntering_of (by kernel_rfl) (by kernel_rfl) (by kernel_rfl) (by kernel_rfl) (by kernel_rfl) (by kernel_rfl) (by kernel_rfl) (by kernel_rfl) (by kernel_rfl) (by kernel_rfl))
    ⟨_, WideRow.started_initial, quiet _⟩
    (fun os started _ H enc _ => lifted3 os started H enc)
end Go.Proofs.Qxb6606252aFmt
