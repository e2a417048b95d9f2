/-
  THE WRAP of a told row that lists variables, the world's shape handed on (Derived/Stop/JoinedTold.lean's wrap with one hypothesis more); the witness; what the listed variables and fmt's told text give the walks.
-/
import Derived.Test.Qxb6606252aFmtEnv
import Derived.Stop.JoinedTold
import Derived.Stop.Texts
import Derived.Stop.FmtTextVerbs
import Derived.Stop.FmtTextKit
import Derived.Deep.DeepWitnessRef
import Derived.Lay
import Derived.LaidMore
import Derived.Lib.LaidU8T
import Derived.Lib.LaidRTabT
import Derived.Lib.LaidTab
import Derived.PinnedBridge
import Derived.Test.Qxb6606252aFmtRows
namespace Go.Proofs.Qxb6606252aFmt
open Go Go.RowKit Go.Extern.Stop Go.Stop Go.Extern Go.Shelf Go.Kit
section
variable {H : Type} {enc : TypeId × Value → H}

theorem told_shaped {a : Assume} {C : Checked} {os : Os} {f : FuncId} {fn : Func} {s : OpenSpec} {conds : List PathCond} {apart fresh handsOn again : Bool} {laid : List (String × DataW Unit)}
    (enter : C.prog.mayEnter = true) (own : ownKnob C.prog.godebug = none) (started : os.Started) (noInit : C.prog.inits.idxOf? f = none) (hfn : C.prog.funcs[f]? = some fn)
    (witness : ∀ F : Stop.Interp, ∃ (w : World) (tape : Tape) (i : Input), w.os = os ∧ (w.forCall tape i).Shaped C.prog ∧ i.vars = [] ∧ Input.okWide C.prog (w.forCall tape i) .any w.heap.size f i ∧
      s.preRow enc C.prog fn conds apart laid (w.forCall tape i).memory i.args ∧ a.holds C.prog (lone (Frame.enter C.prog f i.args .normal) [] (w.forCall tape i)) ∧ F.answers tape)
    (contract : ∀ (F : Stop.Interp) (W : World) (base : Nat) (args : Array Value) (ds gs : List (DataW H)) (before : List MemPlace),
      F.told.answers W.tape →
      (∀ (j : Nat) t v, fn.params[j]? = some t → args[j]? = some v → Value.okWide C.prog W .any base t v) →
      DataW.Whole enc C.prog fn.params.toList s.vars apart W args.toList ds gs before →
      laidMetH C.prog laid W → W.ShapedOpen C.prog →
      Calls C.prog f args W fun e W' => ∃ v, e = .returned v ∧ (s.at F.told).post enc C.prog fn apart fresh handsOn again W args v W') :
    ReturnsInTold none a C os f .any Input.okWide (s.preRow enc C.prog fn conds apart laid) (fun F => (s.at F).post enc C.prog fn apart fresh handsOn again) (aloneAtReturn C.prog) nothingAlways := by
  intro F
  show ReturnsInOpen a (some F.told) C os f .any Input.okWide _ _ (aloneAtReturn C.prog) nothingAlways
  refine returnsInOpen_of_calls_wide enter own started noInit (witness F.told) ?_
  intro w tape i _ hsh _ hok hpre _ hF
  obtain ⟨_, _, _, fn', hfn', _, _, _, _, hval⟩ := hok
  have e : fn' = fn := Option.some.inj (hfn'.symm.trans hfn)
  subst e
  obtain ⟨⟨hp, hl⟩, _⟩ := hpre
  obtain ⟨ds, gs, before, hw, _, _⟩ := OpenSpec.pre_parts hp
  have hw' := DataW.Whole.of_heap (w' := w.forCall tape i) (by rfl) hw
  refine (contract F (w.forCall tape i) w.heap.size i.args ds gs before hF hval hw' (hl.of_heap (by rfl)) hsh).mono fun e W' ⟨v, he, hp⟩ => ?_
  subst he
  exact ChangeSpec.post_blind hp

theorem witness_told {C : Checked} {os : Os} {f : FuncId} {fn : Func} {s : OpenSpec} {conds : List PathCond} {apart : Bool} {laid : List (String × DataW Unit)} (w0 : World) (args : Array Value) (hos : w0.os = os)
    (hsh : (w0.forCall (fun _ _ => 0) ⟨#[], args, []⟩).Shaped C.prog)
    (hok : Input.okWideB C.prog (w0.forCall (fun _ _ => 0) ⟨#[], args, []⟩) f ⟨#[], args, []⟩ = true)
    (hrow : s.preRow enc C.prog fn conds apart laid (w0.forCall (fun _ _ => 0) ⟨#[], args, []⟩).memory args) (F : Stop.Interp) :
    ∃ (w : World) (tape : Tape) (i : Input), w.os = os ∧ (w.forCall tape i).Shaped C.prog ∧ i.vars = [] ∧ Input.okWide C.prog (w.forCall tape i) .any w.heap.size f i ∧
      s.preRow enc C.prog fn conds apart laid (w.forCall tape i).memory i.args ∧ ({} : Assume).holds C.prog (lone (Frame.enter C.prog f i.args .normal) [] (w.forCall tape i)) ∧ F.answers tape :=
  ⟨w0, F.over fun _ _ => 0, ⟨#[], args, []⟩, hos, hsh, (Input.okWide_of_okWideB (base := 0) hok).1, (Input.okWide_of_okWideB hok).2, hrow, by
    simp only [Assume.holds]
    exact ⟨by simp, by simp, fun _ => F.over_modest Modest.zero, by simp, by simp⟩, F.over_answers _⟩
end

/-! ### fmt's told text of a rune is short -/
theorem digs_le : ∀ (fuel k u : Nat) (acc : List UInt8), 0 < k → u < 16 ^ k → (FmtText.digitsFrom 16 true fuel u acc).length ≤ acc.length + k
  | 0, k, u, acc, _, _ => by unfold FmtText.digitsFrom; omega
  | fuel + 1, k, u, acc, h0, h => by
    unfold FmtText.digitsFrom
    split
    · simp; omega
    · obtain ⟨j, rfl⟩ : ∃ j, k = j + 1 := ⟨k - 1, by omega⟩
      have hj : 0 < j := by
        rcases Nat.eq_zero_or_pos j with h' | h'
        · subst h'; simp at h; omega
        · exact h'
      have h' : u / 16 < 16 ^ j := by rw [Nat.div_lt_iff_lt_mul (by decide)]; rw [Nat.pow_succ] at h; exact h
      have := digs_le fuel j (u / 16) (FmtText.digit true (u % 16) :: acc) hj h'
      simp at this ⊢; omega
theorem parseU : (FmtText.parse [37, 85]).map FmtText.glue = some [.verb {} 85] := by rfl
theorem textU (r : Int) (h0 : -2147483648 ≤ r) (h1 : r ≤ 2147483647) : FmtText.text "fmt.Sprintf" (readU r) = some (FmtText.fmtUnicode {} (r % 18446744073709551616).toNat) := by
  have hw : (Lit.int .i32 r).wf = true := by simp [Lit.wf, IntKind.min, IntKind.max, IntKind.signed, IntKind.bits]; omega
  have e : (2 : Int) ^ 64 = 18446744073709551616 := by decide
  rw [readU, e, FmtText.text_sprintf_glued parseU (FmtText.operands_cons (FmtText.operand_int_at (sh := shape21) (k := .i32) rfl rfl r hw) FmtText.operands_nil)]
  simp [FmtText.render, FmtText.printArg, FmtText.scalarArg, FmtText.fits]
theorem unicode_le (u : Nat) (h : u < 18446744073709551616) : (FmtText.fmtUnicode {} u).length ≤ 22 := by
  have := digs_le 64 16 u [] (by decide) (by simpa using h)
  simp [FmtText.fmtUnicode, FmtText.pad, FmtText.numeral] at this ⊢
  omega
theorem shortU_told (F : Interp) : ShortU F.told := by
  intro r h0 h1
  have hl := unicode_le (r % 18446744073709551616).toNat (by omega)
  have := told_string F (textU r h0 h1) (by omega)
  rw [Lib.size_eq, textOf_list, this]
  omega

/-! ### What the listed variables hold -/
theorem d_accept : (Rows.laid_unicode_utf8_acceptRanges : DataW Unit) = Lib.acceptData := by kernel_rfl
theorem d_cf : (Rows.laid_unicode_Cf : DataW Unit) = Lib.rtabData cfT := by kernel_rfl
theorem d_white : (Rows.laid_unicode_White_Space : DataW Unit) = Lib.whiteData := by kernel_rfl
theorem d_props : (Rows.laid_unicode_properties : DataW Unit) = Lib.tabData .u8 Lib.propertiesTab := by kernel_rfl
theorem d_first : Rows.laid_unicode_utf8_first = Lib.firstData := Pinned.utf8First_eq

theorem tabIs_reads {P : Program} {W : World} {name : String} {k : IntKind} {zs : List Int} {g : Nat} {t e : TypeId} {n : Nat}
    (hg : P.globalNamed name = some g) (hty : (P.globals[g]?).map (·.type) = some t) (ht : P.underlying t = some (.array n e)) (he : P.underlying e = some (.int k)) (hce : P.cellsOf e = 1) (hct : P.cellsOf t = n)
    (h : Lib.VarReads P W name (Lib.tabData k zs)) : Lib.TabIs P W name k zs := by
  obtain ⟨g', t', cs, fuel, p, hg', ht', hvar, hd⟩ := h
  obtain rfl := Option.some.inj (hg.symm.trans hg')
  obtain rfl := Option.some.inj (hty.symm.trans ht')
  unfold Lib.TabIs
  rw [hvar, ← Lib.cells_of_tab ht he hce hct hd]

theorem env_of (F : Interp) {W : World} {l : List (String × DataW Unit)} (hF : F.told.answers W.tape) (hsh : W.ShapedOpen Tryf.prog) (hL : laidMet Tryf.prog l W)
    (m1 : ("unicode/utf8.acceptRanges", Rows.laid_unicode_utf8_acceptRanges) ∈ l) (m2 : ("unicode.Cf", Rows.laid_unicode_Cf) ∈ l) (m3 : ("unicode.White_Space", Rows.laid_unicode_White_Space) ∈ l)
    (m4 : ("unicode.properties", Rows.laid_unicode_properties) ∈ l) (m5 : ("unicode/utf8.first", Rows.laid_unicode_utf8_first) ∈ l) : Env F.told W where
  maxi := Tryf.laysM145.s1_3 W hsh
  ans := hF
  short := shortU_told F
  utf := utf8Tabs_of_readsT (ρ := Tryf.lays196_ren) (U8Types.of196 Tryf.lays196) ⟨by kernel_rfl, by kernel_rfl, by kernel_rfl, by kernel_rfl, by kernel_rfl, by kernel_rfl, by kernel_rfl⟩ (d_first ▸ Lib.laidMet.reads hL m5) (d_accept ▸ Lib.laidMet.reads hL m1)
  white := whiteTab_of_reads (ρ := Tryf.lays199_ren) Tryf.lays199 ⟨by kernel_rfl, by kernel_rfl, by kernel_rfl, by kernel_rfl, by kernel_rfl, by kernel_rfl, by kernel_rfl, by kernel_rfl⟩ (d_white ▸ Lib.laidMet.reads hL m3)
  cf := rvar_of_readsT (RTypes.ofGn14 Tryf.laysGn14) ⟨by kernel_rfl, by kernel_rfl, by kernel_rfl, by kernel_rfl, by kernel_rfl, by kernel_rfl, by kernel_rfl, by kernel_rfl⟩ (by kernel_rfl) (by kernel_rfl) (d_cf ▸ Lib.laidMet.reads hL m2)
  props := tabIs_reads (t := 67) (e := 5) (n := 256) props_named (by kernel_rfl) Tryf.underlying67 Tryf.underlying5 (by kernel_rfl) (by kernel_rfl) (d_props ▸ Lib.laidMet.reads hL m4)

/-- The program's own reader: formats are refused. -/
theorem strict_of {W : World} (h : Lib.VarReads Tryf.prog W "example.com/access-by-relation/access-by-relation/tuple.strict" Rows.laid_example_com_access_by_relation_access_by_relation_tuple_strict) : W.cell? ⟨0, 0, none⟩ = some (.bool false) := by
  obtain ⟨g, t, cs, fuel, p, hg, hty, hvar, hd⟩ := h
  obtain rfl := Option.some.inj ((show Tryf.prog.globalNamed "example.com/access-by-relation/access-by-relation/tuple.strict" = some 0 by kernel_rfl).symm.trans hg)
  obtain rfl := Option.some.inj ((show (Tryf.prog.globals[0]?).map (·.type) = some 44 by kernel_rfl).symm.trans hty)
  obtain ⟨xs, n, rfl, hxs, _, hxl, hall⟩ := DataW.trod_struct Tryf.underlying44 hd
  have hx1 : xs.map (·.1) = [.lit (.bool false)] := by
    have := congrArg Prod.fst hxs
    simpa [Rows.laid_example_com_access_by_relation_access_by_relation_tuple_strict] using this.symm
  obtain ⟨x0, rfl⟩ : ∃ x0, xs = [x0] := by
    match xs, hx1 with
    | [x0], _ => exact ⟨x0, rfl⟩
  have f0 := hall 0 _ rfl
  change DataW.trod _ _ _ _ _ _ _ 4 ((cs.toList.drop 0).take (Tryf.prog.cellsOf 4)) = some x0 at f0
  rw [show Tryf.prog.cellsOf 4 = 1 by kernel_rfl] at f0
  obtain ⟨b, hb, rfl⟩ := DataW.trod_bool Tryf.underlying4 f0
  simp at hx1
  subst hx1
  rw [World.var?_cell hg hvar 0, ← Array.getElem?_toList]
  have := congrArg (·[0]?) hb
  simpa [List.getElem?_take] using this
end Go.Proofs.Qxb6606252aFmt
