/-
  THE WALK of the law's own scanner.
-/
import Derived.Test.Qxb6605545aDoorA3
import Derived.Deep.DeepCutAuto
import Derived.Deep.CutBlock
namespace Go.Proofs.Qxb6605545aDoor
open Go.RowKit

/-- The answer as the scanner's four results. -/
def scanOf (x : Bool × Bool × List UInt8 × List UInt8) : Value := .tuple #[.bool x.1, .bool x.2.1, .string ⟨x.2.2.1.toArray⟩, .string ⟨x.2.2.2.toArray⟩]

theorem sign_at (s : ByteArray) (hp : 0 < s.size) : signLen s.data.toList = (if s[0].toNat = 45 ∨ s[0].toNat = 43 then 1 else 0) ∧ signNeg s.data.toList = decide (s[0].toNat = 45) := by
  have e45 : (s[0] == 45) = decide (s[0].toNat = 45) := by
    rw [Bool.eq_iff_iff, beq_iff_eq, decide_eq_true_eq]; exact ⟨fun h => by rw [h]; rfl, fun h => eq_of_toNat h⟩
  have e43 : (s[0] == 43) = decide (s[0].toNat = 43) := by
    rw [Bool.eq_iff_iff, beq_iff_eq, decide_eq_true_eq]; exact ⟨fun h => by rw [h]; rfl, fun h => eq_of_toNat h⟩
  rw [head_of s hp]
  simp only [signLen, signNeg, e45, e43, Bool.or_eq_true, decide_eq_true_eq, true_and]

/-- A byte behind the first run of digits that is neither a digit nor a dot. -/
theorem scan_bad1 (s : ByteArray) (neg : Bool) (sg k : Nat) (h0 : sg ≤ k) (hlt : k < s.size) (hA : ∀ m c, sg ≤ m → m < k → s.data.toList[m]? = some c → digB c = true) (hE : ∀ c, s.data.toList[k]? = some c → digB c = false) (hn : s.data.toList[k]? ≠ some 46) :
    parseD neg (s.data.toList.drop sg) = (false, false, [], []) := by
  refine parseD_bad neg _ (k - sg) s[k] (fun m b hm hb => ?_) ?_ (hE _ (at_get s k hlt)) (fun e => hn (by rw [at_get s k hlt, e]))
  · rw [List.getElem?_drop] at hb
    exact hA (sg + m) b (by omega) (by omega) hb
  · rw [List.getElem?_drop, show sg + (k - sg) = k by omega]; exact at_get s k hlt
/-- A byte behind the dot's run of digits that is none. -/
theorem scan_bad2 (s : ByteArray) (neg : Bool) (sg k j : Nat) (h0 : sg ≤ k) (hkj : k < j) (hlt : j < s.size) (hA : ∀ m c, sg ≤ m → m < k → s.data.toList[m]? = some c → digB c = true) (hy : s.data.toList[k]? = some 46) (hE : digB s[j] = false) :
    parseD neg (s.data.toList.drop sg) = (false, false, [], []) := by
  refine parseD_bad2 neg _ (k - sg) (j - sg) s[j] (fun m b hm hb => ?_) ?_ (by omega) ?_ hE
  · rw [List.getElem?_drop] at hb
    exact hA (sg + m) b (by omega) (by omega) hb
  · rw [List.getElem?_drop, show sg + (k - sg) = k by omega]; exact hy
  · rw [List.getElem?_drop, show sg + (j - sg) = j by omega]; exact at_get s j hlt
/-- Read to the end: the two runs. -/
theorem scan_good (s : ByteArray) (neg : Bool) (sg k fs : Nat) (h0 : sg ≤ k) (hA : ∀ m c, sg ≤ m → m < k → s.data.toList[m]? = some c → digB c = true)
    (hF : ∀ m c, fs ≤ m → s.data.toList[m]? = some c → digB c = true) (hc : (fs = k ∧ k = s.size) ∨ (fs = k + 1 ∧ s.data.toList[k]? = some 46)) :
    parseD neg (s.data.toList.drop sg) = ansOf neg ((s.data.toList.drop sg).take (k - sg)) (s.data.toList.drop fs) ∧ ((s.data.toList.drop sg).take (k - sg)).all digB = true ∧ (s.data.toList.drop fs).all digB = true := by
  have hw : ((s.data.toList.drop sg).take (k - sg)).all digB = true := by
    rw [List.all_eq_true]
    intro x hx
    obtain ⟨m, hm⟩ := List.mem_iff_getElem?.1 hx
    by_cases hmk : m < k - sg
    · rw [List.getElem?_take_of_lt hmk, List.getElem?_drop] at hm
      exact hA (sg + m) x (by omega) (by omega) hm
    · rw [List.getElem?_eq_none (by rw [List.length_take]; omega)] at hm
      cases hm
  have hf : (s.data.toList.drop fs).all digB = true := by
    rw [List.all_eq_true]
    intro x hx
    obtain ⟨m, hm⟩ := List.mem_iff_getElem?.1 hx
    rw [List.getElem?_drop] at hm
    exact hF (fs + m) x (by omega) hm
  refine ⟨?_, hw, hf⟩
  rcases hc with ⟨rfl, hk⟩ | ⟨rfl, hk⟩
  · have hd : s.data.toList.drop fs = [] := List.drop_eq_nil_of_le (by rw [← Lib.size_eq]; omega)
    have e : (s.data.toList.drop sg).take (fs - sg) = s.data.toList.drop sg := List.take_of_length_le (by rw [List.length_drop, ← Lib.size_eq]; omega)
    rw [e] at hw
    rw [e, hd]
    exact parseD_whole neg _ hw
  · have hlt : k < s.data.toList.length := (List.getElem?_eq_some_iff.1 hk).1
    have e : s.data.toList.drop sg = (s.data.toList.drop sg).take (k - sg) ++ 46 :: s.data.toList.drop (k + 1) := by
      have e1 : s.data.toList.drop k = 46 :: s.data.toList.drop (k + 1) := by
        rw [List.drop_eq_getElem_cons hlt]
        congr 1
        exact (List.getElem?_eq_some_iff.1 hk).2
      rw [← e1]
      have e2 : s.data.toList.drop k = (s.data.toList.drop sg).drop (k - sg) := by rw [List.drop_drop]; congr 1; omega
      rw [e2, List.take_append_drop]
    have h := parseD_dot neg _ (s.data.toList.drop (k + 1)) hw
    rw [← e] at h
    exact h

/-- The zeros that lead the first run, cut off. -/
theorem scan_left (s : ByteArray) (sg k a : Nat) (h1 : sg ≤ a) (h2 : a ≤ k) (hk : k ≤ s.size) (hz : ∀ m c, sg ≤ m → m < a → s.data.toList[m]? = some c → c = 48) (he : a < k → ∀ c, s.data.toList[a]? = some c → c ≠ 48) :
    Lib.trimLeftB ((s.data.toList.drop sg).take (k - sg)) 48 = (s.data.toList.drop a).take (k - a) := by
  rw [Lib.trimLeftB_drop _ 48 (a - sg)]
  · rw [List.drop_take, List.drop_drop, show sg + (a - sg) = a by omega, show k - sg - (a - sg) = k - a by omega]
  · rw [List.length_take, List.length_drop, ← Lib.size_eq]; omega
  · intro j b hj hb
    rw [List.getElem?_take_of_lt (by omega), List.getElem?_drop] at hb
    exact hz (sg + j) b (by omega) (by omega) hb
  · intro b hb
    by_cases hak : a < k
    · rw [List.getElem?_take_of_lt (by omega), List.getElem?_drop, show sg + (a - sg) = a by omega] at hb
      exact he hak b hb
    · rw [List.getElem?_eq_none (by rw [List.length_take]; omega)] at hb
      cases hb
/-- The zeros that end the second run, cut off. -/
theorem scan_right (s : ByteArray) (fs b : Nat) (h1 : fs ≤ b) (h2 : b ≤ s.size) (hz : ∀ m c, b ≤ m → s.data.toList[m]? = some c → c = 48) (he : fs < b → ∀ c, s.data.toList[b - 1]? = some c → c ≠ 48) :
    Lib.trimRightB (s.data.toList.drop fs) 48 = (s.data.toList.drop fs).take (b - fs) := by
  rw [Lib.trimRightB_take _ 48 (b - fs)]
  · rw [List.length_drop, ← Lib.size_eq]; omega
  · intro j c hj hc
    rw [List.getElem?_drop] at hc
    exact hz (fs + j) c (by omega) hc
  · intro c hp hc
    rw [List.getElem?_drop, show fs + (b - fs - 1) = b - 1 by omega] at hc
    exact he (by omega) c hc

theorem val_bool {a b : Bool} (h : a = b) : Value.bool a = .bool b := by rw [h]
theorem val_int {k : IntKind} {a b : Int} (h : a = b) : Value.int k a = .int k b := by rw [h]

set_option maxHeartbeats 1600000 in
set_option maxRecDepth 100000 in
theorem scan_any (s : ByteArray) (w : World) (hs : s.size ≤ 1048576) :
    Calls Tryd.prog 9 #[.string s] w fun e w' => e = .returned (scanOf (parseL s.data.toList)) ∧ w' = w := by
  go_enter Tryd.func9, Tryd.ntmps9
  go_upto_region 3 with (fail)
  go_cut [31] (fun v w' => v = .bool (decide (signLen s.data.toList = 1)) ∧ w' = w)
  case first =>
    by_cases hp : 0 < s.size
    · have H1 : Hid (signLen s.data.toList = (if s[0].toNat = 45 ∨ s[0].toNat = 43 then 1 else 0)) := (sign_at s hp).1
      by_cases h43 : s[0].toNat = 43
      · have e43 : ((s[0].toNat : Int) == 43) = true := by rw [beq_iff_eq]; omega
        have H2 : Hid (s[0].toNat = 43) := h43
        clear h43
        go_wp2
        go_meet
        exact ⟨val_bool (by rw [H1.out, if_pos (.inr H2.out)]; rfl), rfl⟩
      · have e43 : ((s[0].toNat : Int) == 43) = false := by rw [beq_eq_false_iff_ne]; omega
        by_cases h45 : s[0].toNat = 45
        · have e45 : ((s[0].toNat : Int) == 45) = true := by rw [beq_iff_eq]; omega
          have H2 : Hid (s[0].toNat = 45) := h45
          clear h43 h45
          go_wp2
          go_meet
          exact ⟨val_bool (by rw [H1.out, if_pos (.inl H2.out)]; rfl), rfl⟩
        · have e45 : ((s[0].toNat : Int) == 45) = false := by rw [beq_eq_false_iff_ne]; omega
          have H2 : Hid (¬ (s[0].toNat = 45 ∨ s[0].toNat = 43)) := by rintro (h | h); exact h45 h; exact h43 h
          clear h43 h45
          go_wp2
          go_meet
          exact ⟨val_bool (by rw [H1.out, if_neg H2.out]; rfl), rfl⟩
    · have H1 : Hid (signLen s.data.toList = 0) := by
        show _ = _
        have hl : s.data.toList = [] := List.length_eq_zero_iff.1 (by rw [← Lib.size_eq]; omega)
        rw [hl]; rfl
      go_wp2
      go_meet
      exact ⟨val_bool (by rw [H1.out]; rfl), rfl⟩
  case rest =>
    obtain ⟨rfl, rfl⟩ := hcut
    go_upto_if 31 with (fail)
    go_cut [6, 7] (fun v6 v7 w' => v6 = .int .i64 (signLen s.data.toList : Nat) ∧ v7 = .bool (signNeg s.data.toList) ∧ w' = wc)
    case first =>
      by_cases h1 : signLen s.data.toList = 1
      · have hp : 0 < s.size := by have := (signLen_le s.data.toList).2; rw [← Lib.size_eq] at this; omega
        have H2 : Hid (signNeg s.data.toList = decide (s[0].toNat = 45)) := (sign_at s hp).2
        have hd : decide (signLen s.data.toList = 1) = true := decide_eq_true h1
        have H1 : Hid (signLen s.data.toList = 1) := h1
        rw [hd]
        clear h1 hd
        go_wp2
        go_meet
        refine ⟨val_int (by rw [H1.out]; rfl), val_bool ?_, rfl⟩
        rw [H2.out, Bool.eq_iff_iff, beq_iff_eq, decide_eq_true_eq]; omega
      · have hd : decide (signLen s.data.toList = 1) = false := decide_eq_false h1
        have H1 : Hid (signLen s.data.toList = 0) := by show _ = _; have := (signLen_le s.data.toList).1; omega
        have H2 : Hid (signNeg s.data.toList = false) := by
          show _ = _
          by_cases hp : 0 < s.size
          · obtain ⟨e1, e2⟩ := sign_at s hp
            rw [e2]
            rw [e1] at h1
            exact decide_eq_false fun h => h1 (if_pos (.inl h))
          · have hl : s.data.toList = [] := List.length_eq_zero_iff.1 (by rw [← Lib.size_eq]; omega)
            rw [hl]; rfl
        rw [hd]
        clear h1 hd
        go_wp2
        go_meet
        exact ⟨val_int (by rw [H1.out]; rfl), val_bool H2.out.symm, rfl⟩
    case rest =>
      obtain ⟨rfl, rfl, rfl⟩ := hcut
      have HP : Hid (parseL s.data.toList = parseD (signNeg s.data.toList) (s.data.toList.drop (signLen s.data.toList))) := rfl
      have hsg := signLen_le s.data.toList
      rw [← Lib.size_eq] at hsg
      obtain ⟨hsg1, hsg2⟩ := hsg
      generalize signLen s.data.toList = sg at HP hsg1 hsg2 ⊢
      generalize signNeg s.data.toList = neg at HP ⊢
      go_upto_block 0 with (fail)
      go_cut [6] (fun v w' => w' = wc ∧ ∃ k : Nat, sg ≤ k ∧ k ≤ s.size ∧ v = .int .i64 k ∧ (∀ m c, sg ≤ m → m < k → s.data.toList[m]? = some c → digB c = true) ∧ (∀ c, s.data.toList[k]? = some c → digB c = false))
      case first =>
        go_wp2_with fail
        go_loop [6] (fun v => ∃ k : Nat, sg ≤ k ∧ k ≤ s.size ∧ v = .int .i64 k ∧ (∀ m c, sg ≤ m → m < k → s.data.toList[m]? = some c → digB c = true)) (fun v => s.size - (intOf v).toNat)
        case atStart => exact ⟨sg, Nat.le_refl _, hsg2, rfl, fun m c h1 h2 => by omega⟩
        case round =>
          obtain ⟨k, hk0, hk, rfl, hall⟩ := hrel
          have HA : Hid (∀ m c, sg ≤ m → m < k → s.data.toList[m]? = some c → digB c = true) := hall
          clear hall
          by_cases hlt : k < s.size
          · cases hd : digB s[k]
            · go_wp2_with (go_at_call 18; refine (dec_any _ _).mono ?_; rintro e w' ⟨rfl, rfl⟩)
              go_meet
              refine ⟨rfl, k, hk0, hk, rfl, HA.out, fun c hc => ?_⟩
              rw [at_get s k hlt] at hc; rw [← Option.some.inj hc]; exact hd
            · go_wp2_with (go_at_call 18; refine (dec_any _ _).mono ?_; rintro e w' ⟨rfl, rfl⟩)
              refine ⟨⟨k + 1, by omega, by omega, by go_num, ?_⟩, by simp [intOf]; omega⟩
              intro m c h1 h2 hc
              by_cases e : m = k
              · subst e
                rw [at_get s m hlt] at hc; rw [← Option.some.inj hc]; exact hd
              · exact HA.out m c h1 (by omega) hc
          · go_wp2
            go_meet
            refine ⟨rfl, k, hk0, hk, rfl, HA.out, fun c hc => ?_⟩
            have := (List.getElem?_eq_some_iff.1 hc).1
            rw [← Lib.size_eq] at this; omega
      case rest =>
        obtain ⟨rfl, k, hk0, hk, rfl, hall, hend⟩ := hcut
        have HA : Hid (∀ m c, sg ≤ m → m < k → s.data.toList[m]? = some c → digB c = true) := hall
        have HE : Hid (∀ c, s.data.toList[k]? = some c → digB c = false) := hend
        clear hall hend
        go_upto_region 12 with (fail)
        go_cut [63] (fun v w' => v = .bool (decide (s.data.toList[k]? = some 46)) ∧ w' = wc)
        case first =>
          by_cases hlt : k < s.size
          · have HG : Hid (s.data.toList[k]? = some s[k]) := at_get s k hlt
            go_wp2
            go_meet
            refine ⟨val_bool ?_, rfl⟩
            rw [HG.out, Bool.eq_iff_iff, beq_iff_eq, decide_eq_true_eq]
            exact ⟨fun h => congrArg some (eq_of_toNat (show s[k].toNat = 46 by omega)), fun h => by rw [Option.some.inj h]; rfl⟩
          · go_wp2
            go_meet
            refine ⟨val_bool ?_, rfl⟩
            symm
            exact decide_eq_false fun h => by have := (List.getElem?_eq_some_iff.1 h).1; rw [← Lib.size_eq] at this; omega
        case rest =>
          obtain ⟨rfl, rfl⟩ := hcut
          go_upto_if 63 with (fail)
          go_cut [6, 10, 11] (fun v6 v10 v11 w' => w' = wc ∧ ∃ fs fe : Nat, k ≤ fs ∧ fs ≤ fe ∧ fe ≤ s.size ∧ v6 = .int .i64 fe ∧ v10 = .int .i64 fs ∧ v11 = .int .i64 fe ∧ (fe ≠ s.size → parseD neg (s.data.toList.drop sg) = (false, false, [], [])) ∧ (fe = s.size → (∀ m c, fs ≤ m → s.data.toList[m]? = some c → digB c = true) ∧ ((fs = k ∧ k = s.size) ∨ (fs = k + 1 ∧ s.data.toList[k]? = some 46))))
          case first =>
            by_cases hy : s.data.toList[k]? = some 46
            · have hlt : k < s.size := by have := (List.getElem?_eq_some_iff.1 hy).1; rw [← Lib.size_eq] at this; omega
              have HY : Hid (s.data.toList[k]? = some 46) := hy
              rw [decide_eq_true hy]
              clear hy
              go_wp2
              go_loop [6] (fun v => ∃ j : Nat, k + 1 ≤ j ∧ j ≤ s.size ∧ v = .int .i64 j ∧ (∀ m c, k + 1 ≤ m → m < j → s.data.toList[m]? = some c → digB c = true)) (fun v => s.size - (intOf v).toNat)
              case atStart => exact ⟨k + 1, Nat.le_refl _, hlt, by go_num, fun m c h1 h2 => by omega⟩
              case round =>
                obtain ⟨j, hj0, hj, rfl, hall⟩ := hrel
                have HJ : Hid (∀ m c, k + 1 ≤ m → m < j → s.data.toList[m]? = some c → digB c = true) := hall
                clear hall
                by_cases hjl : j < s.size
                · cases hd : digB s[j]
                  · go_wp2_with (go_at_call 18; refine (dec_any _ _).mono ?_; rintro e w' ⟨rfl, rfl⟩)
                    go_meet
                    exact ⟨rfl, k + 1, j, by omega, hj0, hj, rfl, by go_num, rfl, fun _ => scan_bad2 s neg sg k j hk0 (by omega) hjl HA.out HY.out hd, fun h => by omega⟩
                  · go_wp2_with (go_at_call 18; refine (dec_any _ _).mono ?_; rintro e w' ⟨rfl, rfl⟩)
                    refine ⟨⟨j + 1, by omega, by omega, by go_num, ?_⟩, by simp [intOf]; omega⟩
                    intro m c h1 h2 hc
                    by_cases e : m = j
                    · subst e
                      rw [at_get s m hjl] at hc; rw [← Option.some.inj hc]; exact hd
                    · exact HJ.out m c h1 (by omega) hc
                · go_wp2
                  go_meet
                  refine ⟨rfl, k + 1, j, by omega, hj0, hj, rfl, by go_num, rfl, fun h => by omega, fun _ => ⟨fun m c h1 hc => ?_, .inr ⟨rfl, HY.out⟩⟩⟩
                  have := (List.getElem?_eq_some_iff.1 hc).1
                  rw [← Lib.size_eq] at this
                  exact HJ.out m c h1 (by omega) hc
            · have HY : Hid (¬ s.data.toList[k]? = some 46) := hy
              rw [decide_eq_false hy]
              clear hy
              go_wp2
              go_meet
              refine ⟨rfl, k, k, Nat.le_refl _, Nat.le_refl _, hk, rfl, rfl, rfl, fun h => scan_bad1 s neg sg k hk0 (by omega) HA.out HE.out HY.out, fun h => ⟨fun m c h1 hc => ?_, .inl ⟨rfl, h⟩⟩⟩
              have := (List.getElem?_eq_some_iff.1 hc).1
              rw [← Lib.size_eq] at this; omega
          case rest =>
            obtain ⟨rfl, fs, fe, hf1, hf2, hf3, rfl, rfl, rfl, hbad, hgood⟩ := hcut
            have HB : Hid (fe ≠ s.size → parseD neg (s.data.toList.drop sg) = (false, false, [], [])) := hbad
            have HG : Hid (fe = s.size → (∀ m c, fs ≤ m → s.data.toList[m]? = some c → digB c = true) ∧ ((fs = k ∧ k = s.size) ∨ (fs = k + 1 ∧ s.data.toList[k]? = some 46))) := hgood
            clear hbad hgood
            by_cases hfe : fe = s.size
            · subst hfe
              obtain ⟨hF, hcase⟩ := HG.out rfl
              obtain ⟨g1, g2, g3⟩ := scan_good s neg sg k fs hk0 HA.out hF hcase
              have HH : Hid (parseL s.data.toList = ansOf neg ((s.data.toList.drop sg).take (k - sg)) (s.data.toList.drop fs)) := by show _ = _; rw [HP.out, g1]
              have HW : Hid (((s.data.toList.drop sg).take (k - sg)).all digB = true) := g2
              have HV : Hid ((s.data.toList.drop fs).all digB = true) := g3
              clear hF hcase g1 g2 g3 HG HB HP HE
              by_cases hnone : k = sg ∧ s.size = fs
              · obtain ⟨n1, n2⟩ := hnone
                have e1 : ((k : Int) == (sg : Int)) = true := by rw [beq_iff_eq]; omega
                have e2 : ((s.size : Int) == (fs : Int)) = true := by rw [beq_iff_eq]; omega
                have HX : Hid (scanOf (parseL s.data.toList) = .tuple #[.bool false, .bool false, .string ⟨#[]⟩, .string ⟨#[]⟩]) := by
                  show _ = _
                  rw [HH.out, n1, Nat.sub_self, List.take_zero, List.drop_eq_nil_of_le (by rw [← Lib.size_eq]; omega)]; rfl
                clear n1 n2
                go_wp2
                refine bodyPost_ret (v := .tuple #[.bool false, .bool false, .string ⟨#[]⟩, .string ⟨#[]⟩]) (by simp [results, Tryd.results9, go_sem]) rfl ⟨?_, rfl⟩
                rw [HX.out]
              · have HO : Hid (parseL s.data.toList = (true, neg && !((Lib.trimLeftB ((s.data.toList.drop sg).take (k - sg)) 48).isEmpty && (Lib.trimRightB (s.data.toList.drop fs) 48).isEmpty), Lib.trimLeftB ((s.data.toList.drop sg).take (k - sg)) 48, Lib.trimRightB (s.data.toList.drop fs) 48)) := by
                  show _ = _
                  rw [HH.out]
                  refine ansOf_ok neg _ _ HW.out HV.out fun ⟨x1, x2⟩ => hnone ?_
                  have y1 := congrArg List.length x1
                  have y2 := congrArg List.length x2
                  rw [List.length_take, List.length_drop, ← Lib.size_eq] at y1
                  rw [List.length_drop, ← Lib.size_eq] at y2
                  simp at y1 y2
                  omega
                clear HH HW HV HA
                have hnn : (((k : Int) == (sg : Int)) && ((s.size : Int) == (fs : Int))) = false := by
                  rw [Bool.and_eq_false_iff, beq_eq_false_iff_ne, beq_eq_false_iff_ne]; omega
                clear hnone
                go_upto_region 20 with (fail)
                go_cut [91] (fun v w' => v = .bool false ∧ w' = wc)
                case first =>
                  by_cases q : k = sg
                  · have e1 : ((k : Int) == (sg : Int)) = true := by rw [beq_iff_eq]; omega
                    rw [e1, Bool.true_and] at hnn
                    clear q
                    go_wp2
                    go_meet
                    exact ⟨rfl, rfl⟩
                  · have e1 : ((k : Int) == (sg : Int)) = false := by rw [beq_eq_false_iff_ne]; omega
                    clear q
                    go_wp2
                    go_meet
                    exact ⟨rfl, rfl⟩
                case rest =>
                  obtain ⟨rfl, rfl⟩ := hcut
                  clear hnn
                  go_upto_block 4 with (fail)
                  go_cut [12] (fun v w' => w' = wc ∧ ∃ a : Nat, sg ≤ a ∧ a ≤ k ∧ v = .int .i64 a ∧ (∀ m c, sg ≤ m → m < a → s.data.toList[m]? = some c → c = 48) ∧ (a < k → ∀ c, s.data.toList[a]? = some c → c ≠ 48))
                  case first =>
                    go_wp2_with fail
                    go_loop [12] (fun v => ∃ a : Nat, sg ≤ a ∧ a ≤ k ∧ v = .int .i64 a ∧ (∀ m c, sg ≤ m → m < a → s.data.toList[m]? = some c → c = 48)) (fun v => k - (intOf v).toNat)
                    case atStart => exact ⟨sg, Nat.le_refl _, hk0, rfl, fun m c h1 h2 => by omega⟩
                    case round =>
                      obtain ⟨a, ha0, ha, rfl, hz⟩ := hrel
                      have HZ : Hid (∀ m c, sg ≤ m → m < a → s.data.toList[m]? = some c → c = 48) := hz
                      clear hz
                      by_cases hak : a < k
                      · have hal : a < s.size := by omega
                        by_cases h48 : (s[a]'hal).toNat = 48
                        · have e48 : (((s[a]'hal).toNat : Int) == 48) = true := by rw [beq_iff_eq]; omega
                          have HC : Hid ((s[a]'hal).toNat = 48) := h48
                          clear h48
                          go_wp2
                          refine ⟨⟨a + 1, by omega, by omega, by go_num, ?_⟩, by simp [intOf]; omega⟩
                          intro m c h1 h2 hc
                          by_cases e : m = a
                          · subst e
                            rw [at_get s m hal] at hc; rw [← Option.some.inj hc]; exact eq_of_toNat HC.out
                          · exact HZ.out m c h1 (by omega) hc
                        · have e48 : (((s[a]'hal).toNat : Int) == 48) = false := by rw [beq_eq_false_iff_ne]; omega
                          have HC : Hid (¬ (s[a]'hal).toNat = 48) := h48
                          clear h48
                          go_wp2
                          go_meet
                          refine ⟨rfl, a, ha0, ha, rfl, HZ.out, fun _ c hc e => ?_⟩
                          rw [at_get s a hal] at hc
                          exact HC.out (by rw [Option.some.inj hc, e]; rfl)
                      · go_wp2
                        go_meet
                        exact ⟨rfl, a, ha0, ha, rfl, HZ.out, fun h => by omega⟩
                  case rest =>
                    obtain ⟨rfl, a, ha0, ha, rfl, hz, he⟩ := hcut
                    have HL := scan_left s sg k a ha0 ha hk hz he
                    have HO2 : Hid (parseL s.data.toList = (true, neg && !(((s.data.toList.drop a).take (k - a)).isEmpty && (Lib.trimRightB (s.data.toList.drop fs) 48).isEmpty), (s.data.toList.drop a).take (k - a), Lib.trimRightB (s.data.toList.drop fs) 48)) := by
                      show _ = _
                      rw [HO.out, HL]
                    clear HL HO hz he
                    go_upto_block 6 with (fail)
                    go_cut [13] (fun v w' => w' = wc ∧ ∃ b : Nat, fs ≤ b ∧ b ≤ s.size ∧ v = .int .i64 b ∧ (∀ m c, b ≤ m → s.data.toList[m]? = some c → c = 48) ∧ (fs < b → ∀ c, s.data.toList[b - 1]? = some c → c ≠ 48))
                    case first =>
                      go_wp2_with fail
                      go_loop [13] (fun v => ∃ b : Nat, fs ≤ b ∧ b ≤ s.size ∧ v = .int .i64 b ∧ (∀ m c, b ≤ m → s.data.toList[m]? = some c → c = 48)) (fun v => (intOf v).toNat)
                      case atStart => exact ⟨s.size, hf2, Nat.le_refl _, rfl, fun m c h1 hc => by have := (List.getElem?_eq_some_iff.1 hc).1; rw [← Lib.size_eq] at this; omega⟩
                      case round =>
                        obtain ⟨b, hb0, hb, rfl, hz⟩ := hrel
                        have HZ : Hid (∀ m c, b ≤ m → s.data.toList[m]? = some c → c = 48) := hz
                        clear hz
                        by_cases hfb : fs < b
                        · have hbl : b - 1 < s.size := by omega
                          by_cases h48 : (s[b - 1]'hbl).toNat = 48
                          · have e48 : (((s[b - 1]'hbl).toNat : Int) == 48) = true := by rw [beq_iff_eq]; omega
                            have HC : Hid ((s[b - 1]'hbl).toNat = 48) := h48
                            clear h48
                            go_wp2
                            refine ⟨⟨b - 1, by omega, by omega, by go_num, ?_⟩, by simp [intOf]; omega⟩
                            intro m c h1 hc
                            by_cases e : m = b - 1
                            · subst e
                              rw [at_get s _ hbl] at hc; rw [← Option.some.inj hc]; exact eq_of_toNat HC.out
                            · exact HZ.out m c (by omega) hc
                          · have e48 : (((s[b - 1]'hbl).toNat : Int) == 48) = false := by rw [beq_eq_false_iff_ne]; omega
                            have HC : Hid (¬ (s[b - 1]'hbl).toNat = 48) := h48
                            clear h48
                            go_wp2
                            go_meet
                            refine ⟨rfl, b, hb0, hb, rfl, HZ.out, fun _ c hc e => ?_⟩
                            rw [at_get s _ hbl] at hc
                            exact HC.out (by rw [Option.some.inj hc, e]; rfl)
                        · go_wp2
                          go_meet
                          exact ⟨rfl, b, hb0, hb, rfl, HZ.out, fun h => by omega⟩
                    case rest =>
                      obtain ⟨rfl, b, hb0, hb, rfl, hz, he⟩ := hcut
                      have HR := scan_right s fs b hb0 hb hz he
                      have HO3 : Hid (scanOf (parseL s.data.toList) = .tuple #[.bool true, .bool (neg && !((s.extract a k).data.toList.isEmpty && (s.extract fs b).data.toList.isEmpty)), .string (s.extract a k), .string (s.extract fs b)]) := by
                        show _ = _
                        rw [HO2.out, HR, Lib.extract_eq s a k, Lib.extract_eq s fs b]
                        rfl
                      clear HO2 HR hz he
                      go_upto_region 30 with (fail)
                      generalize s.extract a k = X at HO3 ⊢
                      generalize s.extract fs b = Y at HO3 ⊢
                      have q1 := empty_eq X
                      have q2 := empty_eq Y
                      rcases (show X.toList.isEmpty = false ∨ (X.toList.isEmpty = true ∧ Y.toList.isEmpty = false) ∨ (X.toList.isEmpty = true ∧ Y.toList.isEmpty = true) by cases X.toList.isEmpty <;> cases Y.toList.isEmpty <;> simp) with p1 | ⟨p1, p2⟩ | ⟨p1, p2⟩
                      · have HZ : Hid (scanOf (parseL s.data.toList) = .tuple #[.bool true, .bool neg, .string X, .string Y]) := by show _ = _; rw [HO3.out, ← q1, p1]; simp
                        clear q1 q2 HO3
                        go_wp2
                        refine bodyPost_ret (v := .tuple #[.bool true, .bool neg, .string X, .string Y]) (by simp [results, Tryd.results9, go_sem]) rfl ⟨?_, rfl⟩
                        rw [HZ.out]
                      · have HZ : Hid (scanOf (parseL s.data.toList) = .tuple #[.bool true, .bool neg, .string X, .string Y]) := by show _ = _; rw [HO3.out, ← q1, ← q2, p1, p2]; simp
                        clear q1 q2 HO3
                        go_wp2
                        refine bodyPost_ret (v := .tuple #[.bool true, .bool neg, .string X, .string Y]) (by simp [results, Tryd.results9, go_sem]) rfl ⟨?_, rfl⟩
                        rw [HZ.out]
                      · have HZ : Hid (scanOf (parseL s.data.toList) = .tuple #[.bool true, .bool false, .string X, .string Y]) := by show _ = _; rw [HO3.out, ← q1, ← q2, p1, p2]; simp
                        clear q1 q2 HO3
                        go_wp2
                        refine bodyPost_ret (v := .tuple #[.bool true, .bool false, .string X, .string Y]) (by simp [results, Tryd.results9, go_sem]) rfl ⟨?_, rfl⟩
                        rw [HZ.out]
            · have hne : ((fe : Int) != (s.size : Int)) = true := by rw [bne_iff_ne]; omega
              have HX : Hid (scanOf (parseL s.data.toList) = .tuple #[.bool false, .bool false, .string ⟨#[]⟩, .string ⟨#[]⟩]) := by show _ = _; rw [HP.out, HB.out hfe]; rfl
              clear hfe
              go_wp2
              refine bodyPost_ret (v := .tuple #[.bool false, .bool false, .string ⟨#[]⟩, .string ⟨#[]⟩]) (by simp [results, Tryd.results9, go_sem]) rfl ⟨?_, rfl⟩
              rw [HX.out]
end Go.Proofs.Qxb6605545aDoor
