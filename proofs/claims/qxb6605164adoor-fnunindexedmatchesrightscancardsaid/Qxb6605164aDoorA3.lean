/-
  THE WALKS of this seat, third part: the law's own reading of a bracketed key, from the right.
-/
import Derived.Test.Qxb6605164aDoorA1
import Derived.Test.Qxb6605164aDoorCut
namespace Go.Proofs.Qxb6605164aDoor
open Go.RowKit

theorem ret_str {a b : ByteArray} (h : a = b) : Ending.returned (.string a) = .returned (.string b) := by rw [h]

theorem at_get (s : ByteArray) (m : Nat) (h : m < s.size) : s.data.toList[m]? = some s[m] := by
  rw [List.getElem?_eq_getElem (by simpa using h)]; rfl
theorem key_str (s : ByteArray) (h : unidx s.data.toList = s.data.toList) : s = ⟨(unidx s.data.toList).toArray⟩ := by rw [h]
theorem eq_of_toNat {a b : UInt8} (h : a.toNat = b.toNat) : a = b := UInt8.toNat_inj.1 h

/-- The run of digits ahead of the last byte begins right behind the '[' of a bracketed key. -/
theorem right_at (s : ByteArray) (j : Nat) (hj : j + 1 ≤ s.size) (hall : ∀ (m : Nat) (hm : m < s.size), j ≤ m → m + 1 < s.size → digB s[m] = true)
    (hx : 0 < j → digB (s[j - 1]'(by omega)) = false) (a : List UInt8) (h : IsIdx s.data.toList a) : j = a.length + 1 := by
  have hlen : s.data.toList.length = s.size := by simp
  obtain ⟨h1, h2, h3, _, _⟩ := isIdx_at h
  rw [hlen] at h1 h3
  rcases Nat.lt_trichotomy j (a.length + 1) with c | c | c
  · have := hall a.length (by omega) (by omega) (by omega)
    rw [at_get s _ (by omega)] at h2
    rw [Option.some.inj h2] at this
    cases this
  · exact c
  · have e := h3 (j - 1) _ (by omega) (by omega) (at_get s (j - 1) (by omega))
    rw [hx (by omega)] at e
    cases e
theorem right_key (s : ByteArray) (j : Nat) (hj : j + 1 ≤ s.size) (hall : ∀ (m : Nat) (hm : m < s.size), j ≤ m → m + 1 < s.size → digB s[m] = true)
    (hx : 0 < j → digB (s[j - 1]'(by omega)) = false) (hn : ∀ a : List UInt8, j = a.length + 1 → IsIdx s.data.toList a → False) : s = ⟨(unidx s.data.toList).toArray⟩ :=
  key_str s (unidx_no _ fun a ha => hn a (right_at s j hj hall hx a ha) ha)

set_option maxHeartbeats 800000 in
theorem right_any (s : ByteArray) (w : World) (hs : s.size ≤ 1048576) :
    Calls Tryd.prog 14 #[.string s] w fun e w' => e = .returned (.string ⟨(unidx s.data.toList).toArray⟩) ∧ w' = w := by
  have hlen : s.data.toList.length = s.size := by simp
  by_cases h0 : s.size = 0
  · have hu : unidx s.data.toList = s.data.toList := unidx_no _ fun a ha => by have := (isIdx_at ha).1; omega
    have hk := key_str s hu
    clear hu
    generalize (⟨(unidx s.data.toList).toArray⟩ : ByteArray) = r at hk ⊢
    subst hk
    go_enter Tryd.func14, Tryd.ntmps14
    go_wp2
    go_ret
    exact ⟨rfl, rfl⟩
  have hp : 0 < s.size := by omega
  have hz : ((s.size : Int) == 0) = false := by rw [beq_eq_false_iff_ne]; omega
  by_cases h93 : (s[s.size - 1]'(by omega)).toNat = 93
  · have hne : (((s[s.size - 1]'(by omega)).toNat : Int) != 93) = false := by simp; omega
    have HL : Hid (s.data.toList[s.data.toList.length - 1]? = some 93) := by
      show _ = _
      rw [hlen, at_get s _ (by omega)]
      congr 1
      exact eq_of_toNat h93
    clear h0 h93
    go_enter Tryd.func14, Tryd.ntmps14
    go_wp2
    go_loop [4] (fun v => ∃ j : Nat, j + 1 ≤ s.size ∧ v = .int .i64 j ∧ (∀ (m : Nat) (hm : m < s.size), j ≤ m → m + 1 < s.size → digB s[m] = true)) (fun v => (intOf v).toNat)
    case atStart => exact ⟨s.size - 1, by omega, by go_num, fun m hm h1 h2 => by omega⟩
    case round =>
      obtain ⟨j, hj, rfl, hall⟩ := hrel
      have HA : Hid (∀ (m : Nat) (hm : m < s.size), j ≤ m → m + 1 < s.size → digB s[m] = true) := hall
      clear hall
      by_cases hj0 : 0 < j
      · cases hd : digB (s[j - 1]'(by omega))
        · have hx : Hid (0 < j → digB (s[j - 1]'(by omega)) = false) := fun _ => hd
          by_cases hjn : j = s.size - 1
          · have HK : Hid (s = ⟨(unidx s.data.toList).toArray⟩) := right_key s j hj HA.out hx.out (fun a e ha => by have := (isIdx_at ha).1; omega)
            have hq : ((j : Int) == (s.size : Int) - 1) = true := by rw [beq_iff_eq]; omega
            clear hjn
            go_wp2_with (go_at_call 18; refine (dec_any _ _).mono ?_; rintro e w' ⟨rfl, rfl⟩)
            go_ret
            exact ⟨ret_str HK.out, rfl⟩
          have hq : ((j : Int) == (s.size : Int) - 1) = false := by rw [beq_eq_false_iff_ne]; omega
          have hq0 : ((j : Int) == 0) = false := by rw [beq_eq_false_iff_ne]; omega
          by_cases h91 : (s[j - 1]'(by omega)).toNat = 91
          · have hb : (((s[j - 1]'(by omega)).toNat : Int) != 91) = false := by simp; omega
            have H91 : Hid (s.data.toList[j - 1]? = some 91) := by
              show _ = _
              rw [at_get s _ (by omega)]
              congr 1
              exact eq_of_toNat h91
            have HN : Hid (¬ j = s.size - 1) := hjn
            clear hjn h91
            go_wp2_with (go_at_call 18; refine (dec_any _ _).mono ?_; rintro e w' ⟨rfl, rfl⟩)
            go_loop [6] (fun v => ∃ i : Nat, i ≤ j - 1 ∧ v = .int .i64 i ∧ (∀ (m : Nat), m < i → s.data.toList[m]? ≠ some 91)) (fun v => j - 1 - (intOf v).toNat)
            case atStart => exact ⟨0, Nat.zero_le _, rfl, fun m h => absurd h (Nat.not_lt_zero _)⟩
            case round =>
              obtain ⟨i, hi, rfl, hno⟩ := hrel
              have HB : Hid (∀ (m : Nat), m < i → s.data.toList[m]? ≠ some 91) := hno
              clear hno
              by_cases hij : i < j - 1
              · have hib : i < s.size := by omega
                by_cases hi91 : (s[i]'hib).toNat = 91
                · have hc : (((s[i]'hib).toNat : Int) == 91) = true := by rw [beq_iff_eq]; omega
                  have HK : Hid (s = ⟨(unidx s.data.toList).toArray⟩) := right_key s j hj HA.out hx.out (fun a e ha => by
                    refine (isIdx_at ha).2.2.2.2 i (by omega) ?_
                    rw [at_get s _ (by omega)]
                    congr 1
                    exact eq_of_toNat hi91)
                  clear hi91
                  go_wp2
                  go_ret
                  exact ⟨ret_str HK.out, rfl⟩
                · have hc : (((s[i]'hib).toNat : Int) == 91) = false := by rw [beq_eq_false_iff_ne]; omega
                  have HC : Hid (¬ (s[i]'hib).toNat = 91) := hi91
                  clear hi91
                  go_wp2
                  refine ⟨⟨i + 1, by omega, by go_num, ?_⟩, by simp [intOf]; omega⟩
                  intro m hm hc'
                  by_cases e : m = i
                  · subst e
                    rw [at_get s _ (by omega)] at hc'
                    exact HC.out (by rw [Option.some.inj hc']; rfl)
                  · exact HB.out m (by omega) hc'
              · have e : i = j - 1 := by omega
                have HK : Hid (unidx s.data.toList = s.data.toList.take (j - 1)) := by
                  show _ = _
                  refine unidx_yes _ _ (isIdx_mk _ (j - 1) ?_ H91.out ?_ HL.out (fun m hm => HB.out m (by omega)))
                  · rw [hlen]; have := HN.out; omega
                  · intro m c h1 h2 h3
                    rw [hlen] at h2
                    have := HA.out m (by omega) (by omega) h2
                    rw [at_get s _ (by omega)] at h3
                    rw [Option.some.inj h3] at this
                    exact this
                clear e
                go_wp2
                go_ret
                exact ⟨ret_str (by rw [HK.out, Lib.extract_eq]; simp), rfl⟩
          · have hb : (((s[j - 1]'(by omega)).toNat : Int) != 91) = true := by simp; omega
            have HK : Hid (s = ⟨(unidx s.data.toList).toArray⟩) := right_key s j hj HA.out hx.out (fun a e ha => by
              have := (isIdx_at ha).2.1
              have e2 : a.length = j - 1 := by omega
              rw [e2, at_get s _ (by omega)] at this
              exact h91 (by rw [Option.some.inj this]; rfl))
            clear hjn h91
            go_wp2_with (go_at_call 18; refine (dec_any _ _).mono ?_; rintro e w' ⟨rfl, rfl⟩)
            go_ret
            exact ⟨ret_str HK.out, rfl⟩
        · go_wp2_with (go_at_call 18; refine (dec_any _ _).mono ?_; rintro e w' ⟨rfl, rfl⟩)
          refine ⟨⟨j - 1, by omega, by go_num, ?_⟩, by simp [intOf]; omega⟩
          intro m hm h1 h2
          by_cases e : m = j - 1
          · subst e; exact hd
          · exact HA.out m hm (by omega) h2
      · have e : j = 0 := by omega
        subst e
        have HK : Hid (s = ⟨(unidx s.data.toList).toArray⟩) := right_key s 0 hj HA.out (fun h => absurd h (by omega)) (fun a e ha => by omega)
        go_wp2
        all_goals go_ret
        all_goals exact ⟨ret_str HK.out, rfl⟩
  · have hne : (((s[s.size - 1]'(by omega)).toNat : Int) != 93) = true := by simp; omega
    have hu : unidx s.data.toList = s.data.toList := unidx_no _ fun a ha => by
      have := (isIdx_at ha).2.2.2.1
      rw [hlen, at_get s _ (by omega)] at this
      exact h93 (by rw [Option.some.inj this]; rfl)
    have hk := key_str s hu
    clear hu
    generalize (⟨(unidx s.data.toList).toArray⟩ : ByteArray) = r at hk ⊢
    subst hk
    go_enter Tryd.func14, Tryd.ntmps14
    go_wp2
    go_ret
    exact ⟨rfl, rfl⟩
end Go.Proofs.Qxb6605164aDoor
