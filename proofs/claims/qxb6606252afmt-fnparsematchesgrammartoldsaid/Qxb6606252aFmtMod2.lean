/-
  THE WALK of the law's own grammar: zzModelUser.
-/
import Derived.Test.Qxb6606252aFmtMod
namespace Go.Proofs.Qxb6606252aFmt
open Go.RowKit

/-- A wildcard, or a name. -/
theorem wild_or (fm : Bool) (s : ByteArray) : (s.toList = [42] → partOk fm true s = true) ∧ (¬ s.toList = [42] → partOk fm true s = partOk fm false s) := by
  rw [ByteArray.toList_eq]
  refine ⟨fun h => ?_, fun h => ?_⟩
  · unfold partOk; rw [h]; rfl
  · unfold partOk
    rw [show (s.data.toList == [42]) = false by rw [beq_eq_false_iff_ne]; exact h]
    rfl
set_option maxHeartbeats 3200000 in
set_option maxRecDepth 100000 in
theorem modUser_any (fm : Bool) (s : ByteArray) (w : World) (hN : NameOK fm) (hs : s.size ≤ 1000000) :
    Calls Tryf.prog 14 #[.string s, .bool fm] w fun e w' => e = .returned (modU (usrOk fm s) (cutA 58 s) (cutA 35 (cutB 58 s)) (cutB 35 (cutB 58 s))) ∧ Below w.heap.size w w' := by
  go_enter Tryf.func14, Tryf.ntmps14
  go_wp2
  go_loop [8, 9, 10, 11, 12] (fun d h a b i => ∃ (k : Nat) (n p m q : Int), k ≤ s.size ∧ i = .int .i64 k ∧ d = .int .i64 n ∧ a = .int .i64 p ∧ h = .int .i64 m ∧ b = .int .i64 q ∧ Hid (St 58 s k n p) ∧ Hid (St 35 s k m q) ∧ 0 ≤ n ∧ n ≤ k ∧ -1 ≤ p ∧ p < k ∧ 0 ≤ m ∧ m ≤ k ∧ -1 ≤ q ∧ q < k) (fun _ _ _ _ i => s.size - (intOf i).toNat)
  case atStart => exact ⟨0, 0, -1, 0, -1, Nat.zero_le _, rfl, rfl, rfl, rfl, rfl, St.start 58 s, St.start 35 s, by omega, by omega, by omega, by omega, by omega, by omega, by omega, by omega⟩
  case round =>
    obtain ⟨k, n, p, m, q, hk, rfl, rfl, rfl, rfl, rfl, H, G, b1, b2, b3, b4, b5, b6, b7, b8⟩ := hrel
    by_cases hlt : k < s.size
    · by_cases hc : (s[k]'hlt).toNat = 58
      · have hcb : (((s[k]'hlt).toNat : Int) == 58) = true := by rw [beq_iff_eq]; omega
        have hdb : (((s[k]'hlt).toNat : Int) == 35) = false := by rw [beq_eq_false_iff_ne]; omega
        have hd : (s[k]'hlt).toNat ≠ 35 := by omega
        by_cases hp : p < 0
        · have H2 : Hid (St 58 s (k + 1) (n + 1) (k)) := St.hit0 H.out hlt hc hp
          have G2 : Hid (St 35 s (k + 1) (m) (q)) := St.miss G.out hlt hd
          clear H G
          go_wp2
          exact ⟨⟨k + 1, n + 1, k, m, q, by omega, by go_num, rfl, rfl, rfl, rfl, H2, G2, by omega, by omega, by omega, by omega, by omega, by omega, by omega, by omega⟩, by simp only [intOf]; omega⟩
        · have H2 : Hid (St 58 s (k + 1) (n + 1) (p)) := St.hit1 H.out hlt hc hp
          have G2 : Hid (St 35 s (k + 1) (m) (q)) := St.miss G.out hlt hd
          clear H G
          go_wp2
          exact ⟨⟨k + 1, n + 1, p, m, q, by omega, by go_num, rfl, rfl, rfl, rfl, H2, G2, by omega, by omega, by omega, by omega, by omega, by omega, by omega, by omega⟩, by simp only [intOf]; omega⟩
      have hcb : (((s[k]'hlt).toNat : Int) == 58) = false := by rw [beq_eq_false_iff_ne]; omega
      by_cases hd : (s[k]'hlt).toNat = 35
      · have hdb : (((s[k]'hlt).toNat : Int) == 35) = true := by rw [beq_iff_eq]; omega
        by_cases hq : q < 0
        · have H2 : Hid (St 58 s (k + 1) (n) (p)) := St.miss H.out hlt hc
          have G2 : Hid (St 35 s (k + 1) (m + 1) (k)) := St.hit0 G.out hlt hd hq
          clear H G
          go_wp2
          exact ⟨⟨k + 1, n, p, m + 1, k, by omega, by go_num, rfl, rfl, rfl, rfl, H2, G2, by omega, by omega, by omega, by omega, by omega, by omega, by omega, by omega⟩, by simp only [intOf]; omega⟩
        · have H2 : Hid (St 58 s (k + 1) (n) (p)) := St.miss H.out hlt hc
          have G2 : Hid (St 35 s (k + 1) (m + 1) (q)) := St.hit1 G.out hlt hd hq
          clear H G
          go_wp2
          exact ⟨⟨k + 1, n, p, m + 1, q, by omega, by go_num, rfl, rfl, rfl, rfl, H2, G2, by omega, by omega, by omega, by omega, by omega, by omega, by omega, by omega⟩, by simp only [intOf]; omega⟩
      have hdb : (((s[k]'hlt).toNat : Int) == 35) = false := by rw [beq_eq_false_iff_ne]; omega
      have H2 : Hid (St 58 s (k + 1) (n) (p)) := St.miss H.out hlt hc
      have G2 : Hid (St 35 s (k + 1) (m) (q)) := St.miss G.out hlt hd
      clear H G
      go_wp2
      exact ⟨⟨k + 1, n, p, m, q, by omega, by go_num, rfl, rfl, rfl, rfl, H2, G2, by omega, by omega, by omega, by omega, by omega, by omega, by omega, by omega⟩, by simp only [intOf]; omega⟩
    · obtain rfl : k = s.size := by omega
      rcases usr_fin fm s n p m q H.out G.out with ⟨h1, h2⟩ | ⟨rfl, rfl, j, rfl, h3, h4, h5, h6, h7⟩ | ⟨rfl, rfl, j, j2, rfl, rfl, h8, h3, h4, h5, h6, h7⟩
      · have H2 : Hid (usrOk fm s = false) := h2
        clear H G h2
        have hcase : ((n == 1) = false ∧ (n != 1) = true ∧ ¬ n = 1) ∨ (n = 1 ∧ 1 < m) ∨ (n = 1 ∧ m = 1 ∧ q < p) := by
          rcases Int.lt_trichotomy n 1 with h | h | h
          · exact .inl ⟨by rw [beq_eq_false_iff_ne]; omega, by simp; omega, by omega⟩
          · exact .inr (by omega)
          · exact .inl ⟨by rw [beq_eq_false_iff_ne]; omega, by simp; omega, by omega⟩
        clear h1
        rcases hcase with ⟨a1, a2, a3⟩ | ⟨rfl, a2⟩ | ⟨rfl, rfl, a3⟩
        all_goals go_wp2
        all_goals refine bodyPost_ret (v := .tuple #[.string ⟨#[]⟩, .string ⟨#[]⟩, .string ⟨#[]⟩, .bool false]) (by simp [results, Tryf.results14, go_sem]) rfl ⟨?_, Below.refl _ _⟩
        all_goals (rw [H2.out]; rfl)
      · have H4 : Hid (cutA 58 s = s.extract 0 j) := h4
        have H5 : Hid (cutA 35 (cutB 58 s) = s.extract (j + 1) s.size) := h5
        have H6 : Hid (cutB 35 (cutB 58 s) = ⟨#[]⟩) := h6
        have H7 : Hid (usrOk fm s = (partOk fm false (s.extract 0 j) && partOk fm true (s.extract (j + 1) s.size))) := h7
        have hx := extract_le s 0 j
        have hy := extract_le s (j + 1) s.size
        have n1 := fun w => hN (s.extract 0 j) w (by omega)
        have n2 := fun w => hN (s.extract (j + 1) s.size) w (by omega)
        have hw := wild_or fm (s.extract (j + 1) s.size)
        clear H G h4 h5 h6 h7 hN hx hy
        cases e1 : partOk fm false (s.extract 0 j)
        · rw [e1] at n1 H7
          go_wp2_with (go_at_call 11; (with_reducible refine (n1 _).mono ?_); rintro e w1 ⟨rfl, hb1⟩)
          refine bodyPost_ret (v := .tuple #[.string ⟨#[]⟩, .string ⟨#[]⟩, .string ⟨#[]⟩, .bool false]) (by simp [results, Tryf.results14, go_sem]) rfl ⟨?_, hb1⟩
          rw [H7.out]; rfl
        rw [e1] at n1 H7
        by_cases h42 : (s.extract (j + 1) s.size).toList = [42]
        · have hw2 : Hid (partOk fm true (s.extract (j + 1) s.size) = true) := hw.1 h42
          clear hw
          go_wp2_with (go_at_call 11; first | ((with_reducible refine (n1 _).mono ?_); rintro e w1 ⟨rfl, hb1⟩) | ((with_reducible refine (n2 _).mono ?_); rintro e w2 ⟨rfl, hb2⟩))
          refine bodyPost_ret (v := .tuple #[.string (s.extract 0 j), .string (s.extract (j + 1) s.size), .string ⟨#[]⟩, .bool true]) (by simp [results, Tryf.results14, go_sem]) rfl ⟨?_, hb1⟩
          rw [H7.out, hw2.out, H4.out, H5.out, H6.out]; rfl
        have hw2 : Hid (partOk fm true (s.extract (j + 1) s.size) = partOk fm false (s.extract (j + 1) s.size)) := hw.2 h42
        have h42b : ((s.extract (j + 1) s.size).toList == [42]) = false := by rw [beq_eq_false_iff_ne]; exact h42
        clear hw
        cases e2 : partOk fm false (s.extract (j + 1) s.size)
        · rw [e2] at n2 hw2
          go_wp2_with (go_at_call 11; first | ((with_reducible refine (n1 _).mono ?_); rintro e w1 ⟨rfl, hb1⟩) | ((with_reducible refine (n2 _).mono ?_); rintro e w2 ⟨rfl, hb2⟩))
          refine bodyPost_ret (v := .tuple #[.string ⟨#[]⟩, .string ⟨#[]⟩, .string ⟨#[]⟩, .bool false]) (by simp [results, Tryf.results14, go_sem]) rfl ⟨?_, hb1.trans (hb2.mono hb1.size)⟩
          rw [H7.out, hw2.out]; rfl
        · rw [e2] at n2 hw2
          go_wp2_with (go_at_call 11; first | ((with_reducible refine (n1 _).mono ?_); rintro e w1 ⟨rfl, hb1⟩) | ((with_reducible refine (n2 _).mono ?_); rintro e w2 ⟨rfl, hb2⟩))
          refine bodyPost_ret (v := .tuple #[.string (s.extract 0 j), .string (s.extract (j + 1) s.size), .string ⟨#[]⟩, .bool true]) (by simp [results, Tryf.results14, go_sem]) rfl ⟨?_, hb1.trans (hb2.mono hb1.size)⟩
          rw [H7.out, hw2.out, H4.out, H5.out, H6.out]; rfl
      · have H4 : Hid (cutA 58 s = s.extract 0 j) := h4
        have H5 : Hid (cutA 35 (cutB 58 s) = s.extract (j + 1) j2) := h5
        have H6 : Hid (cutB 35 (cutB 58 s) = s.extract (j2 + 1) s.size) := h6
        have H7 : Hid (usrOk fm s = ((partOk fm false (s.extract 0 j) && partOk fm false (s.extract (j + 1) j2)) && partOk fm false (s.extract (j2 + 1) s.size))) := h7
        have hx := extract_le s 0 j
        have hy := extract_le s (j + 1) j2
        have hz := extract_le s (j2 + 1) s.size
        have n1 := fun w => hN (s.extract 0 j) w (by omega)
        have n2 := fun w => hN (s.extract (j + 1) j2) w (by omega)
        have n3 := fun w => hN (s.extract (j2 + 1) s.size) w (by omega)
        clear H G h4 h5 h6 h7 hN hx hy hz
        cases e1 : partOk fm false (s.extract 0 j)
        · rw [e1] at n1 H7
          go_wp2_with (go_at_call 11; (with_reducible refine (n1 _).mono ?_); rintro e w1 ⟨rfl, hb1⟩)
          refine bodyPost_ret (v := .tuple #[.string ⟨#[]⟩, .string ⟨#[]⟩, .string ⟨#[]⟩, .bool false]) (by simp [results, Tryf.results14, go_sem]) rfl ⟨?_, hb1⟩
          rw [H7.out]; rfl
        rw [e1] at n1 H7
        cases e2 : partOk fm false (s.extract (j + 1) j2)
        · rw [e2] at n2 H7
          go_wp2_with (go_at_call 11; first | ((with_reducible refine (n1 _).mono ?_); rintro e w1 ⟨rfl, hb1⟩) | ((with_reducible refine (n2 _).mono ?_); rintro e w2 ⟨rfl, hb2⟩))
          refine bodyPost_ret (v := .tuple #[.string ⟨#[]⟩, .string ⟨#[]⟩, .string ⟨#[]⟩, .bool false]) (by simp [results, Tryf.results14, go_sem]) rfl ⟨?_, hb1.trans (hb2.mono hb1.size)⟩
          rw [H7.out]; rfl
        rw [e2] at n2 H7
        cases e3 : partOk fm false (s.extract (j2 + 1) s.size)
        · rw [e3] at n3 H7
          go_wp2_with (go_at_call 11; first | ((with_reducible refine (n1 _).mono ?_); rintro e w1 ⟨rfl, hb1⟩) | ((with_reducible refine (n2 _).mono ?_); rintro e w2 ⟨rfl, hb2⟩) | ((with_reducible refine (n3 _).mono ?_); rintro e w3 ⟨rfl, hb3⟩))
          refine bodyPost_ret (v := .tuple #[.string ⟨#[]⟩, .string ⟨#[]⟩, .string ⟨#[]⟩, .bool false]) (by simp [results, Tryf.results14, go_sem]) rfl ⟨?_, (hb1.trans (hb2.mono hb1.size)).trans (hb3.mono (hb1.trans (hb2.mono hb1.size)).size)⟩
          rw [H7.out]; rfl
        · rw [e3] at n3 H7
          go_wp2_with (go_at_call 11; first | ((with_reducible refine (n1 _).mono ?_); rintro e w1 ⟨rfl, hb1⟩) | ((with_reducible refine (n2 _).mono ?_); rintro e w2 ⟨rfl, hb2⟩) | ((with_reducible refine (n3 _).mono ?_); rintro e w3 ⟨rfl, hb3⟩))
          refine bodyPost_ret (v := .tuple #[.string (s.extract 0 j), .string (s.extract (j + 1) j2), .string (s.extract (j2 + 1) s.size), .bool true]) (by simp [results, Tryf.results14, go_sem]) rfl ⟨?_, (hb1.trans (hb2.mono hb1.size)).trans (hb3.mono (hb1.trans (hb2.mono hb1.size)).size)⟩
          rw [H7.out, H4.out, H5.out, H6.out]; rfl
end Go.Proofs.Qxb6606252aFmt
