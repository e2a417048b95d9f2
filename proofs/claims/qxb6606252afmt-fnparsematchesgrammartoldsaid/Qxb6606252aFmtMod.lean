/-
  THE WALK of the law's own grammar: zzModelObject and zzModelUser.
-/
import Derived.Test.Qxb6606252aFmtMq
import Derived.Test.Qxb6606252aFmtPart
import Derived.Deep.DeepCutAuto
import Derived.Deep.CutBlock
namespace Go.Proofs.Qxb6606252aFmt
open Go.RowKit

/-- zzNameOK lets by just what checkPart lets by. -/
def NameOK (fm : Bool) : Prop := ∀ (s : ByteArray) (w : World), s.size ≤ 2000000 → Calls Tryf.prog 11 #[.string s, .bool fm] w fun e w' => e = .returned (.bool (partOk fm false s)) ∧ Below w.heap.size w w'

def modO (b : Bool) (x y : ByteArray) : Value := match b with | true => .tuple #[.string x, .string y, .bool true] | false => .tuple #[.string ⟨#[]⟩, .string ⟨#[]⟩, .bool false]
def modU (b : Bool) (x y z : ByteArray) : Value := match b with | true => .tuple #[.string x, .string y, .string z, .bool true] | false => .tuple #[.string ⟨#[]⟩, .string ⟨#[]⟩, .string ⟨#[]⟩, .bool false]
theorem extract_le (s : ByteArray) (i j : Nat) : (s.extract i j).size ≤ s.size := by
  rw [ByteArray.size_extract]; omega

set_option maxHeartbeats 3200000 in
set_option maxRecDepth 100000 in
theorem modObject_any (fm : Bool) (s : ByteArray) (w : World) (hN : NameOK fm) (hs : s.size ≤ 1000000) :
    Calls Tryf.prog 15 #[.string s, .bool fm] w fun e w' => e = .returned (modO (objOk fm s) (cutA 58 s) (cutB 58 s)) ∧ Below w.heap.size w w' := by
  go_enter Tryf.func15, Tryf.ntmps15
  go_wp2
  go_loop [7, 8, 9] (fun d a i => ∃ (k : Nat) (n p : Int), k ≤ s.size ∧ i = .int .i64 k ∧ d = .int .i64 n ∧ a = .int .i64 p ∧ Hid (St 58 s k n p) ∧ 0 ≤ n ∧ n ≤ k ∧ -1 ≤ p ∧ p < k) (fun _ _ i => s.size - (intOf i).toNat)
  case atStart => exact ⟨0, 0, -1, Nat.zero_le _, rfl, rfl, rfl, St.start 58 s, by omega, by omega, by omega, by omega⟩
  case round =>
    obtain ⟨k, n, p, hk, rfl, rfl, rfl, H, b1, b2, b3, b4⟩ := hrel
    by_cases hlt : k < s.size
    · by_cases hc : (s[k]'hlt).toNat = 58
      · have hcb : (((s[k]'hlt).toNat : Int) == 58) = true := by rw [beq_iff_eq]; omega
        by_cases hp : p < 0
        · have H2 : Hid (St 58 s (k + 1) (n + 1) k) := St.hit0 H.out hlt hc hp
          clear H
          go_wp2
          exact ⟨⟨k + 1, n + 1, k, by omega, by go_num, rfl, rfl, H2, by omega, by omega, by omega, by omega⟩, by simp only [intOf]; omega⟩
        · have H2 : Hid (St 58 s (k + 1) (n + 1) p) := St.hit1 H.out hlt hc hp
          clear H
          go_wp2
          exact ⟨⟨k + 1, n + 1, p, by omega, by go_num, rfl, rfl, H2, by omega, by omega, by omega, by omega⟩, by simp only [intOf]; omega⟩
      · have hcb : (((s[k]'hlt).toNat : Int) == 58) = false := by rw [beq_eq_false_iff_ne]; omega
        have H2 : Hid (St 58 s (k + 1) n p) := St.miss H.out hlt hc
        clear H
        go_wp2
        exact ⟨⟨k + 1, n, p, by omega, by go_num, rfl, rfl, H2, by omega, by omega, by omega, by omega⟩, by simp only [intOf]; omega⟩
    · obtain rfl : k = s.size := by omega
      rcases obj_fin fm s n p H.out with ⟨h1, h2⟩ | ⟨h1, j, h2, h3, h4, h5, h6⟩
      · have hnb : (n == 1) = false := by rw [beq_eq_false_iff_ne]; exact h1
        have H2 : Hid (objOk fm s = false) := h2
        clear H h2
        go_wp2
        refine bodyPost_ret (v := .tuple #[.string ⟨#[]⟩, .string ⟨#[]⟩, .bool false]) (by simp [results, Tryf.results15, go_sem]) rfl ⟨?_, Below.refl _ _⟩
        rw [H2.out]; rfl
      · subst h1 h2
        have H4 : Hid (cutA 58 s = s.extract 0 j) := h4
        have H5 : Hid (cutB 58 s = s.extract (j + 1) s.size) := h5
        have H6 : Hid (objOk fm s = (partOk fm false (s.extract 0 j) && partOk fm false (s.extract (j + 1) s.size))) := h6
        have hx := extract_le s 0 j
        have hy := extract_le s (j + 1) s.size
        have n1 := fun w => hN (s.extract 0 j) w (by omega)
        have n2 := fun w => hN (s.extract (j + 1) s.size) w (by omega)
        clear H h4 h5 h6 hN hx hy
        cases e1 : partOk fm false (s.extract 0 j)
        · rw [e1] at n1 H6
          go_wp2_with (go_at_call 11; refine (n1 _).mono ?_; rintro e w1 ⟨rfl, hb1⟩)
          refine bodyPost_ret (v := .tuple #[.string ⟨#[]⟩, .string ⟨#[]⟩, .bool false]) (by simp [results, Tryf.results15, go_sem]) rfl ⟨?_, hb1⟩
          rw [H6.out]; rfl
        · rw [e1] at n1 H6
          cases e2 : partOk fm false (s.extract (j + 1) s.size)
          · rw [e2] at n2 H6
            go_wp2_with (go_at_call 11; first | ((with_reducible refine (n1 _).mono ?_); rintro e w1 ⟨rfl, hb1⟩) | ((with_reducible refine (n2 _).mono ?_); rintro e w2 ⟨rfl, hb2⟩))
            refine bodyPost_ret (v := .tuple #[.string ⟨#[]⟩, .string ⟨#[]⟩, .bool false]) (by simp [results, Tryf.results15, go_sem]) rfl ⟨?_, hb1.trans (hb2.mono hb1.size)⟩
            rw [H6.out]; rfl
          · rw [e2] at n2 H6
            go_wp2_with (go_at_call 11; first | ((with_reducible refine (n1 _).mono ?_); rintro e w1 ⟨rfl, hb1⟩) | ((with_reducible refine (n2 _).mono ?_); rintro e w2 ⟨rfl, hb2⟩))
            refine bodyPost_ret (v := .tuple #[.string (s.extract 0 j), .string (s.extract (j + 1) s.size), .bool true]) (by simp [results, Tryf.results15, go_sem]) rfl ⟨?_, hb1.trans (hb2.mono hb1.size)⟩
            rw [H6.out, H4.out, H5.out]; rfl
end Go.Proofs.Qxb6606252aFmt
