/-
  THE WALK of the law's own zzValidUTF8.
-/
import Derived.Test.Qxb6606252aFmtZp
import Derived.Test.Qxb6606252aFmtProg
import Derived.WalkKit
import Derived.BigCall
namespace Go.Proofs.Qxb6606252aFmt
open Go.RowKit

theorem and192F : ∀ b : Fin 256, bits BinOp.and IntKind.u8 ((b.val : Nat) : Int) 192 = ((b.val / 64 * 64 : Nat) : Int) := by decide +kernel
theorem and63F : ∀ b : Fin 256, bits BinOp.and IntKind.u8 ((b.val : Nat) : Int) 63 = ((b.val % 64 : Nat) : Int) := by decide +kernel
theorem and192 (b : UInt8) : bits BinOp.and IntKind.u8 (b.toNat : Int) 192 = ((b.toNat / 64 * 64 : Nat) : Int) := and192F ⟨b.toNat, b.toNat_lt⟩
theorem and63 (b : UInt8) : wrap32 (bits BinOp.and IntKind.u8 (b.toNat : Int) 63) = ((b.toNat % 64 : Nat) : Int) := by
  have := and63F ⟨b.toNat, b.toNat_lt⟩
  simp only at this
  rw [this]; unfold wrap32; omega
theorem or64 (x y : Nat) (hx : x < 33554432) (hy : y < 64) : bits BinOp.or IntKind.i32 ((x : Int) * 64) (y : Int) = ((x * 64 + y : Nat) : Int) := by
  have e1 : BitVec.ofInt IntKind.i32.bits ((x : Int) * 64) = BitVec.ofNat 32 (x * 64) := by
    rw [show ((x : Int) * 64) = ((x * 64 : Nat) : Int) by omega]; exact BitVec.ofInt_natCast ..
  have e2 : BitVec.ofInt IntKind.i32.bits (y : Int) = BitVec.ofNat 32 y := BitVec.ofInt_natCast ..
  have e3 : x * 64 ||| y = x * 64 + y := by
    have := Nat.two_pow_add_eq_or_of_lt (i := 6) hy x
    rw [Nat.mul_comm x 64]; exact this.symm
  simp only [bits, e1, e2]
  show IntKind.i32.wrap ((BitVec.ofNat 32 (x * 64) ||| BitVec.ofNat 32 y).toNat : Int) = _
  rw [BitVec.toNat_or, BitVec.toNat_ofNat, BitVec.toNat_ofNat, Nat.mod_eq_of_lt (by omega), Nat.mod_eq_of_lt (by omega), e3]
  simp [IntKind.wrap, IntKind.signed, IntKind.bits]
  omega
theorem cont_no (b : UInt8) (h : b.toNat / 64 ≠ 2) : (bits BinOp.and IntKind.u8 (b.toNat : Int) 192 != 128) = true := by
  rw [and192]; simp; omega
theorem cont_yes (b : UInt8) (h : b.toNat / 64 = 2) : (bits BinOp.and IntKind.u8 (b.toNat : Int) 192 != 128) = false := by
  rw [and192, h]; rfl

theorem low6 (b : UInt8) : ∃ m : Nat, Hid (m = b.toNat % 64) ∧ m < 64 ∧ wrap32 (bits BinOp.and IntKind.u8 (b.toNat : Int) 63) = (m : Int) := ⟨_, rfl, by omega, and63 b⟩
theorem join16 (c m : Nat) (hm : m < 64) : ∃ v : Nat, Hid (v = c % 16 * 64 + m) ∧ v < 1024 ∧ bits BinOp.or IntKind.i32 ((c : Int) % 16 * 64) (m : Int) = (v : Int) :=
  ⟨_, rfl, by omega, by have := or64 (c % 16) m (by omega) hm; rw [← this]; congr 1⟩
theorem join8 (c m : Nat) (hm : m < 64) : ∃ v : Nat, Hid (v = c % 8 * 64 + m) ∧ v < 512 ∧ bits BinOp.or IntKind.i32 ((c : Int) % 8 * 64) (m : Int) = (v : Int) :=
  ⟨_, rfl, by omega, by have := or64 (c % 8) m (by omega) hm; rw [← this]; congr 1⟩
theorem sum3 {c b1 b2 m1 m2 v1 v2 : Nat} (h1 : m1 = b1 % 64) (h2 : m2 = b2 % 64) (h3 : v1 = c % 16 * 64 + m1) (h4 : v2 = v1 * 64 + m2) : v2 = c % 16 * 4096 + b1 % 64 * 64 + b2 % 64 := by omega
theorem sum4 {c b1 b2 b3 m1 m2 m3 v1 v2 v3 : Nat} (h1 : m1 = b1 % 64) (h2 : m2 = b2 % 64) (h2' : m3 = b3 % 64) (h3 : v1 = c % 8 * 64 + m1) (h4 : v2 = v1 * 64 + m2) (h5 : v3 = v2 * 64 + m3) : v3 = c % 8 * 262144 + b1 % 64 * 4096 + b2 % 64 * 64 + b3 % 64 := by omega
theorem joinV (u m B : Nat) (hu : u < B) (hB : B ≤ 33554432) (hm : m < 64) : ∃ v : Nat, Hid (v = u * 64 + m) ∧ v < B * 64 ∧ bits BinOp.or IntKind.i32 ((u : Int) * 64) (m : Int) = (v : Int) :=
  ⟨_, rfl, by omega, or64 u m (by omega) hm⟩

set_option maxHeartbeats 3200000 in
set_option maxRecDepth 100000 in
theorem zzValid_any (s : ByteArray) (w : World) (hs : s.size ≤ 2000000) :
    Calls Tryf.prog 18 #[.string s] w fun e w' => e = .returned (.bool (Lib.validD s.data.toList)) ∧ w' = w := by
  rw [valid_eq]
  go_enter Tryf.func18, Tryf.ntmps18
  go_wp2
  go_loop [3] (fun i => ∃ pos fuel : Nat, i = .int .i64 pos ∧ Hid (vFrom s fuel pos = vFrom s s.size 0) ∧ s.size ≤ pos + fuel ∧ pos ≤ s.size) (fun i => s.size - (intOf i).toNat)
  case atStart => exact ⟨0, s.size, rfl, rfl, by omega, by omega⟩
  case round =>
    obtain ⟨pos, fuel, rfl, hv, hfu, hle⟩ := hrel
    by_cases hps : pos < s.size
    · obtain ⟨f, rfl⟩ : ∃ f, fuel = f + 1 := ⟨fuel - 1, by omega⟩
      have hg := get_of s pos hps
      by_cases h1 : (s[pos]'hps).toNat < 128
      · have hd := decode_ascii s pos hps h1
        have hv2 : Hid (vFrom s f (pos + 1) = vFrom s s.size 0) := by
          show _ = _
          rw [← hv.out, vFrom_good s f pos hps _ _ hd (by omega)]
        clear hv hd hg
        go_wp2
        go_round
        case rel => exact ⟨pos + 1, f, by go_num, hv2, by omega, by omega⟩
        case measure => simp only [intOf]; omega
      by_cases h2 : 194 ≤ (s[pos]'hps).toNat ∧ (s[pos]'hps).toNat ≤ 223
      · by_cases hsh : s.size ≤ pos + 1
        · have hz : Hid (vFrom s s.size 0 = false) := by
            show _ = _
            rw [← hv.out, vFrom_bad s f pos hps (dec_short s pos _ 1 1 rfl (by rw [hg]; omega) (by omega) (by omega) (.inl hsh))]
          clear hv hg
          go_wp2
          go_ret
          exact ⟨by rw [hz.out]; rfl, rfl⟩
        have hb1 : pos + 1 < s.size := by omega
        have hg1 := get_of s (pos + 1) hb1
        by_cases hk : (s[pos + 1]'hb1).toNat / 64 = 2
        · have hd := dec_two s pos _ _ rfl (by rw [hg]; exact h2) hb1 (by rw [hg1]) hk
          have hv2 : Hid (vFrom s f (pos + 2) = vFrom s s.size 0) := by
            show _ = _
            rw [← hv.out, vFrom_good s f pos hps _ _ hd (by omega)]
          have hc1 := cont_yes _ hk
          clear hg hv hg1 hd hk
          go_wp2
          refine wp_loop_rounds 2 ?_
          rw [rounds_succ]
          go_wp2
          rw [rounds_succ]
          go_wp2
          exact ⟨⟨pos + 2, f, by go_num, hv2, by omega, by omega⟩, by simp only [intOf]; omega⟩
        · have hz : Hid (vFrom s s.size 0 = false) := by
            show _ = _
            rw [← hv.out, vFrom_bad s f pos hps (dec_short s pos _ 1 1 rfl (by rw [hg]; omega) (by omega) (by omega) (.inr (by rw [hg1]; exact hk)))]
          have hc1 := cont_no _ hk
          clear hg hv hg1 hk
          go_wp2
          refine wp_loop_rounds 1 ?_
          rw [rounds_succ]
          go_wp2
          go_ret
          exact ⟨by rw [hz.out]; rfl, rfl⟩
      by_cases h3 : 224 ≤ (s[pos]'hps).toNat ∧ (s[pos]'hps).toNat ≤ 239
      · by_cases hsh : s.size ≤ pos + 2
        · have hz : Hid (vFrom s s.size 0 = false) := by
            show _ = _
            rw [← hv.out, vFrom_bad s f pos hps (dec_short s pos _ 2 2 rfl (by rw [hg]; omega) (by omega) (by omega) (.inl hsh))]
          clear hv hg
          go_wp2
          go_ret
          exact ⟨by rw [hz.out]; rfl, rfl⟩
        have hb1 : pos + 1 < s.size := by omega
        have hg1 := get_of s (pos + 1) hb1
        have hb2 : pos + 2 < s.size := by omega
        have hg2 := get_of s (pos + 2) hb2
        by_cases hk1 : (s[pos + 1]'hb1).toNat / 64 = 2
        case neg =>
          have hz : Hid (vFrom s s.size 0 = false) := by
            show _ = _
            rw [← hv.out, vFrom_bad s f pos hps (dec_short s pos _ 2 1 rfl (by rw [hg]; omega) (by omega) (by omega) (.inr (by rw [hg1]; exact hk1)))]
          have hc1 := cont_no _ hk1
          clear hg1 hg2 hk1
          clear hv hg
          go_wp2
          refine wp_loop_rounds 1 ?_
          rw [rounds_succ]
          go_wp2
          go_ret
          exact ⟨by rw [hz.out]; rfl, rfl⟩
        have hc1 := cont_yes _ hk1
        obtain ⟨m1, hm1, lt1, hw1⟩ := low6 (s[pos + 1]'hb1)
        obtain ⟨v1, hv1, lv1, hj1⟩ := join16 (s[pos]'hps).toNat m1 lt1
        by_cases hk2 : (s[pos + 2]'hb2).toNat / 64 = 2
        case neg =>
          have hz : Hid (vFrom s s.size 0 = false) := by
            show _ = _
            rw [← hv.out, vFrom_bad s f pos hps (dec_short s pos _ 2 2 rfl (by rw [hg]; omega) (by omega) (by omega) (.inr (by rw [hg2]; exact hk2)))]
          have hc2 := cont_no _ hk2
          clear hg1 hg2 hk2 hk1
          clear hv hg
          go_wp2
          refine wp_loop_rounds 2 ?_
          rw [rounds_succ]
          go_wp2
          rw [rounds_succ]
          go_wp2
          go_ret
          exact ⟨by rw [hz.out]; rfl, rfl⟩
        have hc2 := cont_yes _ hk2
        obtain ⟨m2, hm2, lt2, hw2⟩ := low6 (s[pos + 2]'hb2)
        obtain ⟨v2, hv2, lv2, hj2⟩ := joinV v1 m2 _ lv1 (by decide) lt2
        have hd := dec_three s pos _ _ _ v2 rfl (by rw [hg]; exact h3) hb2 (by rw [hg1]) hk1 (by rw [hg2]) hk2 (sum3 hm1.out hm2.out (hg ▸ hv1.out) hv2.out)
        by_cases hbad : v2 < 2048 ∨ (55296 ≤ v2 ∧ v2 ≤ 57343)
        · rw [if_pos hbad] at hd
          have hz : Hid (vFrom s s.size 0 = false) := by
            show _ = _
            rw [← hv.out, vFrom_bad s f pos hps hd]
          clear hv hg hg1 hg2 hd hm1 hm2 hv1 hv2 hk1 hk2
          go_wp2
          refine wp_loop_rounds 3 ?_
          rw [rounds_succ]
          go_wp2
          rw [rounds_succ]
          go_wp2
          rw [rounds_succ]
          go_wp2
          all_goals go_ret
          all_goals exact ⟨by rw [hz.out]; rfl, rfl⟩
        · rw [if_neg hbad] at hd
          have hv2' : Hid (vFrom s f (pos + 3) = vFrom s s.size 0) := by
            show _ = _
            rw [← hv.out, vFrom_good s f pos hps _ _ hd (by omega)]
          clear hv hg hg1 hg2 hd hm1 hm2 hv1 hv2 hk1 hk2
          go_wp2
          refine wp_loop_rounds 3 ?_
          rw [rounds_succ]
          go_wp2
          rw [rounds_succ]
          go_wp2
          rw [rounds_succ]
          go_wp2
          all_goals exact ⟨⟨pos + 3, f, by go_num, hv2', by omega, by omega⟩, by simp only [intOf]; omega⟩
      by_cases h4 : 240 ≤ (s[pos]'hps).toNat ∧ (s[pos]'hps).toNat ≤ 244
      · by_cases hsh : s.size ≤ pos + 3
        · have hz : Hid (vFrom s s.size 0 = false) := by
            show _ = _
            rw [← hv.out, vFrom_bad s f pos hps (dec_short s pos _ 3 3 rfl (by rw [hg]; omega) (by omega) (by omega) (.inl hsh))]
          clear hv hg
          go_wp2
          go_ret
          exact ⟨by rw [hz.out]; rfl, rfl⟩
        have hb1 : pos + 1 < s.size := by omega
        have hg1 := get_of s (pos + 1) hb1
        have hb2 : pos + 2 < s.size := by omega
        have hg2 := get_of s (pos + 2) hb2
        have hb3 : pos + 3 < s.size := by omega
        have hg3 := get_of s (pos + 3) hb3
        by_cases hk1 : (s[pos + 1]'hb1).toNat / 64 = 2
        case neg =>
          have hz : Hid (vFrom s s.size 0 = false) := by
            show _ = _
            rw [← hv.out, vFrom_bad s f pos hps (dec_short s pos _ 3 1 rfl (by rw [hg]; omega) (by omega) (by omega) (.inr (by rw [hg1]; exact hk1)))]
          have hc1 := cont_no _ hk1
          clear hg1 hg2 hg3 hk1
          clear hv hg
          go_wp2
          refine wp_loop_rounds 1 ?_
          rw [rounds_succ]
          go_wp2
          go_ret
          exact ⟨by rw [hz.out]; rfl, rfl⟩
        have hc1 := cont_yes _ hk1
        obtain ⟨m1, hm1, lt1, hw1⟩ := low6 (s[pos + 1]'hb1)
        obtain ⟨v1, hv1, lv1, hj1⟩ := join8 (s[pos]'hps).toNat m1 lt1
        by_cases hk2 : (s[pos + 2]'hb2).toNat / 64 = 2
        case neg =>
          have hz : Hid (vFrom s s.size 0 = false) := by
            show _ = _
            rw [← hv.out, vFrom_bad s f pos hps (dec_short s pos _ 3 2 rfl (by rw [hg]; omega) (by omega) (by omega) (.inr (by rw [hg2]; exact hk2)))]
          have hc2 := cont_no _ hk2
          clear hg1 hg2 hg3 hk2 hk1
          clear hv hg
          go_wp2
          refine wp_loop_rounds 2 ?_
          rw [rounds_succ]
          go_wp2
          rw [rounds_succ]
          go_wp2
          go_ret
          exact ⟨by rw [hz.out]; rfl, rfl⟩
        have hc2 := cont_yes _ hk2
        obtain ⟨m2, hm2, lt2, hw2⟩ := low6 (s[pos + 2]'hb2)
        obtain ⟨v2, hv2, lv2, hj2⟩ := joinV v1 m2 _ lv1 (by decide) lt2
        by_cases hk3 : (s[pos + 3]'hb3).toNat / 64 = 2
        case neg =>
          have hz : Hid (vFrom s s.size 0 = false) := by
            show _ = _
            rw [← hv.out, vFrom_bad s f pos hps (dec_short s pos _ 3 3 rfl (by rw [hg]; omega) (by omega) (by omega) (.inr (by rw [hg3]; exact hk3)))]
          have hc3 := cont_no _ hk3
          clear hg1 hg2 hg3 hk3 hk1 hk2
          clear hv hg
          go_wp2
          refine wp_loop_rounds 3 ?_
          rw [rounds_succ]
          go_wp2
          rw [rounds_succ]
          go_wp2
          rw [rounds_succ]
          go_wp2
          go_ret
          exact ⟨by rw [hz.out]; rfl, rfl⟩
        have hc3 := cont_yes _ hk3
        obtain ⟨m3, hm3, lt3, hw3⟩ := low6 (s[pos + 3]'hb3)
        obtain ⟨v3, hv3, lv3, hj3⟩ := joinV v2 m3 _ lv2 (by decide) lt3
        have hd := dec_four s pos _ _ _ _ v3 rfl (by rw [hg]; exact h4) hb3 (by rw [hg1]) hk1 (by rw [hg2]) hk2 (by rw [hg3]) hk3 (sum4 hm1.out hm2.out hm3.out (hg ▸ hv1.out) hv2.out hv3.out)
        by_cases hbad : v3 < 65536 ∨ 1114111 < v3
        · rw [if_pos hbad] at hd
          have hz : Hid (vFrom s s.size 0 = false) := by
            show _ = _
            rw [← hv.out, vFrom_bad s f pos hps hd]
          clear hv hg hg1 hg2 hg3 hd hm1 hm2 hm3 hv1 hv2 hv3 hk1 hk2 hk3
          go_wp2
          refine wp_loop_rounds 4 ?_
          rw [rounds_succ]
          go_wp2
          rw [rounds_succ]
          go_wp2
          rw [rounds_succ]
          go_wp2
          rw [rounds_succ]
          go_wp2
          all_goals go_ret
          all_goals exact ⟨by rw [hz.out]; rfl, rfl⟩
        · rw [if_neg hbad] at hd
          have hv2' : Hid (vFrom s f (pos + 4) = vFrom s s.size 0) := by
            show _ = _
            rw [← hv.out, vFrom_good s f pos hps _ _ hd (by omega)]
          clear hv hg hg1 hg2 hg3 hd hm1 hm2 hm3 hv1 hv2 hv3 hk1 hk2 hk3
          go_wp2
          refine wp_loop_rounds 4 ?_
          rw [rounds_succ]
          go_wp2
          rw [rounds_succ]
          go_wp2
          rw [rounds_succ]
          go_wp2
          rw [rounds_succ]
          go_wp2
          all_goals exact ⟨⟨pos + 4, f, by go_num, hv2', by omega, by omega⟩, by simp only [intOf]; omega⟩
      have hz : Hid (vFrom s s.size 0 = false) := by
        show _ = _
        rw [← hv.out, vFrom_bad s f pos hps (dec_lead s pos _ rfl (by rw [hg]; omega))]
      clear hv hg
      go_wp2
      all_goals go_ret
      all_goals exact ⟨by rw [hz.out]; rfl, rfl⟩
    · have hz : Hid (vFrom s s.size 0 = true) := by
        show _ = _
        rw [← hv.out, vFrom_end s fuel pos hps]
      clear hv
      go_wp2
      go_ret
      exact ⟨by rw [hz.out]; rfl, rfl⟩
end Go.Proofs.Qxb6606252aFmt
