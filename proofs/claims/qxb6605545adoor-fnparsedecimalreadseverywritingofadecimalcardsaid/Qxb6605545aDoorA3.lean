/-
  THE WALK of ZZparseDecimal: the struct handed out as plain fields.
-/
import Derived.Test.Qxb6605545aDoorA2
namespace Go.Proofs.Qxb6605545aDoor
open Go.RowKit

/-- The answer as the program's four results. -/
def fourOf (x : Bool × Bool × List UInt8 × List UInt8) : Value := .tuple #[.bool x.2.1, .string ⟨x.2.2.1.toArray⟩, .string ⟨x.2.2.2.toArray⟩, .bool x.1]

set_option maxHeartbeats 800000 in
theorem zzparse_any (s : ByteArray) (w : World) (h : HasMax w) (hs : s.size ≤ 2097152) :
    Calls Tryd.prog 8 #[.string s] w fun e w' => e = .returned (fourOf (parseL s.data.toList)) ∧ Below w.heap.size w w' := by
  have hc := parse_any s w h hs
  generalize parseL s.data.toList = x at hc ⊢
  obtain ⟨ok, neg, c1, c2⟩ := x
  unfold pairOf at hc
  unfold fourOf
  simp only at hc ⊢
  generalize (⟨c1.toArray⟩ : ByteArray) = C1 at hc ⊢
  generalize (⟨c2.toArray⟩ : ByteArray) = C2 at hc ⊢
  go_enter Tryd.func8, Tryd.ntmps8
  go_wp2_with (go_at_call 17; refine hc.mono ?_; rintro e w1 ⟨rfl, hb⟩)
  go_region
  go_wp2
  refine bodyPost_ret (v := .tuple #[.bool neg, .string C1, .string C2, .bool ok]) (by simp [results, Tryd.results8, go_sem]) rfl ⟨rfl, ?_⟩
  exact ((hb.alloc hb.size _).drew)
end Go.Proofs.Qxb6605545aDoor
