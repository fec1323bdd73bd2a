/-
  THE WALK OF 'ZZallowsBefore' (and the method below it): it hands back 'allowB'.
-/
import Derived.Test.Qxb6615765aProg
import Derived.Test.Qxb6615765aBits
import Derived.WalkKit
namespace Go.Proofs.Qxb6615765a
open Go.RowKit

theorem hide {p : Prop} (h : p) : Hid p := h

theorem allow_any (c : Int) (k : Nat) (h0 : 0 ≤ c) (h1 : c < 65536) (hk : k ≤ 15) (w : World) :
    Calls Try.prog 20 #[.int .u16 c, .int .u8 k] w fun e w' => e = .returned (.bool (allowB c k)) ∧ w' = w := by
  have e1 := wrap_bitk k hk
  have e2 := test_allow c k h0 h1 hk
  go_enter Try.func20, Try.ntmps20
  go_wp2
  go_ret
  exact ⟨rfl, rfl⟩
end Go.Proofs.Qxb6615765a
