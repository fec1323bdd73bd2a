/-
  THE TWO pairSearch LAWS OUTSIDE THEIR DOMAIN: they return true at once, and make nothing.
-/
import Derived.Test.Qxb6615765aBytes
import Derived.Below
namespace Go.Proofs.Qxb6615765a
open Go.RowKit
set_option linter.unusedVariables false

set_option maxHeartbeats 1000000 in
set_option maxRecDepth 20000 in
/-- Outside the law's domain it returns true at once. -/
theorem exit4 (a0 a1 a2 a3 : Option Addr) (l0 l1 l2 l3 c0 c1 c2 c3 : Nat) (x n m : Int) (w : World)
    (m0 : l0 ≤ 9223372036854775807) (m1 : l1 ≤ 9223372036854775807) (m2 : l2 ≤ 9223372036854775807) (m3 : l3 ≤ 9223372036854775807)
    (h : 1048576 < l0 + l1 + l2 + l3 ∨ 65536 < l0 ∨ 65536 < l1 ∨ 65536 < l2 ∨ 32768 < l3 ∨ n < 0 ∨ (l0 : Int) ≤ n ∨ (l1 : Int) ≤ n ∨ m < 0 ∨ (l0 : Int) ≤ m ∨ (l1 : Int) ≤ m) :
    Calls Try.prog 4 #[.slice a0 l0 c0, .slice a1 l1 c1, .slice a2 l2 c2, .slice a3 l3 c3, .int .i64 x, .int .i64 n, .int .i64 m] w fun e w' => e = .returned (.bool true) ∧ Below w.heap.size w w' := by
  by_cases hs : 1048576 < l0 + l1 + l2 + l3
  · clear h
    go_enter Try.func4, Try.ntmps4
    go_wp2_with (go_at_call 10; refine (bytes7_no _ _ _ _ _ _ _ _ _ _ _ _ _ _ _ _ (by omega) m0 m1 m2 m3).mono ?_; rintro e w' ⟨rfl, rfl⟩)
    go_ret
    exact ⟨rfl, Below.refl _ _⟩
  by_cases g0 : 65536 < l0
  · clear h
    go_enter Try.func4, Try.ntmps4
    go_wp2_with (go_at_call 10; refine (bytes7_yes _ _ _ _ _ _ _ _ _ _ _ _ _ _ _ _ (by omega)).mono ?_; rintro e w' ⟨rfl, rfl⟩)
    go_ret
    exact ⟨rfl, Below.refl _ _⟩
  by_cases g1 : 65536 < l1
  · clear h
    go_enter Try.func4, Try.ntmps4
    go_wp2_with (go_at_call 10; refine (bytes7_yes _ _ _ _ _ _ _ _ _ _ _ _ _ _ _ _ (by omega)).mono ?_; rintro e w' ⟨rfl, rfl⟩)
    go_ret
    exact ⟨rfl, Below.refl _ _⟩
  by_cases g2 : 65536 < l2
  · clear h
    go_enter Try.func4, Try.ntmps4
    go_wp2_with (go_at_call 10; refine (bytes7_yes _ _ _ _ _ _ _ _ _ _ _ _ _ _ _ _ (by omega)).mono ?_; rintro e w' ⟨rfl, rfl⟩)
    go_ret
    exact ⟨rfl, Below.refl _ _⟩
  by_cases g3 : 32768 < l3
  · clear h
    go_enter Try.func4, Try.ntmps4
    go_wp2_with (go_at_call 10; refine (bytes7_yes _ _ _ _ _ _ _ _ _ _ _ _ _ _ _ _ (by omega)).mono ?_; rintro e w' ⟨rfl, rfl⟩)
    go_ret
    exact ⟨rfl, Below.refl _ _⟩
  by_cases q0 : n < 0
  · have d0 : decide (n < 0) = true := decide_eq_true q0
    clear h
    go_enter Try.func4, Try.ntmps4
    go_wp2_with (go_at_call 10; refine (bytes7_yes _ _ _ _ _ _ _ _ _ _ _ _ _ _ _ _ (by omega)).mono ?_; rintro e w' ⟨rfl, rfl⟩)
    go_ret
    exact ⟨rfl, Below.refl _ _⟩
  have d0 : decide (n < 0) = false := decide_eq_false q0
  by_cases q1 : (l0 : Int) ≤ n
  · have d1 : decide ((l0 : Int) ≤ n) = true := decide_eq_true q1
    clear h
    go_enter Try.func4, Try.ntmps4
    go_wp2_with (go_at_call 10; refine (bytes7_yes _ _ _ _ _ _ _ _ _ _ _ _ _ _ _ _ (by omega)).mono ?_; rintro e w' ⟨rfl, rfl⟩)
    go_ret
    exact ⟨rfl, Below.refl _ _⟩
  have d1 : decide ((l0 : Int) ≤ n) = false := decide_eq_false q1
  by_cases q2 : (l1 : Int) ≤ n
  · have d2 : decide ((l1 : Int) ≤ n) = true := decide_eq_true q2
    clear h
    go_enter Try.func4, Try.ntmps4
    go_wp2_with (go_at_call 10; refine (bytes7_yes _ _ _ _ _ _ _ _ _ _ _ _ _ _ _ _ (by omega)).mono ?_; rintro e w' ⟨rfl, rfl⟩)
    go_ret
    exact ⟨rfl, Below.refl _ _⟩
  have d2 : decide ((l1 : Int) ≤ n) = false := decide_eq_false q2
  by_cases q3 : m < 0
  · have d3 : decide (m < 0) = true := decide_eq_true q3
    clear h
    go_enter Try.func4, Try.ntmps4
    go_wp2_with (go_at_call 10; refine (bytes7_yes _ _ _ _ _ _ _ _ _ _ _ _ _ _ _ _ (by omega)).mono ?_; rintro e w' ⟨rfl, rfl⟩)
    go_ret
    exact ⟨rfl, Below.refl _ _⟩
  have d3 : decide (m < 0) = false := decide_eq_false q3
  by_cases q4 : (l0 : Int) ≤ m
  · have d4 : decide ((l0 : Int) ≤ m) = true := decide_eq_true q4
    clear h
    go_enter Try.func4, Try.ntmps4
    go_wp2_with (go_at_call 10; refine (bytes7_yes _ _ _ _ _ _ _ _ _ _ _ _ _ _ _ _ (by omega)).mono ?_; rintro e w' ⟨rfl, rfl⟩)
    go_ret
    exact ⟨rfl, Below.refl _ _⟩
  have d4 : decide ((l0 : Int) ≤ m) = false := decide_eq_false q4
  have q5 : (l1 : Int) ≤ m := by omega
  have d5 : decide ((l1 : Int) ≤ m) = true := decide_eq_true q5
  clear h
  go_enter Try.func4, Try.ntmps4
  go_wp2_with (go_at_call 10; refine (bytes7_yes _ _ _ _ _ _ _ _ _ _ _ _ _ _ _ _ (by omega)).mono ?_; rintro e w' ⟨rfl, rfl⟩)
  go_ret
  exact ⟨rfl, Below.refl _ _⟩

set_option maxHeartbeats 1000000 in
set_option maxRecDepth 20000 in
/-- Outside the law's domain it returns true at once. -/
theorem exit5 (a0 a1 a2 a3 : Option Addr) (l0 l1 l2 l3 c0 c1 c2 c3 : Nat) (x n : Int) (w : World)
    (m0 : l0 ≤ 9223372036854775807) (m1 : l1 ≤ 9223372036854775807) (m2 : l2 ≤ 9223372036854775807) (m3 : l3 ≤ 9223372036854775807)
    (h : 1048576 < l0 + l1 + l2 + l3 ∨ 65536 < l0 ∨ 65536 < l1 ∨ 65536 < l2 ∨ 32768 < l3 ∨ n < 0 ∨ (l0 : Int) ≤ n ∨ (l1 : Int) ≤ n) :
    Calls Try.prog 5 #[.slice a0 l0 c0, .slice a1 l1 c1, .slice a2 l2 c2, .slice a3 l3 c3, .int .i64 x, .int .i64 n] w fun e w' => e = .returned (.bool true) ∧ Below w.heap.size w w' := by
  by_cases hs : 1048576 < l0 + l1 + l2 + l3
  · clear h
    go_enter Try.func5, Try.ntmps5
    go_wp2_with (go_at_call 19; refine (bytes6_no _ _ _ _ _ _ _ _ _ _ _ _ _ _ _ (by omega) m0 m1 m2 m3).mono ?_; rintro e w' ⟨rfl, rfl⟩)
    go_ret
    exact ⟨rfl, Below.refl _ _⟩
  by_cases g0 : 65536 < l0
  · clear h
    go_enter Try.func5, Try.ntmps5
    go_wp2_with (go_at_call 19; refine (bytes6_yes _ _ _ _ _ _ _ _ _ _ _ _ _ _ _ (by omega)).mono ?_; rintro e w' ⟨rfl, rfl⟩)
    go_ret
    exact ⟨rfl, Below.refl _ _⟩
  by_cases g1 : 65536 < l1
  · clear h
    go_enter Try.func5, Try.ntmps5
    go_wp2_with (go_at_call 19; refine (bytes6_yes _ _ _ _ _ _ _ _ _ _ _ _ _ _ _ (by omega)).mono ?_; rintro e w' ⟨rfl, rfl⟩)
    go_ret
    exact ⟨rfl, Below.refl _ _⟩
  by_cases g2 : 65536 < l2
  · clear h
    go_enter Try.func5, Try.ntmps5
    go_wp2_with (go_at_call 19; refine (bytes6_yes _ _ _ _ _ _ _ _ _ _ _ _ _ _ _ (by omega)).mono ?_; rintro e w' ⟨rfl, rfl⟩)
    go_ret
    exact ⟨rfl, Below.refl _ _⟩
  by_cases g3 : 32768 < l3
  · clear h
    go_enter Try.func5, Try.ntmps5
    go_wp2_with (go_at_call 19; refine (bytes6_yes _ _ _ _ _ _ _ _ _ _ _ _ _ _ _ (by omega)).mono ?_; rintro e w' ⟨rfl, rfl⟩)
    go_ret
    exact ⟨rfl, Below.refl _ _⟩
  by_cases q0 : n < 0
  · have d0 : decide (n < 0) = true := decide_eq_true q0
    clear h
    go_enter Try.func5, Try.ntmps5
    go_wp2_with (go_at_call 19; refine (bytes6_yes _ _ _ _ _ _ _ _ _ _ _ _ _ _ _ (by omega)).mono ?_; rintro e w' ⟨rfl, rfl⟩)
    go_ret
    exact ⟨rfl, Below.refl _ _⟩
  have d0 : decide (n < 0) = false := decide_eq_false q0
  by_cases q1 : (l0 : Int) ≤ n
  · have d1 : decide ((l0 : Int) ≤ n) = true := decide_eq_true q1
    clear h
    go_enter Try.func5, Try.ntmps5
    go_wp2_with (go_at_call 19; refine (bytes6_yes _ _ _ _ _ _ _ _ _ _ _ _ _ _ _ (by omega)).mono ?_; rintro e w' ⟨rfl, rfl⟩)
    go_ret
    exact ⟨rfl, Below.refl _ _⟩
  have d1 : decide ((l0 : Int) ≤ n) = false := decide_eq_false q1
  have q2 : (l1 : Int) ≤ n := by omega
  have d2 : decide ((l1 : Int) ≤ n) = true := decide_eq_true q2
  clear h
  go_enter Try.func5, Try.ntmps5
  go_wp2_with (go_at_call 19; refine (bytes6_yes _ _ _ _ _ _ _ _ _ _ _ _ _ _ _ (by omega)).mono ?_; rintro e w' ⟨rfl, rfl⟩)
  go_ret
  exact ⟨rfl, Below.refl _ _⟩
end Go.Proofs.Qxb6615765a
