/-
  THE WALK OF FnPairSearchStartTwiceMarksOnce INSIDE ITS DOMAIN: each callee by its contract, the memory of the call's own as a pile.
-/
import Derived.Test.Qxb6615765aSearch
import Derived.Test.Qxb6615765aCompare
import Derived.Test.Qxb6615765aBytes
namespace Go.Proofs.Qxb6615765a
open Go.RowKit
set_option linter.unusedVariables false

theorem set_twice (l : List Int) (n : Nat) (x : Int) : (l.set n x).set n x = l.set n x := by simp

set_option maxHeartbeats 4000000 in
set_option maxRecDepth 40000 in
theorem twice_main (a0 a1 a2 a3 : Option Addr) (l0 l1 l2 l3 c0 c1 c2 c3 : Nat) (z0 z1 z2 z3 : List Int) (x : Int) (n : Nat) (w : World)
    (r0 : IsRow .i32 w a0 l0 c0 z0) (r1 : IsRow .i32 w a1 l1 c1 z1) (r2 : IsRow .i32 w a2 l2 c2 z2) (r3 : IsRow .i64 w a3 l3 c3 z3)
    (hs : l0 + l1 + l2 + l3 ≤ 1048576) (g0 : l0 ≤ 65536) (g1 : l1 ≤ 65536) (g2 : l2 ≤ 65536) (g3 : l3 ≤ 32768) (n0 : n < l0) (n1 : n < l1) :
    Calls Try.prog 5 #[.slice a0 l0 c0, .slice a1 l1 c1, .slice a2 l2 c2, .slice a3 l3 c3, .int .i64 x, .int .i64 n] w fun e w' => e = .returned (.bool true) ∧ Below w.heap.size w w' := by
  have t0 := (Src.of_arg r0 (Below.refl _ w)).2
  have t1 := (Src.of_arg r1 (Below.refl _ w)).2
  have t2 := (Src.of_arg r2 (Below.refl _ w)).2
  have t3 := (Src.of_arg r3 (Below.refl _ w)).2
  have R0 : Hid (IsRow .i32 w a0 l0 c0 z0) := r0
  have R1 : Hid (IsRow .i32 w a1 l1 c1 z1) := r1
  have R2 : Hid (IsRow .i32 w a2 l2 c2 z2) := r2
  have R3 : Hid (IsRow .i64 w a3 l3 c3 z3) := r3
  clear r0 r1 r2 r3
  have b1 : decide ((n : Int) < 0) = false := decide_eq_false (by omega)
  have b2 : decide ((l0 : Int) ≤ (n : Int)) = false := decide_eq_false (by omega)
  have b3 : decide ((l1 : Int) ≤ (n : Int)) = false := decide_eq_false (by omega)
  have T0 : Hid ((z0.take l0).length = l0) := t0
  have T1 : Hid ((z1.take l1).length = l1) := t1
  have T2 : Hid ((z2.take l2).length = l2) := t2
  have T3 : Hid ((z3.take l3).length = l3) := t3
  clear t0 t1 t2 t3
  go_enter Try.func5, Try.ntmps5
  go_wp2_with fail
  refine (bytes6_yes _ _ _ _ _ _ _ _ _ _ _ _ _ _ _ (by omega)).mono ?_
  rintro e w' ⟨rfl, rfl⟩
  go_wp2_with fail
  refine (clone32_arg (Pile.start _) _ _ _ z0 (by omega) R0.out).mono ?_
  rintro e u1 ⟨d0, rfl, p1⟩
  go_wp2_with fail
  refine (clone32_arg p1 _ _ _ z1 (by omega) R1.out).mono ?_
  rintro e u2 ⟨q0, rfl, p2⟩
  clear p1
  go_wp2_with fail
  refine (clone32_arg p2 _ _ _ z2 (by omega) R2.out).mono ?_
  rintro e u3 ⟨k0, rfl, p3⟩
  clear p2
  go_wp2_with fail
  refine (clone64_arg p3 _ _ _ z3 (by omega) R3.out).mono ?_
  rintro e u4 ⟨j0, rfl, p4⟩
  clear p3 R0 R1 R2 R3
  have h0 : (z0.take l0).length ≤ 1000000 := by rw [T0.out]; omega
  have h1 : (z1.take l1).length ≤ 1000000 := by rw [T1.out]; omega
  have h2 : (z2.take l2).length ≤ 1000000 := by rw [T2.out]; omega
  have h3 : (z3.take l3).length ≤ 1000000 := by rw [T3.out]; omega
  have hn0 : n < (z0.take l0).length := by rw [T0.out]; omega
  have hn1 : n < (z1.take l1).length := by rw [T1.out]; omega
  have h3' : (z3.take l3).length ≤ 32768 := by rw [T3.out]; omega
  clear T0 T1 T2 T3
  generalize z0.take l0 = D at *
  generalize z1.take l1 = P at *
  generalize z2.take l2 = C at *
  generalize z3.take l3 = Q at *
  have p4' : Pile w' u4 [⟨d0, 21, .i32, D⟩, ⟨q0, 21, .i32, P⟩, ⟨k0, 21, .i32, C⟩, ⟨j0, 3, .i64, Q⟩] [] := p4
  clear p4
  -- the first search: its four rows, its box
  go_wp2_with fail
  refine (clone32_row p4' 0 d0 D rfl h0).mono ?_
  rintro e u5 ⟨d1, rfl, p5⟩
  clear p4'
  go_wp2_with fail
  refine (clone32_row p5 1 q0 P rfl h1).mono ?_
  rintro e u6 ⟨q1, rfl, p6⟩
  clear p5
  go_wp2_with fail
  refine (clone32_row p6 2 k0 C rfl h2).mono ?_
  rintro e u7 ⟨k1, rfl, p7⟩
  clear p6
  go_wp2_with fail
  refine (clone64_row p7 3 j0 Q rfl h3).mono ?_
  rintro e u8 ⟨j1, rfl, p8⟩
  clear p7
  go_wp2_with fail
  refine (new_any p8 4 5 6 7 d1 q1 k1 j1 x rfl rfl rfl rfl).mono ?_
  rintro e u9 ⟨s1, rfl, p9⟩
  clear p8
  -- the second
  go_wp2_with fail
  refine (clone32_row p9 0 d0 D rfl h0).mono ?_
  rintro e u10 ⟨d2, rfl, p10⟩
  clear p9
  go_wp2_with fail
  refine (clone32_row p10 1 q0 P rfl h1).mono ?_
  rintro e u11 ⟨q2, rfl, p11⟩
  clear p10
  go_wp2_with fail
  refine (clone32_row p11 2 k0 C rfl h2).mono ?_
  rintro e u12 ⟨k2, rfl, p12⟩
  clear p11
  go_wp2_with fail
  refine (clone64_row p12 3 j0 Q rfl h3).mono ?_
  rintro e u13 ⟨j2, rfl, p13⟩
  clear p12
  go_wp2_with fail
  refine (new_any p13 8 9 10 11 d2 q2 k2 j2 x rfl rfl rfl rfl).mono ?_
  rintro e u14 ⟨s2, rfl, p14⟩
  clear p13
  have p14' : Pile w' u14 [⟨d0, 21, .i32, D⟩, ⟨q0, 21, .i32, P⟩, ⟨k0, 21, .i32, C⟩, ⟨j0, 3, .i64, Q⟩, ⟨d1, 21, .i32, D⟩, ⟨q1, 21, .i32, P⟩, ⟨k1, 21, .i32, C⟩, ⟨j1, 3, .i64, Q⟩, ⟨d2, 21, .i32, D⟩, ⟨q2, 21, .i32, P⟩, ⟨k2, 21, .i32, C⟩, ⟨j2, 3, .i64, Q⟩]
      [⟨s1, #[d1, q1, k1, j1, .int .i64 x]⟩, ⟨s2, #[d2, q2, k2, j2, .int .i64 x]⟩] := p14
  clear p14
  -- the three starts
  go_wp2_with fail
  refine (start_any p14' 4 5 7 0 s1 n d1 q1 k1 j1 (.int .i64 x) D P Q rfl rfl rfl rfl (by decide) (by decide) (by decide) hn0 hn1 h0 h1 h3).mono ?_
  rintro e u15 ⟨rfl, j3, p15⟩
  clear p14'
  go_wp2_with fail
  refine (start_any p15 8 9 11 1 s2 n d2 q2 k2 j2 (.int .i64 x) D P Q rfl rfl rfl rfl (by decide) (by decide) (by decide) hn0 hn1 h0 h1 h3).mono ?_
  rintro e u16 ⟨rfl, j4, p16⟩
  clear p15
  have p16' : Pile w' u16 [⟨d0, 21, .i32, D⟩, ⟨q0, 21, .i32, P⟩, ⟨k0, 21, .i32, C⟩, ⟨j0, 3, .i64, Q⟩, ⟨d1, 21, .i32, D.set n 0⟩, ⟨q1, 21, .i32, P.set n (-1)⟩, ⟨k1, 21, .i32, C⟩, ⟨j3, 3, .i64, Q ++ [(n : Int)]⟩, ⟨d2, 21, .i32, D.set n 0⟩, ⟨q2, 21, .i32, P.set n (-1)⟩, ⟨k2, 21, .i32, C⟩, ⟨j4, 3, .i64, Q ++ [(n : Int)]⟩]
      [⟨s1, #[d1, q1, k1, j3, .int .i64 x]⟩, ⟨s2, #[d2, q2, k2, j4, .int .i64 x]⟩] := p16
  clear p16
  go_wp2_with fail
  refine (start_any p16' 8 9 11 1 s2 n d2 q2 k2 j4 (.int .i64 x) (D.set n 0) (P.set n (-1)) (Q ++ [(n : Int)]) rfl rfl rfl rfl (by decide) (by decide) (by decide) (by simpa using hn0) (by simpa using hn1) (by simpa using h0) (by simpa using h1) (by simp; omega)).mono ?_
  rintro e u17 ⟨rfl, j5, p17⟩
  clear p16'
  rw [set_twice D n 0, set_twice P n (-1)] at p17
  have p18' : Pile w' u17 [⟨d0, 21, .i32, D⟩, ⟨q0, 21, .i32, P⟩, ⟨k0, 21, .i32, C⟩, ⟨j0, 3, .i64, Q⟩, ⟨d1, 21, .i32, D.set n 0⟩, ⟨q1, 21, .i32, P.set n (-1)⟩, ⟨k1, 21, .i32, C⟩, ⟨j3, 3, .i64, Q ++ [(n : Int)]⟩, ⟨d2, 21, .i32, D.set n 0⟩, ⟨q2, 21, .i32, P.set n (-1)⟩, ⟨k2, 21, .i32, C⟩, ⟨j5, 3, .i64, Q ++ [(n : Int)] ++ [(n : Int)]⟩]
      [⟨s1, #[d1, q1, k1, j3, .int .i64 x]⟩, ⟨s2, #[d2, q2, k2, j5, .int .i64 x]⟩] := p17
  clear p17
  -- the fields, and the comparisons
  go_wp2_with fail
  refine (fields_any p18' 0 s1 d1 q1 k1 j3 (.int .i64 x) rfl).mono ?_
  rintro e u19 ⟨rfl, p19⟩
  clear p18'
  go_wp2_with fail
  refine (fields_any p19 1 s2 d2 q2 k2 j5 (.int .i64 x) rfl).mono ?_
  rintro e u20 ⟨rfl, p20⟩
  clear p19
  go_wp2_with fail
  refine (same_any p20 4 8 d1 d2 _ rfl rfl (by simpa using h0)).mono ?_
  rintro e u21 ⟨rfl, p21⟩
  clear p20
  go_wp2_with fail
  refine (same_any p21 5 9 q1 q2 _ rfl rfl (by simpa using h1)).mono ?_
  rintro e u22 ⟨rfl, p22⟩
  clear p21
  go_wp2_with fail
  refine (marked_any p22 4 0 n n 0 d1 d0 _ D rfl rfl (set_twice D n 0).symm h0 hn0 hn0).mono ?_
  rintro e u23 ⟨rfl, p23⟩
  clear p22
  go_wp2_with fail
  refine (marked_any p23 5 1 n n (-1) q1 q0 _ P rfl rfl (set_twice P n (-1)).symm h1 hn1 hn1).mono ?_
  rintro e u24 ⟨rfl, p24⟩
  clear p23
  go_wp2_with fail
  refine (same_any p24 6 2 k1 k0 C rfl rfl h2).mono ?_
  rintro e u25 ⟨rfl, p25⟩
  clear p24
  go_wp2_with fail
  refine (same_any p25 10 2 k2 k0 C rfl rfl h2).mono ?_
  rintro e u26 ⟨rfl, p26⟩
  clear p25
  have p27 := p26.lit [(n : Int)] (by simp)
  clear p26
  go_wp2_with fail
  refine (queued_any p27 7 3 12 j3 j0 _ _ Q _ rfl rfl rfl (by simp) h3 (by simp) (by simp)).mono ?_
  rintro e u28 ⟨rfl, p28⟩
  clear p27
  have p29 := p28.lit [(n : Int), (n : Int)] (by simp)
  clear p28
  go_wp2_with fail
  refine (queued_any p29 11 3 13 j5 j0 _ _ Q _ rfl rfl rfl (by simp) h3 (by simp) (by simp)).mono ?_
  rintro e u30 ⟨rfl, p30⟩
  clear p29
  go_wp2
  go_ret
  exact ⟨rfl, p30.bel⟩
end Go.Proofs.Qxb6615765a
