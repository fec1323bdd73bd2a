/-
  'Rows.FnNewBitsetGrowsOneWordPer64BitsSaid' PROVED: the frame is the guide's (proof-skeleton.mjs), the walk is ours: newBitset and bsAllZero by their contracts.
-/
import Derived.Test.Qxb6615765aRows
import Derived.Test.Qxb6615765aBitset
import Derived.WalkKit
import Derived.ProofKit
import Derived.OpenShut
import Derived.ShutString
namespace Go.Proofs.Qxb6615765a.fnNewBitsetGrowsOneWordPer64Bits
open Go.ChangeShapes Go.WideShapes Go.ChangeAt Go.RowKit
open Go.ChangeMaps (open_string shut_string)
set_option linter.unusedVariables false      -- a walk need not use every 'w<i>' (that an integer argument fits its kind)

theorem own : ownKnob Try.prog.godebug = none := by kernel_rfl

/-! ### STEP 1: THE WALK: the Go text returns true. 'Grown w w'': the world has at most new blocks (Derived/RowKit3.lean). Part the cases AHEAD of 'go_enter' where a test parts the walk; take each callee by a contract of your own. -/
theorem walk (a0 : Int) (a1 : Int) (w0 : (Lit.int .i64 a0).wf = true) (w1 : (Lit.int .i64 a1).wf = true) (w : World) :
    Calls Try.prog 3 #[.int .i64 a0, .int .i64 a1] w fun e w' => e = .returned (.bool true) ∧ Grown w w' := by
  obtain ⟨n0, n1⟩ := bounds_i64 w0
  obtain ⟨q0, q1⟩ := bounds_i64 w1
  clear w0 w1
  have done : ∀ h : a0 < 0 ∨ 65536 < a0 ∨ a1 < 0 ∨ 1024 < a1, Calls Try.prog 3 #[.int .i64 a0, .int .i64 a1] w fun e w' => e = .returned (.bool true) ∧ Grown w w' := by
    intro h
    by_cases g1 : a0 < 0
    · have d1 : decide (a0 < 0) = true := decide_eq_true g1
      clear h
      go_enter Try.func3, Try.ntmps3
      go_wp2
      go_ret
      exact ⟨rfl, Grown.refl _⟩
    have d1 : decide (a0 < 0) = false := decide_eq_false g1
    by_cases g2 : 65536 < a0
    · have d2 : decide (65536 < a0) = true := decide_eq_true g2
      clear h
      go_enter Try.func3, Try.ntmps3
      go_wp2
      go_ret
      exact ⟨rfl, Grown.refl _⟩
    have d2 : decide (65536 < a0) = false := decide_eq_false g2
    by_cases g3 : a1 < 0
    · have d3 : decide (a1 < 0) = true := decide_eq_true g3
      clear h
      go_enter Try.func3, Try.ntmps3
      go_wp2
      go_ret
      exact ⟨rfl, Grown.refl _⟩
    have d3 : decide (a1 < 0) = false := decide_eq_false g3
    have g4 : 1024 < a1 := by omega
    have d4 : decide (1024 < a1) = true := decide_eq_true g4
    clear h
    go_enter Try.func3, Try.ntmps3
    go_wp2
    go_ret
    exact ⟨rfl, Grown.refl _⟩
  by_cases hout : a0 < 0 ∨ 65536 < a0 ∨ a1 < 0 ∨ 1024 < a1
  · exact done hout
  clear done
  have g1 : ¬ a0 < 0 := by omega
  have g2 : ¬ 65536 < a0 := by omega
  have g3 : ¬ a1 < 0 := by omega
  have g4 : ¬ 1024 < a1 := by omega
  have d1 : decide (a0 < 0) = false := decide_eq_false g1
  have d2 : decide (65536 < a0) = false := decide_eq_false g2
  have d3 : decide (a1 < 0) = false := decide_eq_false g3
  have d4 : decide (1024 < a1) = false := decide_eq_false g4
  clear hout
  obtain ⟨m, hm⟩ : ∃ m : Nat, (a0 + 63) / 64 = (m : Int) := ⟨((a0 + 63) / 64).toNat, by omega⟩
  obtain ⟨q, rfl⟩ := Int.eq_ofNat_of_zero_le (show 0 ≤ a1 by omega)
  have HM : Hid ((a0 + 63) / 64 = (m : Int)) := hm
  have HM2 : Hid ((a0 + 64 * (q : Int) + 63) / 64 = ((m + q : Nat) : Int)) := by show _ = _; omega
  have l1 : a0 ≤ 64 * (m : Int) := by omega
  have l2 : 64 * (m : Int) < a0 + 64 := by omega
  have hml : m ≤ 2000 := by omega
  clear hm
  have key : ∀ h : m = 0 ∨ 0 < m, Calls Try.prog 3 #[.int .i64 a0, .int .i64 (q : Int)] w fun e w' => e = .returned (.bool true) ∧ Grown w w' := by
    intro h
    rcases h with rfl | hz
    · clear hml
      go_enter Try.func3, Try.ntmps3
      go_wp2_with fail
      refine (newBitset_any a0 0 HM.out (by omega) (by omega) _).mono ?_
      rintro e w' ⟨rfl, rfl⟩
      go_wp2_with fail
      refine (newBitset_any _ (0 + q) HM2.out (by omega) (by omega) _).mono ?_
      rintro e w' ⟨rfl, rfl⟩
      go_wp2_with fail
      refine (allZero_any w.heap.size 0 _ (by omega) (fun j hj => absurd hj (Nat.not_lt_zero _))).mono ?_
      rintro e w' ⟨rfl, rfl⟩
      go_wp2_with fail
      refine (allZero_any (w.heap.size + 1) q _ (by omega) (fun j hj => zero_second w _ q j hj)).mono ?_
      rintro e w' ⟨rfl, rfl⟩
      go_wp2
      go_ret
      exact ⟨rfl, ((Grown.refl _).alloc _ _).alloc _ _⟩
    · have hzi : (0 : Int) < (m : Int) := by omega
      go_enter Try.func3, Try.ntmps3
      go_wp2_with fail
      refine (newBitset_any a0 m HM.out (by omega) (by omega) _).mono ?_
      rintro e w' ⟨rfl, rfl⟩
      go_wp2_with fail
      refine (newBitset_any _ (m + q) HM2.out (by omega) (by omega) _).mono ?_
      rintro e w' ⟨rfl, rfl⟩
      go_wp2_with fail
      refine (allZero_any w.heap.size m _ (by omega) (fun j hj => zero_first w _ m j hj)).mono ?_
      rintro e w' ⟨rfl, rfl⟩
      go_wp2_with fail
      refine (allZero_any (w.heap.size + 1) (m + q) _ (by omega) (fun j hj => zero_second w _ (m + q) j hj)).mono ?_
      rintro e w' ⟨rfl, rfl⟩
      go_wp2
      go_ret
      exact ⟨rfl, ((Grown.refl _).alloc _ _).alloc _ _⟩
  exact key (by omega)

/-! ### THE ROW's STEP: WRITTEN OUT: LEAVE IT -/
set_option maxRecDepth 100000 in
theorem lifted (os : Os) (started : os.Started) (H : Type) (enc : TypeId × Value → H) :
    ReturnsInHanded {} Try.checked os 3 .any (Rows.fnNewBitsetGrowsOneWordPer64BitsSpec.pre6 enc Try.prog Try.f3 Rows.fnNewBitsetGrowsOneWordPer64BitsRow.domain false) (Rows.fnNewBitsetGrowsOneWordPer64BitsSpec.post enc Try.prog Try.f3 false true false false) := by
  refine returnsInHanded_of_change (C := Try.checked) own started (by kernel_rfl) Try.func3
    (ChangeSpec.witness6 (enc := enc) (C := Try.checked) false ⟨#[], #[.int .i64 0, .int .i64 0], []⟩ 8 (by kernel_rfl) (by kernel_rfl) (by kernel_rfl) (by kernel_rfl)) ?_
  intro W base args ds gs before hval0 hW hcnd _
  have hval : ∀ (j : Nat) t v, Try.f3.params[j]? = some t → args[j]? = some v → Value.okWide Try.prog W .any base t v := hval0
  have hW' := hW
  obtain ⟨p, q, hA0, hV, rfl, hfz, hnd⟩ := hW
  have hA : DataW.TrodAll enc Try.prog W 0 (fun _ => true) true Try.f3.params.toList args.toList ds p := hA0
  rw [Try.params3] at hA hval
  obtain ⟨v0, vs0, d0, ds0, p0, q0, hargs, rfl, rfl, h0, r0⟩ := trodAll_cons hA
  obtain ⟨v1, vs1, d1, ds1, p1, q1, rfl, rfl, rfl, h1, r1⟩ := trodAll_cons r0
  obtain ⟨rfl, rfl, rfl⟩ := trodAll_nil r1
  obtain rfl : args = #[v0, v1] := by cases args; simp_all
  obtain ⟨rfl, rfl⟩ := trodVars_none hV
  obtain ⟨a0, rfl, rfl, rfl, w0⟩ := open_int Try.underlying3 (hval 0 3 v0 rfl rfl) h0
  obtain ⟨a1, rfl, rfl, rfl, w1⟩ := open_int Try.underlying3 (hval 1 3 v1 rfl rfl) h1
  clear hA0 hval0
  simp only [List.append_nil] at hW'
  refine (walk a0 a1 w0 w1 W).mono fun e W' ⟨he, hg⟩ => ?_
  subst he
  exact ⟨_, rfl, post_of_same (pa := []) (pv := []) hW' (fun _ _ _ => (trodAll_cons_mk (shut_bool Try.underlying4 _) trodAll_mk0)) (fun sp _ => (trodAll_cons_mk (shut_int Try.underlying3 w0) (trodAll_cons_mk (shut_int Try.underlying3 w1) trodAll_mk0))) (fun _ _ => rfl) rfl
    (hg.frame _) hg.2.1 (ok_one (by kernel_rfl) rfl (okWide_bool_mk Try.underlying4 _))⟩

theorem over : Rows.fnNewBitsetGrowsOneWordPer64BitsRow.holds Try.pinned (OpenSpec.ofChange Rows.fnNewBitsetGrowsOneWordPer64BitsSpec) :=
  OpenClaim.holds_of_wide 3 Try.f3 rfl rfl rfl rfl rfl rfl rfl ⟨rfl, rfl, rfl, rfl, rfl⟩ rfl rfl rfl rfl rfl (by kernel_rfl) Try.func3 (by kernel_rfl)
    (of_decide_eq_true (by kernel_rfl)) (by unfold Func.isWrapper; first | (rw [if_pos (by decide +kernel)]; kernel_rfl) | (rw [if_neg (by decide +kernel)]; exact ⟨rfl, rfl⟩))
    (fun os started H enc _ => lifted os started H enc)

/-- ████ THE STATEMENT ████ -/
theorem proved : Rows.FnNewBitsetGrowsOneWordPer64BitsSaid :=
  over
#print axioms proved
end Go.Proofs.Qxb6615765a.fnNewBitsetGrowsOneWordPer64Bits
