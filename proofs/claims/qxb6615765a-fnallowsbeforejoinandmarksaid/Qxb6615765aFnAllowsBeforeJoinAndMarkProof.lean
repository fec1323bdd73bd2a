/-
  'Rows.FnAllowsBeforeJoinAndMarkSaid' PROVED: the frame is the guide's (proof-skeleton.mjs), the walk is ours: each call of ZZallowsBefore by its contract.
-/
import Derived.Test.Qxb6615765aRows
import Derived.Test.Qxb6615765aAllow
import Derived.WalkKit
import Derived.ProofKit
import Derived.OpenShut
import Derived.ShutString
namespace Go.Proofs.Qxb6615765a.fnAllowsBeforeJoinAndMark
open Go.ChangeShapes Go.WideShapes Go.ChangeAt Go.RowKit
open Go.ChangeMaps (open_string shut_string)
set_option linter.unusedVariables false      -- a walk need not use every 'w<i>' (that an integer argument fits its kind)

theorem own : ownKnob Try.prog.godebug = none := by kernel_rfl

/-! ### STEP 1: THE WALK: the Go text returns true. 'Grown w w'': the world has at most new blocks (Derived/RowKit3.lean). Part the cases AHEAD of 'go_enter' where a test parts the walk; take each callee by a contract of your own. -/
theorem walk (a0 : Int) (a1 : Int) (a2 : Int) (w0 : (Lit.int .u16 a0).wf = true) (w1 : (Lit.int .u16 a1).wf = true) (w2 : (Lit.int .u8 a2).wf = true) (w : World) :
    Calls Try.prog 6 #[.int .u16 a0, .int .u16 a1, .int .u8 a2] w fun e w' => e = .returned (.bool true) ∧ Grown w w' := by
  have b0 : 0 ≤ a0 ∧ a0 < 65536 := by have := bounds_u16 w0; omega
  have b1 : 0 ≤ a1 ∧ a1 < 65536 := by have := bounds_u16 w1; omega
  have b2 : 0 ≤ a2 ∧ a2 < 256 := by have := bounds_u8 w2; omega
  obtain ⟨c0, c1⟩ := b0; obtain ⟨d0, d1⟩ := b1; obtain ⟨k0, k1⟩ := b2
  clear w0 w1 w2
  obtain ⟨k, rfl⟩ := Int.eq_ofNat_of_zero_le k0
  by_cases hk : k ≤ 15
  · have hkz : ¬ (15 : Int) < (k : Int) := by omega
    have bb := bitk_bounds k hk
    have e1 := wrap_bitk k hk
    have eor := allow_or a0 a1 k c0 c1 d0 d1
    have eclr := allow_clear a0 k c0 c1 hk
    have eset := allow_set a0 k c0 c1 hk
    obtain ⟨o1, o2⟩ := bits16_bounds .or a0 a1
    obtain ⟨o3, o4⟩ := bits16_bounds .andNot a0 (bitk k)
    obtain ⟨o5, o6⟩ := bits16_bounds .or a0 (bitk k)
    clear bb
    -- the three made contexts, each under a name (the walk rewrites by 'x1', 'x2', 'x3')
    generalize x1 : bits .or .u16 a0 a1 = y1 at eor o1 o2
    generalize x2 : bits .andNot .u16 a0 (bitk k) = y2 at eclr o3 o4
    generalize x3 : bits .or .u16 a0 (bitk k) = y3 at eset o5 o6
    cases h1 : allowB a0 k <;> cases h2 : allowB a1 k <;> simp only [h1, h2, Bool.and_true, Bool.and_false, Bool.and_self] at eor
    all_goals
      go_enter Try.func6, Try.ntmps6
      go_wp2_with (go_at_call 20; refine (allow_any _ k (by omega) (by omega) hk _).mono ?_; rintro e w' ⟨rfl, rfl⟩)
      go_ret
      exact ⟨rfl, Grown.refl _⟩
  · have hkz : (15 : Int) < (k : Int) := by omega
    go_enter Try.func6, Try.ntmps6
    go_wp2
    go_ret
    exact ⟨rfl, by repeat (first | exact Grown.refl _ | apply Grown.drew | apply Grown.alloc)⟩

/-! ### THE ROW's STEP: WRITTEN OUT: LEAVE IT -/
set_option maxRecDepth 100000 in
theorem lifted (os : Os) (started : os.Started) (H : Type) (enc : TypeId × Value → H) :
    ReturnsInHanded {} Try.checked os 6 .any (Rows.fnAllowsBeforeJoinAndMarkSpec.pre6 enc Try.prog Try.f6 Rows.fnAllowsBeforeJoinAndMarkRow.domain false) (Rows.fnAllowsBeforeJoinAndMarkSpec.post enc Try.prog Try.f6 false true false false) := by
  refine returnsInHanded_of_change (C := Try.checked) own started (by kernel_rfl) Try.func6
    (ChangeSpec.witness6 (enc := enc) (C := Try.checked) false ⟨#[], #[.int .u16 0, .int .u16 0, .int .u8 0], []⟩ 8 (by kernel_rfl) (by kernel_rfl) (by kernel_rfl) (by kernel_rfl)) ?_
  intro W base args ds gs before hval0 hW hcnd _
  have hval : ∀ (j : Nat) t v, Try.f6.params[j]? = some t → args[j]? = some v → Value.okWide Try.prog W .any base t v := hval0
  have hW' := hW
  obtain ⟨p, q, hA0, hV, rfl, hfz, hnd⟩ := hW
  have hA : DataW.TrodAll enc Try.prog W 0 (fun _ => true) true Try.f6.params.toList args.toList ds p := hA0
  rw [Try.params6] at hA hval
  obtain ⟨v0, vs0, d0, ds0, p0, q0, hargs, rfl, rfl, h0, r0⟩ := trodAll_cons hA
  obtain ⟨v1, vs1, d1, ds1, p1, q1, rfl, rfl, rfl, h1, r1⟩ := trodAll_cons r0
  obtain ⟨v2, vs2, d2, ds2, p2, q2, rfl, rfl, rfl, h2, r2⟩ := trodAll_cons r1
  obtain ⟨rfl, rfl, rfl⟩ := trodAll_nil r2
  obtain rfl : args = #[v0, v1, v2] := by cases args; simp_all
  obtain ⟨rfl, rfl⟩ := trodVars_none hV
  obtain ⟨a0, rfl, rfl, rfl, w0⟩ := open_int Try.underlying40 (hval 0 40 v0 rfl rfl) h0
  obtain ⟨a1, rfl, rfl, rfl, w1⟩ := open_int Try.underlying40 (hval 1 40 v1 rfl rfl) h1
  obtain ⟨a2, rfl, rfl, rfl, w2⟩ := open_int Try.underlying5 (hval 2 5 v2 rfl rfl) h2
  clear hA0 hval0
  simp only [List.append_nil] at hW'
  refine (walk a0 a1 a2 w0 w1 w2 W).mono fun e W' ⟨he, hg⟩ => ?_
  subst he
  exact ⟨_, rfl, post_of_same (pa := []) (pv := []) hW' (fun _ _ _ => (trodAll_cons_mk (shut_bool Try.underlying4 _) trodAll_mk0)) (fun sp _ => (trodAll_cons_mk (shut_int Try.underlying40 w0) (trodAll_cons_mk (shut_int Try.underlying40 w1) (trodAll_cons_mk (shut_int Try.underlying5 w2) trodAll_mk0)))) (fun _ _ => rfl) rfl
    (hg.frame _) hg.2.1 (ok_one (by kernel_rfl) rfl (okWide_bool_mk Try.underlying4 _))⟩

theorem over : Rows.fnAllowsBeforeJoinAndMarkRow.holds Try.pinned (OpenSpec.ofChange Rows.fnAllowsBeforeJoinAndMarkSpec) :=
  OpenClaim.holds_of_wide 6 Try.f6 rfl rfl rfl rfl rfl rfl rfl ⟨rfl, rfl, rfl, rfl, rfl⟩ rfl rfl rfl rfl rfl (by kernel_rfl) Try.func6 (by kernel_rfl)
    (of_decide_eq_true (by kernel_rfl)) (by unfold Func.isWrapper; first | (rw [if_pos (by decide +kernel)]; kernel_rfl) | (rw [if_neg (by decide +kernel)]; exact ⟨rfl, rfl⟩))
    (fun os started H enc _ => lifted os started H enc)

/-- ████ THE STATEMENT ████ -/
theorem proved : Rows.FnAllowsBeforeJoinAndMarkSaid :=
  over
#print axioms proved
end Go.Proofs.Qxb6615765a.fnAllowsBeforeJoinAndMark
