/-
  'Rows.FnIsLetterFoldsOntoTheAlphabetAndIsCaseSymmetricSaid' PROVED: the frame is the guide's (proof-skeleton.mjs), the walk is ours: ZZisLetter by its contract, one walk for each way through the law.
-/
import Derived.Test.Qxb6615090aRows
import Derived.Test.Qxb6615090aLetter
import Derived.WalkKit
import Derived.ProofKit
import Derived.OpenShut
import Derived.ShutString
namespace Go.Proofs.Qxb6615090a.fnIsLetterFoldsOntoTheAlphabetAndIsCaseSymmetric
open Go.ChangeShapes Go.WideShapes Go.ChangeAt Go.RowKit
open Go.ChangeMaps (open_string shut_string)
set_option linter.unusedVariables false      -- a walk need not use every 'w<i>' (that an integer argument fits its kind)

theorem own : ownKnob Try.prog.godebug = none := by kernel_rfl

/-! ### STEP 1: THE WALK: the Go text returns true. 'Grown w w'': the world has at most new blocks (Derived/RowKit3.lean). Part the cases AHEAD of 'go_enter' where a test parts the walk; take each callee by a contract of your own. -/
theorem walk (a0 : Int) (w0 : (Lit.int .i32 a0).wf = true) (w : World) :
    Calls Try.prog 3 #[.int .i32 a0] w fun e w' => e = .returned (.bool true) ∧ Grown w w' := by
  obtain ⟨h0, h1⟩ := bounds_i32 w0
  clear w0
  generalize ho : bits .or .i32 a0 32 = o
  generalize hx : bits .xor .i32 a0 32 = x
  obtain ⟨⟨o0, o1⟩, hway⟩ := ways a0 o x h0 h1 ho hx
  have q95 : ∀ h : a0 < 95 ∨ 95 < a0, (a0 == 95) = false ∧ (a0 != 95) = true := fun h => by
    have : a0 ≠ 95 := by omega
    simp [this]
  have q127 : ∀ h : a0 < 127 ∨ 127 < a0, (a0 != 127) = true := fun h => by
    have : a0 ≠ 127 := by omega
    simp [this]
  rcases hway with ⟨l1, l2, g1, g2, g3, g4⟩ | ⟨l1, g1, g2⟩ | ⟨l1, g1, g2, g3⟩ | ⟨l1, l2, g1, g3, g4⟩
  · obtain ⟨e1, e2⟩ := q95 g3
    have e3 := q127 g4
    have f1 : decide (0 ≤ o - 97) = true := decide_eq_true (by omega)
    have f2 : decide (o - 97 < 26) = true := decide_eq_true (by omega)
    clear q95 q127 g3 g4
    go_enter Try.func3, Try.ntmps3
    go_wp2_with (go_at_call 4; refine (letter_any _ _).mono ?_; rintro e w' ⟨rfl, rfl⟩)
    go_ret
    exact ⟨rfl, Grown.refl _⟩
  · obtain rfl : a0 = 95 := by omega
    clear q95 q127
    go_enter Try.func3, Try.ntmps3
    go_wp2_with (go_at_call 4; refine (letter_any _ _).mono ?_; rintro e w' ⟨rfl, rfl⟩)
    go_ret
    exact ⟨rfl, Grown.refl _⟩
  · obtain rfl : a0 = 127 := by omega
    clear q95 q127
    rcases g1 with g1 | g1
    · have f1 : decide (0 ≤ o - 97) = false := decide_eq_false (by omega)
      go_enter Try.func3, Try.ntmps3
      go_wp2_with (go_at_call 4; refine (letter_any _ _).mono ?_; rintro e w' ⟨rfl, rfl⟩)
      go_ret
      exact ⟨rfl, Grown.refl _⟩
    · have f1 : decide (0 ≤ o - 97) = true := decide_eq_true (by omega)
      have f2 : decide (o - 97 < 26) = false := decide_eq_false (by omega)
      go_enter Try.func3, Try.ntmps3
      go_wp2_with (go_at_call 4; refine (letter_any _ _).mono ?_; rintro e w' ⟨rfl, rfl⟩)
      go_ret
      exact ⟨rfl, Grown.refl _⟩
  · obtain ⟨e1, e2⟩ := q95 g3
    have e3 := q127 g4
    clear q95 q127 g3 g4
    rcases g1 with g1 | g1
    · have f1 : decide (0 ≤ o - 97) = false := decide_eq_false (by omega)
      go_enter Try.func3, Try.ntmps3
      go_wp2_with (go_at_call 4; refine (letter_any _ _).mono ?_; rintro e w' ⟨rfl, rfl⟩)
      go_ret
      exact ⟨rfl, Grown.refl _⟩
    · have f1 : decide (0 ≤ o - 97) = true := decide_eq_true (by omega)
      have f2 : decide (o - 97 < 26) = false := decide_eq_false (by omega)
      go_enter Try.func3, Try.ntmps3
      go_wp2_with (go_at_call 4; refine (letter_any _ _).mono ?_; rintro e w' ⟨rfl, rfl⟩)
      go_ret
      exact ⟨rfl, Grown.refl _⟩

/-! ### THE ROW's STEP: WRITTEN OUT: LEAVE IT -/
set_option maxRecDepth 100000 in
theorem lifted (os : Os) (started : os.Started) (H : Type) (enc : TypeId × Value → H) :
    ReturnsInHanded {} Try.checked os 3 .any (Rows.fnIsLetterFoldsOntoTheAlphabetAndIsCaseSymmetricSpec.pre6 enc Try.prog Try.f3 Rows.fnIsLetterFoldsOntoTheAlphabetAndIsCaseSymmetricRow.domain false) (Rows.fnIsLetterFoldsOntoTheAlphabetAndIsCaseSymmetricSpec.post enc Try.prog Try.f3 false true false false) := by
  refine returnsInHanded_of_change (C := Try.checked) own started (by kernel_rfl) Try.func3
    (ChangeSpec.witness6 (enc := enc) (C := Try.checked) false ⟨#[], #[.int .i32 0], []⟩ 8 (by kernel_rfl) (by kernel_rfl) (by kernel_rfl) (by kernel_rfl)) ?_
  intro W base args ds gs before hval0 hW hcnd _
  have hval : ∀ (j : Nat) t v, Try.f3.params[j]? = some t → args[j]? = some v → Value.okWide Try.prog W .any base t v := hval0
  have hW' := hW
  obtain ⟨p, q, hA0, hV, rfl, hfz, hnd⟩ := hW
  have hA : DataW.TrodAll enc Try.prog W 0 (fun _ => true) true Try.f3.params.toList args.toList ds p := hA0
  rw [Try.params3] at hA hval
  obtain ⟨v0, vs0, d0, ds0, p0, q0, hargs, rfl, rfl, h0, r0⟩ := trodAll_cons hA
  obtain ⟨rfl, rfl, rfl⟩ := trodAll_nil r0
  obtain rfl : args = #[v0] := by cases args; simp_all
  obtain ⟨rfl, rfl⟩ := trodVars_none hV
  obtain ⟨a0, rfl, rfl, rfl, w0⟩ := open_int Try.underlying21 (hval 0 21 v0 rfl rfl) h0
  clear hA0 hval0
  simp only [List.append_nil] at hW'
  refine (walk a0 w0 W).mono fun e W' ⟨he, hg⟩ => ?_
  subst he
  exact ⟨_, rfl, post_of_same (pa := []) (pv := []) hW' (fun _ _ _ => (trodAll_cons_mk (shut_bool Try.underlying4 _) trodAll_mk0)) (fun sp _ => (trodAll_cons_mk (shut_int Try.underlying21 w0) trodAll_mk0)) (fun _ _ => rfl) rfl
    (hg.frame _) hg.2.1 (ok_one (by kernel_rfl) rfl (okWide_bool_mk Try.underlying4 _))⟩

theorem over : Rows.fnIsLetterFoldsOntoTheAlphabetAndIsCaseSymmetricRow.holds Try.pinned (OpenSpec.ofChange Rows.fnIsLetterFoldsOntoTheAlphabetAndIsCaseSymmetricSpec) :=
  OpenClaim.holds_of_wide 3 Try.f3 rfl rfl rfl rfl rfl rfl rfl ⟨rfl, rfl, rfl, rfl, rfl⟩ rfl rfl rfl rfl rfl (by kernel_rfl) Try.func3 (by kernel_rfl)
    (of_decide_eq_true (by kernel_rfl)) (by unfold Func.isWrapper; first | (rw [if_pos (by decide +kernel)]; kernel_rfl) | (rw [if_neg (by decide +kernel)]; exact ⟨rfl, rfl⟩))
    (fun os started H enc _ => lifted os started H enc)

/-- ████ THE STATEMENT ████ -/
theorem proved : Rows.FnIsLetterFoldsOntoTheAlphabetAndIsCaseSymmetricSaid :=
  over
#print axioms proved
end Go.Proofs.Qxb6615090a.fnIsLetterFoldsOntoTheAlphabetAndIsCaseSymmetric
