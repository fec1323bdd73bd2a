/-
  'Rows.FnAllowsBeforeIgnoresAfterByteSaid' PROVED: the frame is the guide's (proof-skeleton.mjs), the walk is ours: ZZallowsBefore by its contract, two loops by their relations.
-/
import Derived.Test.Qxb6615765aRows
import Derived.Test.Qxb6615765aAllow
import Derived.Test.Qxb6615765aCount
import Derived.LoopTactic
import Derived.WalkKit
import Derived.ProofKit
import Derived.OpenShut
import Derived.ShutString
namespace Go.Proofs.Qxb6615765a.fnAllowsBeforeIgnoresAfterByte
open Go.ChangeShapes Go.WideShapes Go.ChangeAt Go.RowKit
open Go.ChangeMaps (open_string shut_string)
set_option linter.unusedVariables false      -- a walk need not use every 'w<i>' (that an integer argument fits its kind)

theorem own : ownKnob Try.prog.godebug = none := by kernel_rfl

/-! ### STEP 1: THE WALK: the Go text returns true. 'Grown w w'': the world has at most new blocks (Derived/RowKit3.lean). Part the cases AHEAD of 'go_enter' where a test parts the walk; take each callee by a contract of your own. -/
set_option maxRecDepth 20000 in
theorem walk (a0 : Int) (a1 : Int) (w0 : (Lit.int .u16 a0).wf = true) (w1 : (Lit.int .u8 a1).wf = true) (w : World) :
    Calls Try.prog 7 #[.int .u16 a0, .int .u8 a1] w fun e w' => e = .returned (.bool true) ∧ Grown w w' := by
  have b0 : 0 ≤ a0 ∧ a0 < 65536 := by have := bounds_u16 w0; omega
  have b1 : 0 ≤ a1 ∧ a1 < 256 := by have := bounds_u8 w1; omega
  obtain ⟨c0, c1⟩ := b0; obtain ⟨k0, k1⟩ := b1
  clear w0 w1
  obtain ⟨k, rfl⟩ := Int.eq_ofNat_of_zero_le k0
  by_cases hk : k ≤ 7
  · have hkz : ¬ (7 : Int) < (k : Int) := by omega
    have ecut := allow_cut a0 k c0 c1 hk
    have efill := allow_fill a0 k c0 c1 hk
    obtain ⟨m0, x1, hm0⟩ := cut_lt a0 c0 c1
    obtain ⟨o1, o2⟩ := bits16_bounds .or a0 65280
    have HF : Hid (forb (m0 : Int) 8 = forb a0 8) := forb_same _ _ 8 (fun i hi => by rw [← x1]; exact allow_cut a0 i c0 c1 (by omega))
    rw [x1] at ecut
    generalize x2 : bits .or .u16 a0 65280 = y2 at efill o1 o2
    cases h1 : allowB a0 k <;> simp only [h1] at ecut efill
    all_goals
      go_enter Try.func7, Try.ntmps7
      go_wp2_with (go_at_call 20; refine (allow_any _ k (by omega) (by omega) (by omega) _).mono ?_; rintro e w' ⟨rfl, rfl⟩)
      clear ecut efill x2 o1 o2
      go_loop [6, 7] (fun f i => ∃ j : Nat, j ≤ 8 ∧ i = .int .u8 j ∧ f = .int .i64 (forb a0 j)) (fun _ i => 8 - (intOf i).toNat)
      case atStart => exact ⟨0, by omega, rfl, rfl⟩
      case round =>
        obtain ⟨j, hj, rfl, rfl⟩ := hrel
        have hbd := forb_bd a0 j
        by_cases hlt : j < 8
        · cases h2 : allowB a0 j
          · have HS : Hid (forb a0 (j + 1) = forb a0 j + 1) := forb_no a0 j h2
            go_wp2_with (go_at_call 20; refine (allow_any _ j (by omega) (by omega) (by omega) _).mono ?_; rintro e w' ⟨rfl, rfl⟩)
            go_round
            case rel => exact ⟨j + 1, by omega, by go_num, by rw [HS.out]⟩
            case measure => simp [intOf]; omega
          · have HS : Hid (forb a0 (j + 1) = forb a0 j) := forb_yes a0 j h2
            go_wp2_with (go_at_call 20; refine (allow_any _ j (by omega) (by omega) (by omega) _).mono ?_; rintro e w' ⟨rfl, rfl⟩)
            go_round
            case rel => exact ⟨j + 1, by omega, by go_num, by rw [HS.out]⟩
            case measure => simp [intOf]; omega
        · have ej : j = 8 := by omega
          subst ej
          go_wp2_with fail
          go_loop [8, 9] (fun x s => ∃ (m : Nat) (t : Int), m < 256 ∧ 0 ≤ t ∧ t + forb (m : Int) 8 = forb a0 8 ∧ x = .int .u16 m ∧ s = .int .i64 t) (fun x _ => (intOf x).toNat)
          case atStart => exact ⟨m0, 0, hm0, by omega, by rw [HF.out]; omega, rfl, rfl⟩
          case round =>
            obtain ⟨m, t, hm, ht, hsum, rfl, rfl⟩ := hrel
            have HS : Hid (t + forb (m : Int) 8 = forb a0 8) := hsum
            have hfb := forb_bd (m : Int) 8
            have htb : t ≤ 8 := by omega
            clear hsum hfb
            by_cases hz : m = 0
            · subst hz
              have e0 : forb ((0 : Nat) : Int) 8 = 0 := by decide
              have hend : t = forb a0 8 := by have := HS.out; rw [e0] at this; omega
              clear e0
              subst hend
              go_wp2
              go_ret
              exact ⟨rfl, Grown.refl _⟩
            · obtain ⟨q, hq, hqm, hqs⟩ := clear_low m hm hz
              have HQ : Hid (forb (q : Int) 8 + 1 = forb (m : Int) 8) := hqs
              clear hqs
              have hmz : (1 : Int) ≤ (m : Int) := by omega
              go_wp2
              go_round
              case rel => exact ⟨q, t + 1, by omega, by omega, by have := HS.out; have := HQ.out; omega, rfl, rfl⟩
              case measure => simp [intOf]; omega
  · have hkz : (7 : Int) < (k : Int) := by omega
    go_enter Try.func7, Try.ntmps7
    go_wp2
    go_ret
    exact ⟨rfl, Grown.refl _⟩

/-! ### THE ROW's STEP: WRITTEN OUT: LEAVE IT -/
set_option maxRecDepth 100000 in
theorem lifted (os : Os) (started : os.Started) (H : Type) (enc : TypeId × Value → H) :
    ReturnsInHanded {} Try.checked os 7 .any (Rows.fnAllowsBeforeIgnoresAfterByteSpec.pre6 enc Try.prog Try.f7 Rows.fnAllowsBeforeIgnoresAfterByteRow.domain false) (Rows.fnAllowsBeforeIgnoresAfterByteSpec.post enc Try.prog Try.f7 false true false false) := by
  refine returnsInHanded_of_change (C := Try.checked) own started (by kernel_rfl) Try.func7
    (ChangeSpec.witness6 (enc := enc) (C := Try.checked) false ⟨#[], #[.int .u16 0, .int .u8 0], []⟩ 8 (by kernel_rfl) (by kernel_rfl) (by kernel_rfl) (by kernel_rfl)) ?_
  intro W base args ds gs before hval0 hW hcnd _
  have hval : ∀ (j : Nat) t v, Try.f7.params[j]? = some t → args[j]? = some v → Value.okWide Try.prog W .any base t v := hval0
  have hW' := hW
  obtain ⟨p, q, hA0, hV, rfl, hfz, hnd⟩ := hW
  have hA : DataW.TrodAll enc Try.prog W 0 (fun _ => true) true Try.f7.params.toList args.toList ds p := hA0
  rw [Try.params7] at hA hval
  obtain ⟨v0, vs0, d0, ds0, p0, q0, hargs, rfl, rfl, h0, r0⟩ := trodAll_cons hA
  obtain ⟨v1, vs1, d1, ds1, p1, q1, rfl, rfl, rfl, h1, r1⟩ := trodAll_cons r0
  obtain ⟨rfl, rfl, rfl⟩ := trodAll_nil r1
  obtain rfl : args = #[v0, v1] := by cases args; simp_all
  obtain ⟨rfl, rfl⟩ := trodVars_none hV
  obtain ⟨a0, rfl, rfl, rfl, w0⟩ := open_int Try.underlying40 (hval 0 40 v0 rfl rfl) h0
  obtain ⟨a1, rfl, rfl, rfl, w1⟩ := open_int Try.underlying5 (hval 1 5 v1 rfl rfl) h1
  clear hA0 hval0
  simp only [List.append_nil] at hW'
  refine (walk a0 a1 w0 w1 W).mono fun e W' ⟨he, hg⟩ => ?_
  subst he
  exact ⟨_, rfl, post_of_same (pa := []) (pv := []) hW' (fun _ _ _ => (trodAll_cons_mk (shut_bool Try.underlying4 _) trodAll_mk0)) (fun sp _ => (trodAll_cons_mk (shut_int Try.underlying40 w0) (trodAll_cons_mk (shut_int Try.underlying5 w1) trodAll_mk0))) (fun _ _ => rfl) rfl
    (hg.frame _) hg.2.1 (ok_one (by kernel_rfl) rfl (okWide_bool_mk Try.underlying4 _))⟩

theorem over : Rows.fnAllowsBeforeIgnoresAfterByteRow.holds Try.pinned (OpenSpec.ofChange Rows.fnAllowsBeforeIgnoresAfterByteSpec) :=
  OpenClaim.holds_of_wide 7 Try.f7 rfl rfl rfl rfl rfl rfl rfl ⟨rfl, rfl, rfl, rfl, rfl⟩ rfl rfl rfl rfl rfl (by kernel_rfl) Try.func7 (by kernel_rfl)
    (of_decide_eq_true (by kernel_rfl)) (by unfold Func.isWrapper; first | (rw [if_pos (by decide +kernel)]; kernel_rfl) | (rw [if_neg (by decide +kernel)]; exact ⟨rfl, rfl⟩))
    (fun os started H enc _ => lifted os started H enc)

/-- ████ THE STATEMENT ████ -/
theorem proved : Rows.FnAllowsBeforeIgnoresAfterByteSaid :=
  over
#print axioms proved
end Go.Proofs.Qxb6615765a.fnAllowsBeforeIgnoresAfterByte
