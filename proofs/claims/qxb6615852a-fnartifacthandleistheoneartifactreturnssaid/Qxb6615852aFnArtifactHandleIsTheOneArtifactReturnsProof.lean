/-
  'Rows.FnArtifactHandleIsTheOneArtifactReturnsSaid' PROVED: the frame is after the guide's shell for slices (Below.trod), turned to a slice of strings; the walk is Qxb6615852aHandle's.
-/
import Derived.Test.Qxb6615852aRows
import Derived.Test.Qxb6615852aHandle
import Derived.WalkKit
import Derived.ProofKit
import Derived.OpenShut
import Derived.ShutString
import Derived.ChangeOld
import Derived.Below
import Derived.SliceStrings
namespace Go.Proofs.Qxb6615852a.fnArtifactHandleIsTheOneArtifactReturns
open Go.ChangeShapes Go.WideShapes Go.ChangeAt Go.RowKit
open Go.ChangeMaps (open_string shut_string)
set_option linter.unusedVariables false

theorem own : ownKnob Try.prog.godebug = none := by kernel_rfl
theorem laidOut : laidOutB Try.prog = true := by kernel_rfl

/-- A slice of strings that came in, as the walk wants it. -/
theorem strs_of {W : World} {a : Option Addr} {len cap : Nat} {ss : List ByteArray} (hl : len ≤ ss.length) (hc : ∀ x, a = some x → ∀ i, i < ss.length → W.cell? (x.add i) = some (.string (ss.getD i ByteArray.empty))) (hn : a = none → len = 0) :
    Strs W a (ss.take len) ∧ (ss.take len).length = len := by
  have hlen : (ss.take len).length = len := by rw [List.length_take]; omega
  refine ⟨fun h0 => ?_, hlen⟩
  cases a with
  | none => have := hn rfl; omega
  | some x =>
    have hx := hc x rfl
    obtain ⟨b, off, spot⟩ := x
    have hspot : spot = none := by simpa [Addr.add] using World.cell?_spot (hx 0 (by omega))
    subst hspot
    have hx' : ∀ i, i < ss.length → W.cell? ⟨b, off + i, none⟩ = some (.string (ss.getD i ByteArray.empty)) := fun i hi => by rw [← add_plain]; exact hx i hi
    refine ⟨b, off, rfl, World.block_lt_of_cell? W ⟨b, off + 0, none⟩ (hx' 0 (by omega)), fun j hj => ?_⟩
    rw [hx' j (by omega)]
    simp only [List.getD_eq_getElem?_getD, List.getElem?_take, if_pos (show j < len by omega)]

/-! ### THE ROW's STEP (the guide's frame at these types) -/
set_option maxRecDepth 100000 in
theorem lifted (os : Os) (started : os.Started) (H : Type) (enc : TypeId × Value → H) :
    ReturnsInHanded {} Try.checked os 4 .any (Rows.fnArtifactHandleIsTheOneArtifactReturnsSpec.pre6 enc Try.prog Try.f4 Rows.fnArtifactHandleIsTheOneArtifactReturnsRow.domain false) (Rows.fnArtifactHandleIsTheOneArtifactReturnsSpec.post enc Try.prog Try.f4 false true false false) := by
  refine returnsInHanded_of_change (C := Try.checked) own started (by kernel_rfl) Try.func4
    (ChangeSpec.witness6 (enc := enc) (C := Try.checked) false ⟨#[], #[.slice none 0 0, .string ByteArray.empty, .string ByteArray.empty], []⟩ 8 (by kernel_rfl) (by kernel_rfl) (by kernel_rfl) (by kernel_rfl)) ?_
  intro W base args ds gs before hval0 hW hcnd _
  have hval : ∀ (j : Nat) t v, Try.f4.params[j]? = some t → args[j]? = some v → Value.okWide Try.prog W .any base t v := hval0
  have hW' := hW
  obtain ⟨p, q, hA0, hV, rfl, hfz, hnd⟩ := hW
  have hA : DataW.TrodAll enc Try.prog W 0 (fun _ => true) true Try.f4.params.toList args.toList ds p := hA0
  rw [Try.params4] at hA hval
  obtain ⟨v0, vs0, d0, ds0, p0, q0, hargs, rfl, rfl, h0, r0⟩ := trodAll_cons hA
  obtain ⟨v1, vs1, d1, ds1, p1, q1, rfl, rfl, rfl, h1, r1⟩ := trodAll_cons r0
  obtain ⟨v2, vs2, d2, ds2, p2, q2, rfl, rfl, rfl, h2, r2⟩ := trodAll_cons r1
  obtain ⟨rfl, rfl, rfl⟩ := trodAll_nil r2
  obtain rfl : args = #[v0, v1, v2] := by cases args; simp_all
  obtain ⟨rfl, rfl⟩ := trodVars_none hV
  obtain ⟨a0, len0, cap0, rfl⟩ := okWide_slice Try.underlying22 (hval 0 22 v0 rfl rfl)
  have k0 := h0
  have lt0 : ∀ x ∈ p0, x.block < W.heap.size := by obtain ⟨m, hm⟩ := k0; exact DataW.trod_lt m _ _ _ hm
  obtain ⟨ss, hm0, hstr, hlen, hsz⟩ : ∃ ss : List ByteArray, len0 ≤ 9223372036854775807 ∧ Strs W a0 (ss.take len0) ∧ (ss.take len0).length = len0 ∧ ∀ s ∈ ss.take len0, s.size ≤ 9223372036854775807 := by
    obtain ⟨fuel, hf⟩ := h0
    rcases open_strings Try.underlying22 Try.underlying9 (by kernel_rfl) hf with ⟨hcs, _⟩ | ⟨x, l, c, ss, hcs, _, hl, hm, hz, _, hcell, hws⟩
    · simp [Value.cells] at hcs
      obtain ⟨rfl, rfl, rfl⟩ := hcs
      have h := strs_of (W := W) (a := none) (len := 0) (cap := 0) (ss := []) (Nat.le_refl _) (fun x e => by cases e) (fun _ => rfl)
      exact ⟨[], by omega, h.1, h.2, fun s hs => by simp at hs⟩
    · simp [Value.cells] at hcs
      obtain ⟨rfl, rfl, rfl⟩ := hcs
      have hz' : ss.length = cap0 := by simpa using hz
      have h := strs_of (W := W) (a := some x) (len := len0) (cap := cap0) (ss := ss) (by omega) (fun y e => by cases e; exact hcell) (fun e => by cases e)
      unfold maxLen at hm hws
      exact ⟨ss, by omega, h.1, h.2, fun s hs => hws s (List.mem_of_mem_take hs)⟩
  obtain ⟨a1, rfl, rfl, rfl, w1⟩ := open_string Try.underlying9 (hval 1 9 v1 rfl rfl) h1
  obtain ⟨a2, rfl, rfl, rfl, w2⟩ := open_string Try.underlying9 (hval 2 9 v2 rfl rfl) h2
  clear hA0 hval0
  have hw1 : a1.size ≤ 9223372036854775807 := by have h := w1; unfold maxLen at h; omega
  have hw2 : a2.size ≤ 9223372036854775807 := by have h := w2; unfold maxLen at h; omega
  have hwalk := handle_walk a0 cap0 (ss.take len0) a1 a2 W hstr (by omega) hsz hw1 hw2
  rw [hlen] at hwalk
  refine hwalk.mono fun e W' ⟨he, bel⟩ => ?_
  subst he
  exact ⟨_, rfl, _, _, _, [], _, [], hW', trodAll_mk1 (shut_bool Try.underlying4 _), (trodAll_cons_mk (Below.trod laidOut (by kernel_rfl) (of_decide_eq_true (by kernel_rfl)) k0 bel lt0) (trodAll_cons_mk (shut_string Try.underlying9 w1) (trodAll_cons_mk (shut_string Try.underlying9 w2) trodAll_mk0))), rfl, bel.frame _, fun h => by cases h⟩

theorem over : Rows.fnArtifactHandleIsTheOneArtifactReturnsRow.holds Try.pinned (OpenSpec.ofChange Rows.fnArtifactHandleIsTheOneArtifactReturnsSpec) :=
  OpenClaim.holds_of_wide 4 Try.f4 rfl rfl rfl rfl rfl rfl rfl ⟨rfl, rfl, rfl, rfl, rfl⟩ rfl rfl rfl rfl rfl (by kernel_rfl) Try.func4 (by kernel_rfl)
    (of_decide_eq_true (by kernel_rfl)) (by unfold Func.isWrapper; first | (rw [if_pos (by decide +kernel)]; kernel_rfl) | (rw [if_neg (by decide +kernel)]; exact ⟨rfl, rfl⟩))
    (fun os started H enc _ => lifted os started H enc)

/-- ████ THE STATEMENT ████ -/
theorem proved : Rows.FnArtifactHandleIsTheOneArtifactReturnsSaid := over
#print axioms proved
end Go.Proofs.Qxb6615852a.fnArtifactHandleIsTheOneArtifactReturns
