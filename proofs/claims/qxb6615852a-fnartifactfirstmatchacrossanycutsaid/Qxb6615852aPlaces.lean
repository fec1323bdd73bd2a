/-
  THE WALKS OF zzIndexOf AND zzFirstMatch.
-/
import Derived.Test.Qxb6615852aMakeArts
import Derived.LaidEql
import Derived.Test.Qxb6615852aFind
namespace Go.Proofs.Qxb6615852a
open Go.RowKit
set_option linter.unusedVariables false

/-- '&x[k] == &x[i]': two places of one block. -/
theorem run_eql_ptr_same {P : Program} (w : World) {t te : TypeId} {j : TypeInfo} (a : Addr) (hp : P.underlying t = some (.pointer te)) (hte : P.info? te = some j) :
    (binOp .eql t (.pointer (some a)) (.pointer (some a))).run P w = .ok (.bool true) w := by
  have h : ∀ d : Nat, (Op.equalIn (d + 1) t (.pointer (some a)) (.pointer (some a))).run P w = .ok true w := fun d => by
    simp [Op.equalIn, run_underlying hp, typeInfo, sizeOf, run_sameAddr_same, hte]
  simp only [binOp]
  simp [Op.equal, Op.maxDepth, h 9999]
theorem run_eql_ptr_apart {P : Program} (w : World) {t te : TypeId} {j : TypeInfo} (g k i : Nat) (hne : k ≠ i) (hp : P.underlying t = some (.pointer te)) (hte : P.info? te = some j) (hsz : j.size ≠ 0) :
    (binOp .eql t (.pointer (some ⟨g, k, none⟩)) (.pointer (some ⟨g, i, none⟩))).run P w = .ok (.bool false) w := by
  have h : ∀ d : Nat, (Op.equalIn (d + 1) t (.pointer (some ⟨g, k, none⟩)) (.pointer (some ⟨g, i, none⟩))).run P w = .ok false w := fun d => by
    simp [Op.equalIn, run_underlying hp, typeInfo, sizeOf, hte, hsz, sameAddr]
  simp only [binOp]
  simp [Op.equal, Op.maxDepth, h 9999]

theorem indexOf_nil (ao : Option Addr) (n c : Nat) (w : World) :
    Calls Try.prog 7 #[.slice ao n c, .pointer none] w fun e w' => e = .returned (.int .i64 (-1)) ∧ w' = w := by
  go_enter Try.func7, Try.ntmps7
  go_wp2
  go_ret
  exact ⟨rfl, rfl⟩

set_option maxHeartbeats 400000 in
set_option maxRecDepth 20000 in
theorem indexOf_some (g n c i : Nat) (w : World) (hn : n ≤ 4096) (hi : i < n) :
    Calls Try.prog 7 #[.slice (some ⟨g, 0, none⟩) n c, .pointer (some ⟨g, i * 4, none⟩)] w fun e w' => e = .returned (.int .i64 i) ∧ w' = w := by
  obtain ⟨i0, hti, hz0, hz1, hz2⟩ := info_parts Try.info39
  have HI := hide hti
  have HZ := hide hz1
  clear hti hz0 hz1 hz2
  go_enter Try.func7, Try.ntmps7
  go_wp2
  go_loop [5] (fun j => ∃ k : Nat, k ≤ i ∧ j = .int .i64 k) (fun j => n - (intOf j).toNat)
  case atStart => exact ⟨0, by omega, rfl⟩
  case round =>
    obtain ⟨k, hk, rfl⟩ := hrel
    have hltz : (k : Int) < (n : Int) := by omega
    by_cases e : k = i
    · subst e
      have heq := run_eql_ptr_same (P := Try.prog) w ⟨g, k * 4, none⟩ Try.underlying27 HI.out
      go_wp2
      go_ret
      exact ⟨rfl, rfl⟩
    · have heq := run_eql_ptr_apart (P := Try.prog) w g (k * 4) (i * 4) (by omega) Try.underlying27 HI.out (by rw [HZ.out]; decide)
      have hki : k < i := by omega
      clear e
      go_wp2
      go_round
      case rel => exact ⟨k + 1, by omega, by go_num⟩
      case measure => simp [intOf]; omega

set_option maxHeartbeats 1000000 in
set_option maxRecDepth 20000 in
theorem first_none (ao : Option Addr) (cap f t : Nat) (ss : List ByteArray) (p : ByteArray) (w : World) (hs : Strs w ao ss) (h1 : f ≤ t) (h2 : t ≤ ss.length) (h3 : ss.length ≤ 4096)
    (hno : ∀ j, f ≤ j → j < t → ss.getD j ByteArray.empty ≠ p) :
    Calls Try.prog 9 #[.slice ao ss.length cap, .int .i64 f, .int .i64 t, .string p, .int .i64 (-1)] w fun e w' => e = .returned (.bool true) ∧ w' = w := by
  have HS := hide hs
  have HO := hide hno
  clear hs hno
  generalize hn : ss.length = n at h2 h3 ⊢
  have HN := hide hn
  clear hn
  go_enter Try.func9, Try.ntmps9
  go_wp2
  go_loop [11] (fun j => ∃ k : Nat, f ≤ k ∧ k ≤ t ∧ j = .int .i64 k) (fun j => t - (intOf j).toNat)
  case atStart => exact ⟨f, by omega, by omega, rfl⟩
  case round =>
    obtain ⟨k, hk, hk2, rfl⟩ := hrel
    by_cases hlt : k < t
    · obtain ⟨b, off, rfl, _, hc⟩ := HS.out (by rw [HN.out]; omega)
      have c0 := hc k (by rw [HN.out]; omega)
      have e1 := eqS_no (HO.out k hk hlt)
      have hz : (k : Int) < (n : Int) := by omega
      clear hc
      generalize ss.getD k ByteArray.empty = s at c0 e1
      go_wp2
      go_round
      case rel => exact ⟨k + 1, by omega, by omega, by go_num⟩
      case measure => simp [intOf]; omega
    · go_wp2
      go_ret
      exact ⟨rfl, rfl⟩

set_option maxHeartbeats 1000000 in
set_option maxRecDepth 20000 in
theorem first_some (ao : Option Addr) (cap f t i : Nat) (ss : List ByteArray) (p : ByteArray) (w : World) (hs : Strs w ao ss) (h1 : f + i < t) (h2 : t ≤ ss.length) (h3 : ss.length ≤ 4096)
    (hyes : ss.getD (f + i) ByteArray.empty = p) (hno : ∀ j, f ≤ j → j < f + i → ss.getD j ByteArray.empty ≠ p) :
    Calls Try.prog 9 #[.slice ao ss.length cap, .int .i64 f, .int .i64 t, .string p, .int .i64 i] w fun e w' => e = .returned (.bool true) ∧ w' = w := by
  obtain ⟨b, off, rfl, _, hc⟩ := hs (by omega)
  have HC := hide hc
  have HO := hide hno
  have cy := hc (f + i) (by omega)
  have ey := eqS_yes hyes
  clear hs hno hc hyes
  generalize ss.getD (f + i) ByteArray.empty = y at cy ey
  generalize hn : ss.length = n at h2 h3 ⊢
  have HN := hide hn
  clear hn
  have d1 : decide ((i : Int) < 0) = false := decide_eq_false (by omega)
  have d2 : decide ((t : Int) - (f : Int) ≤ (i : Int)) = false := decide_eq_false (by omega)
  have d3 : ((i : Int) == -1) = false := by simp
  have z1 : (f : Int) + (i : Int) < (n : Int) := by omega
  go_enter Try.func9, Try.ntmps9
  go_wp2
  go_loop [12] (fun j => ∃ k : Nat, f ≤ k ∧ k ≤ f + i ∧ j = .int .i64 k) (fun j => f + i - (intOf j).toNat)
  case atStart => exact ⟨f, by omega, by omega, rfl⟩
  case round =>
    obtain ⟨k, hk, hk2, rfl⟩ := hrel
    by_cases hlt : k < f + i
    · have c0 := HC.out k (by rw [HN.out]; omega)
      have e1 := eqS_no (HO.out k hk hlt)
      have hz : (k : Int) < (n : Int) := by omega
      generalize ss.getD k ByteArray.empty = s at c0 e1
      go_wp2
      go_round
      case rel => exact ⟨k + 1, by omega, by omega, by go_num⟩
      case measure => simp [intOf]; omega
    · go_wp2
      go_ret
      exact ⟨rfl, rfl⟩

/-- zzFirstMatch of the first place: true. -/
theorem first_any (ao : Option Addr) (cap f t : Nat) (ss : List ByteArray) (p : ByteArray) (r : Int) (w : World) (hs : Strs w ao ss) (h1 : f ≤ t) (h2 : t ≤ ss.length) (h3 : ss.length ≤ 4096)
    (hr : IsFirst ((ss.drop f).take (t - f)) p r) :
    Calls Try.prog 9 #[.slice ao ss.length cap, .int .i64 f, .int .i64 t, .string p, .int .i64 r] w fun e w' => e = .returned (.bool true) ∧ w' = w := by
  have hl : ((ss.drop f).take (t - f)).length = t - f := by rw [List.length_take, List.length_drop]; omega
  have hg : ∀ j, j < t - f → ((ss.drop f).take (t - f)).getD j ByteArray.empty = ss.getD (f + j) ByteArray.empty := fun j hj => by
    simp only [List.getD_eq_getElem?_getD, List.getElem?_take, if_pos hj, List.getElem?_drop]
  rcases hr with ⟨rfl, hno⟩ | ⟨i, rfl, hi, hp, hf⟩
  · refine first_none ao cap f t ss p w hs h1 h2 h3 (fun j hj hj2 => ?_)
    have := hno (j - f) (by omega)
    rwa [hg _ (by omega), show f + (j - f) = j from by omega] at this
  · rw [hl] at hi
    refine first_some ao cap f t i ss p w hs (by omega) h2 h3 (by rw [← hg i hi]; exact hp) (fun j hj hj2 => ?_)
    have := hf (j - f) (by omega)
    rwa [hg _ (by omega), show f + (j - f) = j from by omega] at this
end Go.Proofs.Qxb6615852a
