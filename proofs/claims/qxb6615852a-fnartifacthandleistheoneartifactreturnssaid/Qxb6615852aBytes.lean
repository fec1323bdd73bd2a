/-
  THE WALKS OF THE TWO LAWS' zzBytes: each answers some bool; where it says true no path is longer than 2^20.
-/
import Derived.Test.Qxb6615852aMakeArts
namespace Go.Proofs.Qxb6615852a
open Go.RowKit
set_option linter.unusedVariables false

/-- What zzBytes says. (A name of its own: the walk must not lay it open.) -/
def BytesSaid (ss : List ByteArray) (w : World) (n : Nat) (e : Ending) (w' : World) : Prop :=
  ∃ b, e = .returned (.bool b) ∧ w' = w ∧ (b = true → ∀ j, j < n → (ss.getD j ByteArray.empty).size ≤ 1048576)
theorem said_no {ss : List ByteArray} {w w' : World} {n : Nat} {e : Ending} (h : e = .returned (.bool false)) (hw : w' = w) : BytesSaid ss w n e w' := ⟨false, h, hw, fun x => by cases x⟩
theorem said_yes {ss : List ByteArray} {w w' : World} {n : Nat} {e : Ending} (h : e = .returned (.bool true)) (hw : w' = w) (ha : ∀ j, j < n → (ss.getD j ByteArray.empty).size ≤ 1048576) : BytesSaid ss w n e w' := ⟨true, h, hw, fun _ => ha⟩

set_option maxHeartbeats 1000000 in
set_option maxRecDepth 20000 in
theorem bytes5_any (ao : Option Addr) (cap : Nat) (x : Int) (ss : List ByteArray) (p : ByteArray) (w : World) (hs : Strs w ao ss) (hn : ss.length ≤ 9223372036854775807) (hm : ∀ s ∈ ss, s.size ≤ 9223372036854775807) (hp : p.size ≤ 9223372036854775807) :
    Calls Try.prog 5 #[.slice ao ss.length cap, .int .i64 x, .string p] w fun e w' => BytesSaid ss w ss.length e w' := by
  have HS := hide hs
  have HM := hide hm
  clear hs hm
  generalize hl : ss.length = n at hn ⊢
  have HN := hide hl
  clear hl
  by_cases h0 : 1048576 < n
  · go_enter Try.func5, Try.ntmps5
    go_wp2
    go_ret
    exact said_no rfl rfl
  · go_enter Try.func5, Try.ntmps5
    go_wp2
    go_loop [7, 8] (fun z i => ∃ (k : Nat) (t : Int), k ≤ n ∧ 0 ≤ t ∧ t ≤ 1048576 ∧ i = .int .i64 k ∧ z = .int .i64 t ∧ Hid (∀ j, j < k → (ss.getD j ByteArray.empty).size ≤ 1048576)) (fun _ i => n - (intOf i).toNat)
    case atStart => exact ⟨0, n, by omega, by omega, by omega, rfl, rfl, fun j hj => absurd hj (Nat.not_lt_zero _)⟩
    case round =>
      obtain ⟨k, t, hk, ht0, ht1, rfl, rfl, HA⟩ := hrel
      by_cases hlt : k < n
      · obtain ⟨b, off, rfl, _, hc⟩ := HS.out (by rw [HN.out]; omega)
        have c0 := hc k (by rw [HN.out]; omega)
        have hz : (k : Int) < (n : Int) := by omega
        have hsz : (ss.getD k ByteArray.empty).size ≤ 9223372036854775807 := by
          have hk' : k < ss.length := by rw [HN.out]; exact hlt
          have e : ss.getD k ByteArray.empty = ss[k] := by simp [List.getD_eq_getElem?_getD, List.getElem?_eq_getElem hk']
          rw [e]
          exact HM.out _ (List.getElem_mem hk')
        have HK := hide (rfl : ss.getD k ByteArray.empty = ss.getD k ByteArray.empty)
        generalize hy : ss.getD k ByteArray.empty = y at c0 hsz HK
        have HY := hide hy
        clear hc hy HK
        by_cases q1 : 1048576 < y.size
        · go_wp2
          go_ret
          exact said_no rfl rfl
        · by_cases q2 : 1048576 < t + (y.size : Int)
          · go_wp2
            go_ret
            exact said_no rfl rfl
          · go_wp2
            go_round
            case rel =>
              refine ⟨k + 1, t + (y.size : Int), by omega, by omega, by omega, by go_num, rfl, fun j hj => ?_⟩
              by_cases e : j = k
              · subst e; rw [HY.out]; omega
              · exact HA.out j (by omega)
            case measure => simp [intOf]; omega
      · have ek : k = n := by omega
        subst ek
        clear HS
        by_cases q1 : 1048576 < p.size
        · go_wp2
          go_ret
          exact said_no rfl rfl
        · by_cases q2 : 1048576 < t + (p.size : Int)
          · go_wp2
            go_ret
            exact said_no rfl rfl
          · go_wp2
            go_ret
            exact said_yes rfl rfl HA.out

set_option maxHeartbeats 1000000 in
set_option maxRecDepth 20000 in
theorem bytes10_any (ao : Option Addr) (cap : Nat) (ss : List ByteArray) (p m : ByteArray) (w : World) (hs : Strs w ao ss) (hn : ss.length ≤ 9223372036854775807) (hm : ∀ s ∈ ss, s.size ≤ 9223372036854775807) (hp : p.size ≤ 9223372036854775807) (hq : m.size ≤ 9223372036854775807) :
    Calls Try.prog 10 #[.slice ao ss.length cap, .string p, .string m] w fun e w' => BytesSaid ss w ss.length e w' := by
  have HS := hide hs
  have HM := hide hm
  clear hs hm
  generalize hl : ss.length = n at hn ⊢
  have HN := hide hl
  clear hl
  by_cases h0 : 1048576 < n
  · go_enter Try.func10, Try.ntmps10
    go_wp2
    go_ret
    exact said_no rfl rfl
  · go_enter Try.func10, Try.ntmps10
    go_wp2
    go_loop [7, 8] (fun z i => ∃ (k : Nat) (t : Int), k ≤ n ∧ 0 ≤ t ∧ t ≤ 1048576 ∧ i = .int .i64 k ∧ z = .int .i64 t ∧ Hid (∀ j, j < k → (ss.getD j ByteArray.empty).size ≤ 1048576)) (fun _ i => n - (intOf i).toNat)
    case atStart => exact ⟨0, n, by omega, by omega, by omega, rfl, rfl, fun j hj => absurd hj (Nat.not_lt_zero _)⟩
    case round =>
      obtain ⟨k, t, hk, ht0, ht1, rfl, rfl, HA⟩ := hrel
      by_cases hlt : k < n
      · obtain ⟨b, off, rfl, _, hc⟩ := HS.out (by rw [HN.out]; omega)
        have c0 := hc k (by rw [HN.out]; omega)
        have hz : (k : Int) < (n : Int) := by omega
        have hsz : (ss.getD k ByteArray.empty).size ≤ 9223372036854775807 := by
          have hk' : k < ss.length := by rw [HN.out]; exact hlt
          have e : ss.getD k ByteArray.empty = ss[k] := by simp [List.getD_eq_getElem?_getD, List.getElem?_eq_getElem hk']
          rw [e]
          exact HM.out _ (List.getElem_mem hk')
        have HK := hide (rfl : ss.getD k ByteArray.empty = ss.getD k ByteArray.empty)
        generalize hy : ss.getD k ByteArray.empty = y at c0 hsz HK
        have HY := hide hy
        clear hc hy HK
        by_cases q1 : 1048576 < y.size
        · go_wp2
          go_ret
          exact said_no rfl rfl
        · by_cases q2 : 1048576 < t + (y.size : Int)
          · go_wp2
            go_ret
            exact said_no rfl rfl
          · go_wp2
            go_round
            case rel =>
              refine ⟨k + 1, t + (y.size : Int), by omega, by omega, by omega, by go_num, rfl, fun j hj => ?_⟩
              by_cases e : j = k
              · subst e; rw [HY.out]; omega
              · exact HA.out j (by omega)
            case measure => simp [intOf]; omega
      · have ek : k = n := by omega
        subst ek
        clear HS
        by_cases q1 : 1048576 < p.size
        · go_wp2
          go_ret
          exact said_no rfl rfl
        · by_cases q2 : 1048576 < t + (p.size : Int)
          · go_wp2
            go_ret
            exact said_no rfl rfl
          · by_cases q3 : 1048576 < m.size
            · go_wp2
              go_ret
              exact said_no rfl rfl
            · by_cases q4 : 1048576 < t + (p.size : Int) + (m.size : Int)
              · go_wp2
                go_ret
                exact said_no rfl rfl
              · go_wp2
                go_ret
                exact said_yes rfl rfl HA.out
end Go.Proofs.Qxb6615852a
