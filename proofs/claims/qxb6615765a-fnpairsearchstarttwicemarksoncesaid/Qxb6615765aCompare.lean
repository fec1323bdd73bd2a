/-
  THE WALKS OF psSameI32, psMarked AND psQueued, over a pile: each says true of the rows that it is meant for.
-/
import Derived.Test.Qxb6615765aClone
import Derived.RegionTactic
import Derived.ChangeAlike
namespace Go.Proofs.Qxb6615765a
open Go.RowKit
set_option linter.unusedVariables false

theorem drewN_drewN (w : World) (a b : Nat) : (w.drewN a).drewN b = w.drewN (a + b) := by simp [World.drewN, Nat.add_assoc]

theorem same_zero (a b : Option Addr) (ca cb : Nat) (w : World) :
    Calls Try.prog 16 #[.slice a 0 ca, .slice b 0 cb] w fun e w' => e = .returned (.bool true) ∧ ∃ q, w' = w.drewN q := by
  go_enter Try.func16, Try.ntmps16
  go_wp2
  refine wp_loop_rounds 1 ?_
  rw [rounds_succ]
  go_wp2
  go_ret
  exact ⟨rfl, 0, rfl⟩

set_option maxRecDepth 20000 in
theorem same_pos (ga gb ca cb n : Nat) (f : Nat → Int) (w : World) (hn : n ≤ 1000000) (ha : ∀ j, j < n → w.cell? ⟨ga, j, none⟩ = some (.int .i32 (f j))) (hb : ∀ j, j < n → w.cell? ⟨gb, j, none⟩ = some (.int .i32 (f j))) :
    Calls Try.prog 16 #[.slice (some ⟨ga, 0, none⟩) n ca, .slice (some ⟨gb, 0, none⟩) n cb] w fun e w' => e = .returned (.bool true) ∧ ∃ q, w' = w.drewN q := by
  go_enter Try.func16, Try.ntmps16
  go_wp2
  go_loopw [5] (fun i wr => ∃ k q : Nat, k ≤ n ∧ i = .int .i64 k ∧ wr = w.drewN q) (fun i _ => n - (intOf i).toNat)
  case atStart => exact ⟨0, 0, by omega, rfl, rfl⟩
  case round =>
    obtain ⟨k, q, hk, rfl, rfl⟩ := hrel
    by_cases hlt : k < n
    · have hltz : (k : Int) < (n : Int) := by omega
      have c1 := ha k hlt
      have c2 := hb k hlt
      clear ha hb
      go_wp2
      go_quiet (fail)
      go_wp2
      go_roundw
      case rel => exact ⟨k + 1, q + nq, by omega, by go_num, rfl⟩
      case measure => simp [intOf]; omega
    · clear ha hb
      go_wp2
      go_ret
      exact ⟨rfl, q, rfl⟩

theorem same_any {w0 w : World} {L : List RowOf} {bs : List BoxOf} (hp : Pile w0 w L bs) (i j : Nat) (va vb : Value) (zs : List Int) (hi : L[i]? = some ⟨va, 21, .i32, zs⟩) (hj : L[j]? = some ⟨vb, 21, .i32, zs⟩) (hn : zs.length ≤ 1000000) :
    Calls Try.prog 16 #[va, vb] w fun e w' => e = .returned (.bool true) ∧ Pile w0 w' L bs := by
  obtain ⟨a, ca, ea, _, _, ha⟩ := hp.view hi
  obtain ⟨b, cb, eb, _, _, hb⟩ := hp.view hj
  simp only at ea eb ha hb
  rw [ea, eb]
  by_cases h0 : 0 < zs.length
  · obtain ⟨ga, rfl, _, _, fa⟩ := ha h0
    obtain ⟨gb, rfl, _, _, fb⟩ := hb h0
    refine (same_pos ga gb ca cb zs.length (fun j => zs.getD j 0) w hn fa fb).mono ?_
    rintro e w' ⟨rfl, q, rfl⟩
    exact ⟨rfl, hp.grown (grownBy_drewN w q none)⟩
  · rw [show zs.length = 0 from by omega]
    refine (same_zero a b ca cb w).mono ?_
    rintro e w' ⟨rfl, q, rfl⟩
    exact ⟨rfl, hp.grown (grownBy_drewN w q none)⟩

set_option maxHeartbeats 400000 in
set_option maxRecDepth 20000 in
theorem marked_pos (ga gb ca cb len n m : Nat) (v : Int) (f h : Nat → Int) (w : World) (hn : len ≤ 1000000) (hnl : n < len) (hml : m < len)
    (ha : ∀ j, j < len → w.cell? ⟨ga, j, none⟩ = some (.int .i32 (f j))) (hb : ∀ j, j < len → w.cell? ⟨gb, j, none⟩ = some (.int .i32 (h j)))
    (hyes : ∀ j, j = n ∨ j = m → f j = v) (hno : ∀ j, j ≠ n → j ≠ m → f j = h j) :
    Calls Try.prog 17 #[.slice (some ⟨ga, 0, none⟩) len ca, .slice (some ⟨gb, 0, none⟩) len cb, .int .i64 n, .int .i64 m, .int .i32 v] w fun e w' => e = .returned (.bool true) ∧ w' = w := by
  have HY : Hid (∀ j, j = n ∨ j = m → f j = v) := hyes
  have HN : Hid (∀ j, j ≠ n → j ≠ m → f j = h j) := hno
  clear hyes hno
  go_enter Try.func17, Try.ntmps17
  go_wp2
  go_loop [11] (fun i => ∃ k : Nat, k ≤ len ∧ i = .int .i64 k) (fun i => len - (intOf i).toNat)
  case atStart => exact ⟨0, by omega, rfl⟩
  case round =>
    obtain ⟨k, hk, rfl⟩ := hrel
    by_cases hlt : k < len
    · have hltz : (k : Int) < (len : Int) := by omega
      have c1 := ha k hlt
      have c2 := hb k hlt
      clear ha hb
      by_cases hkn : k = n
      · rw [HY.out k (.inl hkn)] at c1
        have b1 : ((k : Int) == (n : Int)) = true := by simp [hkn]
        generalize h k = y at c2
        clear hkn
        go_wp2
        go_round
        case rel => exact ⟨k + 1, by omega, by go_num⟩
        case measure => simp [intOf]; omega
      · have b1 : ((k : Int) == (n : Int)) = false := by simp; omega
        by_cases hkm : k = m
        · rw [HY.out k (.inr hkm)] at c1
          have b2 : ((k : Int) == (m : Int)) = true := by simp [hkm]
          generalize h k = y at c2
          clear hkn hkm
          go_wp2
          go_round
          case rel => exact ⟨k + 1, by omega, by go_num⟩
          case measure => simp [intOf]; omega
        · rw [HN.out k hkn hkm] at c1
          have b2 : ((k : Int) == (m : Int)) = false := by simp; omega
          generalize h k = y at c1 c2
          clear hkn hkm
          go_wp2
          go_round
          case rel => exact ⟨k + 1, by omega, by go_num⟩
          case measure => simp [intOf]; omega
    · clear ha hb
      go_wp2
      go_ret
      exact ⟨rfl, rfl⟩

/-- psMarked of a row that is another with n and m set to x. -/
theorem marked_any {w0 w : World} {L : List RowOf} {bs : List BoxOf} (hp : Pile w0 w L bs) (i j n m : Nat) (x : Int) (va vb : Value) (ys zs : List Int) (hi : L[i]? = some ⟨va, 21, .i32, ys⟩) (hj : L[j]? = some ⟨vb, 21, .i32, zs⟩)
    (hys : ys = (zs.set n x).set m x) (hn : zs.length ≤ 1000000) (h1 : n < zs.length) (h2 : m < zs.length) :
    Calls Try.prog 17 #[va, vb, .int .i64 n, .int .i64 m, .int .i32 x] w fun e w' => e = .returned (.bool true) ∧ Pile w0 w' L bs := by
  have hlen : ys.length = zs.length := by rw [hys]; simp
  obtain ⟨a, ca, ea, _, _, ha⟩ := hp.view hi
  obtain ⟨b, cb, eb, _, _, hb⟩ := hp.view hj
  simp only at ea eb ha hb
  rw [hlen] at ea ha
  rw [ea, eb]
  obtain ⟨ga, rfl, _, _, fa⟩ := ha (by omega)
  obtain ⟨gb, rfl, _, _, fb⟩ := hb (by omega)
  refine (marked_pos ga gb ca cb zs.length n m x (fun j => ys.getD j 0) (fun j => zs.getD j 0) w hn h1 h2 fa fb ?_ ?_).mono ?_
  · intro j hj
    subst hys
    simp only [List.getD_eq_getElem?_getD, List.getElem?_set, List.length_set]
    rcases hj with rfl | rfl
    · by_cases e : m = j
      · simp [e, h1]
      · simp [e, h1]
    · simp [h2]
  · intro j h1 h2
    subst hys
    simp only [List.getD_eq_getElem?_getD, List.getElem?_set]
    rw [if_neg (fun e => h2 e.symm), if_neg (fun e => h1 e.symm)]
  · rintro e w' ⟨rfl, rfl⟩
    exact ⟨rfl, hp⟩

set_option maxHeartbeats 400000 in
set_option maxRecDepth 20000 in
theorem queued_pos (ga gt ca co ct no nt : Nat) (ao : Option Addr) (f h t : Nat → Int) (w : World) (hn : no ≤ 1000000) (hnt : nt ≤ 1000000)
    (ha : ∀ j, j < no + nt → w.cell? ⟨ga, j, none⟩ = some (.int .i64 (f j))) (ho : 0 < no → ∃ g, ao = some ⟨g, 0, none⟩ ∧ ∀ j, j < no → w.cell? ⟨g, j, none⟩ = some (.int .i64 (h j)))
    (ht : ∀ j, j < nt → w.cell? ⟨gt, j, none⟩ = some (.int .i64 (t j))) (e1 : ∀ j, j < no → f j = h j) (e2 : ∀ j, j < nt → f (no + j) = t j) :
    Calls Try.prog 18 #[.slice (some ⟨ga, 0, none⟩) (no + nt) ca, .slice ao no co, .slice (some ⟨gt, 0, none⟩) nt ct] w fun e w' => e = .returned (.bool true) ∧ ∃ q, w' = w.drewN q := by
  have HA : Hid (∀ j, j < no + nt → w.cell? ⟨ga, j, none⟩ = some (.int .i64 (f j))) := ha
  have HO : Hid (0 < no → ∃ g, ao = some ⟨g, 0, none⟩ ∧ ∀ j, j < no → w.cell? ⟨g, j, none⟩ = some (.int .i64 (h j))) := ho
  have HT : Hid (∀ j, j < nt → w.cell? ⟨gt, j, none⟩ = some (.int .i64 (t j))) := ht
  have H1 : Hid (∀ j, j < no → f j = h j) := e1
  have H2 : Hid (∀ j, j < nt → f (no + j) = t j) := e2
  clear ha ho ht e1 e2
  go_enter Try.func18, Try.ntmps18
  go_wp2
  go_loopw [7] (fun i wr => ∃ k q : Nat, k ≤ no ∧ i = .int .i64 k ∧ wr = w.drewN q) (fun i _ => no - (intOf i).toNat)
  case atStart => exact ⟨0, 0, by omega, rfl, rfl⟩
  case round =>
    obtain ⟨k, q, hk, rfl, rfl⟩ := hrel
    by_cases hlt : k < no
    · obtain ⟨g, rfl, hc⟩ := HO.out (by omega)
      have hltz : (k : Int) < (no : Int) := by omega
      have hltz2 : (k : Int) < (no : Int) + (nt : Int) := by omega
      have c1 := HA.out k (by omega)
      have c2 := hc k hlt
      rw [H1.out k hlt] at c1
      clear hc
      go_wp2
      go_quiet (fail)
      go_wp2
      go_roundw
      case rel => exact ⟨k + 1, q + nq, by omega, by go_num, rfl⟩
      case measure => simp [intOf]; omega
    · clear HO
      go_wp2_with fail
      go_loopw [8] (fun i wr => ∃ k q : Nat, k ≤ nt ∧ i = .int .i64 k ∧ wr = w.drewN q) (fun i _ => nt - (intOf i).toNat)
      case atStart => exact ⟨0, q, by omega, rfl, rfl⟩
      case round =>
        obtain ⟨k', q', hk', rfl, rfl⟩ := hrel
        by_cases hlt' : k' < nt
        · have hltz : (k' : Int) < (nt : Int) := by omega
          have hltz2 : (no : Int) + (k' : Int) < (no : Int) + (nt : Int) := by omega
          have c1 := HA.out (no + k') (by omega)
          have c2 := HT.out k' hlt'
          rw [H2.out k' hlt'] at c1
          go_wp2
          go_quiet (fail)
          go_wp2
          go_roundw
          case rel => exact ⟨k' + 1, q' + nq, by omega, by go_num, rfl⟩
          case measure => simp [intOf]; omega
        · go_wp2
          go_ret
          exact ⟨rfl, q', rfl⟩

/-- psQueued of a row that is another with a third behind it. -/
theorem queued_any {w0 w : World} {L : List RowOf} {bs : List BoxOf} (hp : Pile w0 w L bs) (i j l : Nat) (va vb vt : Value) (ys zs ts : List Int) (hi : L[i]? = some ⟨va, 3, .i64, ys⟩) (hj : L[j]? = some ⟨vb, 3, .i64, zs⟩) (hl : L[l]? = some ⟨vt, 3, .i64, ts⟩)
    (hys : ys = zs ++ ts) (hn : zs.length ≤ 1000000) (ht : ts.length ≤ 1000000) (h0 : 0 < ts.length) :
    Calls Try.prog 18 #[va, vb, vt] w fun e w' => e = .returned (.bool true) ∧ Pile w0 w' L bs := by
  have hlen : ys.length = zs.length + ts.length := by rw [hys]; simp
  obtain ⟨a, ca, ea, _, _, ha⟩ := hp.view hi
  obtain ⟨b, cb, eb, _, _, hb⟩ := hp.view hj
  obtain ⟨c, cc, ec, _, _, hc⟩ := hp.view hl
  simp only at ea eb ec ha hb hc
  rw [hlen] at ea ha
  rw [ea, eb, ec]
  obtain ⟨ga, rfl, _, _, fa⟩ := ha (by omega)
  obtain ⟨gc, rfl, _, _, fc⟩ := hc h0
  refine (queued_pos ga gc ca cb cc zs.length ts.length b (fun j => ys.getD j 0) (fun j => zs.getD j 0) (fun j => ts.getD j 0) w hn ht fa (fun h => ?_) fc ?_ ?_).mono ?_
  · obtain ⟨g, e, _, _, fb⟩ := hb h
    exact ⟨g, e, fb⟩
  · intro j hj
    subst hys
    simp [List.getD_eq_getElem?_getD, List.getElem?_append_left hj]
  · intro j hj
    subst hys
    simp only [List.getD_eq_getElem?_getD]
    rw [List.getElem?_append_right (by omega), Nat.add_sub_cancel_left]
  · rintro e w' ⟨rfl, q, rfl⟩
    exact ⟨rfl, hp.grown (grownBy_drewN w q none)⟩
end Go.Proofs.Qxb6615765a
