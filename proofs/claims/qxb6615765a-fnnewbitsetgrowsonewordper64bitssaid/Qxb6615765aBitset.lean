/-
  THE WALKS OF 'ZZnewBitset' (newBitset below it) AND 'bsAllZero'.
-/
import Derived.Test.Qxb6615765aProg
import Derived.Test.Qxb6615765aMake
import Derived.LoopTactic
namespace Go.Proofs.Qxb6615765a
open Go.RowKit

theorem Try.info45 : (Try.prog.info? 45).map (fun i => (i.zero, i.size, i.bytes)) = some (some (.int .u64 0), 1, 8) := by kernel_rfl

/-- m zero words. -/
def zeroWords (m : Nat) : Array Value := madeCells #[.int .u64 0] m

theorem newBitset_any (n : Int) (m : Nat) (hm : (n + 63) / 64 = (m : Int)) (h0 : 0 ≤ n) (h1 : n ≤ 1000000) (w : World) :
    Calls Try.prog 8 #[.int .i64 n] w fun e w' => e = .returned (.slice (some ⟨w.heap.size, 0, none⟩) m m) ∧ w' = w.alloc (.cells (zeroWords m) 45) := by
  obtain ⟨i0, hi, hz0, hz1, hz2⟩ := info_parts Try.info45
  have hm2 : m ≤ 100000 := by omega
  go_enter Try.func8, Try.ntmps8
  go_wp2_with (first | (at_make; refine wpList_make_lit _ rfl _ _ 43 rfl 45 i0 (.int .u64 0) Try.underlying43 hi hz0 hz1 _ _ _ _ m rfl rfl (by omega) (by omega) (by rw [hz2]; omega) (by omega) ?_) | go_in)
  go_ret
  exact ⟨rfl, rfl⟩

set_option maxRecDepth 20000 in
theorem allZero_any (b m : Nat) (w : World) (hm : m ≤ 100000) (hc : ∀ j, j < m → w.cell? ⟨b, j, none⟩ = some (.int .u64 0)) :
    Calls Try.prog 9 #[.slice (some ⟨b, 0, none⟩) m m] w fun e w' => e = .returned (.bool true) ∧ w' = w := by
  go_enter Try.func9, Try.ntmps9
  go_wp2
  go_loop [3] (fun i => ∃ k : Nat, k ≤ m ∧ i = .int .i64 k) (fun i => m - (intOf i).toNat)
  case atStart => exact ⟨0, by omega, rfl⟩
  case round =>
    obtain ⟨k, hk, rfl⟩ := hrel
    by_cases hlt : k < m
    · have hcell := hc k hlt
      clear hc
      go_wp2
      go_round
      case rel => exact ⟨k + 1, by omega, by go_num⟩
      case measure => simp [intOf]; omega
    · clear hc
      go_wp2
      go_ret
      exact ⟨rfl, rfl⟩

theorem zero_cell (w : World) (m j : Nat) (h : j < m) : (w.alloc (.cells (zeroWords m) 45)).cell? ⟨w.heap.size, j, none⟩ = some (.int .u64 0) := by
  have hz : (zeroWords m).toList = List.replicate m (.int .u64 0) := toList_madeCells_one _ _
  have hg : (zeroWords m)[j]? = some (.int .u64 0) := by
    rw [← Array.getElem?_toList, hz]
    simp [h]
  rw [World.cell?_alloc_new]
  exact hg
theorem zero_first (w : World) (o : Obj) (m j : Nat) (h : j < m) : ((w.alloc (.cells (zeroWords m) 45)).alloc o).cell? ⟨w.heap.size, j, none⟩ = some (.int .u64 0) := by
  rw [World.cell?_alloc_past _ _ _ (by simp)]
  exact zero_cell w m j h
theorem zero_second (w : World) (o : Obj) (m j : Nat) (h : j < m) : ((w.alloc o).alloc (.cells (zeroWords m) 45)).cell? ⟨w.heap.size + 1, j, none⟩ = some (.int .u64 0) := by
  have := zero_cell (w.alloc o) m j h
  rwa [World.size_alloc] at this
end Go.Proofs.Qxb6615765a
