/-
  A BLOCK OF ARTIFACTS, KNOWN WHOLE; THE WALK OF (*Package).Artifact.
-/
import Derived.Test.Qxb6615852aFind
namespace Go.Proofs.Qxb6615852a
open Go.RowKit
set_option linter.unusedVariables false

theorem IsFirst.uniq {ss : List ByteArray} {p : ByteArray} {r s : Int} (h : IsFirst ss p r) (k : IsFirst ss p s) : r = s := by
  rcases h with ⟨rfl, hn⟩ | ⟨i, rfl, hi, hp, hf⟩ <;> rcases k with ⟨rfl, kn⟩ | ⟨j, rfl, kj, kp, kf⟩
  · rfl
  · exact absurd kp (hn j kj)
  · exact absurd hp (kn i hi)
  · rcases Nat.lt_trichotomy i j with h | h | h
    · exact absurd hp (kf i h)
    · rw [h]
    · exact absurd kp (hf j h)

def Blk (w : World) (g : Nat) (l : List (ByteArray × ByteArray)) : Prop := w.heap[g]? = some (.cells (arts l).toArray 39 (0, 0))
theorem Blk.lt {w : World} {g : Nat} {l : List (ByteArray × ByteArray)} (h : Blk w g l) : g < w.heap.size := by
  rcases Nat.lt_or_ge g w.heap.size with hl | hl
  · exact hl
  · unfold Blk at h; rw [Array.getElem?_eq_none hl] at h; cases h
theorem Blk.lies {w : World} {g : Nat} {l : List (ByteArray × ByteArray)} (h : Blk w g l) : Lies w g l :=
  ⟨h.lt, fun j hj => by rw [cell_of_row w g j _ 39 (0, 0) h]; simp⟩
theorem Blk.free {w : World} {g : Nat} {l : List (ByteArray × ByteArray)} (h : Blk w g l) (j : Nat) : w.frozen? ⟨g, j, none⟩ = false := frozen_of_row w g j _ 39 h
theorem Blk.below {w w' : World} {g : Nat} {l : List (ByteArray × ByteArray)} (h : Blk w g l) (hb : Below w.heap.size w w') : Blk w' g l := by
  unfold Blk; rw [hb.block g h.lt]; exact h
theorem Blk.mark {w : World} {g : Nat} {l : List (ByteArray × ByteArray)} (h : Blk w g l) (i : Nat) (s c m : ByteArray) (hi : l[i]? = some (s, c)) : Blk (w.setCell ⟨g, i * 4 + 2, none⟩ (.string m)) g (l.set i (s, m)) := by
  have := heap_setCell_same w g (i * 4 + 2) _ 39 (.string m) h
  unfold Blk
  rw [this]
  congr 2
  rw [← arts_type l i s c m hi]
  simp

theorem arts_blk (ao : Option Addr) (cap n : Nat) (F : Int) (ss : List ByteArray) (w : World) (hs : Strs w ao ss) (hF : F = 0) (hn : ss.length = n) (h3 : n ≤ 4096) :
    Calls Try.prog 6 #[.slice ao n cap, .int .i64 F, .int .i64 n] w fun e w' => ∃ g, e = .returned (.slice (some ⟨g, 0, none⟩) n n) ∧ Blk w' g (ss.map fun s => (s, ByteArray.empty)) ∧ w.heap.size ≤ g ∧ Below w.heap.size w w' := by
  subst hn; subst hF
  have h := arts_any ao cap 0 ss.length ss w hs (Nat.zero_le _) (Nat.le_refl _) h3
  rw [show (ss.drop 0).take (ss.length - 0) = ss from by simp, Nat.sub_zero] at h
  refine Calls.mono h ?_
  rintro e w' ⟨rfl, rfl⟩
  exact ⟨_, rfl, heap_alloc_new w _, Nat.le_refl _, (Below.refl _ _).alloc (Nat.le_refl _) _⟩

/-- The result's own variable, behind the call that finds. -/
theorem own_var {w w1 : World} (hb : Below (w.alloc (.cells #[.string ⟨#[]⟩, .bool false, .string ⟨#[]⟩, .slice none 0 0] 39)).heap.size (w.alloc (.cells #[.string ⟨#[]⟩, .bool false, .string ⟨#[]⟩, .slice none 0 0] 39)) w1) :
    w1.heap[w.heap.size]? = some (.cells #[.string ⟨#[]⟩, .bool false, .string ⟨#[]⟩, .slice none 0 0] 39 (0, 0)) ∧ Below w.heap.size w w1 := by
  refine ⟨?_, ((Below.refl w.heap.size w).alloc (Nat.le_refl _) _).trans (hb.mono (by simp))⟩
  rw [hb.block _ (by simp)]
  exact heap_alloc_new w _

set_option maxHeartbeats 1000000 in
/-- (*Package).Artifact where no artifact has that path. -/
theorem look_none (w : World) (pb g n : Nat) (l : List (ByteArray × ByteArray)) (p : ByteArray) (hl : Lies w g l) (hn : l.length = n) (h1 : n ≤ 4096) (hpb : pb < w.heap.size) (hc : w.cell? ⟨pb, 2, none⟩ = some (.slice (some ⟨g, 0, none⟩) n n)) (hno : IsFirst (l.map Prod.fst) p (-1)) :
    Calls Try.prog 11 #[.pointer (some ⟨pb, 0, none⟩), .string p] w fun e w' => e = .returned (.tuple #[.agg #[.string ⟨#[]⟩, .bool false, .string ⟨#[]⟩, .slice none 0 0], .bool false]) ∧ Below w.heap.size w w' := by
  have HL := hide hl
  have HN := hide hn
  have HO := hide hno
  clear hl hn hno
  have hne : pb ≠ w.heap.size := by omega
  go_enter Try.func11, Try.ntmps11
  go_wp2_with fail
  refine (artifact12 _ pb g n l p (by exact HL.out.below ((Below.refl _ _).alloc (Nat.le_refl _) _)) HN.out h1 (by simp; omega) (by simp [World.cell?_alloc_past _ _ _ hpb, hc])).mono ?_
  rintro e w1 ⟨r, hf, hb, hr⟩
  have er : r = -1 := hf.uniq HO.out
  subst er
  obtain ⟨hv, hb'⟩ := own_var hb
  have HB := hide hb'
  have k0 := cell_of_row w1 w.heap.size 0 _ 39 (0, 0) hv
  have k1 := cell_of_row w1 w.heap.size 1 _ 39 (0, 0) hv
  have k2 := cell_of_row w1 w.heap.size 2 _ 39 (0, 0) hv
  have k3 := cell_of_row w1 w.heap.size 3 _ 39 (0, 0) hv
  have f0 := frozen_of_row w1 w.heap.size 0 _ 39 hv
  have f1 := frozen_of_row w1 w.heap.size 1 _ 39 hv
  have f2 := frozen_of_row w1 w.heap.size 2 _ 39 hv
  have f3 := frozen_of_row w1 w.heap.size 3 _ 39 hv
  simp at k0 k1 k2 k3
  clear hv hb hb' hf HO HL HN hc
  rcases hr with ⟨_, rfl⟩ | ⟨i, hi, _⟩
  · go_wp2
    refine bodyPost_ret (v := .tuple #[.agg #[.string ⟨#[]⟩, .bool false, .string ⟨#[]⟩, .slice none 0 0], .bool false]) (by simp [results, Try.results11, go_sem, k0, k1, k2, k3]) rfl ⟨rfl, ?_⟩
    exact (((HB.out.setCell (Nat.le_refl _) _).setCell (Nat.le_refl _) _).setCell (Nat.le_refl _) _).setCell (Nat.le_refl _) _
  · omega

set_option maxHeartbeats 1000000 in
/-- (*Package).Artifact where artifact i is the first with that path. -/
theorem look_some (w : World) (pb g n i : Nat) (l : List (ByteArray × ByteArray)) (s c p : ByteArray) (hl : Lies w g l) (hn : l.length = n) (h1 : n ≤ 4096) (hpb : pb < w.heap.size) (hc : w.cell? ⟨pb, 2, none⟩ = some (.slice (some ⟨g, 0, none⟩) n n)) (hyes : IsFirst (l.map Prod.fst) p (i : Int)) (hi : l[i]? = some (s, c)) :
    Calls Try.prog 11 #[.pointer (some ⟨pb, 0, none⟩), .string p] w fun e w' => e = .returned (.tuple #[.agg #[.string s, .bool false, .string c, .slice none 0 0], .bool true]) ∧ Below w.heap.size w w' := by
  have hil : i < l.length := by
    rcases Nat.lt_or_ge i l.length with h | h
    · exact h
    · rw [List.getElem?_eq_none h] at hi; cases hi
  have gd : l.getD i default = (s, c) := by rw [List.getD_eq_getElem?_getD, hi]; rfl
  have HL := hide hl
  have HN := hide hn
  have HO := hide hyes
  have hgw : g < w.heap.size := hl.1
  have hne : pb ≠ w.heap.size := by omega
  have hgne : g ≠ w.heap.size := by omega
  clear hl hn hyes
  go_enter Try.func11, Try.ntmps11
  go_wp2_with fail
  refine (artifact12 _ pb g n l p (by exact HL.out.below ((Below.refl _ _).alloc (Nat.le_refl _) _)) HN.out h1 (by simp; omega) (by simp [World.cell?_alloc_past _ _ _ hpb, hc])).mono ?_
  rintro e w1 ⟨r, hf, hb, hr⟩
  have er : r = (i : Int) := hf.uniq HO.out
  subst er
  obtain ⟨hv, hb'⟩ := own_var hb
  have HB := hide hb'
  obtain ⟨c0, c1, c2, c3⟩ := (HL.out.below hb').at i hil
  rw [gd] at c0 c2
  simp only at c0 c2
  have k0 := cell_of_row w1 w.heap.size 0 _ 39 (0, 0) hv
  have k1 := cell_of_row w1 w.heap.size 1 _ 39 (0, 0) hv
  have k2 := cell_of_row w1 w.heap.size 2 _ 39 (0, 0) hv
  have k3 := cell_of_row w1 w.heap.size 3 _ 39 (0, 0) hv
  have f0 := frozen_of_row w1 w.heap.size 0 _ 39 hv
  have f1 := frozen_of_row w1 w.heap.size 1 _ 39 hv
  have f2 := frozen_of_row w1 w.heap.size 2 _ 39 hv
  have f3 := frozen_of_row w1 w.heap.size 3 _ 39 hv
  simp at k0 k1 k2 k3
  clear hv hb hb' hf HO HL HN hc gd hi
  rcases hr with ⟨h, _⟩ | ⟨j, hj, _, rfl⟩
  · omega
  · have ej : j = i := by omega
    subst ej
    clear hj
    go_wp2
    refine bodyPost_ret (v := .tuple #[.agg #[.string s, .bool false, .string c, .slice none 0 0], .bool true]) (by simp [results, Try.results11, go_sem, k0, k1, k2, k3]) rfl ⟨rfl, ?_⟩
    exact (((HB.out.setCell (Nat.le_refl _) _).setCell (Nat.le_refl _) _).setCell (Nat.le_refl _) _).setCell (Nat.le_refl _) _
end Go.Proofs.Qxb6615852a
