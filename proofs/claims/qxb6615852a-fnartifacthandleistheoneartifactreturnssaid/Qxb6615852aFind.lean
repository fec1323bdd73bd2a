/-
  THE WALKS OF the closure in (*Package).artifact, of slices.IndexFunc over it, of (*Package).artifact and ZZartifact: the first artifact with that path.
-/
import Derived.Test.Qxb6615852aMakeArts
namespace Go.Proofs.Qxb6615852a
open Go.RowKit
set_option linter.unusedVariables false

theorem eqS_yes {s p : ByteArray} (h : s = p) : (s.toList == p.toList) = true := by subst h; simp
theorem eqS_no {s p : ByteArray} (h : s ≠ p) : (s.toList == p.toList) = false := by
  rw [beq_eq_false_iff_ne]
  intro e
  rw [ByteArray.toList_eq, ByteArray.toList_eq] at e
  exact h (by cases s; cases p; simp at e; rw [e])

/-- The closure: 'a.Path == path'. -/
theorem pred_any (W : World) (B : Nat) (s c p : ByteArray) (hB : B < W.heap.size) (hc : W.cell? ⟨B, 0, none⟩ = some (.string p)) :
    Calls Try.prog 14 #[.agg #[.string s, .bool false, .string c, .slice none 0 0], .pointer (some ⟨B, 0, none⟩)] W fun e w' => e = .returned (.bool (s.toList == p.toList)) ∧ Below W.heap.size W w' := by
  have hne : B ≠ W.heap.size := by omega
  go_enter Try.func14, Try.ntmps14
  go_wp2
  go_ret
  exact ⟨rfl, (Below.refl _ _).alloc (Nat.le_refl _) _⟩

/-- What a walk is told of a slice of artifacts: its cells. -/
def Lies (w : World) (g : Nat) (l : List (ByteArray × ByteArray)) : Prop := g < w.heap.size ∧ ∀ j, j < l.length * 4 → w.cell? ⟨g, j, none⟩ = (arts l)[j]?

theorem Lies.below {w w' : World} {g : Nat} {l : List (ByteArray × ByteArray)} (h : Lies w g l) (hb : Below w.heap.size w w') : Lies w' g l :=
  ⟨Nat.lt_of_lt_of_le h.1 hb.size, fun j hj => by rw [hb.cell (p := ⟨g, j, none⟩) h.1]; exact h.2 j hj⟩

theorem Lies.at {w : World} {g : Nat} {l : List (ByteArray × ByteArray)} (h : Lies w g l) (k : Nat) (hk : k < l.length) :
    w.cell? ⟨g, k * 4, none⟩ = some (.string (l.getD k default).1) ∧ w.cell? ⟨g, k * 4 + 1, none⟩ = some (.bool false) ∧ w.cell? ⟨g, k * 4 + 2, none⟩ = some (.string (l.getD k default).2) ∧ w.cell? ⟨g, k * 4 + 3, none⟩ = some (.slice none 0 0) := by
  have hx : l[k]? = some (l.getD k default) := by simp [List.getD_eq_getElem?_getD, List.getElem?_eq_getElem hk]
  have := arts_at l k _ hx
  rw [h.2 _ (by omega), h.2 _ (by omega), h.2 _ (by omega), h.2 _ (by omega)]
  exact this

set_option maxHeartbeats 1000000 in
set_option maxRecDepth 20000 in
/-- slices.IndexFunc over that closure. -/
theorem index_any (w : World) (g B n : Nat) (l : List (ByteArray × ByteArray)) (p : ByteArray) (hl : Lies w g l) (hn : l.length = n) (h1 : n ≤ 4096) (hB : B < w.heap.size) (hc : w.cell? ⟨B, 0, none⟩ = some (.string p)) :
    Calls Try.prog 13 #[.slice (some ⟨g, 0, none⟩) n n, .func (.func 14) #[] #[.pointer (some ⟨B, 0, none⟩)]] w fun e w' => ∃ r, e = .returned (.int .i64 r) ∧ IsFirst (l.map Prod.fst) p r ∧ Below w.heap.size w w' := by
  have HL := hide hl
  have HN := hide hn
  have HB := hide hB
  have HC := hide hc
  clear hl hn hB hc
  go_enter Try.func13, Try.ntmps13
  go_wp2
  go_loopw [5, 8] (fun _ i wr => ∃ k : Nat, k ≤ n ∧ i = .int .i64 k ∧ Hid (Below w.heap.size w wr) ∧ Hid (∀ j, j < k → (l.getD j default).1 ≠ p)) (fun _ i _ => n - (intOf i).toNat)
  case atStart => exact ⟨0, by omega, rfl, Below.refl _ _, fun j hj => absurd hj (Nat.not_lt_zero _)⟩
  case round =>
    obtain ⟨k, hk, rfl, HW, HF⟩ := hrel
    by_cases hlt : k < n
    · have hltz : (k : Int) < (n : Int) := by omega
      obtain ⟨c0, c1, c2, c3⟩ := (HL.out.below HW.out).at k (by rw [HN.out]; exact hlt)
      have HS := hide (show (l.map Prod.fst).getD k ByteArray.empty = (l.getD k default).1 by
        simp [List.getD_eq_getElem?_getD, List.getElem?_eq_getElem (show k < l.length by rw [HN.out]; exact hlt)])
      generalize (l.getD k default).2 = c at c2
      have HX := hide (rfl : (l.getD k default).1 = (l.getD k default).1)
      generalize hs : (l.getD k default).1 = s at c0 HS HX
      have HE := hide hs
      clear hs HX
      have hbw : B < wr.heap.size := Nat.lt_of_lt_of_le HB.out HW.out.size
      have hcw : wr.cell? ⟨B, 0, none⟩ = some (.string p) := by rw [HW.out.cell (p := ⟨B, 0, none⟩) HB.out]; exact HC.out
      by_cases hsp : s = p
      · have e1 := eqS_yes hsp
        have HSP := hide hsp
        clear hsp
        go_wp2_with (go_at_call 14; refine (pred_any _ B s c p (by assumption) (by assumption)).mono ?_; rintro e w' ⟨rfl, hb'⟩)
        go_ret
        refine ⟨_, rfl, .inr ⟨k, rfl, by simp [HN.out]; exact hlt, HS.out.trans HSP.out, fun j hj => ?_⟩, HW.out.trans (hb'.mono HW.out.size)⟩
        have := HF.out j hj
        have hjl : j < l.length := by rw [HN.out]; omega
        simpa [List.getD_eq_getElem?_getD, List.getElem?_eq_getElem hjl] using this
      · have e1 := eqS_no hsp
        have HSP := hide hsp
        clear hsp
        go_wp2_with (go_at_call 14; refine (pred_any _ B s c p (by assumption) (by assumption)).mono ?_; rintro e w' ⟨rfl, hb'⟩)
        go_roundw
        case rel =>
          refine ⟨k + 1, by omega, by go_num, HW.out.trans (hb'.mono HW.out.size), fun j hj => ?_⟩
          by_cases e : j = k
          · subst e; rw [HE.out]; exact HSP.out
          · exact HF.out j (by omega)
        case measure => simp [intOf]; omega
    · go_wp2
      go_ret
      refine ⟨_, rfl, .inl ⟨rfl, fun j hj => ?_⟩, HW.out⟩
      have hjl : j < l.length := by simpa using hj
      have := HF.out j (by rw [HN.out] at hjl; omega)
      simpa [List.getD_eq_getElem?_getD, List.getElem?_eq_getElem hjl] using this

set_option maxHeartbeats 1000000 in
/-- (*Package).artifact: a pointer to the first artifact with that path, or nil. -/
theorem artifact12 (w : World) (pb g n : Nat) (l : List (ByteArray × ByteArray)) (p : ByteArray) (hl : Lies w g l) (hn : l.length = n) (h1 : n ≤ 4096) (hpb : pb < w.heap.size) (hc : w.cell? ⟨pb, 2, none⟩ = some (.slice (some ⟨g, 0, none⟩) n n)) :
    Calls Try.prog 12 #[.pointer (some ⟨pb, 0, none⟩), .string p] w fun e w' => ∃ r, IsFirst (l.map Prod.fst) p r ∧ Below w.heap.size w w' ∧
      ((r = -1 ∧ e = .returned (.pointer none)) ∨ ∃ i : Nat, r = (i : Int) ∧ i < n ∧ e = .returned (.pointer (some ⟨g, i * 4, none⟩))) := by
  have HL := hide hl
  have HN := hide hn
  clear hl hn
  have hne : pb ≠ w.heap.size := by omega
  go_enter Try.func12, Try.ntmps12
  go_wp2_with fail
  refine (index_any _ g w.heap.size n l p (by exact HL.out.below ((Below.refl _ _).alloc (Nat.le_refl _) _)) HN.out h1 (by simp) (by simp)).mono ?_
  rintro e w1 ⟨r, rfl, hf, hb⟩
  have HB := hide (((Below.refl w.heap.size w).alloc (Nat.le_refl _) (.cells #[.string p] 9)).trans (hb.mono (by simp)))
  have k2 : w1.cell? ⟨pb, 2, none⟩ = some (.slice (some ⟨g, 0, none⟩) n n) := by rw [HB.out.cell (p := ⟨pb, 2, none⟩) hpb]; exact hc
  have HF := hide hf
  clear hb hf
  rcases HF.out with ⟨rfl, hno⟩ | ⟨i, rfl, hi, _⟩
  · clear hno
    go_wp2
    go_ret
    exact ⟨-1, HF.out, HB.out, .inl ⟨rfl, rfl⟩⟩
  · have hi' : i < n := by rw [List.length_map, HN.out] at hi; exact hi
    have hiz : (i : Int) < (n : Int) := by omega
    clear hi
    go_wp2
    go_ret
    exact ⟨_, HF.out, HB.out, .inr ⟨i, rfl, hi', rfl⟩⟩

/-- ZZartifact. -/
theorem artifact_any (w : World) (pb g n : Nat) (l : List (ByteArray × ByteArray)) (p : ByteArray) (hl : Lies w g l) (hn : l.length = n) (h1 : n ≤ 4096) (hpb : pb < w.heap.size) (hc : w.cell? ⟨pb, 2, none⟩ = some (.slice (some ⟨g, 0, none⟩) n n)) :
    Calls Try.prog 8 #[.pointer (some ⟨pb, 0, none⟩), .string p] w fun e w' => ∃ r, IsFirst (l.map Prod.fst) p r ∧ Below w.heap.size w w' ∧
      ((r = -1 ∧ e = .returned (.pointer none)) ∨ ∃ i : Nat, r = (i : Int) ∧ i < n ∧ e = .returned (.pointer (some ⟨g, i * 4, none⟩))) := by
  have h := artifact12 w pb g n l p hl hn h1 hpb hc
  have H := hide h
  clear h hl hn hc
  go_enter Try.func8, Try.ntmps8
  go_wp2_with fail
  refine H.out.mono ?_
  rintro e w1 ⟨r, hf, hb, hr⟩
  rcases hr with ⟨rfl, rfl⟩ | ⟨i, rfl, hi, rfl⟩
  · have HF := hide hf
    have HB := hide hb
    clear hf hb
    go_wp2
    go_ret
    exact ⟨-1, HF.out, HB.out, .inl ⟨rfl, rfl⟩⟩
  · have HF := hide hf
    have HB := hide hb
    clear hf hb
    go_wp2
    go_ret
    exact ⟨_, HF.out, HB.out, .inr ⟨i, rfl, hi, rfl⟩⟩
end Go.Proofs.Qxb6615852a
