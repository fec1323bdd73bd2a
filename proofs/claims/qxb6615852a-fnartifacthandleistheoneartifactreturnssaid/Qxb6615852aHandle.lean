/-
  THE WALK OF FnArtifactHandleIsTheOneArtifactReturns.
-/
import Derived.Test.Qxb6615852aBlock
import Derived.Test.Qxb6615852aBytes
import Derived.Lib.SliceRun
import Derived.Deep.QuietTactic
import Derived.BigQuiet
namespace Go.Proofs.Qxb6615852a
open Go.RowKit
set_option linter.unusedVariables false

/-- 's != nil' at a slice type. -/
theorem run_neq_slice_nil {P : Program} (w : World) (t e : TypeId) (a : Option Addr) (n c n' c' : Nat) (h : P.underlying t = some (.slice e)) :
    (binOp .neq t (.slice a n c) (.slice none n' c')).run P w = .ok (.bool (!a.isNone)) w := by
  simp only [binOp]
  simp [Op.equal, Op.maxDepth, Lib.run_equalIn_slice_nil w 9999 t e a n c n' c' h]

theorem still_drewN (B : Nat) (w : World) (q : Nat) : Below B w (w.drewN q) := ⟨rfl, rfl, rfl, Nat.le_refl _, fun _ _ => rfl⟩

/-- What is known behind the box of the package. -/
theorem boxed {w0 u : World} {ao : Option Addr} {ss : List ByteArray} {g n : Nat} {l : List (ByteArray × ByteArray)} (hs : Strs u ao ss) (hl : Blk u g l) (hb : Below w0.heap.size w0 u) (a b d e f : Value) :
    Strs (u.alloc (.cells #[a, b, .slice (some ⟨g, 0, none⟩) n n, d, e, f] 34)) ao ss ∧ Blk (u.alloc (.cells #[a, b, .slice (some ⟨g, 0, none⟩) n n, d, e, f] 34)) g l ∧ Below w0.heap.size w0 (u.alloc (.cells #[a, b, .slice (some ⟨g, 0, none⟩) n n, d, e, f] 34)) ∧
      (u.alloc (.cells #[a, b, .slice (some ⟨g, 0, none⟩) n n, d, e, f] 34)).cell? ⟨u.heap.size, 2, none⟩ = some (.slice (some ⟨g, 0, none⟩) n n) ∧ u.heap.size < (u.alloc (.cells #[a, b, .slice (some ⟨g, 0, none⟩) n n, d, e, f] 34)).heap.size ∧ g < u.heap.size := by
  have hx : Below u.heap.size u (u.alloc (.cells #[a, b, .slice (some ⟨g, 0, none⟩) n n, d, e, f] 34)) := (Below.refl _ _).alloc (Nat.le_refl _) _
  exact ⟨hs.below (B := 0) hx, hl.below hx, hb.trans (hx.mono hb.size), by rw [World.cell?_alloc_new]; rfl, by simp, hl.lt⟩

theorem getD_map (ss : List ByteArray) (i : Nat) (h : i < ss.length) : (ss.map fun s => (s, ByteArray.empty))[i]? = some (ss.getD i ByteArray.empty, ByteArray.empty) := by
  simp [List.getD_eq_getElem?_getD, List.getElem?_eq_getElem h]
theorem map_fst' (l : List ByteArray) : (l.map fun s => (s, ByteArray.empty)).map Prod.fst = l := by simp [List.map_map, Function.comp_def]

/-- What is known behind the store of the mark. -/
theorem after_mark {w0 U u : World} {g pb i : Nat} {l : List (ByteArray × ByteArray)} {p c m : ByteArray} {v : Value} (hb0 : Below w0.heap.size w0 U) (hg : w0.heap.size ≤ g) (hl : Blk U g l) (hc : U.cell? ⟨pb, 2, none⟩ = some v) (hpb : pb < U.heap.size) (hgp : g < pb)
    (hb : Below U.heap.size U u) (hx : l[i]? = some (p, c)) :
    Below w0.heap.size w0 (u.setCell ⟨g, i * 4 + 2, none⟩ (.string m)) ∧ Blk (u.setCell ⟨g, i * 4 + 2, none⟩ (.string m)) g (l.set i (p, m)) ∧ (u.setCell ⟨g, i * 4 + 2, none⟩ (.string m)).cell? ⟨pb, 2, none⟩ = some v ∧ pb < (u.setCell ⟨g, i * 4 + 2, none⟩ (.string m)).heap.size := by
  refine ⟨(hb0.trans (hb.mono hb0.size)).setCell hg _, (hl.below hb).mark i p c m hx, ?_, ?_⟩
  · rw [World.cell?_of_block (w := u) (a := ⟨pb, 2, none⟩) (Below.heap_setCell u ⟨g, i * 4 + 2, none⟩ _ pb (by simp; omega)), hb.cell (p := ⟨pb, 2, none⟩) hpb]
    exact hc
  · have := hb.size
    simp [World.setCell]
    omega
theorem map_fst_mark (ss : List ByteArray) (i : Nat) (p m : ByteArray) (hi : i < ss.length) (hp : ss.getD i ByteArray.empty = p) : (((ss.map fun s => (s, ByteArray.empty)).set i (p, m)).map Prod.fst) = ss := by
  rw [List.map_set, map_fst']
  apply List.ext_getElem?
  intro j
  rw [List.getElem?_set]
  by_cases e : i = j
  · subst e
    rw [if_pos rfl, if_pos hi, ← hp]
    simp [List.getD_eq_getElem?_getD, List.getElem?_eq_getElem hi]
  · rw [if_neg e]

/-- What is known of the artifacts behind the new variable that holds what Artifact returned. -/
theorem cells_at {w0 u : World} {ao : Option Addr} {ss : List ByteArray} {g n : Nat} {l : List (ByteArray × ByteArray)} {o : Obj} (ty : Nat → ByteArray) (hs : Strs w0 ao ss) (hb : Below w0.heap.size w0 u) (hl : Blk u g l) (hn : l.length = n) (ht : ∀ j, j < n → l.getD j default = (ss.getD j ByteArray.empty, ty j)) :
    Below w0.heap.size w0 (u.alloc o) ∧ Strs (u.alloc o) ao ss ∧ ∀ j, j < n → (u.alloc o).cell? ⟨g, j * 4, none⟩ = some (.string (ss.getD j ByteArray.empty)) ∧ (u.alloc o).cell? ⟨g, j * 4 + 1, none⟩ = some (.bool false) ∧
      (u.alloc o).cell? ⟨g, j * 4 + 2, none⟩ = some (.string (ty j)) ∧ (u.alloc o).cell? ⟨g, j * 4 + 3, none⟩ = some (.slice none 0 0) := by
  have hx : Below u.heap.size u (u.alloc o) := (Below.refl _ _).alloc (Nat.le_refl _) _
  have hbx := hb.trans (hx.mono hb.size)
  refine ⟨hbx, hs.below (B := 0) hbx, fun j hj => ?_⟩
  have h := (hl.below hx).lies.at j (by omega)
  rw [ht j hj] at h
  exact h
theorem types_plain (ss : List ByteArray) (j : Nat) (hj : j < ss.length) : (ss.map fun s => (s, ByteArray.empty)).getD j default = (ss.getD j ByteArray.empty, ByteArray.empty) := by
  rw [List.getD_eq_getElem?_getD, getD_map ss j hj]; rfl
theorem types_mark (ss : List ByteArray) (i j : Nat) (p m : ByteArray) (hi : i < ss.length) (hj : j < ss.length) (hp : ss.getD i ByteArray.empty = p) :
    ((ss.map fun s => (s, ByteArray.empty)).set i (p, m)).getD j default = (ss.getD j ByteArray.empty, if j = i then m else ByteArray.empty) := by
  by_cases e : j = i
  · subst e
    rw [List.getD_eq_getElem?_getD, List.getElem?_set_self (by rw [List.length_map]; exact hi), if_pos rfl, hp]; rfl
  · rw [List.getD_eq_getElem?_getD, List.getElem?_set_ne (fun h => e h.symm), getD_map ss j hj, if_neg e]; rfl

set_option maxHeartbeats 4000000 in
set_option maxRecDepth 40000 in
theorem handle_walk (ao : Option Addr) (cap : Nat) (ss : List ByteArray) (p m : ByteArray) (w : World) (hs : Strs w ao ss) (hn : ss.length ≤ 9223372036854775807) (hm : ∀ s ∈ ss, s.size ≤ 9223372036854775807) (hp : p.size ≤ 9223372036854775807) (hq : m.size ≤ 9223372036854775807) :
    Calls Try.prog 4 #[.slice ao ss.length cap, .string p, .string m] w fun e w' => e = .returned (.bool true) ∧ Below w.heap.size w w' := by
  have HS := hide hs
  have HY := hide (bytes10_any ao cap ss p m w hs hn hm hp hq)
  clear hs hm
  generalize hl : ss.length = n at hn HY ⊢
  have HN := hide hl
  clear hl
  go_enter Try.func4, Try.ntmps4
  go_wp2_with fail
  refine HY.out.mono ?_
  intro e w' h
  obtain ⟨b, rfl, rfl, hb⟩ := h
  clear HY
  cases b with
  | false =>
    clear hb
    go_wp2
    go_ret
    exact ⟨rfl, Below.refl _ _⟩
  | true =>
    have HB := hide (hb rfl)
    clear hb
    by_cases q1 : 4096 < n
    · go_wp2
      go_ret
      exact ⟨rfl, Below.refl _ _⟩
    by_cases q2 : 1048576 < p.size
    · go_wp2
      go_ret
      exact ⟨rfl, Below.refl _ _⟩
    by_cases q3 : 1048576 < m.size
    · go_wp2
      go_ret
      exact ⟨rfl, Below.refl _ _⟩
    go_wp2_with fail
    go_loop [7, 8] (fun z i => ∃ (k : Nat) (t : Int), k ≤ n ∧ 0 ≤ t ∧ t ≤ 1048576 ∧ i = .int .i64 k ∧ z = .int .i64 t) (fun _ i => n - (intOf i).toNat)
    case atStart => exact ⟨0, 0, by omega, by omega, by omega, rfl, rfl⟩
    case round =>
      obtain ⟨k, t, hk, ht0, ht1, rfl, rfl⟩ := hrel
      by_cases hlt : k < n
      · obtain ⟨b, off, rfl, _, hc⟩ := HS.out (by rw [HN.out]; omega)
        have c0 := hc k (by rw [HN.out]; omega)
        have hz : (k : Int) < (n : Int) := by omega
        have hsz := HB.out k hlt
        generalize ss.getD k ByteArray.empty = y at c0 hsz
        clear hc HB
        by_cases q4 : 1048576 < t + (16 + (y.size : Int))
        · go_wp2
          go_ret
          exact ⟨rfl, Below.refl _ _⟩
        · go_wp2
          go_round
          case rel => exact ⟨k + 1, t + (16 + (y.size : Int)), by omega, by omega, by omega, by go_num, rfl⟩
          case measure => simp [intOf]; omega
      · have ek : k = n := by omega
        subst ek
        have hk4 : k ≤ 4096 := by omega
        clear HB hk hlt ht0 ht1 hp hq
        go_wp2_with fail
        refine (arts_blk ao cap k _ ss _ HS.out (by omega) HN.out hk4).mono ?_
        rintro e u1 ⟨g, rfl, l0, gl, b1⟩
        have S1 := hide (HS.out.below (B := 0) b1)
        have L1 := hide l0
        have B1 := hide b1
        have GL := hide gl
        clear l0 b1 gl
        have hneq : ∀ W : World, (binOp .neq 37 (.slice none 0 0) (.slice none 0 0)).run Try.prog W = .ok (.bool false) W := fun W => run_neq_slice_nil W 37 _ none 0 0 0 0 Try.underlying37
        go_wp2_with fail
        have FX := hide (boxed (n := k) S1.out L1.out B1.out (.string ⟨#[]⟩) (.string ⟨#[]⟩) .nilIface (.map none) (.int .i64 0))
        generalize u1.alloc (.cells #[.string ⟨#[]⟩, .string ⟨#[]⟩, .slice (some ⟨g, 0, none⟩) k k, .nilIface, .map none, .int .i64 0] 34) = U at FX ⊢
        generalize u1.heap.size = pb at FX ⊢
        clear S1 L1 B1 u1
        go_loop [11, 12] (fun r j => ∃ i : Nat, i ≤ k ∧ r = .int .i64 (-1) ∧ j = .int .i64 i ∧ Hid (∀ j, j < i → ss.getD j ByteArray.empty ≠ p)) (fun _ j => k - (intOf j).toNat)
        case atStart => exact ⟨0, by omega, rfl, rfl, fun j hj => absurd hj (Nat.not_lt_zero _)⟩
        case round =>
          obtain ⟨i, hi, rfl, rfl, HF⟩ := hrel
          by_cases hlt : i < k
          · obtain ⟨b, off, rfl, _, hc⟩ := FX.out.1 (by rw [HN.out]; omega)
            have c0 := hc i (by rw [HN.out]; omega)
            have hz : (i : Int) < (k : Int) := by omega
            clear hc
            by_cases hsp : ss.getD i ByteArray.empty = p
            · have e1 := eqS_yes hsp
              have IF : Hid (IsFirst ss p (i : Int)) := .inr ⟨i, rfl, by rw [HN.out]; exact hlt, hsp, HF.out⟩
              have HSP := hide hsp
              clear hsp
              generalize ss.getD i ByteArray.empty = y at c0 e1
              clear HF hi
              go_wp2_with fail
              clear c0 e1
              refine (artifact_any U pb g k _ p FX.out.2.1.lies (by rw [List.length_map]; exact HN.out) hk4 FX.out.2.2.2.2.1 FX.out.2.2.2.1).mono ?_
              rintro e u2 ⟨r, hf, hb, hr⟩
              rw [map_fst'] at hf
              have er := hf.uniq IF.out
              subst er
              rcases hr with ⟨hr, _⟩ | ⟨i', hr, _, rfl⟩
              · omega
              obtain rfl : i' = i := by omega
              clear hr hf
              have HB := hide hb
              clear hb
              have hx : (ss.map fun s => (s, ByteArray.empty))[i']? = some (p, ByteArray.empty) := by rw [getD_map ss i' (by rw [HN.out]; exact hlt), HSP.out]
              have HX := hide hx
              have LB := hide (FX.out.2.1.below HB.out)
              obtain ⟨y0, y1, y2, y3⟩ := LB.out.lies.at i' (by rw [List.length_map, HN.out]; exact hlt)
              have f2 := LB.out.free (i' * 4 + 2)
              clear hx y0 y1 y3
              generalize (List.getD (ss.map fun s => (s, ByteArray.empty)) i' default).2 = y at y2
              have AM := hide (after_mark (m := m) FX.out.2.2.1 GL.out FX.out.2.1 FX.out.2.2.2.1 FX.out.2.2.2.2.1 FX.out.2.2.2.2.2 HB.out HX.out)
              have il : i' < ss.length := by rw [HN.out]; exact hlt
              have IL := hide il
              clear il
              go_wp2_with fail
              clear y2 f2
              refine (look_some _ pb g k i' _ p m p AM.out.2.1.lies (by rw [List.length_set, List.length_map]; exact HN.out) hk4 AM.out.2.2.2 AM.out.2.2.1 (by rw [map_fst_mark ss i' p m IL.out HSP.out]; exact IF.out) (by rw [List.getElem?_set_self (by rw [List.length_map]; exact IL.out)])).mono ?_
              rintro e u3 ⟨rfl, hb3⟩
              have LV := hide (AM.out.2.1.below hb3)
              have BV := hide (AM.out.1.trans (hb3.mono AM.out.1.size))
              clear hb3 AM FX LB HB
              have e0 : (p.toList == p.toList) = true := by simp
              have e1 : (m.toList == m.toList) = true := by simp
              have d0 : decide ((i' : Int) < 0) = false := decide_eq_false (by omega)
              go_wp2_with fail
              have CA := hide (cells_at (o := .cells #[.string p, .bool false, .string m, .slice none 0 0] 39) (n := k) (fun j => if j = i' then m else ByteArray.empty) HS.out BV.out LV.out (by rw [List.length_set, List.length_map]; exact HN.out) (fun j hj => types_mark ss i' j p m IL.out (by rw [HN.out]; exact hj) HSP.out))
              generalize u3.alloc (.cells #[.string p, .bool false, .string m, .slice none 0 0] 39) = V at CA ⊢
              generalize u3.heap.size = gv
              clear LV BV u3 HX HSP IF e0 GL
              go_loopw [16] (fun j wr => ∃ k' q : Nat, k' ≤ k ∧ j = .int .i64 k' ∧ wr = V.drewN q) (fun j _ => k - (intOf j).toNat)
              case atStart => exact ⟨0, 0, by omega, rfl, rfl⟩
              case round =>
                obtain ⟨j, q, hj, rfl, rfl⟩ := hrel
                by_cases hlt2 : j < k
                · obtain ⟨b2, off2, e2, _, hc⟩ := CA.out.2.1 (by rw [HN.out]; omega)
                  cases e2
                  have cs := hc j (by rw [HN.out]; omega)
                  obtain ⟨c0, c1, c2, c3⟩ := CA.out.2.2 j hlt2
                  clear hc
                  generalize ss.getD j ByteArray.empty = y at cs c0
                  have e0 : (y.toList == y.toList) = true := by simp
                  have hz2 : (j : Int) < (k : Int) := by omega
                  by_cases hji : j = i'
                  · rw [if_pos hji] at c2
                    have b1 : ((j : Int) == (i' : Int)) = true := by simp [hji]
                    clear hji
                    go_wp2
                    go_quiet (fail)
                    go_wp2
                    go_roundw
                    case rel => exact ⟨j + 1, q + nq, by omega, by go_num, rfl⟩
                    case measure => simp [intOf]; omega
                  · rw [if_neg hji] at c2
                    have b1 : ((j : Int) == (i' : Int)) = false := by simp; omega
                    clear hji
                    go_wp2
                    go_quiet (fail)
                    go_wp2
                    go_roundw
                    case rel => exact ⟨j + 1, q + nq, by omega, by go_num, rfl⟩
                    case measure => simp [intOf]; omega
                · go_wp2
                  go_ret
                  exact ⟨rfl, CA.out.1.trans (still_drewN _ _ _)⟩
            · have e1 := eqS_no hsp
              have HSP := hide hsp
              clear hsp
              generalize hy : ss.getD i ByteArray.empty = y at c0 e1
              have HY := hide hy
              clear hy
              go_wp2_with fail
              go_round
              case rel =>
                refine ⟨i + 1, by omega, rfl, by go_num, fun j hj => ?_⟩
                by_cases e : j = i
                · subst e; exact HSP.out
                · exact HF.out j (by omega)
              case measure => simp [intOf]; omega
          · have IF : Hid (IsFirst ss p (-1)) := .inl ⟨rfl, fun j hj => HF.out j (by rw [HN.out] at hj; omega)⟩
            clear HF
            go_wp2_with fail
            refine (artifact_any U pb g k _ p FX.out.2.1.lies (by rw [List.length_map]; exact HN.out) hk4 FX.out.2.2.2.2.1 FX.out.2.2.2.1).mono ?_
            rintro e u2 ⟨r, hf, hb, hr⟩
            rw [map_fst'] at hf
            have er := hf.uniq IF.out
            subst er
            rcases hr with ⟨_, rfl⟩ | ⟨i', hr, _⟩
            case inr => omega
            clear hf
            have HB := hide hb
            have LB := hide (FX.out.2.1.below hb)
            have hpb : pb < u2.heap.size := Nat.lt_of_lt_of_le FX.out.2.2.2.2.1 hb.size
            have hcp : u2.cell? ⟨pb, 2, none⟩ = some (.slice (some ⟨g, 0, none⟩) k k) := by rw [hb.cell (p := ⟨pb, 2, none⟩) FX.out.2.2.2.2.1]; exact FX.out.2.2.2.1
            have HPB := hide hpb
            have HCP := hide hcp
            clear hb hpb hcp
            go_wp2_with fail
            refine (look_none u2 pb g k _ p LB.out.lies (by rw [List.length_map]; exact HN.out) hk4 HPB.out HCP.out (by rw [map_fst']; exact IF.out)).mono ?_
            rintro e u3 ⟨rfl, hb3⟩
            have LV := hide (LB.out.below hb3)
            have BV := hide ((FX.out.2.2.1.trans (HB.out.mono FX.out.2.2.1.size)).trans (hb3.mono (FX.out.2.2.1.trans (HB.out.mono FX.out.2.2.1.size)).size))
            clear hb3 FX LB HB HPB HCP IF GL
            go_wp2_with fail
            have CA := hide (cells_at (o := .cells #[.string ⟨#[]⟩, .bool false, .string ⟨#[]⟩, .slice none 0 0] 39) (n := k) (fun j => ByteArray.empty) HS.out BV.out LV.out (by rw [List.length_map]; exact HN.out) (fun j hj => types_plain ss j (by rw [HN.out]; exact hj)))
            generalize u3.alloc (.cells #[.string ⟨#[]⟩, .bool false, .string ⟨#[]⟩, .slice none 0 0] 39) = V at CA ⊢
            generalize u3.heap.size = gv
            clear LV BV u3
            go_loopw [16] (fun j wr => ∃ k' q : Nat, k' ≤ k ∧ j = .int .i64 k' ∧ wr = V.drewN q) (fun j _ => k - (intOf j).toNat)
            case atStart => exact ⟨0, 0, by omega, rfl, rfl⟩
            case round =>
              obtain ⟨j, q, hj, rfl, rfl⟩ := hrel
              by_cases hlt2 : j < k
              · obtain ⟨b2, off2, rfl, _, hc⟩ := CA.out.2.1 (by rw [HN.out]; omega)
                have cs := hc j (by rw [HN.out]; omega)
                obtain ⟨c0, c1, c2, c3⟩ := CA.out.2.2 j hlt2
                clear hc
                generalize ss.getD j ByteArray.empty = y at cs c0
                have e0 : (y.toList == y.toList) = true := by simp
                have hz2 : (j : Int) < (k : Int) := by omega
                have b1 : ((j : Int) == -1) = false := by simp
                go_wp2
                go_quiet (fail)
                go_wp2
                go_roundw
                case rel => exact ⟨j + 1, q + nq, by omega, by go_num, rfl⟩
                case measure => simp [intOf]; omega
              · go_wp2
                go_ret
                exact ⟨rfl, CA.out.1.trans (still_drewN _ _ _)⟩
end Go.Proofs.Qxb6615852a
