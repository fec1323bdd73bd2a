/-
  THE WALK OF zzArts: one new block, an artifact a path.
-/
import Derived.Test.Qxb6615852aProg
import Derived.Test.Qxb6615852aArts
import Derived.LoopTactic
namespace Go.Proofs.Qxb6615852a
open Go.RowKit
set_option linter.unusedVariables false

theorem hide {p : Prop} (h : p) : Hid p := h

/-- What is known of a slice of strings that is read: where it holds something, its cells. -/
def Strs (w : World) (ao : Option Addr) (ss : List ByteArray) : Prop :=
  0 < ss.length → ∃ b off, ao = some ⟨b, off, none⟩ ∧ b < w.heap.size ∧ ∀ j, j < ss.length → w.cell? ⟨b, off + j, none⟩ = some (.string (ss.getD j ByteArray.empty))

theorem Strs.below {w w' : World} {ao : Option Addr} {ss : List ByteArray} {B : Nat} (h : Strs w ao ss) (hb : Below w.heap.size w w') : Strs w' ao ss := fun h0 => by
  obtain ⟨b, off, e, hlt, hc⟩ := h h0
  refine ⟨b, off, e, Nat.lt_of_lt_of_le hlt hb.size, fun j hj => ?_⟩
  rw [hb.cell (p := ⟨b, off + j, none⟩) hlt]
  exact hc j hj

theorem wpList_make_lit {P : Program} (w : World) {ops : Array Oper} {rest : List Oper} {o : Oper} {a : Act} {Q : Exit → Act → World → Prop}
    (hg : o.guard = none) (l c : Operand) (t : TypeId) (hop : o.op = Op.makeSlice t l c)
    (e : TypeId) (i : TypeInfo) (z : Value) (size : Nat) (h1 : P.underlying t = some (.slice e)) (h2 : P.info? e = some i) (h3 : i.zero = some z) (h4 : i.size = size)
    (kl kc : IntKind) (L C : Int) (n : Nat) (hl : a.eval l = .int kl L) (hc : a.eval c = .int kc C) (hL : L = (n : Int)) (hC : C = (n : Int)) (b2 : i.bytes * n ≤ 281474976710656) (b3 : n ≤ 9223372036854775807)
    (hK : wpList P ops Q rest (a.put o.dst (.slice (some ⟨w.heap.size, 0, none⟩) n n)) (w.alloc (.cells (madeCells z.cells (n * size)) e))) :
    wpList P ops Q (o :: rest) a w := by
  refine wpList_plain hg fun K hK' => ?_
  have hb' : (i.bytes : Int) * (n : Int) ≤ 281474976710656 := by
    have h : ((i.bytes * n : Nat) : Int) ≤ 281474976710656 := by omega
    rwa [Int.natCast_mul] at h
  have hr := run_make (P := P) w t e i z h1 h2 h3 kl kc n n (by omega) (Int.le_refl _) hb' (by omega)
  simp only [Int.toNat_natCast, h4] at hr
  subst hL
  subst hC
  unfold Oper.wp
  simp [execOp, hop, hl, hc, hr, Result.andThen]
  exact hK' _ _ hK

theorem Try.info39 : (Try.prog.info? 39).map (fun i => (i.zero, i.size, i.bytes)) = some (some (.agg #[.string ByteArray.empty, .bool false, .string ByteArray.empty, .slice none 0 0]), 4, 64) := by kernel_rfl

/-- The first k filled in, the rest still zero. -/
def mixed (ss : List ByteArray) (k : Nat) : List (ByteArray × ByteArray) := ((ss.take k).map fun s => (s, ByteArray.empty)) ++ List.replicate (ss.length - k) (ByteArray.empty, ByteArray.empty)
theorem mixed_length (ss : List ByteArray) (k : Nat) (h : k ≤ ss.length) : (mixed ss k).length = ss.length := by simp [mixed]; omega
theorem mixed_all (ss : List ByteArray) : mixed ss ss.length = ss.map fun s => (s, ByteArray.empty) := by simp [mixed]
theorem mixed_step (ss : List ByteArray) (j : Nat) (hj : j < ss.length) : (mixed ss j).set j (ss.getD j ByteArray.empty, ByteArray.empty) = mixed ss (j + 1) := by
  unfold mixed
  have hl : ((ss.take j).map fun s => (s, ByteArray.empty)).length = j := by rw [List.length_map, List.length_take]; omega
  rw [List.set_append_right _ _ (by omega), hl, Nat.sub_self, show ss.length - j = (ss.length - (j + 1)) + 1 from by omega, List.replicate_succ, List.set_cons_zero,
    List.take_succ_eq_append_getElem hj, List.map_append, List.append_assoc]
  simp [List.getD_eq_getElem?_getD, List.getElem?_eq_getElem hj]
theorem made_arts : ∀ n : Nat, (madeCells #[.string ByteArray.empty, .bool false, .string ByteArray.empty, .slice none 0 0] (n * 4)).toList = arts (List.replicate n (ByteArray.empty, ByteArray.empty)) := by
  intro n
  apply List.ext_getElem?
  intro j
  by_cases hj : j < n * 4
  · have hd : j / 4 < n := by omega
    have hx := arts_at (List.replicate n (ByteArray.empty, ByteArray.empty)) (j / 4) (ByteArray.empty, ByteArray.empty) (by simp [hd])
    have hm : (madeCells #[Value.string ByteArray.empty, .bool false, .string ByteArray.empty, .slice none 0 0] (n * 4)).toList[j]? = some (#[Value.string ByteArray.empty, .bool false, .string ByteArray.empty, .slice none 0 0][j % 4]!) := by
      simp [madeCells, hj]
    rw [hm]
    have h4 : j % 4 = 0 ∨ j % 4 = 1 ∨ j % 4 = 2 ∨ j % 4 = 3 := by omega
    rcases h4 with h | h | h | h
    · rw [h, show j = j / 4 * 4 from by omega, hx.1]; rfl
    · rw [h, show j = j / 4 * 4 + 1 from by omega, hx.2.1]; rfl
    · rw [h, show j = j / 4 * 4 + 2 from by omega, hx.2.2.1]; rfl
    · rw [h, show j = j / 4 * 4 + 3 from by omega, hx.2.2.2]; rfl
  · rw [List.getElem?_eq_none (by rw [Array.length_toList, size_madeCells]; omega), List.getElem?_eq_none (by rw [arts_length, List.length_replicate]; omega)]

set_option maxHeartbeats 1000000 in
set_option maxRecDepth 20000 in
theorem arts_walk (ao : Option Addr) (len cap f n : Nat) (sub : List ByteArray) (w : World) (hn : sub.length = n) (h1 : f + n ≤ len) (h2 : len ≤ 4096)
    (hs : 0 < n → ∃ b off, ao = some ⟨b, off, none⟩ ∧ b < w.heap.size ∧ ∀ j, j < n → w.cell? ⟨b, off + (f + j), none⟩ = some (.string (sub.getD j ByteArray.empty))) :
    Calls Try.prog 6 #[.slice ao len cap, .int .i64 f, .int .i64 ((f : Int) + (n : Int))] w fun e w' => e = .returned (.slice (some ⟨w.heap.size, 0, none⟩) n n) ∧ w' = w.alloc (.cells (arts (sub.map fun s => (s, ByteArray.empty))).toArray 39) := by
  obtain ⟨i0, hi, hz0, hz1, hz2⟩ := info_parts Try.info39
  have HN : Hid (sub.length = n) := hn
  have HS := hide hs
  clear hn hs
  go_enter Try.func6, Try.ntmps6
  go_wp2_with (at_make; refine wpList_make_lit _ rfl _ _ 24 rfl 39 i0 _ 4 Try.underlying24 hi hz0 hz1 _ _ _ _ n rfl rfl (by omega) (by omega) (by rw [hz2]; omega) (by omega) ?_)
  clear hi hz0 hz1 hz2
  go_loopw [8] (fun i wr => ∃ (k : Nat) (C : Array Value), k ≤ n ∧ i = .int .i64 ((f : Int) + (k : Int)) ∧ Hid (C.toList = arts (mixed sub k)) ∧ wr = w.alloc (.cells C 39)) (fun i _ => f + n - (intOf i).toNat)
  case atStart =>
    refine ⟨0, _, by omega, by go_num, ?_, rfl⟩
    exact (made_arts n).trans (by simp [mixed, HN.out])
  case round =>
    obtain ⟨k, C, hk, rfl, HC, rfl⟩ := hrel
    by_cases hlt : k < n
    · obtain ⟨b, off, rfl, hb, hc⟩ := HS.out (by omega)
      have hsrc : (w.alloc (.cells C 39)).cell? ⟨b, off + (f + k), none⟩ = some (.string (sub.getD k ByteArray.empty)) := by
        rw [World.cell?_alloc_past _ _ _ hb]; exact hc k hlt
      have hne : b ≠ w.heap.size := by omega
      have hsz : C.size = n * 4 := by rw [← Array.length_toList, HC.out, arts_length, mixed_length _ _ (by rw [HN.out]; omega), HN.out]
      have q0 : k * 4 < C.size := by omega
      have q1 : k * 4 + 1 < C.size := by omega
      have q2 : k * 4 + 2 < C.size := by omega
      have q3 : k * 4 + 3 < C.size := by omega
      have HK : Hid (((((C.setIfInBounds (k * 4) (.string (sub.getD k ByteArray.empty))).setIfInBounds (k * 4 + 1) (.bool false)).setIfInBounds (k * 4 + 2) (.string ⟨#[]⟩)).setIfInBounds (k * 4 + 3) (.slice none 0 0)).toList = arts (mixed sub (k + 1))) := by
        show _ = _
        simp only [Array.toList_setIfInBounds, HC.out]
        have h := arts_set (mixed sub k) k (sub.getD k ByteArray.empty, ByteArray.empty) (by rw [mixed_length _ _ (by rw [HN.out]; omega), HN.out]; exact hlt)
        rw [mixed_step sub k (by rw [HN.out]; exact hlt)] at h
        exact h
      generalize sub.getD k ByteArray.empty = x at hsrc HK
      clear hc hsz HC
      go_wp2
      go_roundw
      case rel => exact ⟨k + 1, _, by omega, by go_num, HK, rfl⟩
      case measure => simp [intOf]; omega
    · have ek : k = n := by omega
      clear HS
      go_wp2
      go_ret
      refine ⟨rfl, ?_⟩
      have e : C = (arts (sub.map fun s => (s, ByteArray.empty))).toArray := by
        apply Array.toList_inj.1
        rw [HC.out, ek, ← HN.out, mixed_all]
      rw [e]

/-- zzArts(paths, f, t). -/
theorem arts_any (ao : Option Addr) (cap f t : Nat) (ss : List ByteArray) (w : World) (hs : Strs w ao ss) (h1 : f ≤ t) (h2 : t ≤ ss.length) (h3 : ss.length ≤ 4096) :
    Calls Try.prog 6 #[.slice ao ss.length cap, .int .i64 f, .int .i64 t] w fun e w' => e = .returned (.slice (some ⟨w.heap.size, 0, none⟩) (t - f) (t - f)) ∧
      w' = w.alloc (.cells (arts (((ss.drop f).take (t - f)).map fun s => (s, ByteArray.empty))).toArray 39) := by
  have hl : ((ss.drop f).take (t - f)).length = t - f := by rw [List.length_take, List.length_drop]; omega
  have h := arts_walk ao ss.length cap f (t - f) ((ss.drop f).take (t - f)) w hl (by omega) h3 (fun h0 => by
    obtain ⟨b, off, e, hb, hc⟩ := hs (by omega)
    refine ⟨b, off, e, hb, fun j hj => ?_⟩
    rw [hc (f + j) (by omega)]
    simp only [List.getD_eq_getElem?_getD, List.getElem?_take, if_pos hj, List.getElem?_drop])
  rw [show ((f : Int) + ((t - f : Nat) : Int)) = (t : Int) from by omega] at h
  exact h
end Go.Proofs.Qxb6615852a
