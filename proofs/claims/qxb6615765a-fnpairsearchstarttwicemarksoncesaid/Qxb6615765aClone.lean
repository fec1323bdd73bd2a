/-
  THE WALKS OF psCloneI32 AND psCloneInt: a new block that holds what the slice holds; nil for nil.
-/
import Derived.Test.Qxb6615765aProg
import Derived.Test.Qxb6615765aMake
import Derived.Test.Qxb6615765aPile
import Derived.LoopTactic
import Derived.Lib.SliceRun
namespace Go.Proofs.Qxb6615765a
open Go.RowKit

theorem Try.info21 : (Try.prog.info? 21).map (fun i => (i.zero, i.size, i.bytes)) = some (some (.int .i32 0), 1, 4) := by kernel_rfl
theorem Try.info3 : (Try.prog.info? 3).map (fun i => (i.zero, i.size, i.bytes)) = some (some (.int .i64 0), 1, 8) := by kernel_rfl

/-- The first j copied, the rest still zero. -/
def mixed (k : IntKind) (zs : List Int) (j : Nat) : List Value := ((zs.take j).map (Value.int k)) ++ List.replicate (zs.length - j) (.int k 0)
theorem mixed_zero (k : IntKind) (zs : List Int) : (madeCells #[.int k 0] zs.length).toList = mixed k zs 0 := by
  rw [toList_madeCells_one]; simp [mixed]
theorem mixed_all (k : IntKind) (zs : List Int) : mixed k zs zs.length = zs.map (Value.int k) := by simp [mixed]
theorem mixed_length (k : IntKind) (zs : List Int) (j : Nat) (hj : j ≤ zs.length) : (mixed k zs j).length = zs.length := by simp [mixed]; omega
theorem mixed_at (k : IntKind) (zs : List Int) (j : Nat) (hj : j < zs.length) : (mixed k zs j)[j]? = some (.int k 0) := by
  unfold mixed
  have hl : ((zs.take j).map (Value.int k)).length = j := by rw [List.length_map, List.length_take]; omega
  rw [List.getElem?_append_right (by omega), hl, Nat.sub_self, List.getElem?_replicate, if_pos (by omega)]
theorem mixed_step (k : IntKind) (zs : List Int) (j : Nat) (hj : j < zs.length) : (mixed k zs j).set j (.int k (zs.getD j 0)) = mixed k zs (j + 1) := by
  unfold mixed
  have hl : ((zs.take j).map (Value.int k)).length = j := by simp; omega
  rw [List.set_append_right _ _ (by omega), hl, Nat.sub_self, show zs.length - j = (zs.length - (j + 1)) + 1 from by omega, List.replicate_succ, List.set_cons_zero,
    List.take_succ_eq_append_getElem hj, List.map_append, List.append_assoc]
  simp [List.getD_eq_getElem?_getD, List.getElem?_eq_getElem hj]
theorem getD_walk (zs : List Int) (j : Nat) : zs.getD j 0 = zs[j]?.getD 0 := by simp [List.getD_eq_getElem?_getD]

/-- WHAT THE WALK IS TOLD OF A SLICE OF INTEGERS THAT CAME IN: it is nil; or it leads to a row of 'cap' cells, the numbers 'zs' (the first 'len' are its elements, the rest its spare room), each fitting its kind. (As the shells have it.) -/
def IsRow (k : IntKind) (w : World) (a : Option Addr) (len cap : Nat) (zs : List Int) : Prop :=
  (a = none ∧ len = 0 ∧ cap = 0 ∧ zs = []) ∨
  ∃ x, a = some x ∧ len ≤ cap ∧ cap ≤ maxLen ∧ zs.length = cap ∧ (∀ i, i < zs.length → w.cell? (x.add i) = some (.int k (zs.getD i 0))) ∧ ∀ n ∈ zs, (Lit.int k n).wf = true

theorem len_le {k : IntKind} {w : World} {a : Option Addr} {len cap : Nat} {zs : List Int} (h : IsRow k w a len cap zs) : len ≤ 9223372036854775807 := by
  rcases h with ⟨_, h, _⟩ | ⟨x, _, h1, h2, _⟩
  · omega
  · unfold maxLen at h2; omega

theorem ne21 : (21 : Nat) ≠ 47 := by decide
theorem ne3 : (3 : Nat) ≠ 47 := by decide

/-- A source that a clone reads: nil, or its elements' cells in w. -/
def Src (k : IntKind) (w : World) (a : Option Addr) (cap : Nat) (zs : List Int) : Prop :=
  (a = none ∧ cap = 0 ∧ zs = []) ∨ ∃ x, a = some x ∧ (0 < zs.length → ∃ b off, x = ⟨b, off, none⟩ ∧ b < w.heap.size ∧ ∀ j, j < zs.length → w.cell? ⟨b, off + j, none⟩ = some (.int k (zs.getD j 0)))

theorem addr_plain (b off j : Nat) : (⟨b, off, none⟩ : Addr).add j = ⟨b, off + j, none⟩ := by simp [Addr.add]

theorem Src.of_arg {k : IntKind} {w0 w : World} {a : Option Addr} {len cap : Nat} {Z : List Int} (h : IsRow k w0 a len cap Z) (hb : Below w0.heap.size w0 w) : Src k w a cap (Z.take len) ∧ (Z.take len).length = len := by
  rcases h with ⟨rfl, rfl, rfl, rfl⟩ | ⟨x, rfl, hl, hm, hz, hc, _⟩
  · exact ⟨.inl ⟨rfl, rfl, rfl⟩, rfl⟩
  · have hlen : (Z.take len).length = len := by rw [List.length_take]; omega
    refine ⟨.inr ⟨x, rfl, fun h0 => ?_⟩, hlen⟩
    obtain ⟨b, off, spot⟩ := x
    have hspot : spot = none := by simpa [Addr.add] using World.cell?_spot (hc 0 (by omega))
    subst hspot
    have hbl : b < w0.heap.size := World.block_lt_of_cell? w0 ⟨b, off + 0, none⟩ (by rw [← addr_plain]; exact hc 0 (by omega))
    refine ⟨b, off, rfl, Nat.lt_of_lt_of_le hbl hb.size, fun j hj => ?_⟩
    rw [hb.cell (p := ⟨b, off + j, none⟩) hbl, ← addr_plain, hc j (by omega)]
    simp only [List.getD_eq_getElem?_getD, List.getElem?_take, if_pos (show j < len by omega)]

theorem Src.of_row {w0 w : World} {L : List RowOf} {bs : List BoxOf} (h : Pile w0 w L bs) {i : Nat} {r : RowOf} (hi : L[i]? = some r) : ∃ ao cap, r.v = .slice ao r.zs.length cap ∧ Src r.k w ao cap r.zs := by
  obtain ⟨ao, cap, hv, hc, hn, hp⟩ := h.view hi
  refine ⟨ao, cap, hv, ?_⟩
  cases ao with
  | none => have := hn rfl; exact .inl ⟨rfl, this, List.eq_nil_of_length_eq_zero (by omega)⟩
  | some x =>
    refine .inr ⟨x, rfl, fun h0 => ?_⟩
    obtain ⟨g, hg, hb, hlt, hcell⟩ := hp h0
    refine ⟨g, 0, Option.some.inj hg, hlt, fun j hj => ?_⟩
    rw [Nat.zero_add]
    exact hcell j hj

set_option maxRecDepth 20000 in
/-- psCloneI32 of a slice with elements. -/
theorem clone32_pos (b off cap : Nat) (zs : List Int) (w : World) (hb : b < w.heap.size) (h0 : 0 < zs.length) (h1 : zs.length ≤ 1000000)
    (hc : ∀ j, j < zs.length → w.cell? ⟨b, off + j, none⟩ = some (.int .i32 (zs.getD j 0))) :
    Calls Try.prog 11 #[.slice (some ⟨b, off, none⟩) zs.length cap] w fun e w' => e = .returned (.slice (some ⟨w.heap.size, 0, none⟩) zs.length zs.length) ∧ w' = w.alloc (.cells (zs.map (Value.int .i32)).toArray 21) := by
  obtain ⟨i0, hi, hz0, hz1, hz2⟩ := info_parts Try.info21
  have hnil : ∀ (W : World) (n : Nat), (binOp .eql 26 (.slice (some ⟨b, off, none⟩) n cap) (.slice none 0 0)).run Try.prog W = .ok (.bool false) W := fun W n => Lib.run_eql_slice_nil W 26 21 _ n cap 0 0 Try.underlying26
  generalize hn : zs.length = n at h0 h1 hc ⊢
  have HN : Hid (zs.length = n) := hn
  clear hn
  go_enter Try.func11, Try.ntmps11
  go_wp2_with (at_make; refine wpList_make_lit _ rfl _ _ 26 rfl 21 i0 (.int .i32 0) Try.underlying26 hi hz0 hz1 _ _ _ _ n rfl rfl (by omega) (by omega) (by rw [hz2]; omega) (by omega) ?_)
  clear hi hz0 hz1 hz2 hnil
  go_loopw [4] (fun i wr => ∃ (k : Nat) (C : Array Value), k ≤ n ∧ i = .int .i64 k ∧ Hid (C.toList = mixed .i32 zs k) ∧ wr = w.alloc (.cells C 21)) (fun i _ => n - (intOf i).toNat)
  case atStart => exact ⟨0, _, by omega, rfl, (by rw [← HN.out]; exact mixed_zero .i32 zs), rfl⟩
  case round =>
    obtain ⟨k, C, hk, rfl, HC, rfl⟩ := hrel
    by_cases hlt : k < n
    · have hsrc : (w.alloc (.cells C 21)).cell? ⟨b, off + k, none⟩ = some (.int .i32 (zs.getD k 0)) := by
        rw [World.cell?_alloc_past _ _ _ hb]; exact hc k hlt
      have hne : b ≠ w.heap.size := by omega
      have hdst : C[k]? = some (.int .i32 0) := by
        rw [← Array.getElem?_toList, HC.out]; exact mixed_at .i32 zs k (by rw [HN.out]; exact hlt)
      have HS : Hid ((C.setIfInBounds k (.int .i32 (zs.getD k 0))).toList = mixed .i32 zs (k + 1)) := by
        show _ = _
        rw [Array.toList_setIfInBounds, HC.out]; exact mixed_step .i32 zs k (by rw [HN.out]; exact hlt)
      generalize zs.getD k 0 = x at hsrc HS
      clear hc HC
      go_wp2
      go_roundw
      case rel => exact ⟨k + 1, _, by omega, by go_num, HS, rfl⟩
      case measure => simp [intOf]; omega
    · clear hc
      have ek : k = n := by omega
      go_wp2
      go_ret
      refine ⟨rfl, ?_⟩
      have e : C = (zs.map (Value.int .i32)).toArray := by
        apply Array.toList_inj.1
        rw [HC.out, ek, ← HN.out, mixed_all]
      rw [e]

/-- .. of an empty slice that is not nil. -/
theorem clone32_zero (x : Addr) (cap : Nat) (w : World) :
    Calls Try.prog 11 #[.slice (some x) 0 cap] w fun e w' => e = .returned (.slice (some ⟨w.heap.size, 0, none⟩) 0 0) ∧ w' = w.alloc (.cells #[] 21) := by
  obtain ⟨i0, hi, hz0, hz1, hz2⟩ := info_parts Try.info21
  have hnil : ∀ (W : World), (binOp .eql 26 (.slice (some x) 0 cap) (.slice none 0 0)).run Try.prog W = .ok (.bool false) W := fun W => Lib.run_eql_slice_nil W 26 21 _ 0 cap 0 0 Try.underlying26
  have e0 : madeCells #[.int .i32 0] 0 = #[] := by simp [madeCells]
  go_enter Try.func11, Try.ntmps11
  go_wp2_with (at_make; refine wpList_make_lit _ rfl _ _ 26 rfl 21 i0 (.int .i32 0) Try.underlying26 hi hz0 hz1 _ _ _ _ 0 rfl rfl (by omega) (by omega) (by rw [hz2]; omega) (by omega) ?_)
  clear hi hz0 hz1 hz2 hnil
  refine wp_loop_rounds 1 ?_
  rw [rounds_succ]
  go_wp2
  go_ret
  exact ⟨rfl, rfl⟩
/-- .. of nil. -/
theorem clone32_nil (w : World) : Calls Try.prog 11 #[.slice none 0 0] w fun e w' => e = .returned (.slice none 0 0) ∧ w' = w := by
  have hnil : ∀ (W : World), (binOp .eql 26 (.slice none 0 0) (.slice none 0 0)).run Try.prog W = .ok (.bool true) W := fun W => Lib.run_eql_slice_nil W 26 21 _ 0 0 0 0 Try.underlying26
  go_enter Try.func11, Try.ntmps11
  go_wp2
  go_ret
  exact ⟨rfl, rfl⟩

theorem clone32_any {w0 w : World} {L : List RowOf} {bs : List BoxOf} (hp : Pile w0 w L bs) (a : Option Addr) (n cap : Nat) (zs : List Int) (hn : zs.length = n) (h1 : n ≤ 1000000) (hs : Src .i32 w a cap zs) :
    Calls Try.prog 11 #[.slice a n cap] w fun e w' => ∃ v, e = .returned v ∧ Pile w0 w' (L ++ [⟨v, 21, .i32, zs⟩]) bs := by
  subst hn
  rcases hs with ⟨rfl, rfl, rfl⟩ | ⟨x, rfl, hs⟩
  · refine (clone32_nil w).mono ?_
    rintro e w' ⟨rfl, rfl⟩
    refine ⟨_, rfl, hp.push (grownBy_drewN _ 0 none) ⟨.slice none 0 0, 21, .i32, []⟩ (World.ownsRow_nil _ _ _ _) ne21 (fun g e => by cases e)⟩
  · by_cases h0 : 0 < zs.length
    · obtain ⟨b, off, rfl, hb, hc⟩ := hs h0
      refine (clone32_pos b off cap zs w hb h0 h1 hc).mono ?_
      rintro e w' ⟨rfl, rfl⟩
      refine ⟨_, rfl, hp.push (grownBy_alloc' w _ none) ⟨_, 21, .i32, zs⟩ ?_ ne21 (fun g e => by simp [Value.ownBlock] at e; omega)⟩
      have := World.ownsRow_lit (base := w0.heap.size) (e := 21) (size := 1) w (zs.map (Value.int .i32)).toArray zs.length hp.size (by unfold maxLen; omega) (by simp)
      simpa [RowOf.In] using this
    · have e0 : zs = [] := List.eq_nil_of_length_eq_zero (by omega)
      subst e0
      refine (clone32_zero x cap w).mono ?_
      rintro e w' ⟨rfl, rfl⟩
      refine ⟨_, rfl, hp.push (grownBy_alloc' w _ none) ⟨_, 21, .i32, []⟩ ?_ ne21 (fun g e => by simp [Value.ownBlock] at e; omega)⟩
      have := World.ownsRow_lit (base := w0.heap.size) (e := 21) (size := 1) w #[] 0 hp.size (by unfold maxLen; omega) (by simp)
      simpa [RowOf.In] using this

/-- psCloneI32 of an argument. -/
theorem clone32_arg {w0 w : World} {L : List RowOf} {bs : List BoxOf} (hp : Pile w0 w L bs) (a : Option Addr) (len cap : Nat) (Z : List Int) (h1 : len ≤ 1000000) (hr : IsRow .i32 w0 a len cap Z) :
    Calls Try.prog 11 #[.slice a len cap] w fun e w' => ∃ v, e = .returned v ∧ Pile w0 w' (L ++ [⟨v, 21, .i32, Z.take len⟩]) bs := by
  have h := Src.of_arg hr hp.bel
  exact clone32_any hp a len cap (Z.take len) h.2 h1 h.1

/-- psCloneI32 of a row of the pile. -/
theorem clone32_row {w0 w : World} {L : List RowOf} {bs : List BoxOf} (hp : Pile w0 w L bs) (i : Nat) (v : Value) (zs : List Int) (hi : L[i]? = some ⟨v, 21, .i32, zs⟩) (h1 : zs.length ≤ 1000000) :
    Calls Try.prog 11 #[v] w fun e w' => ∃ v', e = .returned v' ∧ Pile w0 w' (L ++ [⟨v', 21, .i32, zs⟩]) bs := by
  obtain ⟨ao, cap, hv, hs⟩ := Src.of_row hp hi
  simp only at hv hs
  rw [hv]
  exact clone32_any hp ao zs.length cap zs rfl h1 hs

set_option maxRecDepth 20000 in
/-- psCloneInt of a slice with elements. -/
theorem clone64_pos (b off cap : Nat) (zs : List Int) (w : World) (hb : b < w.heap.size) (h0 : 0 < zs.length) (h1 : zs.length ≤ 1000000)
    (hc : ∀ j, j < zs.length → w.cell? ⟨b, off + j, none⟩ = some (.int .i64 (zs.getD j 0))) :
    Calls Try.prog 12 #[.slice (some ⟨b, off, none⟩) zs.length cap] w fun e w' => e = .returned (.slice (some ⟨w.heap.size, 0, none⟩) zs.length zs.length) ∧ w' = w.alloc (.cells (zs.map (Value.int .i64)).toArray 3) := by
  obtain ⟨i0, hi, hz0, hz1, hz2⟩ := info_parts Try.info3
  have hnil : ∀ (W : World) (n : Nat), (binOp .eql 27 (.slice (some ⟨b, off, none⟩) n cap) (.slice none 0 0)).run Try.prog W = .ok (.bool false) W := fun W n => Lib.run_eql_slice_nil W 27 3 _ n cap 0 0 Try.underlying27
  generalize hn : zs.length = n at h0 h1 hc ⊢
  have HN : Hid (zs.length = n) := hn
  clear hn
  go_enter Try.func12, Try.ntmps12
  go_wp2_with (at_make; refine wpList_make_lit _ rfl _ _ 27 rfl 3 i0 (.int .i64 0) Try.underlying27 hi hz0 hz1 _ _ _ _ n rfl rfl (by omega) (by omega) (by rw [hz2]; omega) (by omega) ?_)
  clear hi hz0 hz1 hz2 hnil
  go_loopw [4] (fun i wr => ∃ (k : Nat) (C : Array Value), k ≤ n ∧ i = .int .i64 k ∧ Hid (C.toList = mixed .i64 zs k) ∧ wr = w.alloc (.cells C 3)) (fun i _ => n - (intOf i).toNat)
  case atStart => exact ⟨0, _, by omega, rfl, (by rw [← HN.out]; exact mixed_zero .i64 zs), rfl⟩
  case round =>
    obtain ⟨k, C, hk, rfl, HC, rfl⟩ := hrel
    by_cases hlt : k < n
    · have hsrc : (w.alloc (.cells C 3)).cell? ⟨b, off + k, none⟩ = some (.int .i64 (zs.getD k 0)) := by
        rw [World.cell?_alloc_past _ _ _ hb]; exact hc k hlt
      have hne : b ≠ w.heap.size := by omega
      have hdst : C[k]? = some (.int .i64 0) := by
        rw [← Array.getElem?_toList, HC.out]; exact mixed_at .i64 zs k (by rw [HN.out]; exact hlt)
      have HS : Hid ((C.setIfInBounds k (.int .i64 (zs.getD k 0))).toList = mixed .i64 zs (k + 1)) := by
        show _ = _
        rw [Array.toList_setIfInBounds, HC.out]; exact mixed_step .i64 zs k (by rw [HN.out]; exact hlt)
      generalize zs.getD k 0 = x at hsrc HS
      clear hc HC
      go_wp2
      go_roundw
      case rel => exact ⟨k + 1, _, by omega, by go_num, HS, rfl⟩
      case measure => simp [intOf]; omega
    · clear hc
      have ek : k = n := by omega
      go_wp2
      go_ret
      refine ⟨rfl, ?_⟩
      have e : C = (zs.map (Value.int .i64)).toArray := by
        apply Array.toList_inj.1
        rw [HC.out, ek, ← HN.out, mixed_all]
      rw [e]

/-- .. of an empty slice that is not nil. -/
theorem clone64_zero (x : Addr) (cap : Nat) (w : World) :
    Calls Try.prog 12 #[.slice (some x) 0 cap] w fun e w' => e = .returned (.slice (some ⟨w.heap.size, 0, none⟩) 0 0) ∧ w' = w.alloc (.cells #[] 3) := by
  obtain ⟨i0, hi, hz0, hz1, hz2⟩ := info_parts Try.info3
  have hnil : ∀ (W : World), (binOp .eql 27 (.slice (some x) 0 cap) (.slice none 0 0)).run Try.prog W = .ok (.bool false) W := fun W => Lib.run_eql_slice_nil W 27 3 _ 0 cap 0 0 Try.underlying27
  have e0 : madeCells #[.int .i64 0] 0 = #[] := by simp [madeCells]
  go_enter Try.func12, Try.ntmps12
  go_wp2_with (at_make; refine wpList_make_lit _ rfl _ _ 27 rfl 3 i0 (.int .i64 0) Try.underlying27 hi hz0 hz1 _ _ _ _ 0 rfl rfl (by omega) (by omega) (by rw [hz2]; omega) (by omega) ?_)
  clear hi hz0 hz1 hz2 hnil
  refine wp_loop_rounds 1 ?_
  rw [rounds_succ]
  go_wp2
  go_ret
  exact ⟨rfl, rfl⟩
/-- .. of nil. -/
theorem clone64_nil (w : World) : Calls Try.prog 12 #[.slice none 0 0] w fun e w' => e = .returned (.slice none 0 0) ∧ w' = w := by
  have hnil : ∀ (W : World), (binOp .eql 27 (.slice none 0 0) (.slice none 0 0)).run Try.prog W = .ok (.bool true) W := fun W => Lib.run_eql_slice_nil W 27 3 _ 0 0 0 0 Try.underlying27
  go_enter Try.func12, Try.ntmps12
  go_wp2
  go_ret
  exact ⟨rfl, rfl⟩

theorem clone64_any {w0 w : World} {L : List RowOf} {bs : List BoxOf} (hp : Pile w0 w L bs) (a : Option Addr) (n cap : Nat) (zs : List Int) (hn : zs.length = n) (h1 : n ≤ 1000000) (hs : Src .i64 w a cap zs) :
    Calls Try.prog 12 #[.slice a n cap] w fun e w' => ∃ v, e = .returned v ∧ Pile w0 w' (L ++ [⟨v, 3, .i64, zs⟩]) bs := by
  subst hn
  rcases hs with ⟨rfl, rfl, rfl⟩ | ⟨x, rfl, hs⟩
  · refine (clone64_nil w).mono ?_
    rintro e w' ⟨rfl, rfl⟩
    refine ⟨_, rfl, hp.push (grownBy_drewN _ 0 none) ⟨.slice none 0 0, 3, .i64, []⟩ (World.ownsRow_nil _ _ _ _) ne3 (fun g e => by cases e)⟩
  · by_cases h0 : 0 < zs.length
    · obtain ⟨b, off, rfl, hb, hc⟩ := hs h0
      refine (clone64_pos b off cap zs w hb h0 h1 hc).mono ?_
      rintro e w' ⟨rfl, rfl⟩
      refine ⟨_, rfl, hp.push (grownBy_alloc' w _ none) ⟨_, 3, .i64, zs⟩ ?_ ne3 (fun g e => by simp [Value.ownBlock] at e; omega)⟩
      have := World.ownsRow_lit (base := w0.heap.size) (e := 3) (size := 1) w (zs.map (Value.int .i64)).toArray zs.length hp.size (by unfold maxLen; omega) (by simp)
      simpa [RowOf.In] using this
    · have e0 : zs = [] := List.eq_nil_of_length_eq_zero (by omega)
      subst e0
      refine (clone64_zero x cap w).mono ?_
      rintro e w' ⟨rfl, rfl⟩
      refine ⟨_, rfl, hp.push (grownBy_alloc' w _ none) ⟨_, 3, .i64, []⟩ ?_ ne3 (fun g e => by simp [Value.ownBlock] at e; omega)⟩
      have := World.ownsRow_lit (base := w0.heap.size) (e := 3) (size := 1) w #[] 0 hp.size (by unfold maxLen; omega) (by simp)
      simpa [RowOf.In] using this

/-- psCloneInt of an argument. -/
theorem clone64_arg {w0 w : World} {L : List RowOf} {bs : List BoxOf} (hp : Pile w0 w L bs) (a : Option Addr) (len cap : Nat) (Z : List Int) (h1 : len ≤ 1000000) (hr : IsRow .i64 w0 a len cap Z) :
    Calls Try.prog 12 #[.slice a len cap] w fun e w' => ∃ v, e = .returned v ∧ Pile w0 w' (L ++ [⟨v, 3, .i64, Z.take len⟩]) bs := by
  have h := Src.of_arg hr hp.bel
  exact clone64_any hp a len cap (Z.take len) h.2 h1 h.1

/-- psCloneInt of a row of the pile. -/
theorem clone64_row {w0 w : World} {L : List RowOf} {bs : List BoxOf} (hp : Pile w0 w L bs) (i : Nat) (v : Value) (zs : List Int) (hi : L[i]? = some ⟨v, 3, .i64, zs⟩) (h1 : zs.length ≤ 1000000) :
    Calls Try.prog 12 #[v] w fun e w' => ∃ v', e = .returned v' ∧ Pile w0 w' (L ++ [⟨v', 3, .i64, zs⟩]) bs := by
  obtain ⟨ao, cap, hv, hs⟩ := Src.of_row hp hi
  simp only at hv hs
  rw [hv]
  exact clone64_any hp ao zs.length cap zs rfl h1 hs

/-- A literal '[]int{..}' of the call's own. -/
theorem Pile.lit {w0 w : World} {L : List RowOf} {bs : List BoxOf} (hp : Pile w0 w L bs) (xs : List Int) (h1 : xs.length ≤ 1000000) :
    Pile w0 (w.alloc (.cells (xs.map (Value.int .i64)).toArray 3)) (L ++ [⟨.slice (some ⟨w.heap.size, 0, none⟩) xs.length xs.length, 3, .i64, xs⟩]) bs := by
  refine hp.push (grownBy_alloc' w _ none) ⟨_, 3, .i64, xs⟩ ?_ ne3 (fun g e => by simp [Value.ownBlock] at e; omega)
  have := World.ownsRow_lit (base := w0.heap.size) (e := 3) (size := 1) w (xs.map (Value.int .i64)).toArray xs.length hp.size (by unfold maxLen; omega) (by simp)
  simpa [RowOf.In] using this
end Go.Proofs.Qxb6615765a
