/-
  THE WALK OF FnArtifactFirstMatchAcrossAnyCut.
-/
import Derived.Test.Qxb6615852aPlaces
import Derived.Test.Qxb6615852aBytes
namespace Go.Proofs.Qxb6615852a
open Go.RowKit
set_option linter.unusedVariables false

/-- The pointer that stands for the place r. -/
def PtrOf (g n : Nat) (r : Int) (v : Value) : Prop := (r = -1 ∧ v = .pointer none) ∨ ∃ i : Nat, r = (i : Int) ∧ i < n ∧ v = .pointer (some ⟨g, i * 4, none⟩)

/-- zzArts, the block's number and the world under names. -/
theorem arts_abs (ao : Option Addr) (cap f t : Nat) (ss : List ByteArray) (w : World) (hs : Strs w ao ss) (h1 : f ≤ t) (h2 : t ≤ ss.length) (h3 : ss.length ≤ 4096) :
    Calls Try.prog 6 #[.slice ao ss.length cap, .int .i64 f, .int .i64 t] w fun e w' => ∃ g, e = .returned (.slice (some ⟨g, 0, none⟩) (t - f) (t - f)) ∧
      Lies w' g (((ss.drop f).take (t - f)).map fun s => (s, ByteArray.empty)) ∧ Below w.heap.size w w' := by
  refine (arts_any ao cap f t ss w hs h1 h2 h3).mono ?_
  rintro e w' ⟨rfl, rfl⟩
  refine ⟨_, rfl, ⟨by simp, fun j hj => ?_⟩, (Below.refl _ _).alloc (Nat.le_refl _) _⟩
  rw [World.cell?_alloc_new]
  simp

theorem artifact_abs (w : World) (pb g n : Nat) (l : List (ByteArray × ByteArray)) (p : ByteArray) (hl : Lies w g l) (hn : l.length = n) (h1 : n ≤ 4096) (hpb : pb < w.heap.size) (hc : w.cell? ⟨pb, 2, none⟩ = some (.slice (some ⟨g, 0, none⟩) n n)) :
    Calls Try.prog 8 #[.pointer (some ⟨pb, 0, none⟩), .string p] w fun e w' => ∃ r v, e = .returned v ∧ IsFirst (l.map Prod.fst) p r ∧ Below w.heap.size w w' ∧ PtrOf g n r v := by
  refine (artifact_any w pb g n l p hl hn h1 hpb hc).mono ?_
  rintro e w' ⟨r, hf, hb, ⟨rfl, rfl⟩ | ⟨i, rfl, hi, rfl⟩⟩
  · exact ⟨_, _, rfl, hf, hb, .inl ⟨rfl, rfl⟩⟩
  · exact ⟨_, _, rfl, hf, hb, .inr ⟨i, rfl, hi, rfl⟩⟩

theorem indexOf_any (g n : Nat) (r : Int) (v : Value) (w : World) (hn : n ≤ 4096) (hv : PtrOf g n r v) :
    Calls Try.prog 7 #[.slice (some ⟨g, 0, none⟩) n n, v] w fun e w' => e = .returned (.int .i64 r) ∧ w' = w := by
  rcases hv with ⟨rfl, rfl⟩ | ⟨i, rfl, hi, rfl⟩
  · exact indexOf_nil _ n n w
  · exact indexOf_some g n n i w hn hi

theorem map_fst (l : List ByteArray) : (l.map fun s => (s, ByteArray.empty)).map Prod.fst = l := by simp [List.map_map, Function.comp_def]

/-- The three contracts at the arguments as the law spells them. -/
theorem arts_w (ao : Option Addr) (cap : Nat) (F T : Int) (f t m n : Nat) (ss sub : List ByteArray) (w : World) (hs : Strs w ao ss) (hF : F = (f : Int)) (hT : T = (t : Int)) (h1 : f ≤ t) (h2 : t ≤ n) (h3 : n ≤ 4096) (hn : ss.length = n)
    (hsub : (ss.drop f).take (t - f) = sub) (hm : t - f = m) :
    Calls Try.prog 6 #[.slice ao n cap, .int .i64 F, .int .i64 T] w fun e w' => ∃ g, e = .returned (.slice (some ⟨g, 0, none⟩) m m) ∧ Lies w' g (sub.map fun s => (s, ByteArray.empty)) ∧ Below w.heap.size w w' := by
  subst hF; subst hT; subst hn; subst hsub; subst hm
  exact arts_abs ao cap f t ss w hs h1 h2 h3
theorem artifact_w (w : World) (pb g n : Nat) (sub : List ByteArray) (p : ByteArray) (hl : Lies w g (sub.map fun s => (s, ByteArray.empty))) (hn : sub.length = n) (h1 : n ≤ 4096) (hpb : pb < w.heap.size) (hc : w.cell? ⟨pb, 2, none⟩ = some (.slice (some ⟨g, 0, none⟩) n n)) :
    Calls Try.prog 8 #[.pointer (some ⟨pb, 0, none⟩), .string p] w fun e w' => ∃ r v, e = .returned v ∧ IsFirst sub p r ∧ Below w.heap.size w w' ∧ PtrOf g n r v := by
  have h := artifact_abs w pb g n (sub.map fun s => (s, ByteArray.empty)) p hl (by simpa using hn) h1 hpb hc
  rw [map_fst] at h
  exact h
theorem first_w (ao : Option Addr) (cap : Nat) (F T : Int) (f t n : Nat) (ss sub : List ByteArray) (p : ByteArray) (r : Int) (w : World) (hs : Strs w ao ss) (hF : F = (f : Int)) (hT : T = (t : Int)) (h1 : f ≤ t) (h2 : t ≤ n) (h3 : n ≤ 4096) (hn : ss.length = n)
    (hsub : (ss.drop f).take (t - f) = sub) (hr : IsFirst sub p r) :
    Calls Try.prog 9 #[.slice ao n cap, .int .i64 F, .int .i64 T, .string p, .int .i64 r] w fun e w' => e = .returned (.bool true) ∧ w' = w := by
  subst hF; subst hT; subst hn; subst hsub
  exact first_any ao cap f t ss p r w hs h1 h2 h3 hr
theorem sub_whole (ss : List ByteArray) (n : Nat) (h : ss.length = n) : (ss.drop 0).take (n - 0) = ss := by subst h; simp
theorem sub_left (ss : List ByteArray) (c : Nat) : (ss.drop 0).take (c - 0) = ss.take c := by simp
theorem sub_right (ss : List ByteArray) (c n : Nat) (h : ss.length = n) : (ss.drop c).take (n - c) = ss.drop c := List.take_of_length_le (by simp; omega)

/-- From the world ahead of a new box to the world behind the call. -/
theorem over_box {w w' : World} {o : Obj} (h : Below (w.alloc o).heap.size (w.alloc o) w') : Below w.heap.size w w' :=
  ((Below.refl w.heap.size w).alloc (Nat.le_refl _) o).trans (h.mono (by simp))
theorem in_box {w : World} {o : Obj} {g : Nat} {l : List (ByteArray × ByteArray)} (h : Lies w g l) : Lies (w.alloc o) g l := h.below ((Below.refl _ _).alloc (Nat.le_refl _) _)

set_option maxHeartbeats 4000000 in
set_option maxRecDepth 40000 in
theorem match_walk (ao : Option Addr) (cap : Nat) (x : Int) (ss : List ByteArray) (p : ByteArray) (w : World) (hs : Strs w ao ss) (hn : ss.length ≤ 9223372036854775807) (hm : ∀ s ∈ ss, s.size ≤ 9223372036854775807) (hp : p.size ≤ 9223372036854775807)
    (hx0 : -9223372036854775808 ≤ x) (hx1 : x ≤ 9223372036854775807) :
    Calls Try.prog 3 #[.slice ao ss.length cap, .int .i64 x, .string p] w fun e w' => e = .returned (.bool true) ∧ Below w.heap.size w w' := by
  have HS := hide hs
  have HY := hide (bytes5_any ao cap x ss p w hs hn hm hp)
  clear hs hm
  generalize hl : ss.length = n at hn HY ⊢
  have HN := hide hl
  clear hl
  go_enter Try.func3, Try.ntmps3
  go_wp2_with fail
  refine HY.out.mono ?_
  intro e w' h
  obtain ⟨b, rfl, rfl, hb⟩ := h
  clear HY
  cases b with
  | false =>
    clear hb
    go_wp2
    go_ret
    exact ⟨rfl, Below.refl _ _⟩
  | true =>
    have HB := hide (hb rfl)
    clear hb
    by_cases q1 : 4096 < n
    · go_wp2
      go_ret
      exact ⟨rfl, Below.refl _ _⟩
    by_cases q2 : 1048576 < p.size
    · go_wp2
      go_ret
      exact ⟨rfl, Below.refl _ _⟩
    go_wp2_with fail
    go_loop [7, 8] (fun z i => ∃ (k : Nat) (t : Int), k ≤ n ∧ 0 ≤ t ∧ t ≤ 1048576 ∧ i = .int .i64 k ∧ z = .int .i64 t) (fun _ i => n - (intOf i).toNat)
    case atStart => exact ⟨0, 0, by omega, by omega, by omega, rfl, rfl⟩
    case round =>
      obtain ⟨k, t, hk, ht0, ht1, rfl, rfl⟩ := hrel
      by_cases hlt : k < n
      · obtain ⟨b, off, rfl, _, hc⟩ := HS.out (by rw [HN.out]; omega)
        have c0 := hc k (by rw [HN.out]; omega)
        have hz : (k : Int) < (n : Int) := by omega
        have hsz := HB.out k hlt
        generalize ss.getD k ByteArray.empty = y at c0 hsz
        clear hc HB
        by_cases q3 : 1048576 < t + (16 + (y.size : Int))
        · go_wp2
          go_ret
          exact ⟨rfl, Below.refl _ _⟩
        · go_wp2
          go_round
          case rel => exact ⟨k + 1, t + (16 + (y.size : Int)), by omega, by omega, by omega, by go_num, rfl⟩
          case measure => simp [intOf]; omega
      · have ek : k = n := by omega
        subst ek
        clear HB
        by_cases q4 : x < 0
        · have d1 : decide (x < 0) = true := decide_eq_true q4
          go_wp2
          go_ret
          exact ⟨rfl, Below.refl _ _⟩
        have d1 : decide (x < 0) = false := decide_eq_false q4
        by_cases q5 : (k : Int) < x
        · have d2 : decide ((k : Int) < x) = true := decide_eq_true q5
          go_wp2
          go_ret
          exact ⟨rfl, Below.refl _ _⟩
        have d2 : decide ((k : Int) < x) = false := decide_eq_false q5
        obtain ⟨c, rfl⟩ := Int.eq_ofNat_of_zero_le (show 0 ≤ x by omega)
        have hcn : c ≤ k := by omega
        have hk4 : k ≤ 4096 := by omega
        clear hk hlt ht0 ht1 hx0 hx1
        go_wp2_with fail
        refine (arts_w ao cap _ _ 0 k k k ss ss _ HS.out (by omega) rfl (by omega) (by omega) hk4 HN.out (sub_whole ss k HN.out) (by omega)).mono ?_
        rintro e u1 ⟨g0, rfl, l0, b1⟩
        have S1 := hide (HS.out.below (B := 0) b1)
        have L1 := hide l0
        have B1 := hide b1
        clear l0 b1
        go_wp2_with fail
        refine (arts_w ao cap _ _ 0 c c k ss (ss.take c) _ S1.out (by omega) rfl (by omega) (by omega) hk4 HN.out (sub_left ss c) (by omega)).mono ?_
        rintro e u2 ⟨g1, rfl, l1, b2⟩
        have S2 := hide (S1.out.below (B := 0) b2)
        have L2 := hide (And.intro (L1.out.below b2) l1)
        have B2 := hide (B1.out.trans (b2.mono B1.out.size))
        clear l1 b2 S1 L1 B1
        go_wp2_with fail
        refine (arts_w ao cap _ _ c k (k - c) k ss (ss.drop c) _ S2.out rfl rfl (by omega) (by omega) hk4 HN.out (sub_right ss c k HN.out) (by omega)).mono ?_
        rintro e u3 ⟨g2, rfl, l2, b3⟩
        have S3 := hide (S2.out.below (B := 0) b3)
        have L3 := hide (And.intro (L2.out.1.below b3) (And.intro (L2.out.2.below b3) l2))
        have B3 := hide (B2.out.trans (b3.mono B2.out.size))
        clear l2 b3 S2 L2 B2
        have lw : ss.length = k := HN.out
        have ll : (ss.take c).length = c := by rw [List.length_take, HN.out]; omega
        have lr : (ss.drop c).length = k - c := by rw [List.length_drop, HN.out]
        have LW := hide lw
        have LL := hide ll
        have LR := hide lr
        clear lw ll lr
        -- the whole
        go_wp2_with fail
        refine (artifact_w _ u3.heap.size g0 k ss p (by exact in_box L3.out.1) LW.out hk4 (by simp) (by simp)).mono ?_
        rintro e u4 ⟨r0, v0, rfl, f0, b4, pt0⟩
        have F0 := hide f0
        have PT := hide pt0
        have b4' := over_box b4
        have S4 := hide (S3.out.below (B := 0) b4')
        have L4 := hide (And.intro (L3.out.2.1.below b4') (L3.out.2.2.below b4'))
        have B4 := hide (B3.out.trans (b4'.mono B3.out.size))
        clear f0 pt0 b4 b4' S3 L3 B3
        go_wp2_with fail
        refine (indexOf_any g0 k r0 v0 _ hk4 PT.out).mono ?_
        rintro e w' ⟨rfl, rfl⟩
        clear PT
        -- the part before the cut
        go_wp2_with fail
        refine (artifact_w _ _ g1 c (ss.take c) p (by exact in_box L4.out.1) LL.out (by omega) (by simp) (by simp)).mono ?_
        rintro e u5 ⟨r1, v1, rfl, f1, b5, pt1⟩
        have F1 := hide f1
        have PT := hide pt1
        have b5' := over_box b5
        have S5 := hide (S4.out.below (B := 0) b5')
        have L5 := hide (L4.out.2.below b5')
        have B5 := hide (B4.out.trans (b5'.mono B4.out.size))
        clear f1 pt1 b5 b5' S4 L4 B4
        go_wp2_with fail
        refine (indexOf_any g1 c r1 v1 _ (by omega) PT.out).mono ?_
        rintro e w' ⟨rfl, rfl⟩
        clear PT
        -- the part behind it
        go_wp2_with fail
        refine (artifact_w _ _ g2 (k - c) (ss.drop c) p (by exact in_box L5.out) LR.out (by omega) (by simp) (by simp)).mono ?_
        rintro e u6 ⟨r2, v2, rfl, f2, b6, pt2⟩
        have F2 := hide f2
        have PT := hide pt2
        have b6' := over_box b6
        have S6 := hide (S5.out.below (B := 0) b6')
        have B6 := hide (B5.out.trans (b6'.mono B5.out.size))
        clear f2 pt2 b6 b6' S5 L5 B5
        go_wp2_with fail
        refine (indexOf_any g2 (k - c) r2 v2 _ (by omega) PT.out).mono ?_
        rintro e w' ⟨rfl, rfl⟩
        clear PT
        -- the three answers are first matches
        go_wp2_with fail
        refine (first_w ao cap _ _ 0 k k ss ss p r0 _ S6.out (by omega) rfl (by omega) (by omega) hk4 HN.out (sub_whole ss k HN.out) F0.out).mono ?_
        rintro e w' ⟨rfl, rfl⟩
        go_wp2_with fail
        refine (first_w ao cap _ _ 0 c k ss (ss.take c) p r1 _ S6.out (by omega) rfl (by omega) (by omega) hk4 HN.out (sub_left ss c) F1.out).mono ?_
        rintro e w' ⟨rfl, rfl⟩
        go_wp2_with fail
        refine (first_w ao cap _ _ c k k ss (ss.drop c) p r2 _ S6.out rfl rfl (by omega) (by omega) hk4 HN.out (sub_right ss c k HN.out) F2.out).mono ?_
        rintro e w' ⟨rfl, rfl⟩
        have cut := IsFirst.cut (c := c) (by rw [HN.out]; exact hcn) F0.out F1.out F2.out
        have bd1 := F1.out.bounds
        have bd2 := F2.out.bounds
        rw [LL.out] at bd1
        rw [LR.out] at bd2
        clear F0 F1 F2 S6 HS LW LL LR
        rcases cut with ⟨y0, y1⟩ | ⟨y0, y1, y2⟩ | ⟨y0, y1, y2⟩
        · subst y1
          go_wp2
          go_ret
          exact ⟨rfl, B6.out⟩
        · subst y2
          go_wp2
          go_ret
          exact ⟨rfl, B6.out⟩
        · subst y2
          go_wp2
          go_ret
          exact ⟨rfl, B6.out⟩
end Go.Proofs.Qxb6615852a
