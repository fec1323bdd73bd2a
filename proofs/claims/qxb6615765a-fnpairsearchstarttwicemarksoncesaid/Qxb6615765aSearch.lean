/-
  THE WALKS OF ZZnewPairSearch, ZZpairSearchFields AND ZZpairSearchStart (the method start below it), over a pile.
-/
import Derived.Test.Qxb6615765aClone
import Derived.RegionTactic
import Derived.ChangeAlike
namespace Go.Proofs.Qxb6615765a
open Go.RowKit
set_option linter.unusedVariables false

theorem new_any {w0 w : World} {L : List RowOf} {bs : List BoxOf} (hp : Pile w0 w L bs) (i1 i2 i3 i4 : Nat) (v1 v2 v3 v4 : Value) (nx : Int)
    (h1 : (L[i1]?).map RowOf.v = some v1) (h2 : (L[i2]?).map RowOf.v = some v2) (h3 : (L[i3]?).map RowOf.v = some v3) (h4 : (L[i4]?).map RowOf.v = some v4) :
    Calls Try.prog 13 #[v1, v2, v3, v4, .int .i64 nx] w fun e w' => ∃ p, e = .returned (.pointer (some ⟨p, 0, none⟩)) ∧ Pile w0 w' L (bs ++ [⟨p, #[v1, v2, v3, v4, .int .i64 nx]⟩]) := by
  have shape : ∀ (i : Nat) (v : Value), (L[i]?).map RowOf.v = some v → ∃ a n c, v = .slice a n c := by
    intro i v h
    cases e : L[i]? with
    | none => rw [e] at h; cases h
    | some r =>
      rw [e] at h
      obtain ⟨a, c, hv, _⟩ := hp.view e
      exact ⟨a, r.zs.length, c, by rw [← hv]; exact (Option.some.inj h).symm⟩
  obtain ⟨a1, n1, c1, rfl⟩ := shape i1 v1 h1
  obtain ⟨a2, n2, c2, rfl⟩ := shape i2 v2 h2
  obtain ⟨a3, n3, c3, rfl⟩ := shape i3 v3 h3
  obtain ⟨a4, n4, c4, rfl⟩ := shape i4 v4 h4
  have HP : Hid (∀ c : Array Value, Pile w0 (w.alloc (.cells c 47)) L (bs ++ [⟨w.heap.size, c⟩])) := fun c =>
    hp.pushBox (grownBy_alloc' w _ none) ⟨w.heap.size, c⟩ (heap_alloc_new w _) (Nat.le_refl _)
  clear hp h1 h2 h3 h4 shape
  go_enter Try.func13, Try.ntmps13
  go_wp2
  go_ret
  exact ⟨_, rfl, HP.out _⟩

theorem fields_any {w0 w : World} {L : List RowOf} {bs : List BoxOf} (hp : Pile w0 w L bs) (i : Nat) (p : Nat) (d q c u x : Value) (hi : bs[i]? = some ⟨p, #[d, q, c, u, x]⟩) :
    Calls Try.prog 15 #[.pointer (some ⟨p, 0, none⟩)] w fun e w' => e = .returned (.tuple #[d, q, c, u, x]) ∧ Pile w0 w' L bs := by
  have k0 : w.cell? ⟨p, 0, none⟩ = some d := hp.boxCell hi 0
  have k1 : w.cell? ⟨p, 1, none⟩ = some q := hp.boxCell hi 1
  have k2 : w.cell? ⟨p, 2, none⟩ = some c := hp.boxCell hi 2
  have k3 : w.cell? ⟨p, 3, none⟩ = some u := hp.boxCell hi 3
  have k4 : w.cell? ⟨p, 4, none⟩ = some x := hp.boxCell hi 4
  have HP : Hid (∀ n, Pile w0 (w.drewN n) L bs) := fun n => hp.grown (grownBy_drewN w n none)
  clear hp hi
  go_enter Try.func15, Try.ntmps15
  go_wp2
  go_quiet (fail)
  go_wp2
  exact bodyPost_ret (v := .tuple #[d, q, c, u, x]) (by simp [results, Try.results15, go_sem]) rfl ⟨rfl, HP.out _⟩

theorem owns_shape {w : World} {B : Nat} {e : TypeId} {v : Value} {n : Nat} {xs : List Value} (h : w.ownsRow B e 1 v n xs) : ∃ a m c, v = .slice a m c := by
  rcases h.2 with ⟨rfl, _⟩ | ⟨g, cap, cur, rfl, _⟩
  · exact ⟨_, _, _, rfl⟩
  · exact ⟨_, _, _, rfl⟩

set_option maxHeartbeats 1000000 in
set_option maxRecDepth 20000 in
/-- The walk of start, over plain facts on its cells. -/
theorem start_core (w : World) (B p gd gp n nd cd np cp qn : Nat) (x y : Int) (qv : Value) (qxs : List Value) (post : Value → World → Prop)
    (h1 : n < nd) (h2 : n < np) (m1 : nd ≤ 1000000) (m2 : np ≤ 1000000) (m3 : qn ≤ 1000000) (e1 : gd ≠ gp) (e2 : p ≠ gd) (e3 : p ≠ gp) (B0 : B ≤ w.heap.size)
    (k0 : w.cell? ⟨p, 0, none⟩ = some (.slice (some ⟨gd, 0, none⟩) nd cd)) (k1 : w.cell? ⟨p, 1, none⟩ = some (.slice (some ⟨gp, 0, none⟩) np cp)) (k3 : w.cell? ⟨p, 3, none⟩ = some qv)
    (kd : w.cell? ⟨gd, n, none⟩ = some (.int .i32 x)) (kp : w.cell? ⟨gp, n, none⟩ = some (.int .i32 y)) (fd : w.frozen? ⟨gd, n, none⟩ = false) (fp : w.frozen? ⟨gp, n, none⟩ = false)
    (O3 : Hid (((((w.setCell ⟨gd, n, none⟩ (.int .i32 0)).setCell ⟨gp, n, none⟩ (.int .i32 (-1))).alloc (.cells #[.int .i64 (n : Int)] 3)).drew).ownsRow B 3 1 qv qn qxs))
    (REST : Hid (∀ (v' : Value) (w1 : World), w1.ownsRow B 3 1 v' (qn + 1) (qxs ++ [.int .i64 (n : Int)]) →
      ((((w.setCell ⟨gd, n, none⟩ (.int .i32 0)).setCell ⟨gp, n, none⟩ (.int .i32 (-1))).alloc (.cells #[.int .i64 (n : Int)] 3)).drew).grownBy w1 qv.ownBlock →
      (v'.ownBlock = qv.ownBlock ∨ v'.ownBlock = some ((((w.setCell ⟨gd, n, none⟩ (.int .i32 0)).setCell ⟨gp, n, none⟩ (.int .i32 (-1))).alloc (.cells #[.int .i64 (n : Int)] 3)).drew).heap.size) →
      w1.cell? ⟨p, 3, none⟩ = some qv ∧ w1.frozen? ⟨p, 3, none⟩ = false ∧ post v' (w1.setCell ⟨p, 3, none⟩ v'))) :
    Calls Try.prog 14 #[.pointer (some ⟨p, 0, none⟩), .int .i64 n] w fun e w' => e = .returned (.tuple #[]) ∧ ∃ qv', post qv' w' := by
  obtain ⟨i0, hti, hz0, hz1, hz2⟩ := info_parts Try.info3
  have z1 : (n : Int) < (nd : Int) := by omega
  have z2 : (n : Int) < (np : Int) := by omega
  have e1' : gp ≠ gd := fun e => e1 e.symm
  have e2' : gd ≠ p := fun e => e2 e.symm
  have e3' : gp ≠ p := fun e => e3 e.symm
  have NEWS : Hid (∀ j u, ([.int .i64 (n : Int)] : List Value)[j]? = some u → ((((w.setCell ⟨gd, n, none⟩ (.int .i32 0)).setCell ⟨gp, n, none⟩ (.int .i32 (-1))).alloc (.cells #[.int .i64 (n : Int)] 3)).drew).cell? ((⟨w.heap.size, 0, none⟩ : Addr).add j) = some u) := by
    have := cell_one_new ((w.setCell ⟨gd, n, none⟩ (.int .i32 0)).setCell ⟨gp, n, none⟩ (.int .i32 (-1))) (.int .i64 (n : Int)) 3
    show ∀ j u, _
    simpa using this
  obtain ⟨qa, ql, qc, rfl⟩ := owns_shape O3.out
  go_enter Try.func14, Try.ntmps14
  go_wp2
  go_region
  all_goals
    go_wp2_with (at_builtin; refine wpList_append_own_at _ rfl (.tmp 20) (.tmp 22) 27 rfl B 3 i0 (.int .i64 0) 1 8 Try.underlying27 hti hz0 hz1 hz2 rfl (by decide) _ qn qxs rfl (by exact O3.out) ⟨w.heap.size, 0, none⟩ 1 1 [.int .i64 (n : Int)] rfl rfl (by exact NEWS.out) (by intro u hu; simp at hu; subst hu; rfl) (by unfold maxLen; omega) (by omega) (by simp; omega) ?_; intro v' w1 ho hg _ hat; have hr := REST.out v' w1 ho hg hat; obtain ⟨c3, f3, hpost⟩ := hr; obtain ⟨a', l', c', rfl⟩ := owns_shape ho; have HP := (show Hid _ from hpost); clear hpost ho hg hat)
    go_end0
    go_wp2
    go_end0
    exact ⟨rfl, _, HP.out⟩

theorem start_any {w0 w : World} {L : List RowOf} {bs : List BoxOf} (hp : Pile w0 w L bs) (i j l b p n : Nat) (dv pv cv qv xv : Value) (ds ps qs : List Int)
    (hi : L[i]? = some ⟨dv, 21, .i32, ds⟩) (hj : L[j]? = some ⟨pv, 21, .i32, ps⟩) (hl : L[l]? = some ⟨qv, 3, .i64, qs⟩) (hb : bs[b]? = some ⟨p, #[dv, pv, cv, qv, xv]⟩)
    (hij : i ≠ j) (hil : i ≠ l) (hjl : j ≠ l) (h1 : n < ds.length) (h2 : n < ps.length) (m1 : ds.length ≤ 1000000) (m2 : ps.length ≤ 1000000) (m3 : qs.length ≤ 1000000) :
    Calls Try.prog 14 #[.pointer (some ⟨p, 0, none⟩), .int .i64 n] w fun e w' => e = .returned (.tuple #[]) ∧
      ∃ qv', Pile w0 w' (((L.set i ⟨dv, 21, .i32, ds.set n 0⟩).set j ⟨pv, 21, .i32, ps.set n (-1)⟩).set l ⟨qv', 3, .i64, qs ++ [(n : Int)]⟩) (bs.set b ⟨p, #[dv, pv, cv, qv', xv]⟩) := by
  obtain ⟨ad, cd, ed, _, _, vd⟩ := hp.view hi
  obtain ⟨ap, cp, ep, _, _, vp⟩ := hp.view hj
  obtain ⟨gd, rfl, _, _, cellsd⟩ := vd (Nat.lt_of_le_of_lt (Nat.zero_le _) h1)
  obtain ⟨gp, rfl, _, _, cellsp⟩ := vp (Nat.lt_of_le_of_lt (Nat.zero_le _) h2)
  simp only at ed ep cellsd cellsp
  have kd := cellsd n h1
  have kp := cellsp n h2
  have fd := hp.rowFree hi ed n
  have fp := hp.rowFree hj ep n
  have k0 : w.cell? ⟨p, 0, none⟩ = some dv := hp.boxCell hb 0
  have k1 : w.cell? ⟨p, 1, none⟩ = some pv := hp.boxCell hb 1
  have k3 : w.cell? ⟨p, 3, none⟩ = some qv := hp.boxCell hb 3
  have e1 : gd ≠ gp := fun e => hp.away i j _ _ hij hi hj gd (by rw [ed]; rfl) (by rw [ep, e]; rfl)
  have boxNe : ∀ (i : Nat) (r : RowOf) (g : Nat), L[i]? = some r → r.v.ownBlock = some g → p ≠ g := fun i r g hr hg e => by
    obtain ⟨_, cur, hc⟩ := owns_block (hp.rows i r hr).1 hg
    have hbx := (hp.boxes b _ hb).2
    simp only at hbx
    rw [e, hc] at hbx
    have := Option.some.inj hbx
    simp only [Obj.cells.injEq] at this
    exact (hp.rows i r hr).2 this.2.1
  have e2 : p ≠ gd := boxNe i _ gd hi (by rw [ed]; rfl)
  have e3 : p ≠ gp := boxNe j _ gp hj (by rw [ep]; rfl)
  have P1 := hp.store i dv 21 .i32 ds hi gd _ _ ed n 0
  have P2 := P1.store j pv 21 .i32 ps (by rw [List.getElem?_set_ne hij]; exact hj) gp _ _ ep n (-1)
  have P3 := (P2.grown (grownBy_alloc' _ (.cells #[.int .i64 (n : Int)] 3) none)).grown (grownBy_drew _ none)
  have hl3 : ((L.set i ⟨dv, 21, .i32, ds.set n 0⟩).set j ⟨pv, 21, .i32, ps.set n (-1)⟩)[l]? = some ⟨qv, 3, .i64, qs⟩ := by
    rw [List.getElem?_set_ne hjl, List.getElem?_set_ne hil]; exact hl
  have O3 : Hid (_) := (P3.rows l _ hl3).1
  unfold RowOf.In at O3
  simp only at O3
  -- what is known behind the append and the store, for whatever world they leave
  have REST : Hid (∀ (v' : Value) (w1 : World), w1.ownsRow w0.heap.size 3 1 v' (qs.length + 1) (qs.map (Value.int .i64) ++ [.int .i64 (n : Int)]) →
      ((((w.setCell ⟨gd, n, none⟩ (.int .i32 0)).setCell ⟨gp, n, none⟩ (.int .i32 (-1))).alloc (.cells #[.int .i64 (n : Int)] 3)).drew).grownBy w1 qv.ownBlock →
      (v'.ownBlock = qv.ownBlock ∨ v'.ownBlock = some ((((w.setCell ⟨gd, n, none⟩ (.int .i32 0)).setCell ⟨gp, n, none⟩ (.int .i32 (-1))).alloc (.cells #[.int .i64 (n : Int)] 3)).drew).heap.size) →
      w1.cell? ⟨p, 3, none⟩ = some qv ∧ w1.frozen? ⟨p, 3, none⟩ = false ∧
      Pile w0 (w1.setCell ⟨p, 3, none⟩ v') (((L.set i ⟨dv, 21, .i32, ds.set n 0⟩).set j ⟨pv, 21, .i32, ps.set n (-1)⟩).set l ⟨v', 3, .i64, qs ++ [(n : Int)]⟩) (bs.set b ⟨p, #[dv, pv, cv, v', xv]⟩)) := by
    intro v' w1 ho hg hat
    have P4 := P3.setRow l _ ⟨v', 3, .i64, qs ++ [(n : Int)]⟩ hl3 rfl hg (by unfold RowOf.In; simpa using ho) hat
    have P5 := P4.setBox b _ #[dv, pv, cv, v', xv] hb (w' := w1.setCell ⟨p, 3, none⟩ v')
      ⟨rfl, rfl, rfl, by simp, fun k _ hk => heap_setCell_other w1 ⟨p, 3, none⟩ k v' (fun e => hk (by simp [e]))⟩
      (by have := heap_setCell_same w1 p 3 #[dv, pv, cv, qv, xv] 47 v' (P4.boxes b _ hb).2; simpa using this)
    exact ⟨P4.boxCell hb 3, P4.boxFree hb 3, P5⟩
  have B0 : w0.heap.size ≤ w.heap.size := hp.size
  subst ed
  subst ep
  refine start_core w w0.heap.size p gd gp n ds.length cd ps.length cp qs.length _ _ qv _ _ h1 h2 m1 m2 m3 e1 e2 e3 B0 k0 k1 k3 kd kp fd fp O3 REST
end Go.Proofs.Qxb6615765a
