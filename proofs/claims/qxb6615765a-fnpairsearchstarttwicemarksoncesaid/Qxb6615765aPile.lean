/-
  THE MEMORY THAT THE TWO pairSearch LAWS MAKE: a list of rows of integers (slices of the call's own) and a list of boxed structs, no two in one block, all above what was there when the call began. EACH CONTRACT HANDS SUCH A 'Pile' ON: what a call does not speak of stays as it was.
-/
import Derived.WalkKit
import Derived.Maps.AppendAt
import Derived.Deep.QuietTactic
import Derived.BigQuiet
namespace Go.Proofs.Qxb6615765a
open Go.RowKit

/-- A slice value of the call's own: its element type, its integers' kind, what it holds. -/
structure RowOf where
  v : Value
  e : TypeId
  k : IntKind
  zs : List Int

/-- A boxed struct pairSearch: its block, its cells. -/
structure BoxOf where
  p : Nat
  c : Array Value

def RowOf.In (r : RowOf) (B : Nat) (w : World) : Prop := w.ownsRow B r.e 1 r.v r.zs.length (r.zs.map (Value.int r.k))

structure Pile (w0 w : World) (L : List RowOf) (bs : List BoxOf) : Prop where
  bel : Below w0.heap.size w0 w
  rows : ∀ (i : Nat) (r : RowOf), L[i]? = some r → r.In w0.heap.size w ∧ r.e ≠ 47
  away : ∀ (i j : Nat) (r s : RowOf), i ≠ j → L[i]? = some r → L[j]? = some s → ∀ g, r.v.ownBlock = some g → s.v.ownBlock ≠ some g
  boxes : ∀ (i : Nat) (b : BoxOf), bs[i]? = some b → w0.heap.size ≤ b.p ∧ w.heap[b.p]? = some (.cells b.c 47 (0, 0))
  baway : ∀ (i j : Nat) (b d : BoxOf), i ≠ j → bs[i]? = some b → bs[j]? = some d → b.p ≠ d.p

theorem Pile.start (w : World) : Pile w w [] [] :=
  ⟨Below.refl _ _, fun i r h => by simp at h, fun i j r s _ h => by simp at h, fun i b h => by simp at h, fun i j b d _ h => by simp at h⟩

theorem owns_keep {w w' : World} {B : Nat} {e : TypeId} {v : Value} {n : Nat} {xs : List Value} (h : w.ownsRow B e 1 v n xs)
    (hs : ∀ g, v.ownBlock = some g → w'.heap[g]? = w.heap[g]?) : w'.ownsRow B e 1 v n xs := by
  obtain ⟨h1, h2⟩ := h
  refine ⟨h1, ?_⟩
  rcases h2 with h2 | ⟨g, cap, cur, rfl, hb, hg, r⟩
  · exact .inl h2
  · exact .inr ⟨g, cap, cur, rfl, hb, by rw [hs g rfl]; exact hg, r⟩

/-- The block of a row that is not nil. -/
theorem owns_block {w : World} {B : Nat} {e : TypeId} {v : Value} {n : Nat} {xs : List Value} (h : w.ownsRow B e 1 v n xs) {g : Nat} (hg : v.ownBlock = some g) :
    B ≤ g ∧ ∃ cur, w.heap[g]? = some (.cells cur e (0, 0)) := by
  rcases h.2 with ⟨rfl, _⟩ | ⟨g', cap, cur, rfl, hb, hh, _⟩
  · simp [Value.ownBlock] at hg
  · simp only [Value.ownBlock, Option.some.injEq] at hg
    subst hg
    exact ⟨hb, cur, hh⟩

theorem lt_of_some {w : World} {g : Nat} {o : Obj} (h : w.heap[g]? = some o) : g < w.heap.size := by
  rcases Nat.lt_or_ge g w.heap.size with hl | hl
  · exact hl
  · rw [Array.getElem?_eq_none hl] at h; cases h

theorem Pile.size {w0 w : World} {L : List RowOf} {bs : List BoxOf} (h : Pile w0 w L bs) : w0.heap.size ≤ w.heap.size := h.bel.size

/-- Nothing old turns: a new block, a draw. -/
theorem Pile.grown {w0 w w' : World} {L : List RowOf} {bs : List BoxOf} (h : Pile w0 w L bs) (hg : w.grownBy w' none) : Pile w0 w' L bs := by
  have same : ∀ g, g < w.heap.size → w'.heap[g]? = w.heap[g]? := fun g hl => hg.block g hl (fun e => by cases e)
  refine ⟨h.bel.grown hg h.size (fun k e => by cases e), fun i r hr => ⟨?_, (h.rows i r hr).2⟩, h.away, fun i b hb => ⟨(h.boxes i b hb).1, ?_⟩, h.baway⟩
  · refine owns_keep (h.rows i r hr).1 (fun g e => same g ?_)
    obtain ⟨_, cur, hc⟩ := owns_block (h.rows i r hr).1 e
    exact lt_of_some hc
  · rw [same _ (lt_of_some (h.boxes i b hb).2)]
    exact (h.boxes i b hb).2

/-- A new row, in new memory (or nil). -/
theorem Pile.push {w0 w w' : World} {L : List RowOf} {bs : List BoxOf} (h : Pile w0 w L bs) (hg : w.grownBy w' none) (r : RowOf) (hr : r.In w0.heap.size w') (he : r.e ≠ 47)
    (hnew : ∀ g, r.v.ownBlock = some g → w.heap.size ≤ g) : Pile w0 w' (L ++ [r]) bs := by
  have h' := h.grown hg
  have old : ∀ (i : Nat) (s : RowOf), L[i]? = some s → ∀ g, s.v.ownBlock = some g → g < w.heap.size := fun i s hs g e => by
    obtain ⟨_, cur, hc⟩ := owns_block (h.rows i s hs).1 e
    exact lt_of_some hc
  have part : ∀ (i : Nat) (s : RowOf), (L ++ [r])[i]? = some s → L[i]? = some s ∨ (i = L.length ∧ s = r) := fun i s hs => by
    rcases Nat.lt_trichotomy i L.length with hl | hl | hl
    · rw [List.getElem?_append_left hl] at hs; exact .inl hs
    · subst hl; simp at hs; exact .inr ⟨rfl, hs.symm⟩
    · rw [List.getElem?_append_right (by omega)] at hs
      have : ([r] : List RowOf)[i - L.length]? = none := by simp; omega
      rw [this] at hs; cases hs
  refine ⟨h'.bel, fun i s hs => ?_, fun i j s t hij hs ht g e1 e2 => ?_, h'.boxes, h'.baway⟩
  · rcases part i s hs with hs | ⟨_, rfl⟩
    · exact h'.rows i s hs
    · exact ⟨hr, he⟩
  · rcases part i s hs with hs' | ⟨hi, es⟩ <;> rcases part j t ht with ht' | ⟨hj, et⟩
    · exact h.away i j s t hij hs' ht' g e1 e2
    · have := old i s hs' g e1; rw [et] at e2; have := hnew g e2; omega
    · have := old j t ht' g e2; rw [es] at e1; have := hnew g e1; omega
    · omega

/-- A new box. -/
theorem Pile.pushBox {w0 w w' : World} {L : List RowOf} {bs : List BoxOf} (h : Pile w0 w L bs) (hg : w.grownBy w' none) (b : BoxOf) (hb : w'.heap[b.p]? = some (.cells b.c 47 (0, 0)))
    (hnew : w.heap.size ≤ b.p) : Pile w0 w' L (bs ++ [b]) := by
  have h' := h.grown hg
  have part : ∀ (i : Nat) (s : BoxOf), (bs ++ [b])[i]? = some s → bs[i]? = some s ∨ (i = bs.length ∧ s = b) := fun i s hs => by
    rcases Nat.lt_trichotomy i bs.length with hl | hl | hl
    · rw [List.getElem?_append_left hl] at hs; exact .inl hs
    · subst hl; simp at hs; exact .inr ⟨rfl, hs.symm⟩
    · rw [List.getElem?_append_right (by omega)] at hs
      have : ([b] : List BoxOf)[i - bs.length]? = none := by simp; omega
      rw [this] at hs; cases hs
  have hs0 := h.size
  refine ⟨h'.bel, h'.rows, h'.away, fun i s hs => ?_, fun i j s t hij hs ht e => ?_⟩
  · rcases part i s hs with hs | ⟨_, rfl⟩
    · exact h'.boxes i s hs
    · exact ⟨by omega, hb⟩
  · rcases part i s hs with hs' | ⟨hi, es⟩ <;> rcases part j t ht with ht' | ⟨hj, et⟩
    · exact h.baway i j s t hij hs' ht' e
    · have := lt_of_some (h.boxes i s hs').2; rw [et] at e; omega
    · have := lt_of_some (h.boxes j t ht').2; rw [es] at e; omega
    · omega

/-- One row turns: a store into it, an append onto it. -/
theorem Pile.setRow {w0 w w' : World} {L : List RowOf} {bs : List BoxOf} (h : Pile w0 w L bs) (i : Nat) (r r' : RowOf) (hi : L[i]? = some r) (he : r'.e = r.e) (hg : w.grownBy w' r.v.ownBlock)
    (hr : r'.In w0.heap.size w') (hat : r'.v.ownBlock = r.v.ownBlock ∨ r'.v.ownBlock = some w.heap.size) : Pile w0 w' (L.set i r') bs := by
  have hlt : i < L.length := by
    rcases Nat.lt_or_ge i L.length with hl | hl
    · exact hl
    · rw [List.getElem?_eq_none hl] at hi; cases hi
  have old : ∀ (i : Nat) (s : RowOf), L[i]? = some s → ∀ g, s.v.ownBlock = some g → g < w.heap.size := fun i s hs g e => by
    obtain ⟨_, cur, hc⟩ := owns_block (h.rows i s hs).1 e
    exact lt_of_some hc
  have part : ∀ (j : Nat) (s : RowOf), (L.set i r')[j]? = some s → (j = i ∧ s = r') ∨ (j ≠ i ∧ L[j]? = some s) := fun j s hs => by
    rw [List.getElem?_set] at hs
    by_cases e : i = j
    · subst e
      rw [if_pos rfl, if_pos hlt] at hs
      exact .inl ⟨rfl, (Option.some.inj hs).symm⟩
    · rw [if_neg e] at hs
      exact .inr ⟨fun x => e x.symm, hs⟩
  refine ⟨h.bel.grown hg h.size (fun k e => ?_), fun j s hs => ?_, fun j l s t hjl hs ht g e1 e2 => ?_, fun j b hb => ⟨(h.boxes j b hb).1, ?_⟩, h.baway⟩
  · exact (owns_block (h.rows i r hi).1 e).1
  · rcases part j s hs with ⟨_, rfl⟩ | ⟨hne, hs⟩
    · exact ⟨hr, by rw [he]; exact (h.rows i r hi).2⟩
    · refine ⟨owns_keep (h.rows j s hs).1 (fun g e => hg.block g (old j s hs g e) (fun e' => ?_)), (h.rows j s hs).2⟩
      exact h.away j i s r hne hs hi g e e'.symm
  · rcases part j s hs with ⟨hj, es⟩ | ⟨hj, hs'⟩ <;> rcases part l t ht with ⟨hl, et⟩ | ⟨hl, ht'⟩
    · omega
    · rw [es] at e1
      rcases hat with hat | hat
      · rw [hat] at e1
        exact h.away i l r t (fun x => hl x.symm) hi ht' g e1 e2
      · have := old l t ht' g e2
        rw [hat] at e1
        have := Option.some.inj e1
        omega
    · rw [et] at e2
      rcases hat with hat | hat
      · rw [hat] at e2
        exact h.away j i s r hj hs' hi g e1 e2
      · have := old j s hs' g e1
        rw [hat] at e2
        have := Option.some.inj e2
        omega
    · exact h.away j l s t hjl hs' ht' g e1 e2
  · have hb2 := (h.boxes j b hb).2
    rw [hg.block _ (lt_of_some hb2) (fun e => ?_)]
    · exact hb2
    · obtain ⟨_, cur, hc⟩ := owns_block (h.rows i r hi).1 e.symm
      rw [hc] at hb2
      have := Option.some.inj hb2
      simp only [Obj.cells.injEq] at this
      exact (h.rows i r hi).2 this.2.1

/-- One box turns. -/
theorem Pile.setBox {w0 w w' : World} {L : List RowOf} {bs : List BoxOf} (h : Pile w0 w L bs) (i : Nat) (b : BoxOf) (c' : Array Value) (hi : bs[i]? = some b) (hg : w.grownBy w' (some b.p))
    (hc' : w'.heap[b.p]? = some (.cells c' 47 (0, 0))) : Pile w0 w' L (bs.set i ⟨b.p, c'⟩) := by
  have hlt : i < bs.length := by
    rcases Nat.lt_or_ge i bs.length with hl | hl
    · exact hl
    · rw [List.getElem?_eq_none hl] at hi; cases hi
  have part : ∀ (j : Nat) (s : BoxOf), (bs.set i ⟨b.p, c'⟩)[j]? = some s → (j = i ∧ s = ⟨b.p, c'⟩) ∨ (j ≠ i ∧ bs[j]? = some s) := fun j s hs => by
    rw [List.getElem?_set] at hs
    by_cases e : i = j
    · subst e
      rw [if_pos rfl, if_pos hlt] at hs
      exact .inl ⟨rfl, (Option.some.inj hs).symm⟩
    · rw [if_neg e] at hs
      exact .inr ⟨fun x => e x.symm, hs⟩
  refine ⟨h.bel.grown hg h.size (fun k e => ?_), fun j s hs => ⟨owns_keep (h.rows j s hs).1 (fun g e => ?_), (h.rows j s hs).2⟩, h.away, fun j d hd => ?_, fun j l d e hjl hd he => ?_⟩
  · have := (h.boxes i b hi).1
    have := Option.some.inj e
    omega
  · obtain ⟨_, cur, hc⟩ := owns_block (h.rows j s hs).1 e
    refine hg.block g (lt_of_some hc) (fun x => ?_)
    have := Option.some.inj x
    subst this
    rw [(h.boxes i b hi).2] at hc
    have := Option.some.inj hc
    simp only [Obj.cells.injEq] at this
    exact (h.rows j s hs).2 this.2.1.symm
  · rcases part j d hd with ⟨_, rfl⟩ | ⟨hne, hd⟩
    · exact ⟨(h.boxes i b hi).1, hc'⟩
    · refine ⟨(h.boxes j d hd).1, ?_⟩
      rw [hg.block _ (lt_of_some (h.boxes j d hd).2) (fun x => h.baway j i d b hne hd hi (Option.some.inj x))]
      exact (h.boxes j d hd).2
  · rcases part j d hd with ⟨hj, es⟩ | ⟨hj, hd'⟩ <;> rcases part l e he with ⟨hl, et⟩ | ⟨hl, he'⟩
    · omega
    · rw [es]; exact h.baway i l b e (fun x => hl x.symm) hi he'
    · rw [et]; exact h.baway j i d b hj hd' hi
    · exact h.baway j l d e hjl hd' he'

theorem grownBy_drewN (w : World) (n : Nat) (row : Option Nat) : w.grownBy (w.drewN n) row := ⟨rfl, rfl, rfl, Nat.le_refl _, fun _ _ _ => rfl⟩
theorem grownBy_alloc' (w : World) (o : Obj) (row : Option Nat) : w.grownBy (w.alloc o) row :=
  ⟨rfl, rfl, rfl, by simp, fun k hk _ => Below.heap_alloc w o k hk⟩

/-- What a walk is told of a row: its value's shape; where it holds something, its cells. -/
theorem Pile.view {w0 w : World} {L : List RowOf} {bs : List BoxOf} (h : Pile w0 w L bs) {i : Nat} {r : RowOf} (hi : L[i]? = some r) :
    ∃ ao cap, r.v = .slice ao r.zs.length cap ∧ r.zs.length ≤ cap ∧ (ao = none → cap = 0) ∧
      (0 < r.zs.length → ∃ g, ao = some ⟨g, 0, none⟩ ∧ w0.heap.size ≤ g ∧ g < w.heap.size ∧ ∀ j, j < r.zs.length → w.cell? ⟨g, j, none⟩ = some (.int r.k (r.zs.getD j 0))) := by
  have hr := (h.rows i r hi).1
  rcases hr.2 with ⟨hv, hn⟩ | ⟨g, cap, cur, hv, hb, hg, hnc, _⟩
  · exact ⟨none, 0, by rw [hv, hn], by omega, fun _ => rfl, fun h0 => by omega⟩
  · refine ⟨some ⟨g, 0, none⟩, cap, hv, hnc, (fun x => by cases x), fun _ => ⟨g, rfl, hb, lt_of_some hg, fun j hj => ?_⟩⟩
    unfold RowOf.In at hr
    rw [hv] at hr
    rw [hr.cellAt j (by omega), List.getElem?_map, List.getElem?_eq_getElem hj]
    simp [List.getD_eq_getElem?_getD, List.getElem?_eq_getElem hj]

theorem grownBy_drew (w : World) (row : Option Nat) : w.grownBy w.drew row := ⟨rfl, rfl, rfl, Nat.le_refl _, fun _ _ _ => rfl⟩

/-- A store into one of the rows. -/
theorem Pile.store {w0 w : World} {L : List RowOf} {bs : List BoxOf} (h : Pile w0 w L bs) (i : Nat) (v : Value) (e : TypeId) (k : IntKind) (zs : List Int) (hi : L[i]? = some ⟨v, e, k, zs⟩) (g m c : Nat) (hv : v = .slice (some ⟨g, 0, none⟩) m c) (n : Nat) (x : Int) :
    Pile w0 (w.setCell ⟨g, n, none⟩ (.int k x)) (L.set i ⟨v, e, k, zs.set n x⟩) bs := by
  subst hv
  have hr := (h.rows i _ hi).1
  unfold RowOf.In at hr
  simp only at hr
  have hm : m = zs.length := by
    rcases hr.2 with ⟨hv, _⟩ | ⟨g', c', cur, hv, _⟩
    · cases hv
    · simp only [Value.slice.injEq] at hv; exact hv.2.1
  rw [← hm] at hr
  have hst := hr.stored n (.int k x)
  refine h.setRow i _ _ hi rfl ?_ ?_ (.inl rfl)
  · simpa [Value.ownBlock] using hst.2
  · unfold RowOf.In
    simp only [List.length_set]
    rw [← hm, List.map_set]
    exact hst.1

theorem Pile.rowFree {w0 w : World} {L : List RowOf} {bs : List BoxOf} (h : Pile w0 w L bs) {i : Nat} {v : Value} {e : TypeId} {k : IntKind} {zs : List Int} (hi : L[i]? = some ⟨v, e, k, zs⟩) {g m c : Nat} (hv : v = .slice (some ⟨g, 0, none⟩) m c) (n : Nat) : w.frozen? ⟨g, n, none⟩ = false := by
  have hr := (h.rows i _ hi).1
  obtain ⟨_, cur, hc⟩ := owns_block hr (g := g) (by subst hv; rfl)
  exact frozen_of_row w g n cur e hc

theorem Pile.boxCell {w0 w : World} {L : List RowOf} {bs : List BoxOf} (h : Pile w0 w L bs) {i : Nat} {b : BoxOf} (hi : bs[i]? = some b) (f : Nat) : w.cell? ⟨b.p, f, none⟩ = b.c[f]? := by
  have := (h.boxes i b hi).2
  exact cell_of_row w b.p f b.c 47 (0, 0) this
theorem Pile.boxFree {w0 w : World} {L : List RowOf} {bs : List BoxOf} (h : Pile w0 w L bs) {i : Nat} {b : BoxOf} (hi : bs[i]? = some b) (f : Nat) : w.frozen? ⟨b.p, f, none⟩ = false := by
  have := (h.boxes i b hi).2
  exact frozen_of_row w b.p f b.c 47 this
end Go.Proofs.Qxb6615765a
