/-
  'make([]T, n)', THE WORLD BEHIND IT WRITTEN OUT (after Derived/OwnWalk.lean's wpList_make_full): one new block of zero values.
-/
import Derived.WalkKit
namespace Go.Proofs.Qxb6615765a
open Go.RowKit

theorem wpList_make_lit {P : Program} (w : World) {ops : Array Oper} {rest : List Oper} {o : Oper} {a : Act} {Q : Exit → Act → World → Prop}
    (hg : o.guard = none) (l c : Operand) (t : TypeId) (hop : o.op = Op.makeSlice t l c)
    (e : TypeId) (i : TypeInfo) (z : Value) (h1 : P.underlying t = some (.slice e)) (h2 : P.info? e = some i) (h3 : i.zero = some z) (h4 : i.size = 1)
    (kl kc : IntKind) (L C : Int) (n : Nat) (hl : a.eval l = .int kl L) (hc : a.eval c = .int kc C) (hL : L = (n : Int)) (hC : C = (n : Int)) (b2 : i.bytes * n ≤ 281474976710656) (b3 : n ≤ 9223372036854775807)
    (hK : wpList P ops Q rest (a.put o.dst (.slice (some ⟨w.heap.size, 0, none⟩) n n)) (w.alloc (.cells (madeCells z.cells n) e))) :
    wpList P ops Q (o :: rest) a w := by
  refine wpList_plain hg fun K hK' => ?_
  have hb' : (i.bytes : Int) * (n : Int) ≤ 281474976710656 := by
    have h : ((i.bytes * n : Nat) : Int) ≤ 281474976710656 := by omega
    rwa [Int.natCast_mul] at h
  have hr := run_make (P := P) w t e i z h1 h2 h3 kl kc n n (by omega) (Int.le_refl _) hb' (by omega)
  simp only [Int.toNat_natCast, h4, Nat.mul_one] at hr
  subst hL
  subst hC
  unfold Oper.wp
  simp [execOp, hop, hl, hc, hr, Result.andThen]
  exact hK' _ _ hK
end Go.Proofs.Qxb6615765a
