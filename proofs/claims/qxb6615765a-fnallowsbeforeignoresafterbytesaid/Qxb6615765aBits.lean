/-
  THE PLAIN LAWS FOR '(context).allowsBefore': what 'c & (1<<k) == 0' says of a 16-bit number's bit k. No Go text in sight.
-/
import Derived.Laws.BitsAllLaws
namespace Go.Proofs.Qxb6615765a

/-- The bit k, as a number. (A name of its own: the walk must not lay it open.) -/
def bitk (k : Nat) : Int := ((2 ^ k : Nat) : Int)

/-- Does the context c allow kind k? (the Go text's 'c & (1<<k) == 0') -/
def allowB (c : Int) (k : Nat) : Bool := !c.toNat.testBit k

theorem and_pow (c k : Nat) : (c &&& 2 ^ k = 0) ↔ c.testBit k = false := by
  constructor
  · intro h
    have := congrArg (fun n => n.testBit k) h
    simpa [Nat.testBit_and, Nat.testBit_two_pow_self] using this
  · intro h
    apply Nat.eq_of_testBit_eq
    intro i
    simp only [Nat.testBit_and, Nat.zero_testBit]
    by_cases e : k = i
    · subst e; simp [h]
    · simp [Nat.testBit_two_pow_of_ne e]

theorem pow_lt (k : Nat) (hk : k ≤ 15) : 2 ^ k < 65536 :=
  Nat.lt_of_le_of_lt (Nat.pow_le_pow_right (by decide) hk) (by decide)

theorem wrap_bitk (k : Nat) (hk : k ≤ 15) : IntKind.u16.wrap (2 ^ k) = bitk k := by
  have h := pow_lt k hk
  have e : ((2 : Int) ^ k) = ((2 ^ k : Nat) : Int) := by simp
  rw [IntKind.wrap_u16, e]
  unfold bitk
  generalize 2 ^ k = n at h ⊢
  omega
theorem bitk_bounds (k : Nat) (hk : k ≤ 15) : 0 ≤ bitk k ∧ bitk k < 65536 :=
  ⟨Int.natCast_nonneg _, Int.ofNat_lt.2 (pow_lt k hk)⟩

/-- The test of the Go text. -/
theorem test_allow (c : Int) (k : Nat) (h0 : 0 ≤ c) (h1 : c < 65536) (hk : k ≤ 15) :
    (bits .and .u16 c (bitk k) == 0) = allowB c k := by
  obtain ⟨n, rfl⟩ := Int.eq_ofNat_of_zero_le h0
  unfold bitk
  rw [u16_and_nat n (2 ^ k) (by omega) (pow_lt k hk)]
  unfold allowB
  simp only [Int.toNat_natCast]
  cases h : n.testBit k
  · have := (and_pow n k).2 h
    rw [this]; rfl
  · have : ¬ (n &&& 2 ^ k = 0) := fun e => by rw [(and_pow n k).1 e] at h; cases h
    simp only [Bool.not_true, beq_eq_false_iff_ne, ne_eq]
    omega

theorem bits16_bounds (op : BinOp) (a b : Int) : 0 ≤ bits op .u16 a b ∧ bits op .u16 a b < 65536 := by
  unfold bits
  rw [IntKind.wrap_u16]
  omega

theorem allow_or (c d : Int) (k : Nat) (h0 : 0 ≤ c) (h1 : c < 65536) (g0 : 0 ≤ d) (g1 : d < 65536) :
    allowB (bits .or .u16 c d) k = (allowB c k && allowB d k) := by
  obtain ⟨n, rfl⟩ := Int.eq_ofNat_of_zero_le h0
  obtain ⟨m, rfl⟩ := Int.eq_ofNat_of_zero_le g0
  rw [u16_or_nat n m (by omega) (by omega)]
  unfold allowB
  simp [Nat.testBit_or]

theorem allow_and (c d : Int) (k : Nat) (h0 : 0 ≤ c) (h1 : c < 65536) (g0 : 0 ≤ d) (g1 : d < 65536) :
    allowB (bits .and .u16 c d) k = (allowB c k || allowB d k) := by
  obtain ⟨n, rfl⟩ := Int.eq_ofNat_of_zero_le h0
  obtain ⟨m, rfl⟩ := Int.eq_ofNat_of_zero_le g0
  rw [u16_and_nat n m (by omega) (by omega)]
  unfold allowB
  simp [Nat.testBit_and]

theorem allow_pow (k : Nat) : allowB (bitk k) k = false := by
  unfold allowB bitk
  rw [Int.toNat_natCast, Nat.testBit_two_pow_self]
  rfl

theorem testBit_compl (b k : Nat) (hb : b < 65536) (hk : k ≤ 15) : (65535 - b).testBit k = !b.testBit k := by
  have h := Nat.testBit_two_pow_sub_succ (x := b) (n := 16) (by simpa using hb) k
  have e : 2 ^ 16 - (b + 1) = 65535 - b := by omega
  rw [e] at h
  rw [h]
  simp
  omega

theorem allow_clear (c : Int) (k : Nat) (h0 : 0 ≤ c) (h1 : c < 65536) (hk : k ≤ 15) :
    allowB (bits .andNot .u16 c (bitk k)) k = true := by
  obtain ⟨n, rfl⟩ := Int.eq_ofNat_of_zero_le h0
  unfold bitk
  rw [u16_andNot_nat n (2 ^ k) (by omega) (pow_lt k hk)]
  unfold allowB
  simp only [Int.toNat_natCast, Nat.testBit_and, testBit_compl _ k (pow_lt k hk) hk, Nat.testBit_two_pow_self]
  simp

theorem allow_set (c : Int) (k : Nat) (h0 : 0 ≤ c) (h1 : c < 65536) (hk : k ≤ 15) :
    allowB (bits .or .u16 c (bitk k)) k = false := by
  have := bitk_bounds k hk
  rw [allow_or c _ k h0 h1 this.1 this.2, allow_pow]
  simp
end Go.Proofs.Qxb6615765a
