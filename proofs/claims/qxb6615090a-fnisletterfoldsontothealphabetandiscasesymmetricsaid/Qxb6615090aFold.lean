/-
  THE PLAIN LAWS: 'r | 0x20' and 'r ^ 0x20' at a 32-bit signed number; the letters. No Go text in sight.
-/
import Derived.Laws.BitsAllLaws
namespace Go.Proofs.Qxb6615090a

theorem or32_small : ∀ m : Nat, m < 64 → (m ||| 32) = if m < 32 then m + 32 else m := by decide +kernel
theorem xor32_small : ∀ m : Nat, m < 64 → (m ^^^ 32) = if m < 32 then m + 32 else m - 32 := by decide +kernel

theorem or32 (n : Nat) : (n ||| 32) = if n % 64 < 32 then n + 32 else n := by
  have h1 : (n ||| 32) % 64 = (n % 64) ||| 32 := Nat.or_mod_two_pow (n := 6)
  have h2 : (n ||| 32) / 64 = n / 64 := by
    have := Nat.or_div_two_pow (a := n) (b := 32) (n := 6)
    simpa using this
  rw [or32_small _ (Nat.mod_lt _ (by decide))] at h1
  split at h1 <;> split <;> omega
theorem xor32 (n : Nat) : (n ^^^ 32) = if n % 64 < 32 then n + 32 else n - 32 := by
  have h1 : (n ^^^ 32) % 64 = (n % 64) ^^^ 32 := Nat.xor_mod_two_pow (n := 6)
  have h2 : (n ^^^ 32) / 64 = n / 64 := by
    have := Nat.xor_div_two_pow (a := n) (b := 32) (n := 6)
    simpa using this
  rw [xor32_small _ (Nat.mod_lt _ (by decide))] at h1
  split at h1 <;> split <;> omega

theorem wrap_i32 (n : Int) : IntKind.i32.wrap n = (n + 2147483648) % 4294967296 - 2147483648 := by
  simp [IntKind.wrap, IntKind.bits, IntKind.signed]
  split <;> omega

theorem ofInt32 (r : Int) : ((BitVec.ofInt 32 r).toNat : Int) = r % 4294967296 := by
  rw [BitVec.toNat_ofInt]
  omega

theorem bor (r : Int) (h0 : -2147483648 ≤ r) (h1 : r ≤ 2147483647) : bits .or .i32 r 32 = if r % 64 < 32 then r + 32 else r := by
  have e := ofInt32 r
  show IntKind.i32.wrap ((BitVec.ofInt 32 r ||| BitVec.ofInt 32 32).toNat : Int) = _
  rw [BitVec.toNat_or, show (BitVec.ofInt 32 32).toNat = 32 from rfl, or32, wrap_i32]
  split <;> split <;> omega
theorem bxor (r : Int) (h0 : -2147483648 ≤ r) (h1 : r ≤ 2147483647) : bits .xor .i32 r 32 = if r % 64 < 32 then r + 32 else r - 32 := by
  have e := ofInt32 r
  show IntKind.i32.wrap ((BitVec.ofInt 32 r ^^^ BitVec.ofInt 32 32).toNat : Int) = _
  rw [BitVec.toNat_xor, show (BitVec.ofInt 32 32).toNat = 32 from rfl, xor32, wrap_i32]
  split <;> split <;> omega

/-- isLetter. -/
def letB (r : Int) : Bool := decide ((97 ≤ r ∧ r ≤ 122) ∨ (65 ≤ r ∧ r ≤ 90) ∨ r = 95)
theorem letB_yes {r : Int} (h : (97 ≤ r ∧ r ≤ 122) ∨ (65 ≤ r ∧ r ≤ 90) ∨ r = 95) : letB r = true := decide_eq_true h
theorem letB_no {r : Int} (h : ¬ ((97 ≤ r ∧ r ≤ 122) ∨ (65 ≤ r ∧ r ≤ 90) ∨ r = 95)) : letB r = false := decide_eq_false h

/-- THE LAW's FACTS, one arm a way through its text: 'o' is 'r | 0x20', 'x' is 'r ^ 0x20'. -/
theorem ways (r o x : Int) (h0 : -2147483648 ≤ r) (h1 : r ≤ 2147483647) (ho : bits .or .i32 r 32 = o) (hx : bits .xor .i32 r 32 = x) :
    (-2147483648 ≤ o ∧ o ≤ 2147483647) ∧
    ((letB r = true ∧ letB x = true ∧ 97 ≤ o ∧ o ≤ 122 ∧ (r < 95 ∨ 95 < r) ∧ (r < 127 ∨ 127 < r)) ∨ (letB r = true ∧ 95 ≤ r ∧ r ≤ 95) ∨
     (letB r = false ∧ (o < 97 ∨ 122 < o) ∧ 127 ≤ r ∧ r ≤ 127) ∨ (letB r = false ∧ letB x = false ∧ (o < 97 ∨ 122 < o) ∧ (r < 95 ∨ 95 < r) ∧ (r < 127 ∨ 127 < r))) := by
  rw [bor r h0 h1] at ho
  rw [bxor r h0 h1] at hx
  have hb : -2147483648 ≤ o ∧ o ≤ 2147483647 := by split at ho <;> omega
  refine ⟨hb, ?_⟩
  by_cases a : (97 ≤ r ∧ r ≤ 122) ∨ (65 ≤ r ∧ r ≤ 90)
  · refine .inl ⟨letB_yes (by omega), letB_yes ?_, ?_⟩
    · split at hx <;> omega
    · split at ho <;> omega
  · by_cases b : r = 95
    · exact .inr (.inl ⟨letB_yes (by omega), by omega, by omega⟩)
    · by_cases c : r = 127
      · refine .inr (.inr (.inl ⟨letB_no (by omega), ?_, by omega, by omega⟩))
        split at ho <;> omega
      · refine .inr (.inr (.inr ⟨letB_no (by omega), letB_no ?_, ?_, by omega, by omega⟩))
        · split at hx <;> omega
        · split at ho <;> omega
end Go.Proofs.Qxb6615090a
