/-
  THE PLAIN PART: a slice of artifacts as cells (four a piece: Path, External, ContentType, Digests); 'the first place that holds a path'. No Go text in sight.
-/
import Derived.WalkKit
namespace Go.Proofs.Qxb6615852a
open Go.RowKit

/-- An artifact's cells: its path, its content type; not external, no digests. -/
def art (x : ByteArray × ByteArray) : List Value := [.string x.1, .bool false, .string x.2, .slice none 0 0]
def arts : List (ByteArray × ByteArray) → List Value
  | [] => []
  | x :: l => .string x.1 :: .bool false :: .string x.2 :: .slice none 0 0 :: arts l

theorem arts_length : ∀ l, (arts l).length = l.length * 4
  | [] => rfl
  | x :: l => by simp [arts, arts_length l]; omega

theorem arts_at : ∀ (l : List (ByteArray × ByteArray)) (k : Nat) (x : ByteArray × ByteArray), l[k]? = some x →
    (arts l)[k * 4]? = some (.string x.1) ∧ (arts l)[k * 4 + 1]? = some (.bool false) ∧ (arts l)[k * 4 + 2]? = some (.string x.2) ∧ (arts l)[k * 4 + 3]? = some (.slice none 0 0)
  | [], k, x, h => by simp at h
  | y :: l, 0, x, h => by simp at h; subst h; simp [arts]
  | y :: l, k + 1, x, h => by
    have := arts_at l k x (by simpa using h)
    simpa [arts, Nat.succ_mul] using this

/-- Four stores: artifact k anew. -/
theorem arts_set : ∀ (l : List (ByteArray × ByteArray)) (k : Nat) (x : ByteArray × ByteArray), k < l.length →
    (((((arts l).set (k * 4) (.string x.1)).set (k * 4 + 1) (.bool false)).set (k * 4 + 2) (.string x.2)).set (k * 4 + 3) (.slice none 0 0)) = arts (l.set k x)
  | [], k, x, h => by simp at h
  | y :: l, 0, x, h => by simp [arts]
  | y :: l, k + 1, x, h => by
    have := arts_set l k x (by simpa using h)
    simpa [arts, Nat.succ_mul] using this

/-- One store: the content type of artifact k. -/
theorem arts_type : ∀ (l : List (ByteArray × ByteArray)) (k : Nat) (s c : ByteArray) (m : ByteArray), l[k]? = some (s, c) → (arts l).set (k * 4 + 2) (.string m) = arts (l.set k (s, m))
  | [], k, s, c, m, h => by simp at h
  | y :: l, 0, s, c, m, h => by simp at h; subst h; simp [arts]
  | y :: l, k + 1, s, c, m, h => by
    have := arts_type l k s c m (by simpa using h)
    simpa [arts, Nat.succ_mul] using this

/-- r is the first place in ss that holds p; or it is -1 and none does. -/
def IsFirst (ss : List ByteArray) (p : ByteArray) (r : Int) : Prop :=
  (r = -1 ∧ ∀ j, j < ss.length → ss.getD j ByteArray.empty ≠ p) ∨
  ∃ i : Nat, r = (i : Int) ∧ i < ss.length ∧ ss.getD i ByteArray.empty = p ∧ ∀ j, j < i → ss.getD j ByteArray.empty ≠ p

theorem IsFirst.bounds {ss : List ByteArray} {p : ByteArray} {r : Int} (h : IsFirst ss p r) : -1 ≤ r ∧ r < ss.length := by
  rcases h with ⟨rfl, _⟩ | ⟨i, rfl, hi, _⟩ <;> omega

/-- The whole list's answer out of its two parts' answers. -/
theorem IsFirst.cut {ss : List ByteArray} {p : ByteArray} {c : Nat} (hc : c ≤ ss.length) {iw il ir : Int} (hw : IsFirst ss p iw) (hl : IsFirst (ss.take c) p il) (hr : IsFirst (ss.drop c) p ir) :
    (0 ≤ il ∧ iw = il) ∨ (il < 0 ∧ 0 ≤ ir ∧ iw = (c : Int) + ir) ∨ (il < 0 ∧ ir < 0 ∧ iw = -1) := by
  have tl : (ss.take c).length = c := by simp; omega
  have dl : (ss.drop c).length = ss.length - c := by simp
  have tg : ∀ j, j < c → (ss.take c).getD j ByteArray.empty = ss.getD j ByteArray.empty := fun j hj => by simp [List.getD_eq_getElem?_getD, hj]
  have dg : ∀ j, (ss.drop c).getD j ByteArray.empty = ss.getD (c + j) ByteArray.empty := fun j => by simp [List.getD_eq_getElem?_getD, List.getElem?_drop]
  have uniq : ∀ i : Nat, i < ss.length → ss.getD i ByteArray.empty = p → (∀ j, j < i → ss.getD j ByteArray.empty ≠ p) → iw = (i : Int) := by
    intro i hi hp hf
    rcases hw with ⟨_, hn⟩ | ⟨i', rfl, hi', hp', hf'⟩
    · exact absurd hp (hn i hi)
    · rcases Nat.lt_trichotomy i i' with h | h | h
      · exact absurd hp (hf' i h)
      · rw [h]
      · exact absurd hp' (hf i' h)
  rcases hl with ⟨rfl, hln⟩ | ⟨i, rfl, hi, hp, hf⟩
  · rw [tl] at hln
    rcases hr with ⟨rfl, hrn⟩ | ⟨i, rfl, hi, hp, hf⟩
    · refine .inr (.inr ⟨by omega, by omega, ?_⟩)
      rcases hw with ⟨h, _⟩ | ⟨i', rfl, hi', hp', _⟩
      · exact h
      · exfalso
        by_cases h : i' < c
        · exact hln i' h (by rw [tg i' h]; exact hp')
        · refine hrn (i' - c) (by omega) ?_
          rw [dg, show c + (i' - c) = i' from by omega]
          exact hp'
    · refine .inr (.inl ⟨by omega, by omega, ?_⟩)
      have := uniq (c + i) (by omega) (by rw [← dg]; exact hp) (fun j hj => ?_)
      · omega
      · by_cases h : j < c
        · have := hln j h; rwa [tg j h] at this
        · have := hf (j - c) (by omega)
          rwa [dg, show c + (j - c) = j from by omega] at this
  · refine .inl ⟨by omega, ?_⟩
    rw [tl] at hi
    refine uniq i (by omega) (by rw [← tg i hi]; exact hp) (fun j hj => ?_)
    have := hf j hj
    rwa [tg j (by omega)] at this
end Go.Proofs.Qxb6615852a
