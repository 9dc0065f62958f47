/- The plain law: no Go in sight. -/
import Derived.Test.Qxb6616443aDoorBounds
namespace Go.Proofs.Qxb6616443aDoor
open Go.RowKit

theorem diff_false (f f0 : Bool) (s s0 : ByteArray) : diff f f0 s s0 = false ↔ (f, s.toList) = (f0, s0.toList) := by
  unfold diff
  cases f <;> cases f0 <;> simp

/-- All of the first n keys are one. -/
def AllOne {α : Type} (K : Nat → α) (n : Nat) : Prop := ∀ i, i < n → K i = K 0

theorem agree_allOne (F : Nat → Bool) (S : Nat → ByteArray) (n : Nat) : (∀ i, i < n → diff (F i) (F 0) (S i) (S 0) = false) ↔ AllOne (fun i => (F i, (S i).toList)) n := by
  unfold AllOne
  constructor
  · intro h i hi; exact (diff_false _ _ _ _).1 (h i hi)
  · intro h i hi; exact (diff_false _ _ _ _).2 (h i hi)

theorem allOne_pair {α : Type} (x y : α) : AllOne (fun k => if k = 0 then x else y) 2 ↔ y = x := by
  unfold AllOne
  constructor
  · intro h; simpa using h 1 (by omega)
  · intro h i hi
    by_cases e : i = 0
    · simp [e]
    · simp [e, h]

/-- i and j exchanged. -/
def swapped (i j k : Nat) : Nat := if k = j then i else if k = i then j else k

theorem swapped_lt {i j k n : Nat} (hi : i < n) (hj : j < n) (hk : k < n) : swapped i j k < n := by unfold swapped; split <;> (try split) <;> omega
theorem swapped_swapped (i j k : Nat) : swapped i j (swapped i j k) = k := by
  unfold swapped
  by_cases h1 : k = j
  · subst h1
    by_cases h2 : i = k
    · simp [h2]
    · simp [h2]
  · by_cases h2 : k = i
    · subst h2; simp [h1]
    · simp [h1, h2]

theorem allOne_swapped {α : Type} (K : Nat → α) (n i j : Nat) (hi : i < n) (hj : j < n) : AllOne (fun k => K (swapped i j k)) n ↔ AllOne K n := by
  unfold AllOne
  constructor
  · intro h k hk
    have h1 := h (swapped i j k) (swapped_lt hi hj hk)
    have h2 := h (swapped i j 0) (swapped_lt hi hj (by omega))
    simp only [swapped_swapped] at h1 h2
    rw [h1, h2]
  · intro h k hk
    show K (swapped i j k) = K (swapped i j 0)
    rw [h _ (swapped_lt hi hj hk), h (swapped i j 0) (swapped_lt hi hj (by omega))]

theorem allOne_more {α : Type} (K : Nat → α) (n i : Nat) (hi : i < n) : AllOne (fun k => if k < n then K k else K i) (n + 1) ↔ AllOne K n := by
  unfold AllOne
  have h0 : 0 < n := by omega
  constructor
  · intro h k hk
    have := h k (by omega)
    simpa [hk, h0] using this
  · intro h k hk
    by_cases hkn : k < n
    · simpa [hkn, h0] using h k hkn
    · simpa [hkn, h0] using h i hi

theorem allOne_two {α : Type} {K : Nat → α} {n i j : Nat} (h : AllOne K n) (hi : i < n) (hj : j < n) : K j = K i := by rw [h j hj, h i hi]

/-- Two bools that say the same. -/
theorem bool_eq_of_iff {a b : Bool} {p q : Prop} (ha : a = true ↔ p) (hb : b = true ↔ q) (h : p ↔ q) : a = b := by
  rw [Bool.eq_iff_iff, ha, hb, h]
end Go.Proofs.Qxb6616443aDoor
