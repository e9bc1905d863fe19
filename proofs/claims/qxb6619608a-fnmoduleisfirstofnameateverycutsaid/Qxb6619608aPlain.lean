/-
  THE PLAIN MATHEMATICS OF FnModuleIsFirstOfNameAtEveryCut: the first place of a name in a list of names.
-/
import Derived.WalkKit
namespace Go.Proofs.Qxb6619608a

/-- two strings' equality, as the walk spells it. -/
def eqS (a b : ByteArray) : Bool := a.toList == b.toList

/-- the first place of nm in L; L's length where there is none. -/
def idx (nm : ByteArray) : List ByteArray → Nat
  | [] => 0
  | s :: L => if eqS s nm then 0 else idx nm L + 1

theorem idx_le (nm : ByteArray) : ∀ L, idx nm L ≤ L.length
  | [] => Nat.le_refl _
  | s :: L => by
    simp only [idx]; split
    · omega
    · have := idx_le nm L; simp; omega

theorem idx_before (nm : ByteArray) : ∀ (L : List ByteArray) (j : Nat), j < idx nm L → eqS (L.getD j ByteArray.empty) nm = false
  | [], j, h => by simp [idx] at h
  | s :: L, j, h => by
    simp only [idx] at h
    split at h
    · omega
    · rename_i hs
      match j, h with
      | 0, _ => simpa using hs
      | j + 1, h => simpa using idx_before nm L j (by omega)

theorem idx_at (nm : ByteArray) : ∀ (L : List ByteArray), idx nm L < L.length → eqS (L.getD (idx nm L) ByteArray.empty) nm = true
  | [], h => by simp [idx] at h
  | s :: L, h => by
    simp only [idx] at h ⊢
    split at h
    · rename_i hs; rw [if_pos hs]; simpa using hs
    · rename_i hs; rw [if_neg hs]
      simp at h
      simpa using idx_at nm L h

/-- what tells the first place. -/
theorem idx_eq (nm : ByteArray) (L : List ByteArray) (k : Nat) (hk : k < L.length) (h1 : ∀ j, j < k → eqS (L.getD j ByteArray.empty) nm = false) (h2 : eqS (L.getD k ByteArray.empty) nm = true) : idx nm L = k := by
  rcases Nat.lt_trichotomy (idx nm L) k with h | h | h
  · have := idx_at nm L (by omega)
    rw [h1 _ h] at this; cases this
  · exact h
  · have := idx_before nm L k h
    rw [h2] at this; cases this

theorem idx_none (nm : ByteArray) (L : List ByteArray) (h1 : ∀ j, j < L.length → eqS (L.getD j ByteArray.empty) nm = false) : idx nm L = L.length := by
  have h := idx_le nm L
  by_cases e : idx nm L < L.length
  · have := idx_at nm L e
    rw [h1 _ e] at this; cases this
  · omega

theorem idx_append (nm : ByteArray) (A B : List ByteArray) : idx nm (A ++ B) = if idx nm A < A.length then idx nm A else A.length + idx nm B := by
  induction A with
  | nil => simp [idx]
  | cons s A ih =>
    simp only [List.cons_append, idx, List.length_cons]
    split
    · simp
    · rw [ih]
      by_cases h : idx nm A < A.length
      · rw [if_pos h, if_pos (by omega)]
      · rw [if_neg h, if_neg (by omega)]; omega

/-- THE PLAIN LAW: cutting the list at c. -/
theorem idx_cut (nm : ByteArray) (L : List ByteArray) (c : Nat) (hc : c ≤ L.length) :
    idx nm L = if idx nm (L.take c) < c then idx nm (L.take c) else c + idx nm (L.drop c) := by
  have h := idx_append nm (L.take c) (L.drop c)
  rw [List.take_append_drop] at h
  have hl : (L.take c).length = c := by simp; omega
  rw [hl] at h
  exact h
end Go.Proofs.Qxb6619608a
