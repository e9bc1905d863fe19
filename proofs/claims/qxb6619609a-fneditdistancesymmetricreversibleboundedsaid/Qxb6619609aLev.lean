/-
  THE PLAIN MATHEMATICS OF THE EDIT DISTANCE: no Go in sight.
-/
import Derived.WalkKit
namespace Go.Proofs.Qxb6619609a

/-- what a replacement costs. -/
def cst (x y : Int) : Nat := if x = y then 0 else 1

/-- the edit distance, by the recurrence on heads. -/
def lev : List Int → List Int → Nat
  | [], ys => ys.length
  | x :: xs, ys => go x (lev xs) xs.length ys
where
  go (x : Int) (f : List Int → Nat) (n : Nat) : List Int → Nat
    | [] => n + 1
    | y :: ys => min (min (f (y :: ys) + 1) (go x f n ys + 1)) (f ys + cst x y)

theorem lev_nil (ys : List Int) : lev [] ys = ys.length := by simp [lev]
theorem lev_nil_right (xs : List Int) : lev xs [] = xs.length := by cases xs <;> simp [lev, lev.go]
theorem lev_cons (x : Int) (xs : List Int) (y : Int) (ys : List Int) : lev (x :: xs) (y :: ys) = min (min (lev xs (y :: ys) + 1) (lev (x :: xs) ys + 1)) (lev xs ys + cst x y) := by
  simp [lev, lev.go]

theorem lev_del (x : Int) (xs ys : List Int) : lev (x :: xs) ys ≤ lev xs ys + 1 := by
  cases ys with
  | nil => simp [lev_nil_right]
  | cons y ys => rw [lev_cons]; omega
theorem lev_ins (xs : List Int) (y : Int) (ys : List Int) : lev xs (y :: ys) ≤ lev xs ys + 1 := by
  cases xs with
  | nil => simp [lev_nil]
  | cons x xs => rw [lev_cons]; omega
theorem lev_rep (x : Int) (xs : List Int) (y : Int) (ys : List Int) : lev (x :: xs) (y :: ys) ≤ lev xs ys + cst x y := by
  rw [lev_cons]; omega

/-- an alignment: a list of pairs; its two sides; its cost. -/
abbrev Al := List (Option Int × Option Int)
def lft : Al → List Int
  | [] => []
  | (some x, _) :: t => x :: lft t
  | (none, _) :: t => lft t
def rgt : Al → List Int
  | [] => []
  | (_, some y) :: t => y :: rgt t
  | (_, none) :: t => rgt t
def pc : Option Int × Option Int → Nat
  | (some x, some y) => cst x y
  | (none, none) => 0
  | _ => 1
def cost : Al → Nat
  | [] => 0
  | p :: t => pc p + cost t

theorem lev_le : ∀ t : Al, lev (lft t) (rgt t) ≤ cost t
  | [] => by simp [lft, rgt, lev_nil, cost]
  | (some x, some y) :: t => by
    have h := lev_le t; have h2 := lev_rep x (lft t) y (rgt t)
    simp only [lft, rgt, cost, pc]; omega
  | (some x, none) :: t => by
    have h := lev_le t; have h2 := lev_del x (lft t) (rgt t)
    simp only [lft, rgt, cost, pc]; omega
  | (none, some y) :: t => by
    have h := lev_le t; have h2 := lev_ins (lft t) y (rgt t)
    simp only [lft, rgt, cost, pc]; omega
  | (none, none) :: t => by
    have h := lev_le t
    simp only [lft, rgt, cost, pc]; omega

theorem al_ins : ∀ ys : List Int, ∃ t : Al, lft t = [] ∧ rgt t = ys ∧ cost t = ys.length
  | [] => ⟨[], rfl, rfl, rfl⟩
  | y :: ys => by
    obtain ⟨t, h1, h2, h3⟩ := al_ins ys
    exact ⟨(none, some y) :: t, by simp [lft, h1], by simp [rgt, h2], by simp [cost, pc, h3]; omega⟩
theorem al_del : ∀ xs : List Int, ∃ t : Al, lft t = xs ∧ rgt t = [] ∧ cost t = xs.length
  | [] => ⟨[], rfl, rfl, rfl⟩
  | x :: xs => by
    obtain ⟨t, h1, h2, h3⟩ := al_del xs
    exact ⟨(some x, none) :: t, by simp [lft, h1], by simp [rgt, h2], by simp [cost, pc, h3]; omega⟩

/-- the distance is the cost of some alignment. -/
theorem al_best : ∀ xs ys : List Int, ∃ t : Al, lft t = xs ∧ rgt t = ys ∧ cost t = lev xs ys
  | [], ys => by rw [lev_nil]; exact al_ins ys
  | x :: xs, [] => by rw [lev_nil_right]; exact al_del (x :: xs)
  | x :: xs, y :: ys => by
    obtain ⟨t1, a1, b1, c1⟩ := al_best xs (y :: ys)
    obtain ⟨t2, a2, b2, c2⟩ := al_best (x :: xs) ys
    obtain ⟨t3, a3, b3, c3⟩ := al_best xs ys
    have h := lev_cons x xs y ys
    by_cases h1 : lev (x :: xs) (y :: ys) = lev xs (y :: ys) + 1
    · exact ⟨(some x, none) :: t1, by simp [lft, a1], by simp [rgt, b1], by simp only [cost, pc]; omega⟩
    · by_cases h2 : lev (x :: xs) (y :: ys) = lev (x :: xs) ys + 1
      · exact ⟨(none, some y) :: t2, by simp [lft, a2], by simp [rgt, b2], by simp only [cost, pc]; omega⟩
      · exact ⟨(some x, some y) :: t3, by simp [lft, a3], by simp [rgt, b3], by simp only [cost, pc]; omega⟩

theorem lft_append : ∀ s t : Al, lft (s ++ t) = lft s ++ lft t
  | [], _ => rfl
  | (some x, _) :: s, t => by simp [lft, lft_append s t]
  | (none, _) :: s, t => by simp [lft, lft_append s t]
theorem rgt_append : ∀ s t : Al, rgt (s ++ t) = rgt s ++ rgt t
  | [], _ => rfl
  | (_, some y) :: s, t => by simp [rgt, rgt_append s t]
  | (_, none) :: s, t => by simp [rgt, rgt_append s t]
theorem cost_append : ∀ s t : Al, cost (s ++ t) = cost s + cost t
  | [], _ => by simp [cost]
  | p :: s, t => by simp [cost, cost_append s t]; omega
theorem lft_reverse : ∀ t : Al, lft t.reverse = (lft t).reverse
  | [] => rfl
  | (some x, y) :: t => by simp [lft_append, lft_reverse t, lft]
  | (none, y) :: t => by simp [lft_append, lft_reverse t, lft]
theorem rgt_reverse : ∀ t : Al, rgt t.reverse = (rgt t).reverse
  | [] => rfl
  | (x, some y) :: t => by simp [rgt_append, rgt_reverse t, rgt]
  | (x, none) :: t => by simp [rgt_append, rgt_reverse t, rgt]
theorem cost_reverse : ∀ t : Al, cost t.reverse = cost t
  | [] => rfl
  | p :: t => by simp [cost_append, cost_reverse t, cost]; omega

theorem lev_reverse_le (xs ys : List Int) : lev xs.reverse ys.reverse ≤ lev xs ys := by
  obtain ⟨t, h1, h2, h3⟩ := al_best xs ys
  have h := lev_le t.reverse
  rw [lft_reverse, rgt_reverse, cost_reverse, h1, h2, h3] at h
  exact h
/-- THE DISTANCE OF THE REVERSED. -/
theorem lev_reverse (xs ys : List Int) : lev xs.reverse ys.reverse = lev xs ys := by
  have h1 := lev_reverse_le xs ys
  have h2 := lev_reverse_le xs.reverse ys.reverse
  rw [List.reverse_reverse, List.reverse_reverse] at h2
  omega

theorem cst_comm (x y : Int) : cst x y = cst y x := by unfold cst; by_cases h : x = y <;> simp [h, eq_comm]
def swp : Al → Al
  | [] => []
  | (a, b) :: t => (b, a) :: swp t
theorem lft_swp : ∀ t : Al, lft (swp t) = rgt t
  | [] => rfl
  | (_, some y) :: t => by simp [swp, lft, rgt, lft_swp t]
  | (_, none) :: t => by simp [swp, lft, rgt, lft_swp t]
theorem rgt_swp : ∀ t : Al, rgt (swp t) = lft t
  | [] => rfl
  | (some y, _) :: t => by simp [swp, lft, rgt, rgt_swp t]
  | (none, _) :: t => by simp [swp, lft, rgt, rgt_swp t]
theorem cost_swp : ∀ t : Al, cost (swp t) = cost t
  | [] => rfl
  | (some x, some y) :: t => by simp [swp, cost, pc, cost_swp t, cst_comm]
  | (some x, none) :: t => by simp [swp, cost, pc, cost_swp t]
  | (none, some y) :: t => by simp [swp, cost, pc, cost_swp t]
  | (none, none) :: t => by simp [swp, cost, pc, cost_swp t]
theorem lev_comm_le (xs ys : List Int) : lev ys xs ≤ lev xs ys := by
  obtain ⟨t, h1, h2, h3⟩ := al_best xs ys
  have h := lev_le (swp t)
  rw [lft_swp, rgt_swp, cost_swp, h1, h2, h3] at h
  exact h
/-- SYMMETRY. -/
theorem lev_comm (xs ys : List Int) : lev ys xs = lev xs ys := by
  have h1 := lev_comm_le xs ys
  have h2 := lev_comm_le ys xs
  omega

theorem cst_tri (x y z : Int) : cst x z ≤ cst x y + cst y z := by
  unfold cst
  by_cases h1 : x = y
  · subst h1; simp
  · simp only [h1, if_false]; split <;> omega

/-- two alignments, one behind the other. -/
theorem tri_al : ∀ (n : Nat) (s t : Al), s.length + t.length ≤ n → rgt s = lft t → lev (lft s) (rgt t) ≤ cost s + cost t
  | n, [], t, _, h => by
    have := lev_le t
    rw [← h] at this
    simp only [cost]
    simpa [lft, rgt] using this
  | n, s, [], _, h => by
    have := lev_le s
    rw [h] at this
    simp only [cost]
    simpa [lft, rgt] using this
  | 0, _ :: _, _ :: _, hn, _ => by simp at hn
  | n + 1, (a, none) :: s, q :: t, hn, h => by
    have ih := tri_al n s (q :: t) (by simp at hn ⊢; omega) (by simpa [rgt] using h)
    cases a with
    | none => simp only [lft, cost, pc] at ih ⊢; omega
    | some a =>
      have hd := lev_del a (lft s) (rgt (q :: t))
      simp only [lft, cost, pc] at ih ⊢; omega
  | n + 1, p :: s, (none, c) :: t, hn, h => by
    have ih := tri_al n (p :: s) t (by simp at hn ⊢; omega) (by simpa [lft] using h)
    cases c with
    | none => simp only [rgt, cost, pc] at ih ⊢; omega
    | some c =>
      have hi := lev_ins (lft (p :: s)) c (rgt t)
      simp only [rgt, cost, pc] at ih ⊢; omega
  | n + 1, (a, some b) :: s, (some b', c) :: t, hn, h => by
    simp only [rgt, lft, List.cons.injEq] at h
    obtain ⟨rfl, h⟩ := h
    have ih := tri_al n s t (by simp at hn ⊢; omega) h
    cases a with
    | none =>
      cases c with
      | none => simp only [lft, rgt, cost, pc] at ih ⊢; omega
      | some c =>
        have hi := lev_ins (lft s) c (rgt t)
        simp only [lft, rgt, cost, pc] at ih ⊢; omega
    | some a =>
      cases c with
      | none =>
        have hd := lev_del a (lft s) (rgt t)
        simp only [lft, rgt, cost, pc] at ih ⊢; omega
      | some c =>
        have hr := lev_rep a (lft s) c (rgt t)
        have hc := cst_tri a b c
        simp only [lft, rgt, cost, pc] at ih ⊢; omega
/-- THE TRIANGLE. -/
theorem lev_tri (xs ys zs : List Int) : lev xs zs ≤ lev xs ys + lev ys zs := by
  obtain ⟨s, a1, b1, c1⟩ := al_best xs ys
  obtain ⟨t, a2, b2, c2⟩ := al_best ys zs
  have h := tri_al (s.length + t.length) s t (Nat.le_refl _) (by rw [b1, a2])
  rw [a1, b2, c1, c2] at h
  exact h

theorem lev_self : ∀ xs : List Int, lev xs xs = 0
  | [] => rfl
  | x :: xs => by have h := lev_rep x xs x xs; rw [lev_self xs] at h; simp [cst] at h; exact h
theorem lev_zero : ∀ xs ys : List Int, lev xs ys = 0 → xs = ys
  | [], ys, h => by rw [lev_nil] at h; exact (List.eq_nil_of_length_eq_zero h).symm
  | x :: xs, [], h => by rw [lev_nil_right] at h; simp at h
  | x :: xs, y :: ys, h => by
    rw [lev_cons] at h
    have h1 : lev xs ys = 0 ∧ cst x y = 0 := by omega
    have h2 : x = y := by
      have := h1.2; unfold cst at this; split at this
      · assumption
      · omega
    rw [lev_zero xs ys h1.1, h2]
theorem lev_zero_iff (xs ys : List Int) : lev xs ys = 0 ↔ xs = ys := ⟨lev_zero xs ys, fun h => by rw [h]; exact lev_self ys⟩

theorem cst_le (x y : Int) : cst x y ≤ 1 := by unfold cst; split <;> omega
/-- BOUNDS. -/
theorem lev_bounds : ∀ xs ys : List Int, xs.length ≤ lev xs ys + ys.length ∧ ys.length ≤ lev xs ys + xs.length ∧ lev xs ys ≤ max xs.length ys.length
  | [], ys => by rw [lev_nil]; simp
  | x :: xs, [] => by rw [lev_nil_right]; simp
  | x :: xs, y :: ys => by
    have h1 := lev_bounds xs (y :: ys)
    have h2 := lev_bounds (x :: xs) ys
    have h3 := lev_bounds xs ys
    have hc := cst_le x y
    rw [lev_cons]
    simp only [List.length_cons] at *
    omega

/-- a common head. -/
theorem lev_same (z : Int) (xs ys : List Int) : lev (z :: xs) (z :: ys) = lev xs ys := by
  have h0 := lev_cons z xs z ys
  have e : cst z z = 0 := by simp [cst]
  have a1 : lev xs ys ≤ lev xs (z :: ys) + 1 := by
    have t := lev_tri xs (z :: ys) ys
    have d := lev_del z ys ys
    rw [lev_self] at d
    omega
  have a2 : lev xs ys ≤ lev (z :: xs) ys + 1 := by
    have t := lev_tri xs (z :: xs) ys
    have d := lev_ins xs z xs
    rw [lev_self] at d
    omega
  omega
/-- A COMMON PREFIX. -/
theorem lev_prefix : ∀ zs xs ys : List Int, lev (zs ++ xs) (zs ++ ys) = lev xs ys
  | [], _, _ => rfl
  | z :: zs, xs, ys => by rw [List.cons_append, List.cons_append, lev_same, lev_prefix zs xs ys]
/-- A COMMON SUFFIX. -/
theorem lev_suffix (zs xs ys : List Int) : lev (xs ++ zs) (ys ++ zs) = lev xs ys := by
  rw [← lev_reverse, List.reverse_append, List.reverse_append, lev_prefix, lev_reverse]
theorem lev_longer (xs zs : List Int) : lev xs (xs ++ zs) = zs.length := by
  have h := lev_prefix xs [] zs
  rw [List.append_nil, lev_nil] at h
  exact h
end Go.Proofs.Qxb6619609a
