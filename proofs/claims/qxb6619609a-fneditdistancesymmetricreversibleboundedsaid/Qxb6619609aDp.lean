/-
  THE TWO TABLES (by prefixes, by suffixes), AND A STRING's RUNES: no walk here.
-/
import Derived.Test.Qxb6619609aLev
import Derived.Laws.IdiomStrings
namespace Go.Proofs.Qxb6619609a

/-- the table by prefixes. -/
def pre (xs ys : List Int) (i j : Nat) : Nat := lev (xs.take i).reverse (ys.take j).reverse
/-- the table by suffixes. -/
def suf (xs ys : List Int) (i j : Nat) : Nat := lev (xs.drop i) (ys.drop j)

theorem take_rev (xs : List Int) (i : Nat) (h : i < xs.length) : (xs.take (i + 1)).reverse = xs.getD i 0 :: (xs.take i).reverse := by
  rw [List.take_succ_eq_append_getElem h]; simp [List.getD, List.getElem?_eq_getElem h]
theorem drop_cons (xs : List Int) (i : Nat) (h : i < xs.length) : xs.drop i = xs.getD i 0 :: xs.drop (i + 1) := by
  rw [List.drop_eq_getElem_cons h]; simp [List.getD, List.getElem?_eq_getElem h]

theorem pre_zero (xs ys : List Int) (j : Nat) (h : j ≤ ys.length) : pre xs ys 0 j = j := by simp [pre, lev_nil]; omega
theorem pre_zero' (xs ys : List Int) (i : Nat) (h : i ≤ xs.length) : pre xs ys i 0 = i := by simp [pre, lev_nil_right]; omega
theorem pre_step (xs ys : List Int) (i j : Nat) (hi : i < xs.length) (hj : j < ys.length) :
    pre xs ys (i + 1) (j + 1) = min (min (pre xs ys i (j + 1) + 1) (pre xs ys (i + 1) j + 1)) (pre xs ys i j + cst (xs.getD i 0) (ys.getD j 0)) := by
  unfold pre
  rw [take_rev xs i hi, take_rev ys j hj, lev_cons]
theorem pre_last (xs ys : List Int) : pre xs ys xs.length ys.length = lev xs ys := by unfold pre; rw [List.take_length, List.take_length, lev_reverse]
theorem pre_le (xs ys : List Int) (i j : Nat) : pre xs ys i j ≤ xs.length + ys.length := by
  have h := (lev_bounds (xs.take i).reverse (ys.take j).reverse).2.2
  simp at h
  unfold pre; omega

theorem suf_last (xs ys : List Int) (j : Nat) : suf xs ys xs.length j = ys.length - j := by simp [suf, lev_nil]
theorem suf_last' (xs ys : List Int) (i : Nat) : suf xs ys i ys.length = xs.length - i := by simp [suf, lev_nil_right]
theorem suf_step (xs ys : List Int) (i j : Nat) (hi : i < xs.length) (hj : j < ys.length) :
    suf xs ys i j = min (min (suf xs ys (i + 1) j + 1) (suf xs ys i (j + 1) + 1)) (suf xs ys (i + 1) (j + 1) + cst (xs.getD i 0) (ys.getD j 0)) := by
  unfold suf
  rw [drop_cons xs i hi, drop_cons ys j hj, lev_cons]
theorem suf_zero (xs ys : List Int) : suf xs ys 0 0 = lev xs ys := rfl
theorem suf_le (xs ys : List Int) (i j : Nat) : suf xs ys i j ≤ xs.length + ys.length := by
  have h := (lev_bounds (xs.drop i) (ys.drop j)).2.2
  simp at h
  unfold suf; omega

/-- a string's runes. -/
def runesL (s : ByteArray) : Nat → Nat → List Int
  | 0, _ => []
  | b + 1, i => if i < s.size then ((Utf8.decode s i).1 : Int) :: runesL s b (i + (Utf8.decode s i).2) else []
def runes (s : ByteArray) : List Int := runesL s s.size 0

theorem runesFrom_eq (s : ByteArray) : ∀ (b i : Nat) (acc : Array Value), Conv.runesFrom s b i acc = acc ++ ((runesL s b i).map (Value.int .i32)).toArray
  | 0, i, acc => by simp [Conv.runesFrom, runesL]
  | b + 1, i, acc => by
    unfold Conv.runesFrom runesL
    by_cases h : i < s.size
    · rw [if_pos h, if_pos h]
      show Conv.runesFrom s b (i + (Utf8.decode s i).2) (acc.push (.int .i32 (Int.ofNat (Utf8.decode s i).1))) = _
      rw [runesFrom_eq s b]
      simp
    · rw [if_neg h, if_neg h]; simp
theorem runes_eq (s : ByteArray) : Conv.runesFrom s s.size 0 #[] = ((runes s).map (Value.int .i32)).toArray := by rw [runesFrom_eq]; simp [runes]
theorem runesL_len (s : ByteArray) : ∀ b i, (runesL s b i).length ≤ b
  | 0, i => by simp [runesL]
  | b + 1, i => by
    unfold runesL; split
    · have := runesL_len s b (i + (Utf8.decode s i).2); simp; omega
    · simp
theorem runes_len (s : ByteArray) : (runes s).length ≤ s.size := runesL_len s _ _
end Go.Proofs.Qxb6619609a
