/-
  zzReverseRunes (10), zzSameRunes (11).
-/
import Derived.Test.Qxb6619609aJoin
namespace Go.Proofs.Qxb6619609a
open Go.RowKit Go.Deep
set_option linter.unusedVariables false

/-- the reversed row, filled from its end: k runes are there. -/
def RowR (wr : World) (b n k : Nat) (xs : List Int) : Prop :=
  ∃ A : Array Value, wr.heap[b]? = some (.cells A 21 (0, 0)) ∧ A.size = n ∧ ∀ j, j < k → A[n - 1 - j]? = some (.int .i32 (xs.getD j 0))
theorem RowR.has {wr : World} {b n k : Nat} {xs : List Int} (h : RowR wr b n k xs) (j : Nat) (hj : j < n) : ∃ v, wr.cell? ⟨b, j, none⟩ = some v := by
  obtain ⟨A, h1, h2, h3⟩ := h
  exact ⟨A[j], by rw [cell_of_row wr _ _ _ _ _ h1]; exact Array.getElem?_eq_getElem (by omega)⟩
theorem RowR.free {wr : World} {b n k : Nat} {xs : List Int} (h : RowR wr b n k xs) (j : Nat) : wr.frozen? ⟨b, j, none⟩ = false := by
  obtain ⟨A, h1, h2, h3⟩ := h
  exact frozen_of_row wr _ _ _ _ h1
theorem RowR.step {wr : World} {b n k : Nat} {xs : List Int} (h : RowR wr b n k xs) (hk : k < n) (v : Int) (hv : v = xs.getD k 0) : RowR (wr.setCell ⟨b, n - 1 - k, none⟩ (.int .i32 v)) b n (k + 1) xs := by
  obtain ⟨A, h1, h2, h3⟩ := h
  refine ⟨_, Joins.block_setCell h1 _, by simpa using h2, fun j hj => ?_⟩
  rw [Array.getElem?_setIfInBounds]
  by_cases e : j = k
  · subst e; rw [if_pos rfl, if_pos (by omega), hv]
  · rw [if_neg (by omega)]; exact h3 j (by omega)
theorem RowR.cell {wr : World} {b n : Nat} {xs : List Int} (h : RowR wr b n n xs) (hn : n = xs.length) (j : Nat) (hj : j < n) : wr.cell? ⟨b, j, none⟩ = some (.int .i32 (xs.reverse.getD j 0)) := by
  obtain ⟨A, h1, h2, h3⟩ := h
  rw [cell_of_row wr _ _ _ _ _ h1]
  have := h3 (n - 1 - j) (by omega)
  rw [show n - 1 - (n - 1 - j) = j by omega] at this
  rw [this]
  simp [List.getD, List.getElem?_reverse (show j < xs.length by omega), hn]

set_option maxHeartbeats 1000000 in
theorem rev_any (bx cx n : Nat) (xs : List Int) (w : World) (hn20 : n ≤ 1048576) (hn : n = xs.length) (hbx : bx < w.heap.size)
    (hx : ∀ i, i < n → w.cell? ⟨bx, i, none⟩ = some (.int .i32 (xs.getD i 0))) :
    Calls Try.prog 10 #[.slice (some ⟨bx, 0, none⟩) n cx] w fun e w' => e = .returned (.string (runesBytes xs.reverse)) ∧ Below w.heap.size w w' := by
  have HN : Hid (n = xs.length) := hn
  have HX : Hid (∀ i, i < n → w.cell? ⟨bx, i, none⟩ = some (.int .i32 (xs.getD i 0))) := hx
  have hmk := fun (wx : World) => run_make_row' (P := Try.prog) 25 21 (.int .i32 0) 4 Try.underlying25 info21 rfl .i64 .i64 n (by omega) (by omega) wx
  obtain ⟨mk, hmk0⟩ : ∃ mk, mk = madeCells #[Value.int .i32 0] n := ⟨_, rfl⟩
  rw [← hmk0] at hmk
  have HK : Hid (mk.size = n) := by rw [hmk0]; exact size_madeCells _ _
  clear hn hx hmk0
  go_enter Try.func10, Try.ntmps10
  go_wp2
  go_loopw [4] (fun i wr => ∃ k : Nat, k ≤ n ∧ i = .int .i64 k ∧ Hid (Below w.heap.size w wr) ∧ Hid (RowR wr w.heap.size n k xs)) (fun i _ => n - (intOf i).toNat)
  case atStart => exact ⟨0, Nat.zero_le _, rfl, (Below.refl _ _).alloc (Nat.le_refl _) _, ⟨mk, Array.getElem?_push_size, HK.out, fun j hj => by omega⟩⟩
  case round =>
    obtain ⟨k, hk, rfl, hbe, hr⟩ := hrel
    by_cases hlt : k < n
    · obtain ⟨x, hxe⟩ : ∃ x, x = xs.getD k 0 := ⟨_, rfl⟩
      have hcx : wr.cell? ⟨bx, k, none⟩ = some (.int .i32 x) := by rw [hxe]; exact (hbe.out.cell (by exact hbx)).trans (HX.out k hlt)
      obtain ⟨old, hcw⟩ := hr.out.has (n - 1 - k) (by omega)
      have hfr := hr.out.free (n - 1 - k)
      have HE : Hid (x = xs.getD k 0) := hxe
      clear hxe
      go_wp2
      go_roundw
      case rel => exact ⟨k + 1, by omega, by go_num, hbe.out.setCell (Nat.le_refl _) _, hr.out.step hlt _ HE.out⟩
      case measure => simp [intOf]; omega
    · obtain rfl : k = n := by omega
      have hcv := conv_back wr w.heap.size k k xs.reverse (by rw [List.length_reverse]; exact HN.out.symm) (fun j hj => hr.out.cell HN.out j hj)
      go_wp2
      go_ret
      exact ⟨rfl, hbe.out⟩

set_option maxHeartbeats 1000000 in
theorem same_yes (bx bey cx cy n : Nat) (xs : List Int) (w : World) (hn20 : n ≤ 1048576)
    (hx : ∀ i, i < n → w.cell? ⟨bx, i, none⟩ = some (.int .i32 (xs.getD i 0))) (hy : ∀ i, i < n → w.cell? ⟨bey, i, none⟩ = some (.int .i32 (xs.getD i 0))) :
    Calls Try.prog 11 #[.slice (some ⟨bx, 0, none⟩) n cx, .slice (some ⟨bey, 0, none⟩) n cy] w fun e w' => e = .returned (.bool true) ∧ Below w.heap.size w w' := by
  have HX : Hid (∀ i, i < n → w.cell? ⟨bx, i, none⟩ = some (.int .i32 (xs.getD i 0))) := hx
  have HY : Hid (∀ i, i < n → w.cell? ⟨bey, i, none⟩ = some (.int .i32 (xs.getD i 0))) := hy
  clear hx hy
  go_enter Try.func11, Try.ntmps11
  go_wp2
  go_loopw [5] (fun i wr => ∃ k : Nat, k ≤ n ∧ i = .int .i64 k ∧ ∃ q, wr = w.drewN q) (fun i _ => n - (intOf i).toNat)
  case atStart => exact ⟨0, Nat.zero_le _, rfl, 0, rfl⟩
  case round =>
    obtain ⟨k, hk, rfl, q, rfl⟩ := hrel
    by_cases hlt : k < n
    · obtain ⟨x, hxe⟩ : ∃ x, x = xs.getD k 0 := ⟨_, rfl⟩
      have hcx : w.cell? ⟨bx, k, none⟩ = some (.int .i32 x) := by rw [hxe]; exact HX.out k hlt
      have hcy : w.cell? ⟨bey, k, none⟩ = some (.int .i32 x) := by rw [hxe]; exact HY.out k hlt
      have hkI : (k : Int) < (n : Int) := by omega
      clear hxe
      go_wp2
      go_quiet (fail)
      go_wp2
      go_roundw
      case rel => exact ⟨k + 1, by omega, by go_num, _, rfl⟩
      case measure => simp [intOf]; omega
    · go_wp2
      go_ret
      exact ⟨rfl, below_drewN (Below.refl _ _) _⟩

set_option maxHeartbeats 400000 in
theorem same_len (a b : Option Addr) (cx cy n m : Nat) (w : World) (h : n ≠ m) :
    Calls Try.prog 11 #[.slice a n cx, .slice b m cy] w fun e w' => e = .returned (.bool false) ∧ Below w.heap.size w w' := by
  have hq : ((n : Int) != (m : Int)) = true := by simp; omega
  go_enter Try.func11, Try.ntmps11
  go_wp2
  go_ret
  exact ⟨rfl, Below.refl _ _⟩

theorem first_diff : ∀ (xs ys : List Int), xs.length = ys.length → xs ≠ ys → ∃ r, r < xs.length ∧ xs.getD r 0 ≠ ys.getD r 0 ∧ ∀ j, j < r → xs.getD j 0 = ys.getD j 0
  | [], [], _, h => absurd rfl h
  | [], _ :: _, hl, _ => by simp at hl
  | _ :: _, [], hl, _ => by simp at hl
  | x :: xs, y :: ys, hl, h => by
    by_cases e : x = y
    · subst e
      obtain ⟨r, h1, h2, h3⟩ := first_diff xs ys (by simpa using hl) (fun e => h (by rw [e]))
      refine ⟨r + 1, by simpa using h1, by simpa using h2, fun j hj => ?_⟩
      cases j with
      | zero => simp
      | succ j => simpa using h3 j (by omega)
    · exact ⟨0, by simp, by simpa using e, fun j hj => by omega⟩

set_option maxHeartbeats 1000000 in
theorem same_no (bx bey cx cy n : Nat) (xs ys : List Int) (w : World) (hn20 : n ≤ 1048576) (hn : n = xs.length) (hm : n = ys.length) (hne : xs ≠ ys)
    (hx : ∀ i, i < n → w.cell? ⟨bx, i, none⟩ = some (.int .i32 (xs.getD i 0))) (hy : ∀ i, i < n → w.cell? ⟨bey, i, none⟩ = some (.int .i32 (ys.getD i 0))) :
    Calls Try.prog 11 #[.slice (some ⟨bx, 0, none⟩) n cx, .slice (some ⟨bey, 0, none⟩) n cy] w fun e w' => e = .returned (.bool false) ∧ Below w.heap.size w w' := by
  have HX : Hid (∀ i, i < n → w.cell? ⟨bx, i, none⟩ = some (.int .i32 (xs.getD i 0))) := hx
  have HY : Hid (∀ i, i < n → w.cell? ⟨bey, i, none⟩ = some (.int .i32 (ys.getD i 0))) := hy
  obtain ⟨r, h1, h2, h3⟩ := first_diff xs ys (by omega) hne
  have hrn : r < n := by omega
  have H2 : Hid (xs.getD r 0 ≠ ys.getD r 0) := h2
  have H3 : Hid (∀ j, j < r → xs.getD j 0 = ys.getD j 0) := h3
  clear hx hy h1 h2 h3 hne hn hm
  go_enter Try.func11, Try.ntmps11
  go_wp2
  go_loopw [5] (fun i wr => ∃ k : Nat, k ≤ r ∧ i = .int .i64 k ∧ ∃ q, wr = w.drewN q) (fun i _ => r + 1 - (intOf i).toNat)
  case atStart => exact ⟨0, Nat.zero_le _, rfl, 0, rfl⟩
  case round =>
    obtain ⟨k, hk, rfl, q, rfl⟩ := hrel
    obtain ⟨x, hxe⟩ : ∃ x, x = xs.getD k 0 := ⟨_, rfl⟩
    obtain ⟨y, hye⟩ : ∃ y, y = ys.getD k 0 := ⟨_, rfl⟩
    have hcx : w.cell? ⟨bx, k, none⟩ = some (.int .i32 x) := by rw [hxe]; exact HX.out k (by omega)
    have hcy : w.cell? ⟨bey, k, none⟩ = some (.int .i32 y) := by rw [hye]; exact HY.out k (by omega)
    have hkI : (k : Int) < (n : Int) := by omega
    by_cases e : k = r
    · subst e
      have hq : (x != y) = true := by rw [hxe, hye]; simpa using H2.out
      clear hxe hye
      go_wp2
      go_quiet (fail)
      go_wp2
      go_ret
      exact ⟨rfl, below_drewN (below_drewN (Below.refl _ _) _) _⟩
    · have hq : (x != y) = false := by rw [hxe, hye, H3.out k (by omega)]; simp
      have hkr : k < r := by omega
      clear hxe hye e
      go_wp2
      go_quiet (fail)
      go_wp2
      go_roundw
      case rel => exact ⟨k + 1, by omega, by go_num, _, rfl⟩
      case measure => simp [intOf]; omega
end Go.Proofs.Qxb6619609a
