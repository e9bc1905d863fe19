/-
  zzPlanOfNames (5): a plan of modules of the names given.
-/
import Derived.Test.Qxb6619608aRows
import Derived.Test.Qxb6619608aPlain
import Derived.WalkKit
import Derived.WalkSpells
import Derived.WalkLawsBesides
import Derived.WalkSmall
import Derived.Laws.Rows
import Derived.Laws.MakeOwn
import Derived.Lib.SmallJoins
namespace Go.Proofs.Qxb6619608a
open Go.RowKit
set_option linter.unusedVariables false

/-- what a slice of strings that is only read must give: its first n cells. -/
def Strs (w : World) (a : Option Addr) (L : List ByteArray) : Prop :=
  L = [] ∨ ∃ b off, a = some ⟨b, off, none⟩ ∧ ∀ i, i < L.length → w.cell? ⟨b, off + i, none⟩ = some (.string (L.getD i ByteArray.empty))

/-- a plan lies at block p, its modules at block m, n of them, by the names L. -/
structure PlanAt (w : World) (p m n : Nat) (L : List ByteArray) : Prop where
  len : L.length = n
  cell : w.cell? ⟨p, 5, none⟩ = some (.slice (some ⟨m, 0, none⟩) n n)
  row : ∃ A, w.heap[m]? = some (.cells A 37 (0, 0)) ∧ ∀ i, i < n → A[i * 9]? = some (.string (L.getD i ByteArray.empty))

theorem zero37 : ∃ i z, Try.prog.info? 37 = some i ∧ i.zero = some z ∧ i.size = 9 ∧ i.bytes = 120 := by
  have h : (Try.prog.info? 37).map (fun i => (i.zero.isSome, i.size, i.bytes)) = some (true, 9, 120) := by kernel_rfl
  obtain ⟨i, hi, hh⟩ := Option.map_eq_some_iff.1 h
  simp only [Prod.mk.injEq] at hh
  obtain ⟨z, hz⟩ := Option.isSome_iff_exists.1 hh.1
  exact ⟨i, z, hi, hz, hh.2.1, hh.2.2⟩

theorem make37 (n : Nat) (hn : n ≤ 1048576) : ∃ C : Array Value, C.size = n * 9 ∧ ∀ w : World,
    (Instr.makeSlice 30 (.int .i64 (n : Int)) (.int .i64 (n : Int))).run Try.prog w = .ok (.slice (some ⟨w.heap.size, 0, none⟩) n n) (w.alloc (.cells C 37)) := by
  obtain ⟨i, z, hi, hz, hs, hb⟩ := zero37
  refine ⟨madeCells z.cells (n * 9), size_madeCells _ _, fun w => ?_⟩
  have hr := run_make (P := Try.prog) w 30 37 i z Try.underlying30 hi hz .i64 .i64 n n (by omega) (Int.le_refl _) (by rw [hb]; omega) (by omega)
  rw [hs] at hr
  simpa using hr

set_option maxHeartbeats 400000 in
theorem plan_nil (a : Option Addr) (cap : Nat) (w : World) :
    Calls Try.prog 5 #[.slice a 0 cap] w fun e w' => e = .returned (.pointer (some ⟨w.heap.size + 1, 0, none⟩)) ∧ Below w.heap.size w w' ∧ w'.heap.size = w.heap.size + 2 ∧ PlanAt w' (w.heap.size + 1) w.heap.size 0 [] := by
  obtain ⟨C, hC, hmk⟩ := make37 0 (by omega)
  have hmk' : ∀ w : World, (Instr.makeSlice 30 (.int .i64 0) (.int .i64 0)).run Try.prog w = .ok (.slice (some ⟨w.heap.size, 0, none⟩) 0 0) (w.alloc (.cells C 37)) := hmk
  clear hmk
  go_enter Try.func5, Try.ntmps5
  go_wp2
  go_loop [4] (fun i => i = .int .i64 0) (fun i => 0)
  case atStart => rfl
  case round =>
    subst hrel
    go_wp2
    go_ret
    refine ⟨rfl, ((Below.refl _ _).alloc (Nat.le_refl _) _).alloc (by simp) _, by simp, ⟨rfl, ?_, C, ?_, fun i hi => by omega⟩⟩
    · rw [World.cell?_alloc_at _ _ _ _ (by simp)]; rfl
    · exact (Below.heap_alloc _ _ _ (by simp)).trans (by exact Array.getElem?_push_size)

theorem ret_ptr {a b o : Nat} (h : a = b) : Ending.returned (.pointer (some ⟨a, o, none⟩)) = .returned (.pointer (some ⟨b, o, none⟩)) := by rw [h]

/-- one round's store, out of the walk. -/
theorem row_step (L : List ByteArray) (n k : Nat) (A : Array Value) (hA : A.size = n * 9) (hk : k < n) (h : ∀ i, i < k → A[i * 9]? = some (.string (L.getD i ByteArray.empty))) (s : ByteArray) (hs : s = L.getD k ByteArray.empty) :
    (A.setIfInBounds (k * 9) (.string s)).size = n * 9 ∧ ∀ i, i < k + 1 → (A.setIfInBounds (k * 9) (.string s))[i * 9]? = some (.string (L.getD i ByteArray.empty)) := by
  refine ⟨by simpa using hA, fun i hi => ?_⟩
  rw [Array.getElem?_setIfInBounds]
  by_cases e : i = k
  · subst e; rw [if_pos rfl, if_pos (by omega), hs]
  · rw [if_neg (by omega)]; exact h i (by omega)

set_option maxHeartbeats 800000 in
theorem plan_some (b off cap : Nat) (L : List ByteArray) (n : Nat) (w : World) (hn : n ≤ 1048576) (hL : L.length = n)
    (hc : ∀ i, i < L.length → w.cell? ⟨b, off + i, none⟩ = some (.string (L.getD i ByteArray.empty))) :
    Calls Try.prog 5 #[.slice (some ⟨b, off, none⟩) n cap] w fun e w' => e = .returned (.pointer (some ⟨w.heap.size + 1, 0, none⟩)) ∧ Below w.heap.size w w' ∧ w'.heap.size = w.heap.size + 2 ∧ PlanAt w' (w.heap.size + 1) w.heap.size n L := by
  obtain ⟨C, hC, hmk⟩ := make37 n hn
  have HC : Hid (∀ i, i < n → b < w.heap.size ∧ w.cell? ⟨b, off + i, none⟩ = some (.string (L.getD i ByteArray.empty))) := fun i hi => ⟨block_lt_of_cell (hc i (by omega)), hc i (by omega)⟩
  have HS : Hid (C.size = n * 9) := hC
  have HL : Hid (L.length = n) := hL
  clear hc hC hL
  go_enter Try.func5, Try.ntmps5
  go_wp2
  go_loopw [4] (fun i wr => ∃ k : Nat, k ≤ n ∧ i = .int .i64 k ∧ Hid (Below w.heap.size w wr) ∧ Hid (wr.heap.size = w.heap.size + 1) ∧ ∃ A, Hid (wr.heap[w.heap.size]? = some (.cells A 37 (0, 0))) ∧ Hid (A.size = n * 9) ∧ Hid (∀ i, i < k → A[i * 9]? = some (.string (L.getD i ByteArray.empty)))) (fun i _ => n - (intOf i).toNat)
  case atStart => exact ⟨0, Nat.zero_le _, rfl, (Below.refl _ _).alloc (Nat.le_refl _) _, by simp [Hid], C, Array.getElem?_push_size, HS.out, fun i hi => by omega⟩
  case round =>
    obtain ⟨k, hk, rfl, hb, hsz, A, hA, hAs, hrow⟩ := hrel
    by_cases hlt : k < n
    · obtain ⟨s, hs⟩ : ∃ s, s = L.getD k ByteArray.empty := ⟨_, rfl⟩
      have hcx : wr.cell? ⟨b, off + k, none⟩ = some (.string s) := by
        obtain ⟨h1, h2⟩ := HC.out k hlt
        rw [hs, ← h2]; exact hb.out.cell (by exact h1)
      have h9 : k * 9 < A.size := by rw [hAs.out]; omega
      have hcw : wr.cell? ⟨w.heap.size, k * 9, none⟩ = some A[k * 9] := by
        rw [cell_of_row wr _ _ _ _ _ hA.out]; exact Array.getElem?_eq_getElem h9
      obtain ⟨old, hold⟩ : ∃ old, old = A[k * 9] := ⟨_, rfl⟩
      rw [← hold] at hcw
      have hfr : wr.frozen? ⟨w.heap.size, k * 9, none⟩ = false := by
        simp [World.frozen?, hA.out]
      have HS2 : Hid (s = L.getD k ByteArray.empty) := hs
      clear hs hold h9
      go_wp2
      go_roundw
      case rel =>
        obtain ⟨r1, r2⟩ := row_step L n k A hAs.out hlt hrow.out s HS2.out
        exact ⟨k + 1, by omega, by go_num, hb.out.setCell (Nat.le_refl _) _, by rw [← hsz.out]; simp [Hid], _, Joins.block_setCell hA.out _, r1, r2⟩
      case measure => simp [intOf]; omega
    · have hkn : k = n := by omega
      subst hkn
      go_wp2
      go_ret
      have hsz2 := hsz.out
      have HR := hrow.out
      refine ⟨ret_ptr hsz2, hb.out.alloc (by omega) _, by simp [hsz2], ⟨HL.out, ?_, A, ?_, hrow.out⟩⟩
      · rw [World.cell?_alloc_at _ _ _ _ (by omega)]; rfl
      · exact (Below.heap_alloc _ _ _ (by omega)).trans hA.out

theorem plan_any (a : Option Addr) (cap : Nat) (L : List ByteArray) (n : Nat) (w : World) (hn : n ≤ 1048576) (hL : L.length = n) (hS : Strs w a L) :
    Calls Try.prog 5 #[.slice a n cap] w fun e w' => e = .returned (.pointer (some ⟨w.heap.size + 1, 0, none⟩)) ∧ Below w.heap.size w w' ∧ w'.heap.size = w.heap.size + 2 ∧ PlanAt w' (w.heap.size + 1) w.heap.size n L := by
  rcases hS with rfl | ⟨b, off, rfl, hc⟩
  · obtain rfl : 0 = n := by simpa using hL
    exact plan_nil a cap w
  · exact plan_some b off cap L n w hn hL hc

theorem PlanAt.later {w w' : World} {p m n : Nat} {L : List ByteArray} (h : PlanAt w p m n L) (hb : Below w.heap.size w w') : PlanAt w' p m n L := by
  obtain ⟨h1, h2, A, h3, h4⟩ := h
  refine ⟨h1, (hb.cell (block_lt_of_cell h2)).trans h2, A, (hb.block m ?_).trans h3, h4⟩
  exact (Array.getElem?_eq_some_iff.1 h3).1
end Go.Proofs.Qxb6619608a
