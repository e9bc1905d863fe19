/-
  (ListenAddresses).or (9), ZZListenAddressesOr (6), zzFirstSet (7).
-/
import Derived.Test.Qxb6619621aRows
import Derived.WalkKit
import Derived.WalkSpells
import Derived.WalkLawsBesides
import Derived.WalkSmall
import Derived.LoopN
import Derived.Deep.QuietTactic
import Derived.BigQuiet
namespace Go.Proofs.Qxb6619621a
open Go.RowKit
set_option linter.unusedVariables false

/-- a set address, or else the fallback's. -/
def orS (l f : ByteArray) : ByteArray := if l.toList.isEmpty then f else l

/-- an array of three strings. -/
abbrev A3 (a b c : ByteArray) : Value := .agg #[.string a, .string b, .string c]

theorem idx0 (x0 x1 x2 : Value) (w : World) : (Instr.index 27 (.agg #[x0, x1, x2]) (.int .i64 0)).run Try.prog w = .ok x0 w := by kernel_rfl
theorem idx1 (x0 x1 x2 : Value) (w : World) : (Instr.index 27 (.agg #[x0, x1, x2]) (.int .i64 1)).run Try.prog w = .ok x1 w := by kernel_rfl
theorem idx2 (x0 x1 x2 : Value) (w : World) : (Instr.index 27 (.agg #[x0, x1, x2]) (.int .i64 2)).run Try.prog w = .ok x2 w := by kernel_rfl

set_option maxHeartbeats 2000000 in
theorem or_any (l0 l1 l2 f0 f1 f2 : ByteArray) (w : World) :
    Calls Try.prog 9 #[A3 l0 l1 l2, A3 f0 f1 f2] w fun e w' => e = .returned (A3 (orS l0 f0) (orS l1 f1) (orS l2 f2)) ∧ Below w.heap.size w w' := by
  have i0 := idx0 (.string l0) (.string l1) (.string l2)
  have i1 := idx1 (.string l0) (.string l1) (.string l2)
  have i2 := idx2 (.string l0) (.string l1) (.string l2)
  obtain ⟨r0, c0⟩ : ∃ r0, (l0.toList.isEmpty = true ∧ r0 = f0 ∨ l0.toList.isEmpty = false ∧ r0 = l0) := by
    cases h : l0.toList.isEmpty
    · exact ⟨l0, .inr ⟨rfl, rfl⟩⟩
    · exact ⟨f0, .inl ⟨rfl, rfl⟩⟩
  obtain ⟨r1, c1⟩ : ∃ r1, (l1.toList.isEmpty = true ∧ r1 = f1 ∨ l1.toList.isEmpty = false ∧ r1 = l1) := by
    cases h : l1.toList.isEmpty
    · exact ⟨l1, .inr ⟨rfl, rfl⟩⟩
    · exact ⟨f1, .inl ⟨rfl, rfl⟩⟩
  obtain ⟨r2, c2⟩ : ∃ r2, (l2.toList.isEmpty = true ∧ r2 = f2 ∨ l2.toList.isEmpty = false ∧ r2 = l2) := by
    cases h : l2.toList.isEmpty
    · exact ⟨l2, .inr ⟨rfl, rfl⟩⟩
    · exact ⟨f2, .inl ⟨rfl, rfl⟩⟩
  have e0 : orS l0 f0 = r0 := by unfold orS; rcases c0 with ⟨h, rfl⟩ | ⟨h, rfl⟩ <;> simp [h]
  have e1 : orS l1 f1 = r1 := by unfold orS; rcases c1 with ⟨h, rfl⟩ | ⟨h, rfl⟩ <;> simp [h]
  have e2 : orS l2 f2 = r2 := by unfold orS; rcases c2 with ⟨h, rfl⟩ | ⟨h, rfl⟩ <;> simp [h]
  rw [e0, e1, e2]
  clear e0 e1 e2
  rcases c0 with ⟨h0, rfl⟩ | ⟨h0, rfl⟩ <;> rcases c1 with ⟨h1, rfl⟩ | ⟨h1, rfl⟩ <;> rcases c2 with ⟨h2, rfl⟩ | ⟨h2, rfl⟩
  all_goals
    go_enter Try.func9, Try.ntmps9
    go_wp2
    refine wp_loop_rounds 4 ?_
    rw [rounds_succ]
    go_wp2
    rw [rounds_succ]
    go_wp2
    rw [rounds_succ]
    go_wp2
    rw [rounds_succ]
    go_wp2
    exact bodyPost_ret (v := A3 r0 r1 r2) (by simp [results, Try.results9, go_sem]) rfl ⟨rfl, (((Below.refl _ _).alloc (Nat.le_refl _) _).alloc (by simp) _).alloc (by simp; omega) _⟩

set_option maxHeartbeats 800000 in
theorem zz_any (l0 l1 l2 f0 f1 f2 : ByteArray) (w : World) :
    Calls Try.prog 6 #[A3 l0 l1 l2, A3 f0 f1 f2] w fun e w' => e = .returned (A3 (orS l0 f0) (orS l1 f1) (orS l2 f2)) ∧ Below w.heap.size w w' := by
  obtain ⟨r0, e0⟩ : ∃ r0, r0 = orS l0 f0 := ⟨_, rfl⟩
  obtain ⟨r1, e1⟩ : ∃ r1, r1 = orS l1 f1 := ⟨_, rfl⟩
  obtain ⟨r2, e2⟩ : ∃ r2, r2 = orS l2 f2 := ⟨_, rfl⟩
  have H := or_any l0 l1 l2 f0 f1 f2
  rw [← e0, ← e1, ← e2] at H ⊢
  have HH : Hid (∀ wx, Calls Try.prog 9 #[A3 l0 l1 l2, A3 f0 f1 f2] wx fun e w' => e = .returned (A3 r0 r1 r2) ∧ Below wx.heap.size wx w') := H
  clear H e0 e1 e2
  go_enter Try.func6, Try.ntmps6
  go_wp2_with fail
  refine (HH.out _).mono ?_
  rintro e w1 ⟨rfl, hb⟩
  obtain ⟨c0, c1, c2, f0', f1', f2', hsz, hbel⟩ : w1.cell? ⟨w.heap.size + 1 + 1, 0, none⟩ = some (.string { data := #[] }) ∧ w1.cell? ⟨w.heap.size + 1 + 1, 1, none⟩ = some (.string { data := #[] }) ∧ w1.cell? ⟨w.heap.size + 1 + 1, 2, none⟩ = some (.string { data := #[] }) ∧
      w1.frozen? ⟨w.heap.size + 1 + 1, 0, none⟩ = false ∧ w1.frozen? ⟨w.heap.size + 1 + 1, 1, none⟩ = false ∧ w1.frozen? ⟨w.heap.size + 1 + 1, 2, none⟩ = false ∧ w.heap.size + 2 < w1.heap.size ∧ Hid (Below w.heap.size w w1) := by
    have hs := hb.size
    simp at hs
    have hB := hb.mono (B' := w.heap.size) (by simp; omega)
    have hc := fun o => hb.cell (p := ⟨w.heap.size + 1 + 1, o, none⟩) (by simp)
    have hf := fun o => hb.frozen (p := ⟨w.heap.size + 1 + 1, o, none⟩) (by simp)
    exact ⟨(hc 0).trans (by simp [go_sem]), (hc 1).trans (by simp [go_sem]), (hc 2).trans (by simp [go_sem]), (hf 0).trans (by simp [go_sem]), (hf 1).trans (by simp [go_sem]), (hf 2).trans (by simp [go_sem]), by omega,
      ((((Below.refl _ _).alloc (Nat.le_refl _) _).alloc (by simp) _).alloc (by simp; omega) _).trans hB⟩
  clear hb
  go_wp2
  exact bodyPost_ret (v := A3 r0 r1 r2) (by simp [results, Try.results6, go_sem, c0, c1, c2]) rfl ⟨rfl, ((hbel.out.setCell (by simp; omega) _).setCell (by simp; omega) _).setCell (by simp; omega) _⟩
end Go.Proofs.Qxb6619621a
