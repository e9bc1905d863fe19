/-
  '!=' ON EQUAL ARRAYS OF STRINGS; AN ARRAY IN MEMORY; THE PLAIN LAWS OF 'or'.
-/
import Derived.Test.Qxb6619621aOr
import Derived.ChangeKeysEq
import Derived.Laws.StructEq
namespace Go.Proofs.Qxb6619621a
open Go.RowKit
set_option linter.unusedVariables false

theorem neq_same (a b c : ByteArray) (w : World) : (binOp .neq 22 (A3 a b c) (A3 a b c)).run Try.prog w = .ok (.bool false) w := by
  simp only [binOp]
  obtain ⟨i, hi⟩ : ∃ i, Try.prog.info? 9 = some i := by
    have h : (Try.prog.info? 9).map (·.size) = some 1 := by kernel_rfl
    obtain ⟨i, hi, hh⟩ := Option.map_eq_some_iff.1 h
    exact ⟨i, hi⟩
  have hc : Try.prog.cellsOf 9 = 1 := by kernel_rfl
  have hp : Try.prog.plainKey 9 = true := by kernel_rfl
  have h9 : ∀ d : Nat, ∀ s : ByteArray, (Op.equalIn (d + 1) 9 (.string s) (.string s)).run Try.prog w = .ok true w := fun d s => by
    rw [run_equalIn_string w d 9 s s Try.underlying9]; simp
  have h : ∀ d : Nat, (Op.equalIn (d + 2) 22 (A3 a b c) (A3 a b c)).run Try.prog w = .ok true w := fun d => by
    rw [run_equalIn_array (P := Try.prog) w (d + 1) _ _ Try.underlying22 hi, hc]
    have p0 := run_part_plain (P := Try.prog) w hp (xs := #[Value.string a, Value.string b, Value.string c]) (off := 0) rfl
    have p1 := run_part_plain (P := Try.prog) w hp (xs := #[Value.string a, Value.string b, Value.string c]) (off := 1) rfl
    have p2 := run_part_plain (P := Try.prog) w hp (xs := #[Value.string a, Value.string b, Value.string c]) (off := 2) rfl
    have hr : List.range 3 = [0, 1, 2] := rfl
    rw [hr]
    simp [Op.eqItems, p0, p1, p2, h9]
  simp [Op.equal, Op.maxDepth, h 9998]

/-- an array of three strings lies at block b. -/
structure Arr (w : World) (b : Nat) (x y z : ByteArray) : Prop where
  c0 : w.cell? ⟨b, 0, none⟩ = some (.string x)
  c1 : w.cell? ⟨b, 1, none⟩ = some (.string y)
  c2 : w.cell? ⟨b, 2, none⟩ = some (.string z)
theorem Arr.keep {w w' : World} {b : Nat} {x y z : ByteArray} (h : Arr w b x y z) (hk : ∀ b o v, w.cell? ⟨b, o, none⟩ = some v → w'.cell? ⟨b, o, none⟩ = some v) : Arr w' b x y z :=
  ⟨hk _ _ _ h.c0, hk _ _ _ h.c1, hk _ _ _ h.c2⟩
theorem Arr.later {w w' : World} {b : Nat} {x y z : ByteArray} (h : Arr w b x y z) (hb : Below w.heap.size w w') : Arr w' b x y z :=
  ⟨(hb.cell (World.block_lt_of_cell? _ _ h.c0)).trans h.c0, (hb.cell (World.block_lt_of_cell? _ _ h.c1)).trans h.c1, (hb.cell (World.block_lt_of_cell? _ _ h.c2)).trans h.c2⟩
theorem Arr.draw {w : World} {b : Nat} {x y z : ByteArray} (h : Arr w b x y z) (n : Nat) : Arr (w.drewN n) b x y z := ⟨h.c0, h.c1, h.c2⟩
theorem Arr.made (w : World) (x y z : ByteArray) (t : TypeId) : Arr (w.alloc (.cells #[.string x, .string y, .string z] t)) w.heap.size x y z :=
  ⟨World.cell?_alloc_at _ _ _ _ rfl, World.cell?_alloc_at _ _ _ _ rfl, World.cell?_alloc_at _ _ _ _ rfl⟩
theorem Arr.alloc {w : World} {b : Nat} {x y z : ByteArray} (h : Arr w b x y z) (o : Obj) : Arr (w.alloc o) b x y z := h.later ((Below.refl _ _).alloc (Nat.le_refl _) o)

/-- ZZListenAddressesOr, with what it leaves alone said cell by cell. -/
theorem zz_keeps (l0 l1 l2 f0 f1 f2 : ByteArray) (w : World) :
    Calls Try.prog 6 #[A3 l0 l1 l2, A3 f0 f1 f2] w fun e w' => e = .returned (A3 (orS l0 f0) (orS l1 f1) (orS l2 f2)) ∧ Below w.heap.size w w' ∧ ∀ b o v, w.cell? ⟨b, o, none⟩ = some v → w'.cell? ⟨b, o, none⟩ = some v :=
  (zz_any l0 l1 l2 f0 f1 f2 w).mono fun e w' ⟨h1, h2⟩ => ⟨h1, h2, fun b o v hv => (h2.cell (World.block_lt_of_cell? _ _ hv)).trans hv⟩

theorem orS_self (l : ByteArray) : orS l l = l := by unfold orS; split <;> rfl
theorem orS_again (l f : ByteArray) : orS (orS l f) f = orS l f := by
  by_cases h : l.toList.isEmpty
  · have e : orS l f = f := by simp [orS, h]
    rw [e, orS_self]
  · have e : orS l f = l := by simp [orS, h]
    rw [e, e]
theorem orS_assoc (l f g : ByteArray) : orS (orS l f) g = orS l (orS f g) := by
  by_cases h : l.toList.isEmpty
  · have e : orS l f = f := by simp [orS, h]
    have e2 : orS l (orS f g) = orS f g := by simp [orS, h]
    rw [e, e2]
  · have e : orS l f = l := by simp [orS, h]
    have e2 : orS l (orS f g) = l := by simp [orS, h]
    have e3 : orS l g = l := by simp [orS, h]
    rw [e, e2, e3]
theorem orS_fst (l f : ByteArray) (h : l.toList.isEmpty = true) : orS l f = f := by simp [orS, h]
theorem orS_own (l f : ByteArray) (h : l.toList.isEmpty = false) : orS l f = l := by simp [orS, h]
theorem both_empty (a b : ByteArray) (ha : a.toList.isEmpty = true) (hb : b.toList.isEmpty = true) : (a.toList == b.toList) = true := by
  rw [List.isEmpty_iff.1 ha, List.isEmpty_iff.1 hb]; rfl
theorem same_str (a b : ByteArray) (h : a = b) : (a.toList == b.toList) = true := by rw [h]; simp
end Go.Proofs.Qxb6619621a
