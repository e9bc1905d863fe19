/-
  THE WALK OF FnOrFoldsAssociatively (3).
-/
import Derived.Test.Qxb6619621aBytes5
import Derived.Test.Qxb6619621aEq
import Derived.Deep.RegionHeld3
import Derived.Deep.RegionWith
import Derived.Deep.CutRange
import Derived.Lib.SmallJoins
import Derived.Laws.Rows
namespace Go.Proofs.Qxb6619621a
open Go.RowKit
set_option linter.unusedVariables false

/-- ZZListenAddressesOr, with what it leaves alone said as rules. -/
theorem zz_rules (l0 l1 l2 f0 f1 f2 : ByteArray) (wx : World) :
    Calls Try.prog 6 #[A3 l0 l1 l2, A3 f0 f1 f2] wx fun e w' => e = .returned (A3 (orS l0 f0) (orS l1 f1) (orS l2 f2)) ∧ Below wx.heap.size wx w' ∧ (∀ b o, b < wx.heap.size → w'.cell? ⟨b, o, none⟩ = wx.cell? ⟨b, o, none⟩) ∧ (∀ b o, b < wx.heap.size → w'.frozen? ⟨b, o, none⟩ = wx.frozen? ⟨b, o, none⟩) :=
  (zz_any l0 l1 l2 f0 f1 f2 wx).mono fun e w' ⟨h1, h2⟩ => ⟨h1, h2, fun b o hb => h2.cell (p := ⟨b, o, none⟩) hb, fun b o hb => h2.frozen (p := ⟨b, o, none⟩) hb⟩

/-- nine cells that lie in memory lie there behind the call. -/
theorem nine {w : World} {l0 l1 l2 f0 f1 f2 g0 g1 g2 : ByteArray} {a0 a1 a2 b0 b1 b2 r0 r1 r2 : ByteArray}
    (Z : ∀ wx : World, Calls Try.prog 6 #[A3 a0 a1 a2, A3 b0 b1 b2] wx fun e w' => e = .returned (A3 r0 r1 r2) ∧ Below wx.heap.size wx w' ∧ (∀ b o, b < wx.heap.size → w'.cell? ⟨b, o, none⟩ = wx.cell? ⟨b, o, none⟩) ∧ (∀ b o, b < wx.heap.size → w'.frozen? ⟨b, o, none⟩ = wx.frozen? ⟨b, o, none⟩)) :
    ∀ wx, (wx.cell? ⟨w.heap.size, 0, none⟩ = some (.string l0) ∧ wx.cell? ⟨w.heap.size, 1, none⟩ = some (.string l1) ∧ wx.cell? ⟨w.heap.size, 2, none⟩ = some (.string l2) ∧ wx.cell? ⟨w.heap.size + 1, 0, none⟩ = some (.string f0) ∧ wx.cell? ⟨w.heap.size + 1, 1, none⟩ = some (.string f1) ∧ wx.cell? ⟨w.heap.size + 1, 2, none⟩ = some (.string f2) ∧ wx.cell? ⟨w.heap.size + 1 + 1, 0, none⟩ = some (.string g0) ∧ wx.cell? ⟨w.heap.size + 1 + 1, 1, none⟩ = some (.string g1) ∧ wx.cell? ⟨w.heap.size + 1 + 1, 2, none⟩ = some (.string g2)) → Calls Try.prog 6 #[A3 a0 a1 a2, A3 b0 b1 b2] wx fun e w' => e = .returned (A3 r0 r1 r2) ∧ Below wx.heap.size wx w' ∧ (∀ b o, b < wx.heap.size → w'.cell? ⟨b, o, none⟩ = wx.cell? ⟨b, o, none⟩) ∧ (∀ b o, b < wx.heap.size → w'.frozen? ⟨b, o, none⟩ = wx.frozen? ⟨b, o, none⟩) ∧ (w'.cell? ⟨w.heap.size, 0, none⟩ = some (.string l0) ∧ w'.cell? ⟨w.heap.size, 1, none⟩ = some (.string l1) ∧ w'.cell? ⟨w.heap.size, 2, none⟩ = some (.string l2) ∧ w'.cell? ⟨w.heap.size + 1, 0, none⟩ = some (.string f0) ∧ w'.cell? ⟨w.heap.size + 1, 1, none⟩ = some (.string f1) ∧ w'.cell? ⟨w.heap.size + 1, 2, none⟩ = some (.string f2) ∧ w'.cell? ⟨w.heap.size + 1 + 1, 0, none⟩ = some (.string g0) ∧ w'.cell? ⟨w.heap.size + 1 + 1, 1, none⟩ = some (.string g1) ∧ w'.cell? ⟨w.heap.size + 1 + 1, 2, none⟩ = some (.string g2)) := by
  intro wx ⟨h0, h1, h2, h3, h4, h5, h6, h7, h8⟩
  refine (Z wx).mono fun e w' ⟨p1, p2, p3, p4⟩ => ⟨p1, p2, p3, p4, ?_⟩
  have k := fun {b o : Nat} {v : Value} (h : wx.cell? ⟨b, o, none⟩ = some v) => (p3 b o (World.block_lt_of_cell? _ _ h)).trans h
  exact ⟨k h0, k h1, k h2, k h3, k h4, k h5, k h6, k h7, k h8⟩

theorem nine_alloc {w wx : World} {l0 l1 l2 f0 f1 f2 g0 g1 g2 : ByteArray} (h : wx.cell? ⟨w.heap.size, 0, none⟩ = some (.string l0) ∧ wx.cell? ⟨w.heap.size, 1, none⟩ = some (.string l1) ∧ wx.cell? ⟨w.heap.size, 2, none⟩ = some (.string l2) ∧ wx.cell? ⟨w.heap.size + 1, 0, none⟩ = some (.string f0) ∧ wx.cell? ⟨w.heap.size + 1, 1, none⟩ = some (.string f1) ∧ wx.cell? ⟨w.heap.size + 1, 2, none⟩ = some (.string f2) ∧ wx.cell? ⟨w.heap.size + 1 + 1, 0, none⟩ = some (.string g0) ∧ wx.cell? ⟨w.heap.size + 1 + 1, 1, none⟩ = some (.string g1) ∧ wx.cell? ⟨w.heap.size + 1 + 1, 2, none⟩ = some (.string g2)) (o : Obj) : (wx.alloc o).cell? ⟨w.heap.size, 0, none⟩ = some (.string l0) ∧ (wx.alloc o).cell? ⟨w.heap.size, 1, none⟩ = some (.string l1) ∧ (wx.alloc o).cell? ⟨w.heap.size, 2, none⟩ = some (.string l2) ∧ (wx.alloc o).cell? ⟨w.heap.size + 1, 0, none⟩ = some (.string f0) ∧ (wx.alloc o).cell? ⟨w.heap.size + 1, 1, none⟩ = some (.string f1) ∧ (wx.alloc o).cell? ⟨w.heap.size + 1, 2, none⟩ = some (.string f2) ∧ (wx.alloc o).cell? ⟨w.heap.size + 1 + 1, 0, none⟩ = some (.string g0) ∧ (wx.alloc o).cell? ⟨w.heap.size + 1 + 1, 1, none⟩ = some (.string g1) ∧ (wx.alloc o).cell? ⟨w.heap.size + 1 + 1, 2, none⟩ = some (.string g2) := by
  obtain ⟨h0, h1, h2, h3, h4, h5, h6, h7, h8⟩ := h
  have k := fun {b o' : Nat} {v : Value} (h : wx.cell? ⟨b, o', none⟩ = some v) => (World.cell?_alloc_lt wx o ⟨b, o', none⟩ (World.block_lt_of_cell? _ _ h)).trans h
  exact ⟨k h0, k h1, k h2, k h3, k h4, k h5, k h6, k h7, k h8⟩
theorem far_store {wx : World} {b b' o' : Nat} {v : Value} (x0 x1 x2 : Value) (hb : b' ≠ b) (h : wx.cell? ⟨b', o', none⟩ = some v) : (((wx.setCell ⟨b, 0, none⟩ x0).setCell ⟨b, 1, none⟩ x1).setCell ⟨b, 2, none⟩ x2).cell? ⟨b', o', none⟩ = some v := by
  rw [World.cell?_of_block (w := wx)]
  · exact h
  · show (((wx.setCell ⟨b, 0, none⟩ x0).setCell ⟨b, 1, none⟩ x1).setCell ⟨b, 2, none⟩ x2).heap[b']? = wx.heap[b']?
    rw [Below.heap_setCell _ _ _ _ hb, Below.heap_setCell _ _ _ _ hb, Below.heap_setCell _ _ _ _ hb]
theorem nine_store {w wx : World} {l0 l1 l2 f0 f1 f2 g0 g1 g2 : ByteArray} (h : wx.cell? ⟨w.heap.size, 0, none⟩ = some (.string l0) ∧ wx.cell? ⟨w.heap.size, 1, none⟩ = some (.string l1) ∧ wx.cell? ⟨w.heap.size, 2, none⟩ = some (.string l2) ∧ wx.cell? ⟨w.heap.size + 1, 0, none⟩ = some (.string f0) ∧ wx.cell? ⟨w.heap.size + 1, 1, none⟩ = some (.string f1) ∧ wx.cell? ⟨w.heap.size + 1, 2, none⟩ = some (.string f2) ∧ wx.cell? ⟨w.heap.size + 1 + 1, 0, none⟩ = some (.string g0) ∧ wx.cell? ⟨w.heap.size + 1 + 1, 1, none⟩ = some (.string g1) ∧ wx.cell? ⟨w.heap.size + 1 + 1, 2, none⟩ = some (.string g2)) {b : Nat} (x0 x1 x2 : Value) (n0 : w.heap.size ≠ b) (n1 : w.heap.size + 1 ≠ b) (n2 : w.heap.size + 1 + 1 ≠ b) : (((wx.setCell ⟨b, 0, none⟩ x0).setCell ⟨b, 1, none⟩ x1).setCell ⟨b, 2, none⟩ x2).cell? ⟨w.heap.size, 0, none⟩ = some (.string l0) ∧ (((wx.setCell ⟨b, 0, none⟩ x0).setCell ⟨b, 1, none⟩ x1).setCell ⟨b, 2, none⟩ x2).cell? ⟨w.heap.size, 1, none⟩ = some (.string l1) ∧ (((wx.setCell ⟨b, 0, none⟩ x0).setCell ⟨b, 1, none⟩ x1).setCell ⟨b, 2, none⟩ x2).cell? ⟨w.heap.size, 2, none⟩ = some (.string l2) ∧ (((wx.setCell ⟨b, 0, none⟩ x0).setCell ⟨b, 1, none⟩ x1).setCell ⟨b, 2, none⟩ x2).cell? ⟨w.heap.size + 1, 0, none⟩ = some (.string f0) ∧ (((wx.setCell ⟨b, 0, none⟩ x0).setCell ⟨b, 1, none⟩ x1).setCell ⟨b, 2, none⟩ x2).cell? ⟨w.heap.size + 1, 1, none⟩ = some (.string f1) ∧ (((wx.setCell ⟨b, 0, none⟩ x0).setCell ⟨b, 1, none⟩ x1).setCell ⟨b, 2, none⟩ x2).cell? ⟨w.heap.size + 1, 2, none⟩ = some (.string f2) ∧ (((wx.setCell ⟨b, 0, none⟩ x0).setCell ⟨b, 1, none⟩ x1).setCell ⟨b, 2, none⟩ x2).cell? ⟨w.heap.size + 1 + 1, 0, none⟩ = some (.string g0) ∧ (((wx.setCell ⟨b, 0, none⟩ x0).setCell ⟨b, 1, none⟩ x1).setCell ⟨b, 2, none⟩ x2).cell? ⟨w.heap.size + 1 + 1, 1, none⟩ = some (.string g1) ∧ (((wx.setCell ⟨b, 0, none⟩ x0).setCell ⟨b, 1, none⟩ x1).setCell ⟨b, 2, none⟩ x2).cell? ⟨w.heap.size + 1 + 1, 2, none⟩ = some (.string g2) := by
  obtain ⟨h0, h1, h2, h3, h4, h5, h6, h7, h8⟩ := h
  exact ⟨far_store _ _ _ n0 h0, far_store _ _ _ n0 h1, far_store _ _ _ n0 h2, far_store _ _ _ n1 h3, far_store _ _ _ n1 h4, far_store _ _ _ n1 h5, far_store _ _ _ n2 h6, far_store _ _ _ n2 h7, far_store _ _ _ n2 h8⟩

/-- the empty array that 'alloc' lays. -/
abbrev Z3 : Obj := .cells #[.string { data := #[] }, .string { data := #[] }, .string { data := #[] }] 22
theorem stored {wx : World} {b : Nat} {A : Array Value} (h : wx.heap[b]? = some (.cells A 22 (0, 0))) (hA : A.size = 3) (r0 r1 r2 : ByteArray) : Arr (((wx.setCell ⟨b, 0, none⟩ (.string r0)).setCell ⟨b, 1, none⟩ (.string r1)).setCell ⟨b, 2, none⟩ (.string r2)) b r0 r1 r2 := by
  have h3 := Joins.block_setCell (i := 2) (Joins.block_setCell (i := 1) (Joins.block_setCell (i := 0) h (.string r0)) (.string r1)) (.string r2)
  refine ⟨?_, ?_, ?_⟩
  · rw [cell_of_row _ _ _ _ _ _ h3]; simp [hA]
  · rw [cell_of_row _ _ _ _ _ _ h3]; simp [hA]
  · rw [cell_of_row _ _ _ _ _ _ h3]; simp [hA]
theorem fin1 {w2 wA wB : World} (r0 r1 r2 : ByteArray) (hbA : Below w2.drew.heap.size w2.drew wA) (hbB : Below wA.heap.size wA wB) :
    Hid (Arr (wB.alloc (.cells #[.string r0, .string r1, .string r2] 22)) wB.heap.size r0 r1 r2) ∧ Hid (Below w2.heap.size w2 (wB.alloc (.cells #[.string r0, .string r1, .string r2] 22))) := by
  have a : Below w2.heap.size w2 wA := (Below.refl _ _).drew.trans hbA
  have b : Below w2.heap.size w2 wB := a.trans (hbB.mono a.size)
  exact ⟨Arr.made _ _ _ _ _, b.alloc b.size _⟩
theorem fin2 {w2 wA wB : World} (r0 r1 r2 : ByteArray) (hbA : Below w2.drew.heap.size w2.drew wA) (hbB : Below (wA.alloc Z3).heap.size (wA.alloc Z3) wB) :
    Hid (Arr (((wB.setCell ⟨wA.heap.size, 0, none⟩ (.string r0)).setCell ⟨wA.heap.size, 1, none⟩ (.string r1)).setCell ⟨wA.heap.size, 2, none⟩ (.string r2)) wA.heap.size r0 r1 r2) ∧ Hid (Below w2.heap.size w2 (((wB.setCell ⟨wA.heap.size, 0, none⟩ (.string r0)).setCell ⟨wA.heap.size, 1, none⟩ (.string r1)).setCell ⟨wA.heap.size, 2, none⟩ (.string r2))) := by
  have a : Below w2.heap.size w2 wA := (Below.refl _ _).drew.trans hbA
  have b : Below w2.heap.size w2 wB := (a.alloc a.size Z3).trans (hbB.mono (by simp; have := a.size; omega))
  have hb : wB.heap[wA.heap.size]? = some Z3 := (hbB.block _ (by simp)).trans Array.getElem?_push_size
  exact ⟨stored hb rfl r0 r1 r2, ((b.setCell a.size _).setCell a.size _).setCell a.size _⟩
theorem fin3 {w2 wA wB : World} (r0 r1 r2 : ByteArray) (hbA : Below (w2.alloc Z3).drew.heap.size (w2.alloc Z3).drew wA) (hbB : Below wA.heap.size wA wB) :
    Hid (Arr (((wB.setCell ⟨w2.heap.size, 0, none⟩ (.string r0)).setCell ⟨w2.heap.size, 1, none⟩ (.string r1)).setCell ⟨w2.heap.size, 2, none⟩ (.string r2)) w2.heap.size r0 r1 r2) ∧ Hid (Below w2.heap.size w2 (((wB.setCell ⟨w2.heap.size, 0, none⟩ (.string r0)).setCell ⟨w2.heap.size, 1, none⟩ (.string r1)).setCell ⟨w2.heap.size, 2, none⟩ (.string r2))) := by
  have hsz : (w2.alloc Z3).drew.heap.size = w2.heap.size + 1 := by simp
  have hsA := hbA.size
  rw [hsz] at hsA
  have a : Below w2.heap.size w2 wA := ((Below.refl _ _).alloc (Nat.le_refl _) Z3).drew.trans (hbA.mono (by rw [hsz]; omega))
  have b : Below w2.heap.size w2 wB := a.trans (hbB.mono a.size)
  have hb : wB.heap[w2.heap.size]? = some Z3 := (hbB.block _ (by omega)).trans ((hbA.block _ (by rw [hsz]; omega)).trans Array.getElem?_push_size)
  exact ⟨stored hb rfl r0 r1 r2, ((b.setCell (Nat.le_refl _) _).setCell (Nat.le_refl _) _).setCell (Nat.le_refl _) _⟩

set_option maxRecDepth 4000 in
set_option maxHeartbeats 8000000 in
theorem lawF (l0 l1 l2 f0 f1 f2 g0 g1 g2 : ByteArray) (w : World) :
    Calls Try.prog 3 #[A3 l0 l1 l2, A3 f0 f1 f2, A3 g0 g1 g2] w fun e w' => e = .returned (.bool true) ∧ Below w.heap.size w w' := by
  obtain ⟨x0, hx0⟩ : ∃ x0, x0 = orS l0 f0 := ⟨_, rfl⟩
  obtain ⟨x1, hx1⟩ : ∃ x1, x1 = orS l1 f1 := ⟨_, rfl⟩
  obtain ⟨x2, hx2⟩ : ∃ x2, x2 = orS l2 f2 := ⟨_, rfl⟩
  obtain ⟨y0, hy0⟩ : ∃ y0, y0 = orS f0 g0 := ⟨_, rfl⟩
  obtain ⟨y1, hy1⟩ : ∃ y1, y1 = orS f1 g1 := ⟨_, rfl⟩
  obtain ⟨y2, hy2⟩ : ∃ y2, y2 = orS f2 g2 := ⟨_, rfl⟩
  obtain ⟨r0, hr0⟩ : ∃ r0, r0 = orS l0 (orS f0 g0) := ⟨_, rfl⟩
  obtain ⟨r1, hr1⟩ : ∃ r1, r1 = orS l1 (orS f1 g1) := ⟨_, rfl⟩
  obtain ⟨r2, hr2⟩ : ∃ r2, r2 = orS l2 (orS f2 g2) := ⟨_, rfl⟩
  have Z1 := zz_rules l0 l1 l2 f0 f1 f2
  have Z2 := zz_rules x0 x1 x2 g0 g1 g2
  have Z3 := zz_rules f0 f1 f2 g0 g1 g2
  have Z4 := zz_rules l0 l1 l2 y0 y1 y2
  rw [← hx0, ← hx1, ← hx2] at Z1
  rw [show orS x0 g0 = r0 by rw [hx0, hr0, orS_assoc], show orS x1 g1 = r1 by rw [hx1, hr1, orS_assoc], show orS x2 g2 = r2 by rw [hx2, hr2, orS_assoc]] at Z2
  rw [← hy0, ← hy1, ← hy2] at Z3
  rw [show orS l0 y0 = r0 by rw [hy0, hr0], show orS l1 y1 = r1 by rw [hy1, hr1], show orS l2 y2 = r2 by rw [hy2, hr2]] at Z4
  have ZLF : Hid (∀ wx, (wx.cell? ⟨w.heap.size, 0, none⟩ = some (.string l0) ∧ wx.cell? ⟨w.heap.size, 1, none⟩ = some (.string l1) ∧ wx.cell? ⟨w.heap.size, 2, none⟩ = some (.string l2) ∧ wx.cell? ⟨w.heap.size + 1, 0, none⟩ = some (.string f0) ∧ wx.cell? ⟨w.heap.size + 1, 1, none⟩ = some (.string f1) ∧ wx.cell? ⟨w.heap.size + 1, 2, none⟩ = some (.string f2) ∧ wx.cell? ⟨w.heap.size + 1 + 1, 0, none⟩ = some (.string g0) ∧ wx.cell? ⟨w.heap.size + 1 + 1, 1, none⟩ = some (.string g1) ∧ wx.cell? ⟨w.heap.size + 1 + 1, 2, none⟩ = some (.string g2)) → Calls Try.prog 6 #[A3 l0 l1 l2, A3 f0 f1 f2] wx fun e w' => e = .returned (A3 x0 x1 x2) ∧ Below wx.heap.size wx w' ∧ (∀ b o, b < wx.heap.size → w'.cell? ⟨b, o, none⟩ = wx.cell? ⟨b, o, none⟩) ∧ (∀ b o, b < wx.heap.size → w'.frozen? ⟨b, o, none⟩ = wx.frozen? ⟨b, o, none⟩) ∧ (w'.cell? ⟨w.heap.size, 0, none⟩ = some (.string l0) ∧ w'.cell? ⟨w.heap.size, 1, none⟩ = some (.string l1) ∧ w'.cell? ⟨w.heap.size, 2, none⟩ = some (.string l2) ∧ w'.cell? ⟨w.heap.size + 1, 0, none⟩ = some (.string f0) ∧ w'.cell? ⟨w.heap.size + 1, 1, none⟩ = some (.string f1) ∧ w'.cell? ⟨w.heap.size + 1, 2, none⟩ = some (.string f2) ∧ w'.cell? ⟨w.heap.size + 1 + 1, 0, none⟩ = some (.string g0) ∧ w'.cell? ⟨w.heap.size + 1 + 1, 1, none⟩ = some (.string g1) ∧ w'.cell? ⟨w.heap.size + 1 + 1, 2, none⟩ = some (.string g2))) := nine Z1
  have ZXG : Hid (∀ wx, (wx.cell? ⟨w.heap.size, 0, none⟩ = some (.string l0) ∧ wx.cell? ⟨w.heap.size, 1, none⟩ = some (.string l1) ∧ wx.cell? ⟨w.heap.size, 2, none⟩ = some (.string l2) ∧ wx.cell? ⟨w.heap.size + 1, 0, none⟩ = some (.string f0) ∧ wx.cell? ⟨w.heap.size + 1, 1, none⟩ = some (.string f1) ∧ wx.cell? ⟨w.heap.size + 1, 2, none⟩ = some (.string f2) ∧ wx.cell? ⟨w.heap.size + 1 + 1, 0, none⟩ = some (.string g0) ∧ wx.cell? ⟨w.heap.size + 1 + 1, 1, none⟩ = some (.string g1) ∧ wx.cell? ⟨w.heap.size + 1 + 1, 2, none⟩ = some (.string g2)) → Calls Try.prog 6 #[A3 x0 x1 x2, A3 g0 g1 g2] wx fun e w' => e = .returned (A3 r0 r1 r2) ∧ Below wx.heap.size wx w' ∧ (∀ b o, b < wx.heap.size → w'.cell? ⟨b, o, none⟩ = wx.cell? ⟨b, o, none⟩) ∧ (∀ b o, b < wx.heap.size → w'.frozen? ⟨b, o, none⟩ = wx.frozen? ⟨b, o, none⟩) ∧ (w'.cell? ⟨w.heap.size, 0, none⟩ = some (.string l0) ∧ w'.cell? ⟨w.heap.size, 1, none⟩ = some (.string l1) ∧ w'.cell? ⟨w.heap.size, 2, none⟩ = some (.string l2) ∧ w'.cell? ⟨w.heap.size + 1, 0, none⟩ = some (.string f0) ∧ w'.cell? ⟨w.heap.size + 1, 1, none⟩ = some (.string f1) ∧ w'.cell? ⟨w.heap.size + 1, 2, none⟩ = some (.string f2) ∧ w'.cell? ⟨w.heap.size + 1 + 1, 0, none⟩ = some (.string g0) ∧ w'.cell? ⟨w.heap.size + 1 + 1, 1, none⟩ = some (.string g1) ∧ w'.cell? ⟨w.heap.size + 1 + 1, 2, none⟩ = some (.string g2))) := nine Z2
  have ZFG : Hid (∀ wx, (wx.cell? ⟨w.heap.size, 0, none⟩ = some (.string l0) ∧ wx.cell? ⟨w.heap.size, 1, none⟩ = some (.string l1) ∧ wx.cell? ⟨w.heap.size, 2, none⟩ = some (.string l2) ∧ wx.cell? ⟨w.heap.size + 1, 0, none⟩ = some (.string f0) ∧ wx.cell? ⟨w.heap.size + 1, 1, none⟩ = some (.string f1) ∧ wx.cell? ⟨w.heap.size + 1, 2, none⟩ = some (.string f2) ∧ wx.cell? ⟨w.heap.size + 1 + 1, 0, none⟩ = some (.string g0) ∧ wx.cell? ⟨w.heap.size + 1 + 1, 1, none⟩ = some (.string g1) ∧ wx.cell? ⟨w.heap.size + 1 + 1, 2, none⟩ = some (.string g2)) → Calls Try.prog 6 #[A3 f0 f1 f2, A3 g0 g1 g2] wx fun e w' => e = .returned (A3 y0 y1 y2) ∧ Below wx.heap.size wx w' ∧ (∀ b o, b < wx.heap.size → w'.cell? ⟨b, o, none⟩ = wx.cell? ⟨b, o, none⟩) ∧ (∀ b o, b < wx.heap.size → w'.frozen? ⟨b, o, none⟩ = wx.frozen? ⟨b, o, none⟩) ∧ (w'.cell? ⟨w.heap.size, 0, none⟩ = some (.string l0) ∧ w'.cell? ⟨w.heap.size, 1, none⟩ = some (.string l1) ∧ w'.cell? ⟨w.heap.size, 2, none⟩ = some (.string l2) ∧ w'.cell? ⟨w.heap.size + 1, 0, none⟩ = some (.string f0) ∧ w'.cell? ⟨w.heap.size + 1, 1, none⟩ = some (.string f1) ∧ w'.cell? ⟨w.heap.size + 1, 2, none⟩ = some (.string f2) ∧ w'.cell? ⟨w.heap.size + 1 + 1, 0, none⟩ = some (.string g0) ∧ w'.cell? ⟨w.heap.size + 1 + 1, 1, none⟩ = some (.string g1) ∧ w'.cell? ⟨w.heap.size + 1 + 1, 2, none⟩ = some (.string g2))) := nine Z3
  have ZLY : Hid (∀ wx, (wx.cell? ⟨w.heap.size, 0, none⟩ = some (.string l0) ∧ wx.cell? ⟨w.heap.size, 1, none⟩ = some (.string l1) ∧ wx.cell? ⟨w.heap.size, 2, none⟩ = some (.string l2) ∧ wx.cell? ⟨w.heap.size + 1, 0, none⟩ = some (.string f0) ∧ wx.cell? ⟨w.heap.size + 1, 1, none⟩ = some (.string f1) ∧ wx.cell? ⟨w.heap.size + 1, 2, none⟩ = some (.string f2) ∧ wx.cell? ⟨w.heap.size + 1 + 1, 0, none⟩ = some (.string g0) ∧ wx.cell? ⟨w.heap.size + 1 + 1, 1, none⟩ = some (.string g1) ∧ wx.cell? ⟨w.heap.size + 1 + 1, 2, none⟩ = some (.string g2)) → Calls Try.prog 6 #[A3 l0 l1 l2, A3 y0 y1 y2] wx fun e w' => e = .returned (A3 r0 r1 r2) ∧ Below wx.heap.size wx w' ∧ (∀ b o, b < wx.heap.size → w'.cell? ⟨b, o, none⟩ = wx.cell? ⟨b, o, none⟩) ∧ (∀ b o, b < wx.heap.size → w'.frozen? ⟨b, o, none⟩ = wx.frozen? ⟨b, o, none⟩) ∧ (w'.cell? ⟨w.heap.size, 0, none⟩ = some (.string l0) ∧ w'.cell? ⟨w.heap.size, 1, none⟩ = some (.string l1) ∧ w'.cell? ⟨w.heap.size, 2, none⟩ = some (.string l2) ∧ w'.cell? ⟨w.heap.size + 1, 0, none⟩ = some (.string f0) ∧ w'.cell? ⟨w.heap.size + 1, 1, none⟩ = some (.string f1) ∧ w'.cell? ⟨w.heap.size + 1, 2, none⟩ = some (.string f2) ∧ w'.cell? ⟨w.heap.size + 1 + 1, 0, none⟩ = some (.string g0) ∧ w'.cell? ⟨w.heap.size + 1 + 1, 1, none⟩ = some (.string g1) ∧ w'.cell? ⟨w.heap.size + 1 + 1, 2, none⟩ = some (.string g2))) := nine Z4
  have F0 := first_any l0 f0 g0
  have F1 := first_any l1 f1 g1
  have F2 := first_any l2 f2 g2
  rw [← hr0] at F0
  rw [← hr1] at F1
  rw [← hr2] at F2
  have FS0 : Hid (∀ wx, Calls Try.prog 7 #[.string l0, .string f0, .string g0] wx fun e w' => e = .returned (.string r0) ∧ w' = wx) := F0
  have FS1 : Hid (∀ wx, Calls Try.prog 7 #[.string l1, .string f1, .string g1] wx fun e w' => e = .returned (.string r1) ∧ w' = wx) := F1
  have FS2 : Hid (∀ wx, Calls Try.prog 7 #[.string l2, .string f2, .string g2] wx fun e w' => e = .returned (.string r2) ∧ w' = wx) := F2
  clear Z1 Z2 Z3 Z4 hx0 hx1 hx2 hy0 hy1 hy2 hr0 hr1 hr2 F0 F1 F2
  have hne := neq_same r0 r1 r2
  have B5 : Hid (∀ wx, Calls Try.prog 5 #[A3 l0 l1 l2, A3 f0 f1 f2, A3 g0 g1 g2] wx fun e w' => (e = .returned (.bool false) ∧ Below wx.heap.size wx w') ∨ (e = .returned (.bool true) ∧ Below wx.heap.size wx w')) := bytes5 l0 l1 l2 f0 f1 f2 g0 g1 g2
  have AL0 : Hid (Arr (((w.alloc (.cells #[.string l0, .string l1, .string l2] 22)).alloc (.cells #[.string f0, .string f1, .string f2] 22)).alloc (.cells #[.string g0, .string g1, .string g2] 22)) w.heap.size l0 l1 l2) := ((Arr.made w l0 l1 l2 22).alloc _).alloc _
  have AF0 : Hid (Arr (((w.alloc (.cells #[.string l0, .string l1, .string l2] 22)).alloc (.cells #[.string f0, .string f1, .string f2] 22)).alloc (.cells #[.string g0, .string g1, .string g2] 22)) (w.heap.size + 1) f0 f1 f2) := by
    have := (Arr.made (w.alloc (.cells #[.string l0, .string l1, .string l2] 22)) f0 f1 f2 22).alloc (.cells #[.string g0, .string g1, .string g2] 22)
    exact (show Arr _ _ _ _ _ by simpa using this)
  have AG0 : Hid (Arr (((w.alloc (.cells #[.string l0, .string l1, .string l2] 22)).alloc (.cells #[.string f0, .string f1, .string f2] 22)).alloc (.cells #[.string g0, .string g1, .string g2] 22)) (w.heap.size + 1 + 1) g0 g1 g2) := by
    have := Arr.made ((w.alloc (.cells #[.string l0, .string l1, .string l2] 22)).alloc (.cells #[.string f0, .string f1, .string f2] 22)) g0 g1 g2 22
    exact (show Arr _ _ _ _ _ by simpa using this)
  have HB0 : Hid (Below w.heap.size w (((w.alloc (.cells #[.string l0, .string l1, .string l2] 22)).alloc (.cells #[.string f0, .string f1, .string f2] 22)).alloc (.cells #[.string g0, .string g1, .string g2] 22))) := (((Below.refl _ _).alloc (Nat.le_refl _) _).alloc (by simp) _).alloc (by simp; omega) _
  go_enter Try.func3, Try.ntmps3
  go_wp2_with fail
  refine (B5.out _).mono ?_
  rintro e w1 (⟨rfl, h1⟩ | ⟨rfl, h1⟩)
  · have HB1 : Hid (Below w.heap.size w w1) := HB0.out.trans (h1.mono (by simp; omega))
    clear h1
    go_wp2
    go_ret
    exact ⟨rfl, HB1.out⟩
  have HB1 : Hid (Below w.heap.size w w1) := HB0.out.trans (h1.mono (by simp; omega))
  have AL : Hid (Arr w1 w.heap.size l0 l1 l2) := AL0.out.later h1
  have AF : Hid (Arr w1 (w.heap.size + 1) f0 f1 f2) := AF0.out.later h1
  have AG : Hid (Arr w1 (w.heap.size + 1 + 1) g0 g1 g2) := AG0.out.later h1
  have HS1 : Hid (w.heap.size + 3 ≤ w1.heap.size) := by have := h1.size; simp at this; exact this
  clear h1 AL0 AF0 AG0 HB0 B5
  obtain ⟨hc0, hc1, hc2⟩ := AL.out
  obtain ⟨hd0, hd1, hd2⟩ := AF.out
  obtain ⟨he0, he1, he2⟩ := AG.out
  go_wp2
  go_loopw [7, 8] (fun t i wr => ∃ k : Nat, k ≤ 3 ∧ i = .int .i64 k ∧ ∃ z : Nat, z ≤ 1048576 ∧ t = .int .i64 z ∧ ∃ q, wr = w1.drewN q) (fun _ i _ => 3 - (intOf i).toNat)
  case atStart => exact ⟨0, Nat.zero_le _, rfl, 0, by omega, rfl, 0, rfl⟩
  case round =>
    obtain ⟨k, hk, rfl, z, hz, rfl, q, rfl⟩ := hrel
    have h4 : k = 0 ∨ k = 1 ∨ k = 2 ∨ k = 3 := by omega
    rcases h4 with rfl | rfl | rfl | rfl
    · by_cases c1 : l0.size ≤ 1048576
      · by_cases c2 : f0.size ≤ 1048576
        · by_cases c4 : g0.size ≤ 1048576
          · by_cases c3 : z + (l0.size + f0.size + g0.size) ≤ 1048576
            · go_wp2
              go_quiet (fail)
              go_wp2
              go_roundw
              case rel => exact ⟨1, by omega, rfl, z + (l0.size + f0.size + g0.size), c3, by go_num, _, rfl⟩
              case measure => simp [intOf]
            · go_wp2
              go_quiet (fail)
              go_wp2
              go_ret
              exact ⟨rfl, below_drewN HB1.out _⟩
          · go_wp2
            go_ret
            exact ⟨rfl, below_drewN HB1.out _⟩
        · go_wp2
          go_ret
          exact ⟨rfl, below_drewN HB1.out _⟩
      · go_wp2
        go_ret
        exact ⟨rfl, below_drewN HB1.out _⟩
    · by_cases c1 : l1.size ≤ 1048576
      · by_cases c2 : f1.size ≤ 1048576
        · by_cases c4 : g1.size ≤ 1048576
          · by_cases c3 : z + (l1.size + f1.size + g1.size) ≤ 1048576
            · go_wp2
              go_quiet (fail)
              go_wp2
              go_roundw
              case rel => exact ⟨2, by omega, rfl, z + (l1.size + f1.size + g1.size), c3, by go_num, _, rfl⟩
              case measure => simp [intOf]
            · go_wp2
              go_quiet (fail)
              go_wp2
              go_ret
              exact ⟨rfl, below_drewN HB1.out _⟩
          · go_wp2
            go_ret
            exact ⟨rfl, below_drewN HB1.out _⟩
        · go_wp2
          go_ret
          exact ⟨rfl, below_drewN HB1.out _⟩
      · go_wp2
        go_ret
        exact ⟨rfl, below_drewN HB1.out _⟩
    · by_cases c1 : l2.size ≤ 1048576
      · by_cases c2 : f2.size ≤ 1048576
        · by_cases c4 : g2.size ≤ 1048576
          · by_cases c3 : z + (l2.size + f2.size + g2.size) ≤ 1048576
            · go_wp2
              go_quiet (fail)
              go_wp2
              go_roundw
              case rel => exact ⟨3, by omega, rfl, z + (l2.size + f2.size + g2.size), c3, by go_num, _, rfl⟩
              case measure => simp [intOf]
            · go_wp2
              go_quiet (fail)
              go_wp2
              go_ret
              exact ⟨rfl, below_drewN HB1.out _⟩
          · go_wp2
            go_ret
            exact ⟨rfl, below_drewN HB1.out _⟩
        · go_wp2
          go_ret
          exact ⟨rfl, below_drewN HB1.out _⟩
      · go_wp2
        go_ret
        exact ⟨rfl, below_drewN HB1.out _⟩
    · have HB2 : Hid (Below w.heap.size w (w1.drewN q)) := below_drewN HB1.out _
      have AL2 : Hid (Arr (w1.drewN q) w.heap.size l0 l1 l2) := AL.out.draw _
      have AF2 : Hid (Arr (w1.drewN q) (w.heap.size + 1) f0 f1 f2) := AF.out.draw _
      have AG2 : Hid (Arr (w1.drewN q) (w.heap.size + 1 + 1) g0 g1 g2) := AG.out.draw _
      have HS2 : Hid (w.heap.size + 3 ≤ (w1.drewN q).heap.size) := HS1.out
      clear hc0 hc1 hc2 hd0 hd1 hd2 he0 he1 he2 AL AF AG HB1 HS1 hz hk
      obtain ⟨w2, hw2⟩ : ∃ w2, w2 = w1.drewN q := ⟨_, rfl⟩
      rw [← hw2] at HB2 AL2 AF2 AG2 HS2 ⊢
      clear hw2
      obtain ⟨hc0, hc1, hc2⟩ := AL2.out
      obtain ⟨hd0, hd1, hd2⟩ := AF2.out
      obtain ⟨he0, he1, he2⟩ := AG2.out
      have hs2 := HS2.out
      have hS2 : w2.cell? ⟨w.heap.size, 0, none⟩ = some (.string l0) ∧ w2.cell? ⟨w.heap.size, 1, none⟩ = some (.string l1) ∧ w2.cell? ⟨w.heap.size, 2, none⟩ = some (.string l2) ∧ w2.cell? ⟨w.heap.size + 1, 0, none⟩ = some (.string f0) ∧ w2.cell? ⟨w.heap.size + 1, 1, none⟩ = some (.string f1) ∧ w2.cell? ⟨w.heap.size + 1, 2, none⟩ = some (.string f2) ∧ w2.cell? ⟨w.heap.size + 1 + 1, 0, none⟩ = some (.string g0) ∧ w2.cell? ⟨w.heap.size + 1 + 1, 1, none⟩ = some (.string g1) ∧ w2.cell? ⟨w.heap.size + 1 + 1, 2, none⟩ = some (.string g2) := ⟨hc0, hc1, hc2, hd0, hd1, hd2, he0, he1, he2⟩
      have s0 : w.heap.size < w2.heap.size := by omega
      have s1 : w.heap.size + 1 < w2.heap.size := by omega
      have s2 : w.heap.size + 1 + 1 < w2.heap.size := by omega
      have n0 : ¬ w.heap.size = w2.heap.size := by omega
      have n1 : ¬ w.heap.size + 1 = w2.heap.size := by omega
      have n2 : ¬ w.heap.size + 1 + 1 = w2.heap.size := by omega
      go_wp2
      go_cut [9] from 58 to 62 (fun p wr => ∃ b, p = .pointer (some ⟨b, 0, none⟩) ∧ Hid (Arr wr b r0 r1 r2) ∧ Hid (Below w2.heap.size w2 wr))
      case first =>
        clear ZFG ZLY FS0 FS1 FS2 hne AL2 AF2 AG2 HB2 HS2
        go_region_held3 (fun w' => w'.cell? ⟨w.heap.size, 0, none⟩ = some (.string l0) ∧ w'.cell? ⟨w.heap.size, 1, none⟩ = some (.string l1) ∧ w'.cell? ⟨w.heap.size, 2, none⟩ = some (.string l2) ∧ w'.cell? ⟨w.heap.size + 1, 0, none⟩ = some (.string f0) ∧ w'.cell? ⟨w.heap.size + 1, 1, none⟩ = some (.string f1) ∧ w'.cell? ⟨w.heap.size + 1, 2, none⟩ = some (.string f2) ∧ w'.cell? ⟨w.heap.size + 1 + 1, 0, none⟩ = some (.string g0) ∧ w'.cell? ⟨w.heap.size + 1 + 1, 1, none⟩ = some (.string g1) ∧ w'.cell? ⟨w.heap.size + 1 + 1, 2, none⟩ = some (.string g2)) (first | assumption | exact nine_alloc (by assumption) _ | exact nine_store (by assumption) _ _ _ (by omega) (by omega) (by omega) | exact hS2 | exact nine_alloc hS2 _ | go_keep)
          (first | (go_at_call 6; have hh := hbA; clear hh; refine (ZXG.out _ ?_).mono ?_; (first | assumption | exact hS2 | exact nine_alloc hS2 _ | exact nine_alloc (by assumption) _ | go_keep); rintro e wB ⟨rfl, hbB, hclB, hfrB, hSB⟩; have hsB := hbB.size; (try simp at hsB); have sB0 : w.heap.size < wB.heap.size := (by omega); have sB1 : w.heap.size + 1 < wB.heap.size := (by omega); have sB2 : w.heap.size + 1 + 1 < wB.heap.size := (by omega); have nB0 : ¬ w.heap.size = wB.heap.size := (by omega); have nB1 : ¬ w.heap.size + 1 = wB.heap.size := (by omega); have nB2 : ¬ w.heap.size + 1 + 1 = wB.heap.size := (by omega); (try (have tB : w2.heap.size < wB.heap.size := (by omega)))) | (go_at_call 6; refine (ZLF.out _ ?_).mono ?_; (first | assumption | exact hS2 | exact nine_alloc hS2 _ | exact nine_alloc (by assumption) _ | go_keep); rintro e wA ⟨rfl, hbA, hclA, hfrA, hSA⟩; have hsA := hbA.size; (try simp at hsA); have sA0 : w.heap.size < wA.heap.size := (by omega); have sA1 : w.heap.size + 1 < wA.heap.size := (by omega); have sA2 : w.heap.size + 1 + 1 < wA.heap.size := (by omega); have nA0 : ¬ w.heap.size = wA.heap.size := (by omega); have nA1 : ¬ w.heap.size + 1 = wA.heap.size := (by omega); have nA2 : ¬ w.heap.size + 1 + 1 = wA.heap.size := (by omega); (try (have tA : w2.heap.size < wA.heap.size := (by omega)))))
        all_goals
          go_wp2_with fail
          go_meet
          case rel => first | exact ⟨_, rfl, fin1 r0 r1 r2 hbA hbB⟩ | exact ⟨_, rfl, fin2 r0 r1 r2 hbA hbB⟩ | exact ⟨_, rfl, fin3 r0 r1 r2 hbA hbB⟩
      case rest =>
        clear hc0 hc1 hc2 hd0 hd1 hd2 he0 he1 he2 hS2 s0 s1 s2 n0 n1 n2
        obtain ⟨b1, rfl, AR1c, HBc⟩ := hcut
        obtain ⟨w3, hw3⟩ : ∃ w3, w3 = wc := ⟨_, rfl⟩
        rw [← hw3] at AR1c HBc ⊢
        have AR1 : Hid (Arr w3 b1 r0 r1 r2) := AR1c
        have AL3 : Hid (Arr w3 w.heap.size l0 l1 l2) := AL2.out.later HBc.out
        have AF3 : Hid (Arr w3 (w.heap.size + 1) f0 f1 f2) := AF2.out.later HBc.out
        have AG3 : Hid (Arr w3 (w.heap.size + 1 + 1) g0 g1 g2) := AG2.out.later HBc.out
        have HB3 : Hid (Below w.heap.size w w3) := HB2.out.trans (HBc.out.mono (by omega))
        have HS3 : Hid (w.heap.size + 3 ≤ w3.heap.size) := Nat.le_trans hs2 HBc.out.size
        clear hw3 hs2 AL2 AF2 AG2 AR1c HBc HB2 HS2 ZLF ZXG
        obtain ⟨hc0, hc1, hc2⟩ := AL3.out
        obtain ⟨hd0, hd1, hd2⟩ := AF3.out
        obtain ⟨he0, he1, he2⟩ := AG3.out
        have hs2 := HS3.out
        have hS3 : w3.cell? ⟨w.heap.size, 0, none⟩ = some (.string l0) ∧ w3.cell? ⟨w.heap.size, 1, none⟩ = some (.string l1) ∧ w3.cell? ⟨w.heap.size, 2, none⟩ = some (.string l2) ∧ w3.cell? ⟨w.heap.size + 1, 0, none⟩ = some (.string f0) ∧ w3.cell? ⟨w.heap.size + 1, 1, none⟩ = some (.string f1) ∧ w3.cell? ⟨w.heap.size + 1, 2, none⟩ = some (.string f2) ∧ w3.cell? ⟨w.heap.size + 1 + 1, 0, none⟩ = some (.string g0) ∧ w3.cell? ⟨w.heap.size + 1 + 1, 1, none⟩ = some (.string g1) ∧ w3.cell? ⟨w.heap.size + 1 + 1, 2, none⟩ = some (.string g2) := ⟨hc0, hc1, hc2, hd0, hd1, hd2, he0, he1, he2⟩
        have s0 : w.heap.size < w3.heap.size := by omega
        have s1 : w.heap.size + 1 < w3.heap.size := by omega
        have s2 : w.heap.size + 1 + 1 < w3.heap.size := by omega
        have n0 : ¬ w.heap.size = w3.heap.size := by omega
        have n1 : ¬ w.heap.size + 1 = w3.heap.size := by omega
        have n2 : ¬ w.heap.size + 1 + 1 = w3.heap.size := by omega
        go_wp2
        go_cut [10] from 63 to 67 (fun p wr => ∃ b, p = .pointer (some ⟨b, 0, none⟩) ∧ Hid (Arr wr b r0 r1 r2) ∧ Hid (Below w3.heap.size w3 wr))
        case first =>
          clear AR1 FS0 FS1 FS2 hne AL3 AF3 AG3 HB3 HS3
          go_region_held3 (fun w' => w'.cell? ⟨w.heap.size, 0, none⟩ = some (.string l0) ∧ w'.cell? ⟨w.heap.size, 1, none⟩ = some (.string l1) ∧ w'.cell? ⟨w.heap.size, 2, none⟩ = some (.string l2) ∧ w'.cell? ⟨w.heap.size + 1, 0, none⟩ = some (.string f0) ∧ w'.cell? ⟨w.heap.size + 1, 1, none⟩ = some (.string f1) ∧ w'.cell? ⟨w.heap.size + 1, 2, none⟩ = some (.string f2) ∧ w'.cell? ⟨w.heap.size + 1 + 1, 0, none⟩ = some (.string g0) ∧ w'.cell? ⟨w.heap.size + 1 + 1, 1, none⟩ = some (.string g1) ∧ w'.cell? ⟨w.heap.size + 1 + 1, 2, none⟩ = some (.string g2)) (first | assumption | exact nine_alloc (by assumption) _ | exact nine_store (by assumption) _ _ _ (by omega) (by omega) (by omega) | exact hS3 | exact nine_alloc hS3 _ | go_keep)
            (first | (go_at_call 6; have hh := hbA; clear hh; refine (ZLY.out _ ?_).mono ?_; (first | assumption | exact hS3 | exact nine_alloc hS3 _ | exact nine_alloc (by assumption) _ | go_keep); rintro e wB ⟨rfl, hbB, hclB, hfrB, hSB⟩; have hsB := hbB.size; (try simp at hsB); have sB0 : w.heap.size < wB.heap.size := (by omega); have sB1 : w.heap.size + 1 < wB.heap.size := (by omega); have sB2 : w.heap.size + 1 + 1 < wB.heap.size := (by omega); have nB0 : ¬ w.heap.size = wB.heap.size := (by omega); have nB1 : ¬ w.heap.size + 1 = wB.heap.size := (by omega); have nB2 : ¬ w.heap.size + 1 + 1 = wB.heap.size := (by omega); (try (have tB : w3.heap.size < wB.heap.size := (by omega)))) | (go_at_call 6; refine (ZFG.out _ ?_).mono ?_; (first | assumption | exact hS3 | exact nine_alloc hS3 _ | exact nine_alloc (by assumption) _ | go_keep); rintro e wA ⟨rfl, hbA, hclA, hfrA, hSA⟩; have hsA := hbA.size; (try simp at hsA); have sA0 : w.heap.size < wA.heap.size := (by omega); have sA1 : w.heap.size + 1 < wA.heap.size := (by omega); have sA2 : w.heap.size + 1 + 1 < wA.heap.size := (by omega); have nA0 : ¬ w.heap.size = wA.heap.size := (by omega); have nA1 : ¬ w.heap.size + 1 = wA.heap.size := (by omega); have nA2 : ¬ w.heap.size + 1 + 1 = wA.heap.size := (by omega); (try (have tA : w3.heap.size < wA.heap.size := (by omega)))))
          all_goals
            go_wp2_with fail
            go_meet
            case rel => first | exact ⟨_, rfl, fin1 r0 r1 r2 hbA hbB⟩ | exact ⟨_, rfl, fin2 r0 r1 r2 hbA hbB⟩ | exact ⟨_, rfl, fin3 r0 r1 r2 hbA hbB⟩
        case rest =>
          clear hc0 hc1 hc2 hd0 hd1 hd2 he0 he1 he2 hS3 s0 s1 s2 n0 n1 n2
          obtain ⟨b2, rfl, AR2, HBc⟩ := hcut
          obtain ⟨w4, hw4⟩ : ∃ w4, w4 = wc := ⟨_, rfl⟩
          rw [← hw4] at AR2 HBc ⊢
          have AL4 := AL3.out.later HBc.out
          have AF4 := AF3.out.later HBc.out
          have AG4 := AG3.out.later HBc.out
          have AR1' := AR1.out.later HBc.out
          have HB4 : Hid (Below w.heap.size w w4) := HB3.out.trans (HBc.out.mono (by have := HS3.out; omega))
          have AR2' := AR2.out
          clear hw4 hs2 AL3 AF3 AG3 AR1 AR2 HBc HB3 HS3 ZFG ZLY
          obtain ⟨hc0, hc1, hc2⟩ := AL4
          obtain ⟨hd0, hd1, hd2⟩ := AF4
          obtain ⟨he0, he1, he2⟩ := AG4
          obtain ⟨hx0, hx1, hx2⟩ := AR1'
          obtain ⟨hy0, hy1, hy2⟩ := AR2'
          go_wp2
          go_loopw [11] (fun i wr => ∃ k : Nat, k ≤ 3 ∧ i = .int .i64 k ∧ ∃ q, wr = w4.drewN q) (fun i _ => 3 - (intOf i).toNat)
          case atStart => exact ⟨0, Nat.zero_le _, rfl, 0, rfl⟩
          case round =>
            obtain ⟨k, hk, rfl, q, rfl⟩ := hrel
            have h4 : k = 0 ∨ k = 1 ∨ k = 2 ∨ k = 3 := by omega
            rcases h4 with rfl | rfl | rfl | rfl
            · go_wp2
              go_quiet ((go_at_call 7; exact (FS0.out _).mono fun e w'' ⟨he, hw⟩ => ⟨he, _, hw⟩))
              go_wp2
              go_roundw
              case rel => exact ⟨1, by omega, rfl, _, rfl⟩
              case measure => simp [intOf]
            · go_wp2
              go_quiet ((go_at_call 7; exact (FS1.out _).mono fun e w'' ⟨he, hw⟩ => ⟨he, _, hw⟩))
              go_wp2
              go_roundw
              case rel => exact ⟨2, by omega, rfl, _, rfl⟩
              case measure => simp [intOf]
            · go_wp2
              go_quiet ((go_at_call 7; exact (FS2.out _).mono fun e w'' ⟨he, hw⟩ => ⟨he, _, hw⟩))
              go_wp2
              go_roundw
              case rel => exact ⟨3, by omega, rfl, _, rfl⟩
              case measure => simp [intOf]
            · go_wp2
              go_ret
              exact ⟨rfl, below_drewN HB4.out _⟩

end Go.Proofs.Qxb6619621a
