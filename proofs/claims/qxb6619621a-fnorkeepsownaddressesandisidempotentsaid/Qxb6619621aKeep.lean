/-
  THE WALK OF FnOrKeepsOwnAddressesAndIsIdempotent (4).
-/
import Derived.Test.Qxb6619621aBytes8
import Derived.Test.Qxb6619621aEq
import Derived.Deep.RegionHeld3
import Derived.Deep.DrawnRows
namespace Go.Proofs.Qxb6619621a
open Go.RowKit
set_option linter.unusedVariables false

set_option maxRecDepth 4000 in
set_option maxHeartbeats 8000000 in
theorem lawK (l0 l1 l2 f0 f1 f2 : ByteArray) (w : World) :
    Calls Try.prog 4 #[A3 l0 l1 l2, A3 f0 f1 f2] w fun e w' => e = .returned (.bool true) ∧ Below w.heap.size w w' := by
  obtain ⟨x0, hx0⟩ : ∃ x0, x0 = orS l0 f0 := ⟨_, rfl⟩
  obtain ⟨x1, hx1⟩ : ∃ x1, x1 = orS l1 f1 := ⟨_, rfl⟩
  obtain ⟨x2, hx2⟩ : ∃ x2, x2 = orS l2 f2 := ⟨_, rfl⟩
  obtain ⟨y0, hy0⟩ : ∃ y0, y0 = orS f0 l0 := ⟨_, rfl⟩
  obtain ⟨y1, hy1⟩ : ∃ y1, y1 = orS f1 l1 := ⟨_, rfl⟩
  obtain ⟨y2, hy2⟩ : ∃ y2, y2 = orS f2 l2 := ⟨_, rfl⟩
  have Z1 := zz_keeps l0 l1 l2 l0 l1 l2
  have Z2 := zz_keeps l0 l1 l2 f0 f1 f2
  have Z3 := zz_keeps f0 f1 f2 l0 l1 l2
  have Z4 := zz_keeps x0 x1 x2 f0 f1 f2
  rw [orS_self, orS_self, orS_self] at Z1
  rw [← hx0, ← hx1, ← hx2] at Z2
  rw [← hy0, ← hy1, ← hy2] at Z3
  rw [show orS x0 f0 = x0 by rw [hx0, orS_again], show orS x1 f1 = x1 by rw [hx1, orS_again], show orS x2 f2 = x2 by rw [hx2, orS_again]] at Z4
  have ZLL : Hid (∀ wx, Calls Try.prog 6 #[A3 l0 l1 l2, A3 l0 l1 l2] wx fun e w' => e = .returned (A3 l0 l1 l2) ∧ Below wx.heap.size wx w' ∧ ∀ b o v, wx.cell? ⟨b, o, none⟩ = some v → w'.cell? ⟨b, o, none⟩ = some v) := Z1
  have ZLF : Hid (∀ wx, Calls Try.prog 6 #[A3 l0 l1 l2, A3 f0 f1 f2] wx fun e w' => e = .returned (A3 x0 x1 x2) ∧ Below wx.heap.size wx w' ∧ ∀ b o v, wx.cell? ⟨b, o, none⟩ = some v → w'.cell? ⟨b, o, none⟩ = some v) := Z2
  have ZFL : Hid (∀ wx, Calls Try.prog 6 #[A3 f0 f1 f2, A3 l0 l1 l2] wx fun e w' => e = .returned (A3 y0 y1 y2) ∧ Below wx.heap.size wx w' ∧ ∀ b o v, wx.cell? ⟨b, o, none⟩ = some v → w'.cell? ⟨b, o, none⟩ = some v) := Z3
  have ZXF : Hid (∀ wx, Calls Try.prog 6 #[A3 x0 x1 x2, A3 f0 f1 f2] wx fun e w' => e = .returned (A3 x0 x1 x2) ∧ Below wx.heap.size wx w' ∧ ∀ b o v, wx.cell? ⟨b, o, none⟩ = some v → w'.cell? ⟨b, o, none⟩ = some v) := Z4
  have HE : Hid ((x0 = orS l0 f0 ∧ x1 = orS l1 f1 ∧ x2 = orS l2 f2) ∧ (y0 = orS f0 l0 ∧ y1 = orS f1 l1 ∧ y2 = orS f2 l2)) := ⟨⟨hx0, hx1, hx2⟩, hy0, hy1, hy2⟩
  clear Z1 Z2 Z3 Z4 hx0 hx1 hx2 hy0 hy1 hy2
  have hne1 := neq_same l0 l1 l2
  have hne2 := neq_same x0 x1 x2
  have B8 : Hid (∀ wx, Calls Try.prog 8 #[A3 l0 l1 l2, A3 f0 f1 f2] wx fun e w' => (e = .returned (.bool false) ∧ Below wx.heap.size wx w') ∨ (e = .returned (.bool true) ∧ Below wx.heap.size wx w')) := bytes8 l0 l1 l2 f0 f1 f2
  have AL0 : Hid (Arr ((w.alloc (.cells #[.string l0, .string l1, .string l2] 22)).alloc (.cells #[.string f0, .string f1, .string f2] 22)) w.heap.size l0 l1 l2) := (Arr.made w l0 l1 l2 22).alloc _
  have AF0 : Hid (Arr ((w.alloc (.cells #[.string l0, .string l1, .string l2] 22)).alloc (.cells #[.string f0, .string f1, .string f2] 22)) (w.heap.size + 1) f0 f1 f2) := by
    have := Arr.made (w.alloc (.cells #[.string l0, .string l1, .string l2] 22)) f0 f1 f2 22
    exact (show Arr _ _ _ _ _ by simpa using this)
  have HB0 : Hid (Below w.heap.size w ((w.alloc (.cells #[.string l0, .string l1, .string l2] 22)).alloc (.cells #[.string f0, .string f1, .string f2] 22))) := ((Below.refl _ _).alloc (Nat.le_refl _) _).alloc (by simp) _
  go_enter Try.func4, Try.ntmps4
  go_wp2_with fail
  refine (B8.out _).mono ?_
  rintro e w1 (⟨rfl, h1⟩ | ⟨rfl, h1⟩)
  · have HB1 : Hid (Below w.heap.size w w1) := HB0.out.trans (h1.mono (by simp; omega))
    clear h1
    go_wp2
    go_ret
    exact ⟨rfl, HB1.out⟩
  have HB1 : Hid (Below w.heap.size w w1) := HB0.out.trans (h1.mono (by simp; omega))
  have AL1 := AL0.out.later h1
  have AF1 := AF0.out.later h1
  have hc0 := AL1.c0
  have hc1 := AL1.c1
  have hc2 := AL1.c2
  have hd0 := AF1.c0
  have hd1 := AF1.c1
  have hd2 := AF1.c2
  have AL : Hid (Arr w1 w.heap.size l0 l1 l2) := AL1
  have AF : Hid (Arr w1 (w.heap.size + 1) f0 f1 f2) := AF1
  have HS1 : Hid (w.heap.size + 2 ≤ w1.heap.size) := by have := h1.size; simp at this; exact this
  clear h1 AL0 AF0 HB0 AL1 AF1 B8
  go_wp2
  go_loopw [5, 6] (fun t i wr => ∃ k : Nat, k ≤ 3 ∧ i = .int .i64 k ∧ ∃ z : Nat, z ≤ 1048576 ∧ t = .int .i64 z ∧ ∃ q, wr = w1.drewN q) (fun _ i _ => 3 - (intOf i).toNat)
  case atStart => exact ⟨0, Nat.zero_le _, rfl, 0, by omega, rfl, 0, rfl⟩
  case round =>
    obtain ⟨k, hk, rfl, z, hz, rfl, q, rfl⟩ := hrel
    have h4 : k = 0 ∨ k = 1 ∨ k = 2 ∨ k = 3 := by omega
    rcases h4 with rfl | rfl | rfl | rfl
    · by_cases c1 : l0.size ≤ 1048576
      · by_cases c2 : f0.size ≤ 1048576
        · by_cases c3 : z + (l0.size + f0.size) ≤ 1048576
          · go_wp2
            go_quiet (fail)
            go_wp2
            go_roundw
            case rel => exact ⟨1, by omega, rfl, z + (l0.size + f0.size), c3, by go_num, _, rfl⟩
            case measure => simp [intOf]
          · go_wp2
            go_quiet (fail)
            go_wp2
            go_ret
            exact ⟨rfl, below_drewN HB1.out _⟩
        · go_wp2
          go_ret
          exact ⟨rfl, below_drewN HB1.out _⟩
      · go_wp2
        go_ret
        exact ⟨rfl, below_drewN HB1.out _⟩
    · by_cases c1 : l1.size ≤ 1048576
      · by_cases c2 : f1.size ≤ 1048576
        · by_cases c3 : z + (l1.size + f1.size) ≤ 1048576
          · go_wp2
            go_quiet (fail)
            go_wp2
            go_roundw
            case rel => exact ⟨2, by omega, rfl, z + (l1.size + f1.size), c3, by go_num, _, rfl⟩
            case measure => simp [intOf]
          · go_wp2
            go_quiet (fail)
            go_wp2
            go_ret
            exact ⟨rfl, below_drewN HB1.out _⟩
        · go_wp2
          go_ret
          exact ⟨rfl, below_drewN HB1.out _⟩
      · go_wp2
        go_ret
        exact ⟨rfl, below_drewN HB1.out _⟩
    · by_cases c1 : l2.size ≤ 1048576
      · by_cases c2 : f2.size ≤ 1048576
        · by_cases c3 : z + (l2.size + f2.size) ≤ 1048576
          · go_wp2
            go_quiet (fail)
            go_wp2
            go_roundw
            case rel => exact ⟨3, by omega, rfl, z + (l2.size + f2.size), c3, by go_num, _, rfl⟩
            case measure => simp [intOf]
          · go_wp2
            go_quiet (fail)
            go_wp2
            go_ret
            exact ⟨rfl, below_drewN HB1.out _⟩
        · go_wp2
          go_ret
          exact ⟨rfl, below_drewN HB1.out _⟩
      · go_wp2
        go_ret
        exact ⟨rfl, below_drewN HB1.out _⟩
    · have HB2 : Hid (Below w.heap.size w (w1.drewN q)) := below_drewN HB1.out _
      have AL2 : Hid (Arr (w1.drewN q) w.heap.size l0 l1 l2) := AL.out.draw _
      have AF2 : Hid (Arr (w1.drewN q) (w.heap.size + 1) f0 f1 f2) := AF.out.draw _
      have HS2 : Hid (w.heap.size + 2 ≤ (w1.drewN q).heap.size) := HS1.out
      clear hc0 hc1 hc2 hd0 hd1 hd2 AL AF HB1 HS1 hz hk
      obtain ⟨w2, hw2⟩ : ∃ w2, w2 = w1.drewN q := ⟨_, rfl⟩
      rw [← hw2] at HB2 AL2 AF2 HS2 ⊢
      clear hw2
      have hc0 := AL2.out.c0
      have hc1 := AL2.out.c1
      have hc2 := AL2.out.c2
      go_wp2
      go_region_held3 (fun w' => w'.cell? ⟨w.heap.size, 0, none⟩ = some (.string l0) ∧ w'.cell? ⟨w.heap.size, 1, none⟩ = some (.string l1) ∧ w'.cell? ⟨w.heap.size, 2, none⟩ = some (.string l2)) (first | go_keep | (refine ⟨hk3 _ _ _ ?_, hk3 _ _ _ ?_, hk3 _ _ _ ?_⟩ <;> assumption))
        (first | (go_at_call 6; refine (ZLL.out _).mono ?_; rintro e w3 ⟨rfl, hb3, hk3⟩))
      have hb3' : Below w2.heap.size w2 w3 := (Below.refl _ _).drew.trans hb3
      have AL3 : Hid (Arr w3 w.heap.size l0 l1 l2) := AL2.out.later hb3'
      have AF3 : Hid (Arr w3 (w.heap.size + 1) f0 f1 f2) := AF2.out.later hb3'
      have HB3 : Hid (Below w.heap.size w w3) := HB2.out.trans (hb3'.mono (by have := HS2.out; omega))
      have HS3 : w.heap.size + 2 ≤ w3.heap.size := Nat.le_trans HS2.out hb3'.size
      clear hb3 hb3' AL2 AF2 HB2 HS2 hc0 hc1 hc2 ZLL
      have hc0 := AL3.out.c0
      have hc1 := AL3.out.c1
      have hc2 := AL3.out.c2
      have hd0 := AF3.out.c0
      have hd1 := AF3.out.c1
      have hd2 := AF3.out.c2
      go_wp2_with fail
      refine (ZLF.out _).mono ?_
      rintro e w4 ⟨rfl, hb4, hk4⟩
      have AL4 : Hid (Arr (w4.alloc (.cells #[.string x0, .string x1, .string x2] 22)) w.heap.size l0 l1 l2) := (AL3.out.later hb4).alloc _
      have AF4 : Hid (Arr (w4.alloc (.cells #[.string x0, .string x1, .string x2] 22)) (w.heap.size + 1) f0 f1 f2) := (AF3.out.later hb4).alloc _
      have AX4 : Hid (Arr (w4.alloc (.cells #[.string x0, .string x1, .string x2] 22)) w4.heap.size x0 x1 x2) := Arr.made _ _ _ _ _
      have HB4 : Hid (Below w.heap.size w (w4.alloc (.cells #[.string x0, .string x1, .string x2] 22))) := (HB3.out.trans (hb4.mono (by omega))).alloc (by have := hb4.size; omega) _
      have HS4 : w.heap.size + 2 ≤ w4.heap.size := Nat.le_trans HS3 hb4.size
      clear hc0 hc1 hc2 hd0 hd1 hd2
      have hc0 := AL4.out.c0
      have hc1 := AL4.out.c1
      have hc2 := AL4.out.c2
      have hd0 := AF4.out.c0
      have hd1 := AF4.out.c1
      have hd2 := AF4.out.c2
      clear hb4 hk4 AL3 AF3 HB3 HS3 ZLF
      go_wp2_with fail
      refine (ZFL.out _).mono ?_
      rintro e w5 ⟨rfl, hb5, hk5⟩
      have AL6 : Hid (Arr (w5.alloc (.cells #[.string y0, .string y1, .string y2] 22)) w.heap.size l0 l1 l2) := (AL4.out.later hb5).alloc _
      have AF6 : Hid (Arr (w5.alloc (.cells #[.string y0, .string y1, .string y2] 22)) (w.heap.size + 1) f0 f1 f2) := (AF4.out.later hb5).alloc _
      have AX6 : Hid (Arr (w5.alloc (.cells #[.string y0, .string y1, .string y2] 22)) w4.heap.size x0 x1 x2) := (AX4.out.later hb5).alloc _
      have AY6 : Hid (Arr (w5.alloc (.cells #[.string y0, .string y1, .string y2] 22)) w5.heap.size y0 y1 y2) := Arr.made _ _ _ _ _
      have HB6 : Hid (Below w.heap.size w (w5.alloc (.cells #[.string y0, .string y1, .string y2] 22))) := (HB4.out.trans (hb5.mono (by simp; omega))).alloc (by have := hb5.size; simp at this; omega) _
      have HS6 : Hid (w.heap.size ≤ (w5.alloc (.cells #[.string y0, .string y1, .string y2] 22)).heap.size) := HB6.out.size
      clear hb5 hk5 AL4 AF4 AX4 HB4 HS4 ZFL hc0 hc1 hc2 hd0 hd1 hd2
      go_wp2
      obtain ⟨bx, hbx⟩ : ∃ bx, bx = w4.heap.size := ⟨_, rfl⟩
      obtain ⟨bey, hby⟩ : ∃ bey, bey = w5.heap.size := ⟨_, rfl⟩
      obtain ⟨w6, hw6⟩ : ∃ w6, w6 = w5.alloc (.cells #[.string y0, .string y1, .string y2] 22) := ⟨_, rfl⟩
      rw [← hw6] at AL6 AF6 AX6 AY6 HB6 HS6 ⊢
      rw [← hbx] at AX6 ⊢
      rw [← hby] at AY6 ⊢
      clear hw6 hbx hby
      have hx0 := AX6.out.c0
      have hx1 := AX6.out.c1
      have hx2 := AX6.out.c2
      have hd0 := AF6.out.c0
      have hd1 := AF6.out.c1
      have hd2 := AF6.out.c2
      go_region_held3 (fun w' => w'.cell? ⟨bx, 0, none⟩ = some (.string x0) ∧ w'.cell? ⟨bx, 1, none⟩ = some (.string x1) ∧ w'.cell? ⟨bx, 2, none⟩ = some (.string x2) ∧ w'.cell? ⟨w.heap.size + 1, 0, none⟩ = some (.string f0) ∧ w'.cell? ⟨w.heap.size + 1, 1, none⟩ = some (.string f1) ∧ w'.cell? ⟨w.heap.size + 1, 2, none⟩ = some (.string f2)) (first | go_keep | (refine ⟨hk7 _ _ _ ?_, hk7 _ _ _ ?_, hk7 _ _ _ ?_, hk7 _ _ _ ?_, hk7 _ _ _ ?_, hk7 _ _ _ ?_⟩ <;> assumption))
        (first | (go_at_call 6; refine (ZXF.out _).mono ?_; rintro e w7 ⟨rfl, hb7, hk7⟩))
      have hb7' : Below w6.heap.size w6 w7 := (Below.refl _ _).drew.trans hb7
      have AL7 := AL6.out.later hb7'
      have AF7 := AF6.out.later hb7'
      have AX7 := AX6.out.later hb7'
      have AY7 := AY6.out.later hb7'
      have HB7 : Hid (Below w.heap.size w w7) := HB6.out.trans (hb7'.mono HS6.out)
      clear hb7 hb7' AL6 AF6 AX6 AY6 HB6 HS6 ZXF hx0 hx1 hx2 hd0 hd1 hd2 hne1 hne2
      obtain ⟨hc0, hc1, hc2⟩ := AL7
      obtain ⟨hd0, hd1, hd2⟩ := AF7
      obtain ⟨hx0, hx1, hx2⟩ := AX7
      obtain ⟨hy0, hy1, hy2⟩ := AY7
      go_wp2
      go_loopw [9] (fun i wr => ∃ k : Nat, k ≤ 3 ∧ i = .int .i64 k ∧ ∃ q, wr = w7.drewN q) (fun i _ => 3 - (intOf i).toNat)
      case atStart => exact ⟨0, Nat.zero_le _, rfl, 0, rfl⟩
      case round =>
        obtain ⟨k, hk, rfl, q, rfl⟩ := hrel
        have h4 : k = 0 ∨ k = 1 ∨ k = 2 ∨ k = 3 := by omega
        rcases h4 with rfl | rfl | rfl | rfl
        · cases hl : l0.toList.isEmpty
          · cases hf : f0.toList.isEmpty
            · have q1 : (x0.toList == l0.toList) = true := same_str _ _ (by rw [HE.out.1.1, orS_own _ _ hl])
              have q2 : (y0.toList == f0.toList) = true := same_str _ _ (by rw [HE.out.2.1, orS_own _ _ hf])
              go_wp2
              go_quiet (fail)
              go_wp2
              go_roundw
              case rel => exact ⟨1, by omega, rfl, _, rfl⟩
              case measure => simp [intOf]
            · have q1 : (x0.toList == y0.toList) = true := same_str _ _ (by rw [HE.out.1.1, HE.out.2.1, orS_own _ _ hl, orS_fst _ _ hf])
              go_wp2
              go_quiet (fail)
              go_wp2
              go_roundw
              case rel => exact ⟨1, by omega, rfl, _, rfl⟩
              case measure => simp [intOf]
          · have q1 : (x0.toList == y0.toList) = true := by
              cases hf : f0.toList.isEmpty
              · exact same_str _ _ (by rw [HE.out.1.1, HE.out.2.1, orS_fst _ _ hl, orS_own _ _ hf])
              · rw [HE.out.1.1, HE.out.2.1, orS_fst _ _ hl, orS_fst _ _ hf]; exact both_empty _ _ hf hl
            go_wp2
            go_quiet (fail)
            go_wp2
            go_roundw
            case rel => exact ⟨1, by omega, rfl, _, rfl⟩
            case measure => simp [intOf]
        · cases hl : l1.toList.isEmpty
          · cases hf : f1.toList.isEmpty
            · have q1 : (x1.toList == l1.toList) = true := same_str _ _ (by rw [HE.out.1.2.1, orS_own _ _ hl])
              have q2 : (y1.toList == f1.toList) = true := same_str _ _ (by rw [HE.out.2.2.1, orS_own _ _ hf])
              go_wp2
              go_quiet (fail)
              go_wp2
              go_roundw
              case rel => exact ⟨2, by omega, rfl, _, rfl⟩
              case measure => simp [intOf]
            · have q1 : (x1.toList == y1.toList) = true := same_str _ _ (by rw [HE.out.1.2.1, HE.out.2.2.1, orS_own _ _ hl, orS_fst _ _ hf])
              go_wp2
              go_quiet (fail)
              go_wp2
              go_roundw
              case rel => exact ⟨2, by omega, rfl, _, rfl⟩
              case measure => simp [intOf]
          · have q1 : (x1.toList == y1.toList) = true := by
              cases hf : f1.toList.isEmpty
              · exact same_str _ _ (by rw [HE.out.1.2.1, HE.out.2.2.1, orS_fst _ _ hl, orS_own _ _ hf])
              · rw [HE.out.1.2.1, HE.out.2.2.1, orS_fst _ _ hl, orS_fst _ _ hf]; exact both_empty _ _ hf hl
            go_wp2
            go_quiet (fail)
            go_wp2
            go_roundw
            case rel => exact ⟨2, by omega, rfl, _, rfl⟩
            case measure => simp [intOf]
        · cases hl : l2.toList.isEmpty
          · cases hf : f2.toList.isEmpty
            · have q1 : (x2.toList == l2.toList) = true := same_str _ _ (by rw [HE.out.1.2.2, orS_own _ _ hl])
              have q2 : (y2.toList == f2.toList) = true := same_str _ _ (by rw [HE.out.2.2.2, orS_own _ _ hf])
              go_wp2
              go_quiet (fail)
              go_wp2
              go_roundw
              case rel => exact ⟨3, by omega, rfl, _, rfl⟩
              case measure => simp [intOf]
            · have q1 : (x2.toList == y2.toList) = true := same_str _ _ (by rw [HE.out.1.2.2, HE.out.2.2.2, orS_own _ _ hl, orS_fst _ _ hf])
              go_wp2
              go_quiet (fail)
              go_wp2
              go_roundw
              case rel => exact ⟨3, by omega, rfl, _, rfl⟩
              case measure => simp [intOf]
          · have q1 : (x2.toList == y2.toList) = true := by
              cases hf : f2.toList.isEmpty
              · exact same_str _ _ (by rw [HE.out.1.2.2, HE.out.2.2.2, orS_fst _ _ hl, orS_own _ _ hf])
              · rw [HE.out.1.2.2, HE.out.2.2.2, orS_fst _ _ hl, orS_fst _ _ hf]; exact both_empty _ _ hf hl
            go_wp2
            go_quiet (fail)
            go_wp2
            go_roundw
            case rel => exact ⟨3, by omega, rfl, _, rfl⟩
            case measure => simp [intOf]
        · go_wp2
          go_ret
          exact ⟨rfl, below_drewN HB7.out _⟩
end Go.Proofs.Qxb6619621a
