/-
  zzLevBackward (8).
-/
import Derived.Test.Qxb6619609aEd
namespace Go.Proofs.Qxb6619609a
open Go.RowKit Go.Deep
set_option linter.unusedVariables false

/-- a row of a table in memory, filled from its end: the entries from t on are f's. -/
def RowD (wr : World) (b m t : Nat) (f : Nat → Nat) : Prop :=
  ∃ A : Array Value, wr.heap[b]? = some (.cells A 3 (0, 0)) ∧ A.size = m + 1 ∧ ∀ j, t ≤ j → j < m + 1 → A[j]? = some (.int .i64 (f j))
theorem RowD.cell {wr : World} {b m t : Nat} {f : Nat → Nat} (h : RowD wr b m t f) (j : Nat) (hj : t ≤ j) (hm : j < m + 1) : wr.cell? ⟨b, j, none⟩ = some (.int .i64 (f j)) := by
  obtain ⟨A, h1, h2, h3⟩ := h
  rw [cell_of_row wr _ _ _ _ _ h1]; exact h3 j hj hm
theorem RowD.some {wr : World} {b m t : Nat} {f : Nat → Nat} (h : RowD wr b m t f) (j : Nat) (hj : j < m + 1) : ∃ v, wr.cell? ⟨b, j, none⟩ = some v := by
  obtain ⟨A, h1, h2, h3⟩ := h
  exact ⟨A[j], by rw [cell_of_row wr _ _ _ _ _ h1]; exact Array.getElem?_eq_getElem (by omega)⟩
theorem RowD.free {wr : World} {b m t : Nat} {f : Nat → Nat} (h : RowD wr b m t f) (j : Nat) : wr.frozen? ⟨b, j, none⟩ = false := by
  obtain ⟨A, h1, h2, h3⟩ := h
  exact frozen_of_row wr _ _ _ _ h1
theorem RowD.step {wr : World} {b m t : Nat} {f : Nat → Nat} (h : RowD wr b m (t + 1) f) (ht : t < m + 1) (v : Int) (hv : v = (f t : Int)) : RowD (wr.setCell ⟨b, t, none⟩ (.int .i64 v)) b m t f := by
  obtain ⟨A, h1, h2, h3⟩ := h
  refine ⟨_, Joins.block_setCell h1 _, by simpa using h2, fun j hj hm => ?_⟩
  rw [Array.getElem?_setIfInBounds]
  by_cases e : j = t
  · subst e; rw [if_pos rfl, if_pos (by omega), hv]
  · rw [if_neg (by omega)]; exact h3 j (by omega) hm
theorem RowD.other {wr : World} {b m t : Nat} {f : Nat → Nat} (h : RowD wr b m t f) (q i : Nat) (hq : b ≠ q) (v : Value) : RowD (wr.setCell ⟨q, i, none⟩ v) b m t f := by
  obtain ⟨A, h1, h2, h3⟩ := h
  exact ⟨A, by rw [Below.heap_setCell _ _ _ _ hq]; exact h1, h2, h3⟩
theorem RowD.draw {wr : World} {b m t : Nat} {f : Nat → Nat} (h : RowD wr b m t f) (n : Nat) : RowD (wr.drewN n) b m t f := h
theorem RowD.less {wr : World} {b m t : Nat} {f g : Nat → Nat} (h : RowD wr b m t f) : RowD wr b m (m + 1) g := by
  obtain ⟨A, h1, h2, h3⟩ := h
  exact ⟨A, h1, h2, fun j hj hm => by omega⟩
theorem Row.down {wr : World} {b m t : Nat} {f g : Nat → Nat} (h : Row wr b m t f) : RowD wr b m (m + 1) g := by
  obtain ⟨A, h1, h2, h3⟩ := h
  exact ⟨A, h1, h2, fun j hj hm => by omega⟩
theorem Row.full {wr : World} {b m : Nat} {f : Nat → Nat} (h : Row wr b m (m + 1) f) : RowD wr b m 0 f := by
  obtain ⟨A, h1, h2, h3⟩ := h
  exact ⟨A, h1, h2, fun j _ hm => h3 j hm⟩

set_option maxRecDepth 4000 in
set_option maxHeartbeats 4000000 in
theorem back_any (bx bey cx cy n m : Nat) (xs ys : List Int) (w : World) (hn20 : n ≤ 1048576) (hm20 : m ≤ 1048576) (hn : n = xs.length) (hm : m = ys.length)
    (hbx : bx < w.heap.size) (hby : bey < w.heap.size)
    (hx : ∀ i, i < n → w.cell? ⟨bx, i, none⟩ = some (.int .i32 (xs.getD i 0))) (hy : ∀ i, i < m → w.cell? ⟨bey, i, none⟩ = some (.int .i32 (ys.getD i 0))) :
    Calls Try.prog 8 #[.slice (some ⟨bx, 0, none⟩) n cx, .slice (some ⟨bey, 0, none⟩) m cy] w fun e w' => e = .returned (.int .i64 (lev xs ys)) ∧ Below w.heap.size w w' := by
  have HN : Hid (n = xs.length) := hn
  have HM : Hid (m = ys.length) := hm
  have HX : Hid (∀ i, i < n → w.cell? ⟨bx, i, none⟩ = some (.int .i32 (xs.getD i 0))) := hx
  have HY : Hid (∀ i, i < m → w.cell? ⟨bey, i, none⟩ = some (.int .i32 (ys.getD i 0))) := hy
  have hmk := fun (wx : World) => run_make_row' (P := Try.prog) 30 3 (.int .i64 0) 8 Try.underlying30 info3 rfl .i64 .i64 (m + 1) (by omega) (by omega) wx
  have ec : ((m + 1 : Nat) : Int) = (m : Int) + 1 := by omega
  rw [ec] at hmk
  obtain ⟨mk, hmk0⟩ : ∃ mk, mk = madeCells #[Value.int .i64 0] (m + 1) := ⟨_, rfl⟩
  rw [← hmk0] at hmk
  have HK : Hid (mk.size = m + 1) := by rw [hmk0]; exact size_madeCells _ _
  clear hn hm hx hy ec hmk0
  go_enter Try.func8, Try.ntmps8
  go_wp2
  go_loopw [9] (fun i wr => ∃ k : Nat, k ≤ m + 1 ∧ i = .int .i64 k ∧ Hid (Below w.heap.size w wr) ∧ Hid (Row wr w.heap.size m k (suf xs ys n)) ∧ Hid (Row wr (w.heap.size + 1) m 0 (suf xs ys n))) (fun i _ => m + 1 - (intOf i).toNat)
  case atStart =>
    refine ⟨0, Nat.zero_le _, rfl, ((Below.refl _ _).alloc (Nat.le_refl _) _).alloc (by simp) _, (Row.made w m mk HK.out _).alloc _, ?_⟩
    have := Row.made (w.alloc (.cells mk 3)) m mk HK.out (suf xs ys n)
    exact (show Row _ _ _ _ _ by simpa using this)
  case round =>
    obtain ⟨k, hk, rfl, hbe, hr1, hr2⟩ := hrel
    by_cases hlt : k < m + 1
    · obtain ⟨old, hcw⟩ := hr1.out.some k hlt
      have hfr := hr1.out.free k
      go_wp2
      go_roundw
      case rel => exact ⟨k + 1, by omega, by go_num, hbe.out.setCell (Nat.le_refl _) _, hr1.out.step hlt _ (by rw [HN.out, suf_last, ← HM.out]; omega), hr2.out.other _ _ (by omega) _⟩
      case measure => simp [intOf]; omega
    · obtain rfl : k = m + 1 := by omega
      clear hlt hk hmk
      go_wp2
      go_loopw [7, 8, 10] (fun pv cv i wr => ∃ (k p q : Nat), k ≤ n ∧ i = .int .i64 ((k : Int) - 1) ∧ pv = .slice (some ⟨p, 0, none⟩) (m + 1) (m + 1) ∧ cv = .slice (some ⟨q, 0, none⟩) (m + 1) (m + 1) ∧ p ≠ q ∧ w.heap.size ≤ p ∧ w.heap.size ≤ q ∧
          Hid (Below w.heap.size w wr) ∧ Hid (RowD wr p m 0 (suf xs ys k)) ∧ Hid (RowD wr q m (m + 1) (suf xs ys (k - 1)))) (fun _ _ i _ => (intOf i + 1).toNat)
      case atStart => exact ⟨n, w.heap.size, w.heap.size + 1, Nat.le_refl _, rfl, rfl, rfl, by omega, Nat.le_refl _, by omega, hbe, hr1.out.full, hr2.out.down⟩
      case round =>
        clear hbe hr1 hr2
        obtain ⟨k0, p, q, hk, rfl, rfl, rfl, hpq, hp, hq, hbe, hr1, hr2⟩ := hrel
        by_cases hlt : 0 < k0
        · obtain ⟨k, rfl⟩ : ∃ k, k0 = k + 1 := ⟨k0 - 1, by omega⟩
          have ek : ((k + 1 : Nat) : Int) - 1 = (k : Int) := by omega
          rw [ek]
          rw [Nat.add_sub_cancel] at hr2
          have hlt' : k < n := by omega
          clear ek hlt
          obtain ⟨old, hcw⟩ := hr2.out.some m (by omega)
          have hfr := hr2.out.free m
          go_wp2
          go_loopw [11] (fun j wr => ∃ t : Nat, t ≤ m ∧ j = .int .i64 ((t : Int) - 1) ∧ Hid (Below w.heap.size w wr) ∧ Hid (RowD wr p m 0 (suf xs ys (k + 1))) ∧ Hid (RowD wr q m t (suf xs ys k))) (fun j _ => (intOf j + 1).toNat)
          case atStart => exact ⟨m, Nat.le_refl _, rfl, hbe.out.setCell hq _, hr1.out.other _ _ hpq _, hr2.out.step (by omega) _ (by rw [HM.out, suf_last', ← HN.out]; omega)⟩
          case round =>
            clear hbe hr1 hr2 hcw hfr
            obtain ⟨t0, ht, rfl, hbe, hr1, hr2⟩ := hrel
            by_cases hlt2 : 0 < t0
            · obtain ⟨t, rfl⟩ : ∃ t, t0 = t + 1 := ⟨t0 - 1, by omega⟩
              have et : ((t + 1 : Nat) : Int) - 1 = (t : Int) := by omega
              rw [et]
              clear et hlt2
              obtain ⟨x, hxe⟩ : ∃ x, x = xs.getD k 0 := ⟨_, rfl⟩
              obtain ⟨y, hye⟩ : ∃ y, y = ys.getD t 0 := ⟨_, rfl⟩
              have hcx : wr.cell? ⟨bx, k, none⟩ = some (.int .i32 x) := by rw [hxe]; exact (hbe.out.cell (by exact hbx)).trans (HX.out k hlt')
              have hcy : wr.cell? ⟨bey, t, none⟩ = some (.int .i32 y) := by rw [hye]; exact (hbe.out.cell (by exact hby)).trans (HY.out t (by omega))
              obtain ⟨u, hu⟩ : ∃ u : Nat, u = suf xs ys (k + 1) t := ⟨_, rfl⟩
              obtain ⟨v, hv⟩ : ∃ v : Nat, v = suf xs ys k (t + 1) := ⟨_, rfl⟩
              obtain ⟨d, hd⟩ : ∃ d : Nat, d = suf xs ys (k + 1) (t + 1) := ⟨_, rfl⟩
              have hcu : wr.cell? ⟨p, t, none⟩ = some (.int .i64 (u : Int)) := by rw [hu]; exact hr1.out.cell t (Nat.zero_le _) (by omega)
              have hcv : wr.cell? ⟨q, t + 1, none⟩ = some (.int .i64 (v : Int)) := by rw [hv]; exact hr2.out.cell (t + 1) (Nat.le_refl _) (by omega)
              have hcd : wr.cell? ⟨p, t + 1, none⟩ = some (.int .i64 (d : Int)) := by rw [hd]; exact hr1.out.cell (t + 1) (Nat.zero_le _) (by omega)
              obtain ⟨old, hcw⟩ := hr2.out.some t (by omega)
              have hfr := hr2.out.free t
              have hub : u ≤ 2097152 := by rw [hu]; have := suf_le xs ys (k + 1) t; rw [← HN.out, ← HM.out] at this; omega
              have hvb : v ≤ 2097152 := by rw [hv]; have := suf_le xs ys k (t + 1); rw [← HN.out, ← HM.out] at this; omega
              have hdb : d ≤ 2097152 := by rw [hd]; have := suf_le xs ys (k + 1) (t + 1); rw [← HN.out, ← HM.out] at this; omega
              have HP : Hid (suf xs ys k t = min (min (u + 1) (v + 1)) (d + cst x y)) := by
                show suf xs ys k t = _
                rw [suf_step xs ys k t (by rw [← HN.out]; exact hlt') (by rw [← HM.out]; omega), ← hxe, ← hye, ← hu, ← hv, ← hd]
              clear hu hv hd hxe hye
              have hkI : (k : Int) < (n : Int) := by omega
              have htI : (t : Int) < (m : Int) := by omega
              by_cases hxy : x = y
              · have hqq : (x != y) = false := by simp [hxy]
                have HP0 : Hid (suf xs ys k t = min (min (u + 1) (v + 1)) d) := by
                  have := HP.out; rw [hxy] at this; simp [cst] at this; exact (show suf xs ys k t = min (min (u + 1) (v + 1)) d by omega)
                clear hxy
                by_cases c1 : v < u
                · by_cases c2 : d < v + 1
                  all_goals
                    go_wp2
                    go_quiet (fail)
                    go_wp2
                    go_roundw
                    case rel => exact ⟨t, by omega, by go_num, (below_drewN hbe.out _).setCell hq _, (hr1.out.draw _).other _ _ hpq _, (hr2.out.draw _).step (by omega) _ (by have := HP0.out; omega)⟩
                    case measure => simp [intOf]
                · by_cases c2 : d < u + 1
                  all_goals
                    go_wp2
                    go_quiet (fail)
                    go_wp2
                    go_roundw
                    case rel => exact ⟨t, by omega, by go_num, (below_drewN hbe.out _).setCell hq _, (hr1.out.draw _).other _ _ hpq _, (hr2.out.draw _).step (by omega) _ (by have := HP0.out; omega)⟩
                    case measure => simp [intOf]
              · have hqq : (x != y) = true := by simp [hxy]
                have HP0 : Hid (suf xs ys k t = min (min (u + 1) (v + 1)) (d + 1)) := by
                  have := HP.out; simp [cst, hxy] at this; exact (show suf xs ys k t = min (min (u + 1) (v + 1)) (d + 1) by omega)
                clear hxy
                by_cases c1 : v < u
                · by_cases c2 : d + 1 < v + 1
                  all_goals
                    go_wp2
                    go_quiet (fail)
                    go_wp2
                    go_roundw
                    case rel => exact ⟨t, by omega, by go_num, (below_drewN hbe.out _).setCell hq _, (hr1.out.draw _).other _ _ hpq _, (hr2.out.draw _).step (by omega) _ (by have := HP0.out; omega)⟩
                    case measure => simp [intOf]
                · by_cases c2 : d + 1 < u + 1
                  all_goals
                    go_wp2
                    go_quiet (fail)
                    go_wp2
                    go_roundw
                    case rel => exact ⟨t, by omega, by go_num, (below_drewN hbe.out _).setCell hq _, (hr1.out.draw _).other _ _ hpq _, (hr2.out.draw _).step (by omega) _ (by have := HP0.out; omega)⟩
                    case measure => simp [intOf]
            · obtain rfl : t0 = 0 := by omega
              rw [show (((0 : Nat) : Int) - 1) = -1 from rfl]
              go_wp2
              go_roundw
              case rel => exact ⟨k, q, p, by omega, by go_num, rfl, rfl, fun h => hpq h.symm, hq, hp, hbe, hr2, hr1.out.less⟩
              case measure => simp [intOf]
        · obtain rfl : k0 = 0 := by omega
          rw [show (((0 : Nat) : Int) - 1) = -1 from rfl]
          have hc := hr1.out.cell 0 (Nat.le_refl _) (by omega)
          go_wp2
          go_ret
          exact ⟨ret_int (by rw [suf_zero]), hbe.out⟩
end Go.Proofs.Qxb6619609a
