/-
  editDistance (14), ZZeditDistance (7).
-/
import Derived.Test.Qxb6619609aRows
import Derived.Test.Qxb6619609aDp
import Derived.WalkKit
import Derived.WalkSpells
import Derived.WalkLawsBesides
import Derived.WalkSmall
import Derived.Deep.QuietTactic
import Derived.BigQuiet
import Derived.BigRegion
import Derived.Deep.OwnRows
import Derived.Laws.Rows
import Derived.Laws.OwnMore
import Derived.Lib.SmallJoins
namespace Go.Proofs.Qxb6619609a
open Go.RowKit Go.Deep
set_option linter.unusedVariables false

theorem info3 : (Try.prog.info? 3).map (fun i => (i.zero, i.size, i.bytes)) = some (some (.int .i64 0), 1, 8) := by kernel_rfl

/-- '[]rune(s)'. -/
theorem conv_runes (s : ByteArray) (hs : s.size ≤ 70368744177664) (w : World) : ∃ (cap : Nat) (w1 : World),
    (convert 9 25 (.string s)).run Try.prog w = .ok (.slice (some ⟨w.heap.size, 0, none⟩) (runes s).length cap) w1 ∧ Below w.heap.size w w1 ∧ w1.heap.size = w.heap.size + 1 ∧
    ∀ i, i < (runes s).length → w1.cell? ⟨w.heap.size, i, none⟩ = some (.int .i32 ((runes s).getD i 0)) := by
  have hl := runes_len s
  have he : (Conv.runesFrom s s.size 0 #[]).size = (runes s).length := by rw [runes_eq]; simp
  have hr := run_runes_of_string (P := Try.prog) w 9 25 21 s Try.underlying9 Try.underlying25 Try.underlying21 (by rw [he]; omega)
  rw [he, runes_eq] at hr
  refine ⟨_, _, hr, (Below.refl _ _).drew.alloc (Nat.le_refl _) _, by simp, fun i hi => ?_⟩
  have e : (w.drew.alloc (.cells (((runes s).map (Value.int .i32)).toArray ++ Array.replicate (grownCap w (runes s).length 0 21 - (runes s).length) (.int .i32 0)) 21)).cell? ⟨w.heap.size, i, none⟩ = (((runes s).map (Value.int .i32)).toArray ++ Array.replicate (grownCap w (runes s).length 0 21 - (runes s).length) (.int .i32 0))[i]? :=
    World.cell?_alloc_at (w := w.drew) _ _ _ _ rfl
  rw [e, Array.getElem?_append_left (by simpa using hi)]
  simp [List.getD, List.getElem?_eq_getElem hi]

theorem ret_int {k : IntKind} {a b : Int} (h : a = b) : Ending.returned (.int k a) = .returned (.int k b) := by rw [h]

/-- a row of a table in memory: the first t entries are f's. -/
def Row (wr : World) (b m t : Nat) (f : Nat → Nat) : Prop :=
  ∃ A : Array Value, wr.heap[b]? = some (.cells A 3 (0, 0)) ∧ A.size = m + 1 ∧ ∀ j, j < t → A[j]? = some (.int .i64 (f j))

theorem Row.cell {wr : World} {b m t : Nat} {f : Nat → Nat} (h : Row wr b m t f) (j : Nat) (hj : j < t) : wr.cell? ⟨b, j, none⟩ = some (.int .i64 (f j)) := by
  obtain ⟨A, h1, h2, h3⟩ := h
  rw [cell_of_row wr _ _ _ _ _ h1]; exact h3 j hj
theorem Row.some {wr : World} {b m t : Nat} {f : Nat → Nat} (h : Row wr b m t f) (j : Nat) (hj : j < m + 1) : ∃ v, wr.cell? ⟨b, j, none⟩ = some v := by
  obtain ⟨A, h1, h2, h3⟩ := h
  exact ⟨A[j], by rw [cell_of_row wr _ _ _ _ _ h1]; exact Array.getElem?_eq_getElem (by omega)⟩
theorem Row.free {wr : World} {b m t : Nat} {f : Nat → Nat} (h : Row wr b m t f) (j : Nat) : wr.frozen? ⟨b, j, none⟩ = false := by
  obtain ⟨A, h1, h2, h3⟩ := h
  exact frozen_of_row wr _ _ _ _ h1
theorem Row.step {wr : World} {b m t : Nat} {f : Nat → Nat} (h : Row wr b m t f) (ht : t < m + 1) (v : Int) (hv : v = (f t : Int)) : Row (wr.setCell ⟨b, t, none⟩ (.int .i64 v)) b m (t + 1) f := by
  obtain ⟨A, h1, h2, h3⟩ := h
  refine ⟨_, Joins.block_setCell h1 _, by simpa using h2, fun j hj => ?_⟩
  rw [Array.getElem?_setIfInBounds]
  by_cases e : j = t
  · subst e; rw [if_pos rfl, if_pos (by omega), hv]
  · rw [if_neg (by omega)]; exact h3 j (by omega)
theorem Row.other {wr : World} {b m t : Nat} {f : Nat → Nat} (h : Row wr b m t f) (q i : Nat) (hq : b ≠ q) (v : Value) : Row (wr.setCell ⟨q, i, none⟩ v) b m t f := by
  obtain ⟨A, h1, h2, h3⟩ := h
  exact ⟨A, by rw [Below.heap_setCell _ _ _ _ hq]; exact h1, h2, h3⟩
theorem Row.draw {wr : World} {b m t : Nat} {f : Nat → Nat} (h : Row wr b m t f) (n : Nat) : Row (wr.drewN n) b m t f := h
theorem Row.less {wr : World} {b m t : Nat} {f g : Nat → Nat} (h : Row wr b m t f) : Row wr b m 0 g := by
  obtain ⟨A, h1, h2, h3⟩ := h
  exact ⟨A, h1, h2, fun j hj => by omega⟩
theorem Row.made (w : World) (m : Nat) (C : Array Value) (hC : C.size = m + 1) (f : Nat → Nat) : Row (w.alloc (.cells C 3)) w.heap.size m 0 f := ⟨C, Array.getElem?_push_size, hC, fun j hj => by omega⟩
theorem Row.alloc {wr : World} {b m t : Nat} {f : Nat → Nat} (h : Row wr b m t f) (o : Obj) : Row (wr.alloc o) b m t f := by
  obtain ⟨A, h1, h2, h3⟩ := h
  exact ⟨A, (Below.heap_alloc _ _ _ (Array.getElem?_eq_some_iff.1 h1).1).trans h1, h2, h3⟩

theorem min0 (u v d N : Nat) (h : N = min (min (u + 1) (v + 1)) d) : (if (d : Int) < if v < u then (v : Int) + 1 else (u : Int) + 1 then (d : Int) else if v < u then (v : Int) + 1 else (u : Int) + 1) = (N : Int) := by
  by_cases h1 : v < u
  · simp only [h1, if_true]; by_cases h2 : (d : Int) < (v : Int) + 1
    · rw [if_pos h2]; omega
    · rw [if_neg h2]; omega
  · simp only [h1, if_false]; by_cases h2 : (d : Int) < (u : Int) + 1
    · rw [if_pos h2]; omega
    · rw [if_neg h2]; omega
theorem min1 (u v d N : Nat) (h : N = min (min (u + 1) (v + 1)) (d + 1)) : (if (d : Int) + 1 < if v < u then (v : Int) + 1 else (u : Int) + 1 then (d : Int) + 1 else if v < u then (v : Int) + 1 else (u : Int) + 1) = (N : Int) := by
  by_cases h1 : v < u
  · simp only [h1, if_true]; by_cases h2 : (d : Int) + 1 < (v : Int) + 1
    · rw [if_pos h2]; omega
    · rw [if_neg h2]; omega
  · simp only [h1, if_false]; by_cases h2 : (d : Int) + 1 < (u : Int) + 1
    · rw [if_pos h2]; omega
    · rw [if_neg h2]; omega

set_option maxHeartbeats 2000000 in
theorem ed_any (a b : ByteArray) (w : World) (ha : a.size ≤ 1048576) (hb : b.size ≤ 1048576) :
    Calls Try.prog 14 #[.string a, .string b] w fun e w' => e = .returned (.int .i64 (lev (runes a) (runes b))) ∧ Below w.heap.size w w' := by
  obtain ⟨cap1, w1, hcv1, hb1, hs1, hx⟩ := conv_runes a (by omega) w
  obtain ⟨cap2, w2, hcv2, hb2, hs2, hy⟩ := conv_runes b (by omega) w1
  have hla := runes_len a
  have hlb := runes_len b
  obtain ⟨xs, hxs⟩ : ∃ xs, xs = runes a := ⟨_, rfl⟩
  obtain ⟨ys, hys⟩ : ∃ ys, ys = runes b := ⟨_, rfl⟩
  rw [← hxs] at hcv1 hx hla ⊢
  rw [← hys] at hcv2 hy hlb ⊢
  clear hxs hys
  obtain ⟨n, hn⟩ : ∃ n, n = xs.length := ⟨_, rfl⟩
  obtain ⟨m, hm⟩ : ∃ m, m = ys.length := ⟨_, rfl⟩
  rw [← hn] at hcv1 hx hla
  rw [← hm] at hcv2 hy hlb
  have HN : Hid (n = xs.length) := hn
  have HM : Hid (m = ys.length) := hm
  have BX : Hid (w.heap.size < w2.heap.size ∧ w1.heap.size < w2.heap.size) := by constructor <;> omega
  have HX : Hid (∀ i, i < n → w2.cell? ⟨w.heap.size, i, none⟩ = some (.int .i32 (xs.getD i 0))) := fun i hi => (hb2.cell (by show w.heap.size < w1.heap.size; omega)).trans (hx i hi)
  have HY : Hid (∀ i, i < m → w2.cell? ⟨w1.heap.size, i, none⟩ = some (.int .i32 (ys.getD i 0))) := hy
  have BW : Hid (Below w.heap.size w w2) := hb1.trans (hb2.mono (by omega))
  have hmk := fun (wx : World) => run_make_row' (P := Try.prog) 30 3 (.int .i64 0) 8 Try.underlying30 info3 rfl .i64 .i64 (m + 1) (by omega) (by omega) wx
  have ec : ((m + 1 : Nat) : Int) = (m : Int) + 1 := by omega
  rw [ec] at hmk
  obtain ⟨mk, hmk0⟩ : ∃ mk, mk = madeCells #[Value.int .i64 0] (m + 1) := ⟨_, rfl⟩
  rw [← hmk0] at hmk
  have HK : Hid (mk.size = m + 1) := by rw [hmk0]; exact size_madeCells _ _
  have hn20 : n ≤ 1048576 := by omega
  have hm20 : m ≤ 1048576 := by omega
  clear hn hm hx hy hb1 hb2 hs1 hs2 ec hmk0 ha hb hla hlb
  go_enter Try.func14, Try.ntmps14
  go_wp2
  go_loopw [27] (fun i wr => ∃ k : Nat, k ≤ m + 1 ∧ i = .int .i64 k ∧ Hid (Below w2.heap.size w2 wr) ∧ Hid (Row wr w2.heap.size m k (pre xs ys 0)) ∧ Hid (Row wr (w2.heap.size + 1) m 0 (pre xs ys 0))) (fun i _ => m + 1 - (intOf i).toNat)
  case atStart =>
    refine ⟨0, Nat.zero_le _, rfl, ((Below.refl _ _).alloc (Nat.le_refl _) _).alloc (by simp) _, (Row.made w2 m mk HK.out _).alloc _, ?_⟩
    have := Row.made (w2.alloc (.cells mk 3)) m mk HK.out (pre xs ys 0)
    exact (show Row _ _ _ _ _ by simpa using this)
  case round =>
    obtain ⟨k, hk, rfl, hbe, hr1, hr2⟩ := hrel
    by_cases hlt : k < m + 1
    · obtain ⟨old, hcw⟩ := hr1.out.some k hlt
      have hfr := hr1.out.free k
      go_wp2
      go_roundw
      case rel => exact ⟨k + 1, by omega, by go_num, hbe.out.setCell (Nat.le_refl _) _, hr1.out.step hlt _ (by rw [pre_zero _ _ _ (by rw [← HM.out]; omega)]), hr2.out.other _ _ (by omega) _⟩
      case measure => simp [intOf]; omega
    · obtain rfl : k = m + 1 := by omega
      clear hlt hk hcv1 hcv2 hmk
      go_wp2
      go_loopw [7, 8, 10] (fun pv cv i wr => ∃ (k p q : Nat), k ≤ n ∧ i = .int .i64 ((k : Int) + 1) ∧ pv = .slice (some ⟨p, 0, none⟩) (m + 1) (m + 1) ∧ cv = .slice (some ⟨q, 0, none⟩) (m + 1) (m + 1) ∧ p ≠ q ∧ w2.heap.size ≤ p ∧ w2.heap.size ≤ q ∧
          Hid (Below w2.heap.size w2 wr) ∧ Hid (Row wr p m (m + 1) (pre xs ys k)) ∧ Hid (Row wr q m 0 (pre xs ys (k + 1)))) (fun _ _ i _ => n + 1 - (intOf i).toNat)
      case atStart => exact ⟨0, w2.heap.size, w2.heap.size + 1, Nat.zero_le _, rfl, rfl, rfl, by omega, Nat.le_refl _, by omega, hbe, hr1, hr2.out.less⟩
      case round =>
        clear hbe hr1 hr2
        obtain ⟨k, p, q, hk, rfl, rfl, rfl, hpq, hp, hq, hbe, hr1, hr2⟩ := hrel
        by_cases hlt : k < n
        · obtain ⟨old, hcw⟩ := hr2.out.some 0 (by omega)
          have hfr := hr2.out.free 0
          go_wp2
          go_loopw [11] (fun j wr => ∃ t : Nat, t ≤ m ∧ j = .int .i64 ((t : Int) + 1) ∧ Hid (Below w2.heap.size w2 wr) ∧ Hid (Row wr p m (m + 1) (pre xs ys k)) ∧ Hid (Row wr q m (t + 1) (pre xs ys (k + 1)))) (fun j _ => m + 1 - (intOf j).toNat)
          case atStart => exact ⟨0, Nat.zero_le _, rfl, hbe.out.setCell hq _, hr1.out.other _ _ hpq _, hr2.out.step (by omega) _ (by rw [pre_zero' _ _ _ (by rw [← HN.out]; omega)]; omega)⟩
          case round =>
            clear hbe hr1 hr2 hcw hfr
            obtain ⟨t, ht, rfl, hbe, hr1, hr2⟩ := hrel
            by_cases hlt2 : t < m
            · obtain ⟨x, hxe⟩ : ∃ x, x = xs.getD k 0 := ⟨_, rfl⟩
              obtain ⟨y, hye⟩ : ∃ y, y = ys.getD t 0 := ⟨_, rfl⟩
              have hcx : wr.cell? ⟨w.heap.size, k, none⟩ = some (.int .i32 x) := by rw [hxe]; exact (hbe.out.cell (by exact BX.out.1)).trans (HX.out k hlt)
              have hcy : wr.cell? ⟨w1.heap.size, t, none⟩ = some (.int .i32 y) := by rw [hye]; exact (hbe.out.cell (by exact BX.out.2)).trans (HY.out t hlt2)
              obtain ⟨u, hu⟩ : ∃ u : Nat, u = pre xs ys k (t + 1) := ⟨_, rfl⟩
              obtain ⟨v, hv⟩ : ∃ v : Nat, v = pre xs ys (k + 1) t := ⟨_, rfl⟩
              obtain ⟨d, hd⟩ : ∃ d : Nat, d = pre xs ys k t := ⟨_, rfl⟩
              have hcu : wr.cell? ⟨p, t + 1, none⟩ = some (.int .i64 (u : Int)) := by rw [hu]; exact hr1.out.cell (t + 1) (by omega)
              have hcv : wr.cell? ⟨q, t, none⟩ = some (.int .i64 (v : Int)) := by rw [hv]; exact hr2.out.cell t (by omega)
              have hcd : wr.cell? ⟨p, t, none⟩ = some (.int .i64 (d : Int)) := by rw [hd]; exact hr1.out.cell t (by omega)
              obtain ⟨old, hcw⟩ := hr2.out.some (t + 1) (by omega)
              have hfr := hr2.out.free (t + 1)
              have hub : u ≤ 2097152 := by rw [hu]; have := pre_le xs ys k (t + 1); rw [← HN.out, ← HM.out] at this; omega
              have hvb : v ≤ 2097152 := by rw [hv]; have := pre_le xs ys (k + 1) t; rw [← HN.out, ← HM.out] at this; omega
              have hdb : d ≤ 2097152 := by rw [hd]; have := pre_le xs ys k t; rw [← HN.out, ← HM.out] at this; omega
              have HP : Hid (pre xs ys (k + 1) (t + 1) = min (min (u + 1) (v + 1)) (d + cst x y)) := by
                show pre xs ys (k + 1) (t + 1) = _
                rw [pre_step xs ys k t (by rw [← HN.out]; exact hlt) (by rw [← HM.out]; exact hlt2), ← hxe, ← hye, ← hu, ← hv, ← hd]
              clear hu hv hd hxe hye
              have hkI : (k : Int) < (n : Int) := by omega
              have htI : (t : Int) < (m : Int) := by omega
              have htI1 : (t : Int) + 1 < (m : Int) + 1 := by omega
              by_cases hxy : x = y
              · have hqq : (x == y) = true := by simp [hxy]
                have HP0 : Hid (pre xs ys (k + 1) (t + 1) = min (min (u + 1) (v + 1)) d) := by
                  have := HP.out; rw [hxy] at this; simp [cst] at this; exact (show pre xs ys (k + 1) (t + 1) = min (min (u + 1) (v + 1)) d by omega)
                clear hxy
                go_wp2
                go_quiet (fail)
                go_wp2
                clear hcx hcy hkI hqq
                go_region
                go_wp2
                go_roundw
                case rel => exact ⟨t + 1, by omega, by go_num, (below_drewN hbe.out _).setCell hq _, (hr1.out.draw _).other _ _ hpq _, (hr2.out.draw _).step (by omega) _ (min0 u v d _ HP0.out)⟩
                case measure => simp [intOf]; omega
              · have hqq : (x == y) = false := by simp [hxy]
                have HP0 : Hid (pre xs ys (k + 1) (t + 1) = min (min (u + 1) (v + 1)) (d + 1)) := by
                  have := HP.out; simp [cst, hxy] at this; exact (show pre xs ys (k + 1) (t + 1) = min (min (u + 1) (v + 1)) (d + 1) by omega)
                clear hxy
                go_wp2
                go_quiet (fail)
                go_wp2
                clear hcx hcy hkI hqq
                go_region
                go_wp2
                go_roundw
                case rel => exact ⟨t + 1, by omega, by go_num, (below_drewN hbe.out _).setCell hq _, (hr1.out.draw _).other _ _ hpq _, (hr2.out.draw _).step (by omega) _ (min1 u v d _ HP0.out)⟩
                case measure => simp [intOf]; omega
            · obtain rfl : t = m := by omega
              go_wp2
              go_roundw
              case rel => exact ⟨k + 1, q, p, by omega, by go_num, rfl, rfl, fun h => hpq h.symm, hq, hp, hbe, hr2, hr1.out.less⟩
              case measure => simp [intOf]; omega
        · obtain rfl : k = n := by omega
          have hc := hr1.out.cell m (by omega)
          go_wp2
          go_ret
          exact ⟨ret_int (by rw [HN.out, HM.out, pre_last]), BW.out.trans (hbe.out.mono (Nat.le_of_lt BX.out.1))⟩

set_option maxHeartbeats 400000 in
theorem zz_any (a b : ByteArray) (w : World) (ha : a.size ≤ 1048576) (hb : b.size ≤ 1048576) :
    Calls Try.prog 7 #[.string a, .string b] w fun e w' => e = .returned (.int .i64 (lev (runes a) (runes b))) ∧ Below w.heap.size w w' := by
  obtain ⟨d, hd⟩ : ∃ d, d = lev (runes a) (runes b) := ⟨_, rfl⟩
  have H := ed_any a b w ha hb
  rw [← hd] at H ⊢
  have HH : Hid (Calls Try.prog 14 #[.string a, .string b] w fun e w' => e = .returned (.int .i64 d) ∧ Below w.heap.size w w') := H
  clear H hd
  go_enter Try.func7, Try.ntmps7
  go_wp2_with (go_at_call 14; refine HH.out.mono ?_; rintro e w' ⟨rfl, hbel⟩)
  go_ret
  exact ⟨rfl, hbel⟩
end Go.Proofs.Qxb6619609a
