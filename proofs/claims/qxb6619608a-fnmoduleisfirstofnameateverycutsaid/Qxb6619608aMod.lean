/-
  (*Plan).module (8), ZZModule (6), zzIndexOf (7), zzBytes (4).
-/
import Derived.Test.Qxb6619608aPlan
import Derived.LaidEqlPtr
namespace Go.Proofs.Qxb6619608a
open Go.RowKit
set_option linter.unusedVariables false

theorem PlanAt.at {w : World} {p m n : Nat} {L : List ByteArray} (h : PlanAt w p m n L) (i : Nat) (hi : i < n) : w.cell? ⟨m, i * 9, none⟩ = some (.string (L.getD i ByteArray.empty)) := by
  obtain ⟨_, _, A, h3, h4⟩ := h
  rw [cell_of_row w _ _ _ _ _ h3]; exact h4 i hi

set_option maxHeartbeats 800000 in
theorem module_hit (p m n : Nat) (L : List ByteArray) (nm : ByteArray) (w : World) (hn : n ≤ 1048576) (hP : PlanAt w p m n L) (r : Nat) (hr : idx nm L = r) (hlt : r < n) :
    Calls Try.prog 8 #[.pointer (some ⟨p, 0, none⟩), .string nm] w fun e w' => e = .returned (.pointer (some ⟨m, r * 9, none⟩)) ∧ w' = w := by
  have HP : Hid (PlanAt w p m n L) := hP
  have hc5 := hP.cell
  have HR : Hid (idx nm L = r) := hr
  clear hP hr
  go_enter Try.func8, Try.ntmps8
  go_wp2
  go_loop [11] (fun i => ∃ k : Nat, k ≤ r ∧ i = .int .i64 k) (fun i => r + 1 - (intOf i).toNat)
  case atStart => exact ⟨0, Nat.zero_le _, rfl⟩
  case round =>
    obtain ⟨k, hk, rfl⟩ := hrel
    obtain ⟨s, hs⟩ : ∃ s, s = L.getD k ByteArray.empty := ⟨_, rfl⟩
    have hcx : w.cell? ⟨m, k * 9, none⟩ = some (.string s) := by rw [hs]; exact HP.out.at k (by omega)
    by_cases e : k = r
    · subst e
      have hq : (s.toList == nm.toList) = true := by
        have := idx_at nm L (by rw [HR.out, HP.out.len]; exact hlt)
        rw [HR.out, ← hs] at this; exact this
      clear hs
      go_wp2
      go_ret
      exact ⟨rfl, rfl⟩
    · have hq : (s.toList == nm.toList) = false := by
        have := idx_before nm L k (by rw [HR.out]; omega)
        rw [← hs] at this; exact this
      have hkr : k < r := by omega
      clear hs e
      go_wp2
      go_round
      case rel => exact ⟨k + 1, by omega, by go_num⟩
      case measure => simp [intOf]; omega

set_option maxHeartbeats 800000 in
theorem module_miss (p m n : Nat) (L : List ByteArray) (nm : ByteArray) (w : World) (hn : n ≤ 1048576) (hP : PlanAt w p m n L) (hr : ¬ idx nm L < n) :
    Calls Try.prog 8 #[.pointer (some ⟨p, 0, none⟩), .string nm] w fun e w' => e = .returned (.pointer none) ∧ w' = w := by
  have HP : Hid (PlanAt w p m n L) := hP
  have hc5 := hP.cell
  have HR : Hid (¬ idx nm L < n) := hr
  clear hP hr
  go_enter Try.func8, Try.ntmps8
  go_wp2
  go_loop [11] (fun i => ∃ k : Nat, k ≤ n ∧ i = .int .i64 k) (fun i => n - (intOf i).toNat)
  case atStart => exact ⟨0, Nat.zero_le _, rfl⟩
  case round =>
    obtain ⟨k, hk, rfl⟩ := hrel
    by_cases hlt : k < n
    · obtain ⟨s, hs⟩ : ∃ s, s = L.getD k ByteArray.empty := ⟨_, rfl⟩
      have hcx : w.cell? ⟨m, k * 9, none⟩ = some (.string s) := by rw [hs]; exact HP.out.at k (by omega)
      have hq : (s.toList == nm.toList) = false := by
        have := idx_before nm L k (by have := HR.out; omega)
        rw [← hs] at this; exact this
      clear hs
      go_wp2
      go_round
      case rel => exact ⟨k + 1, by omega, by go_num⟩
      case measure => simp [intOf]; omega
    · go_wp2
      go_ret
      exact ⟨rfl, rfl⟩

set_option maxHeartbeats 400000 in
theorem zzm_hit (p m n : Nat) (L : List ByteArray) (nm : ByteArray) (w : World) (hn : n ≤ 1048576) (hP : PlanAt w p m n L) (r : Nat) (hr : idx nm L = r) (hlt : r < n) :
    Calls Try.prog 6 #[.pointer (some ⟨p, 0, none⟩), .string nm] w fun e w' => e = .returned (.pointer (some ⟨m, r * 9, none⟩)) ∧ w' = w := by
  have H : Hid (Calls Try.prog 8 #[.pointer (some ⟨p, 0, none⟩), .string nm] w fun e w' => e = .returned (.pointer (some ⟨m, r * 9, none⟩)) ∧ w' = w) := module_hit p m n L nm w hn hP r hr hlt
  clear hP hr
  go_enter Try.func6, Try.ntmps6
  go_wp2_with (go_at_call 8; refine H.out.mono ?_; rintro e w' ⟨rfl, hw⟩; obtain rfl := hw.symm; clear hw)
  go_ret
  exact ⟨rfl, rfl⟩

set_option maxHeartbeats 400000 in
theorem zzm_miss (p m n : Nat) (L : List ByteArray) (nm : ByteArray) (w : World) (hn : n ≤ 1048576) (hP : PlanAt w p m n L) (hr : ¬ idx nm L < n) :
    Calls Try.prog 6 #[.pointer (some ⟨p, 0, none⟩), .string nm] w fun e w' => e = .returned (.pointer none) ∧ w' = w := by
  have H : Hid (Calls Try.prog 8 #[.pointer (some ⟨p, 0, none⟩), .string nm] w fun e w' => e = .returned (.pointer none) ∧ w' = w) := module_miss p m n L nm w hn hP hr
  clear hP hr
  go_enter Try.func6, Try.ntmps6
  go_wp2_with (go_at_call 8; refine H.out.mono ?_; rintro e w' ⟨rfl, hw⟩; obtain rfl := hw.symm; clear hw)
  go_ret
  exact ⟨rfl, rfl⟩

set_option maxHeartbeats 400000 in
theorem index_nil (a : Option Addr) (n c : Nat) (w : World) :
    Calls Try.prog 7 #[.slice a n c, .pointer none] w fun e w' => e = .returned (.int .i64 (-1)) ∧ w' = w := by
  go_enter Try.func7, Try.ntmps7
  go_wp2
  go_ret
  exact ⟨rfl, rfl⟩

set_option maxHeartbeats 800000 in
theorem index_some (p m n : Nat) (L : List ByteArray) (w : World) (hn : n ≤ 1048576) (hP : PlanAt w p m n L) (r : Nat) (hlt : r < n) :
    Calls Try.prog 7 #[.slice (some ⟨m, 0, none⟩) n n, .pointer (some ⟨m, r * 9, none⟩)] w fun e w' => e = .returned (.int .i64 r) ∧ w' = w := by
  obtain ⟨_, _, A, h3, h4⟩ := hP
  obtain ⟨i, z, hi, hz, hs, hb⟩ := zero37
  have hsame := run_eql_ptr_same (P := Try.prog) w (tp := 26) (te := 37) (⟨m, r * 9, none⟩ : Addr) Try.underlying26 hi
  have HO : Hid (∀ k : Nat, k < r → (binOp .eql 26 (.pointer (some ⟨m, k * 9, none⟩)) (.pointer (some ⟨m, r * 9, none⟩))).run Try.prog w = .ok (.bool false) w) := fun k hk =>
    run_eql_ptr_other (P := Try.prog) w (tp := 26) (te := 37) Try.underlying26 hi (by omega) (by intro h; have := congrArg Addr.off h; simp at this; omega) h3 h3
  clear h3 h4 hi hz hs hb
  go_enter Try.func7, Try.ntmps7
  go_wp2
  go_loop [5] (fun i => ∃ k : Nat, k ≤ r ∧ i = .int .i64 k) (fun i => r + 1 - (intOf i).toNat)
  case atStart => exact ⟨0, Nat.zero_le _, rfl⟩
  case round =>
    obtain ⟨k, hk, rfl⟩ := hrel
    by_cases e : k = r
    · subst e
      go_wp2
      go_ret
      exact ⟨rfl, rfl⟩
    · have ho := HO.out k (by omega)
      have hkr : k < r := by omega
      clear e
      go_wp2
      go_round
      case rel => exact ⟨k + 1, by omega, by go_num⟩
      case measure => simp [intOf]; omega
end Go.Proofs.Qxb6619608a
