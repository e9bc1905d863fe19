/-
  zzBytes of FnOrFoldsAssociatively (5), zzFirstSet (7).
-/
import Derived.Test.Qxb6619621aOr
namespace Go.Proofs.Qxb6619621a
open Go.RowKit
set_option linter.unusedVariables false

set_option maxHeartbeats 4000000 in
theorem bytes5 (l0 l1 l2 f0 f1 f2 g0 g1 g2 : ByteArray) (w : World) :
    Calls Try.prog 5 #[A3 l0 l1 l2, A3 f0 f1 f2, A3 g0 g1 g2] w fun e w' => (e = .returned (.bool false) ∧ Below w.heap.size w w') ∨ (e = .returned (.bool true) ∧ Below w.heap.size w w') := by
  have HB : Hid (Below w.heap.size w (((w.alloc (.cells #[.string l0, .string l1, .string l2] 22)).alloc (.cells #[.string f0, .string f1, .string f2] 22)).alloc (.cells #[.string g0, .string g1, .string g2] 22))) := (((Below.refl _ _).alloc (Nat.le_refl _) _).alloc (by simp) _).alloc (by simp; omega) _
  go_enter Try.func5, Try.ntmps5
  go_wp2
  go_loop [7, 8] (fun t i => ∃ k : Nat, k ≤ 3 ∧ i = .int .i64 k ∧ ∃ z : Nat, z ≤ 1048576 ∧ t = .int .i64 z) (fun _ i => 3 - (intOf i).toNat)
  case atStart => exact ⟨0, Nat.zero_le _, rfl, 0, by omega, rfl⟩
  case round =>
    skip
    obtain ⟨k, hk, rfl, z, hz, rfl⟩ := hrel
    have h4 : k = 0 ∨ k = 1 ∨ k = 2 ∨ k = 3 := by omega
    rcases h4 with rfl | rfl | rfl | rfl
    · by_cases c1 : l0.size ≤ 1048576
      · by_cases c2 : z + l0.size ≤ 1048576
        · go_wp2
          go_round
          case rel => exact ⟨1, by omega, rfl, z + l0.size, c2, by go_num⟩
          case measure => simp [intOf]
        · go_wp2
          go_ret
          exact .inl ⟨rfl, HB.out⟩
      · go_wp2
        go_ret
        exact .inl ⟨rfl, HB.out⟩
    · by_cases c1 : l1.size ≤ 1048576
      · by_cases c2 : z + l1.size ≤ 1048576
        · go_wp2
          go_round
          case rel => exact ⟨2, by omega, rfl, z + l1.size, c2, by go_num⟩
          case measure => simp [intOf]
        · go_wp2
          go_ret
          exact .inl ⟨rfl, HB.out⟩
      · go_wp2
        go_ret
        exact .inl ⟨rfl, HB.out⟩
    · by_cases c1 : l2.size ≤ 1048576
      · by_cases c2 : z + l2.size ≤ 1048576
        · go_wp2
          go_round
          case rel => exact ⟨3, by omega, rfl, z + l2.size, c2, by go_num⟩
          case measure => simp [intOf]
        · go_wp2
          go_ret
          exact .inl ⟨rfl, HB.out⟩
      · go_wp2
        go_ret
        exact .inl ⟨rfl, HB.out⟩
    · go_wp2
      go_loop [7, 9] (fun t i => ∃ k : Nat, k ≤ 3 ∧ i = .int .i64 k ∧ ∃ z : Nat, z ≤ 1048576 ∧ t = .int .i64 z) (fun _ i => 3 - (intOf i).toNat)
      case atStart => exact ⟨0, Nat.zero_le _, rfl, z, hz, rfl⟩
      case round =>
        clear hz
        obtain ⟨k, hk, rfl, z, hz, rfl⟩ := hrel
        have h4 : k = 0 ∨ k = 1 ∨ k = 2 ∨ k = 3 := by omega
        rcases h4 with rfl | rfl | rfl | rfl
        · by_cases c1 : f0.size ≤ 1048576
          · by_cases c2 : z + f0.size ≤ 1048576
            · go_wp2
              go_round
              case rel => exact ⟨1, by omega, rfl, z + f0.size, c2, by go_num⟩
              case measure => simp [intOf]
            · go_wp2
              go_ret
              exact .inl ⟨rfl, HB.out⟩
          · go_wp2
            go_ret
            exact .inl ⟨rfl, HB.out⟩
        · by_cases c1 : f1.size ≤ 1048576
          · by_cases c2 : z + f1.size ≤ 1048576
            · go_wp2
              go_round
              case rel => exact ⟨2, by omega, rfl, z + f1.size, c2, by go_num⟩
              case measure => simp [intOf]
            · go_wp2
              go_ret
              exact .inl ⟨rfl, HB.out⟩
          · go_wp2
            go_ret
            exact .inl ⟨rfl, HB.out⟩
        · by_cases c1 : f2.size ≤ 1048576
          · by_cases c2 : z + f2.size ≤ 1048576
            · go_wp2
              go_round
              case rel => exact ⟨3, by omega, rfl, z + f2.size, c2, by go_num⟩
              case measure => simp [intOf]
            · go_wp2
              go_ret
              exact .inl ⟨rfl, HB.out⟩
          · go_wp2
            go_ret
            exact .inl ⟨rfl, HB.out⟩
        · go_wp2
          go_loop [7, 10] (fun t i => ∃ k : Nat, k ≤ 3 ∧ i = .int .i64 k ∧ ∃ z : Nat, z ≤ 1048576 ∧ t = .int .i64 z) (fun _ i => 3 - (intOf i).toNat)
          case atStart => exact ⟨0, Nat.zero_le _, rfl, z, hz, rfl⟩
          case round =>
            clear hz
            obtain ⟨k, hk, rfl, z, hz, rfl⟩ := hrel
            have h4 : k = 0 ∨ k = 1 ∨ k = 2 ∨ k = 3 := by omega
            rcases h4 with rfl | rfl | rfl | rfl
            · by_cases c1 : g0.size ≤ 1048576
              · by_cases c2 : z + g0.size ≤ 1048576
                · go_wp2
                  go_round
                  case rel => exact ⟨1, by omega, rfl, z + g0.size, c2, by go_num⟩
                  case measure => simp [intOf]
                · go_wp2
                  go_ret
                  exact .inl ⟨rfl, HB.out⟩
              · go_wp2
                go_ret
                exact .inl ⟨rfl, HB.out⟩
            · by_cases c1 : g1.size ≤ 1048576
              · by_cases c2 : z + g1.size ≤ 1048576
                · go_wp2
                  go_round
                  case rel => exact ⟨2, by omega, rfl, z + g1.size, c2, by go_num⟩
                  case measure => simp [intOf]
                · go_wp2
                  go_ret
                  exact .inl ⟨rfl, HB.out⟩
              · go_wp2
                go_ret
                exact .inl ⟨rfl, HB.out⟩
            · by_cases c1 : g2.size ≤ 1048576
              · by_cases c2 : z + g2.size ≤ 1048576
                · go_wp2
                  go_round
                  case rel => exact ⟨3, by omega, rfl, z + g2.size, c2, by go_num⟩
                  case measure => simp [intOf]
                · go_wp2
                  go_ret
                  exact .inl ⟨rfl, HB.out⟩
              · go_wp2
                go_ret
                exact .inl ⟨rfl, HB.out⟩
            · go_wp2
              go_ret
              exact .inr ⟨rfl, HB.out⟩

set_option maxHeartbeats 400000 in
theorem first_any (a b c : ByteArray) (w : World) : Calls Try.prog 7 #[.string a, .string b, .string c] w fun e w' => e = .returned (.string (orS a (orS b c))) ∧ w' = w := by
  obtain ⟨r, hr⟩ : ∃ r, r = orS a (orS b c) := ⟨_, rfl⟩
  rw [← hr]
  cases ha : a.toList.isEmpty
  · have e : r = a := by simp [hr, orS, ha]
    subst e
    clear hr
    go_enter Try.func7, Try.ntmps7
    go_wp2
    go_ret
    exact ⟨rfl, rfl⟩
  · cases hb : b.toList.isEmpty
    · have e : r = b := by simp [hr, orS, ha, hb]
      subst e
      clear hr
      go_enter Try.func7, Try.ntmps7
      go_wp2
      go_ret
      exact ⟨rfl, rfl⟩
    · have e : r = c := by simp [hr, orS, ha, hb]
      subst e
      clear hr
      go_enter Try.func7, Try.ntmps7
      go_wp2
      go_ret
      exact ⟨rfl, rfl⟩
end Go.Proofs.Qxb6619621a
