/-
  zzBytes (4).
-/
import Derived.Test.Qxb6619608aMod
namespace Go.Proofs.Qxb6619608a
open Go.RowKit
set_option linter.unusedVariables false

/-- Strs, a place at a time. -/
def Read (w : World) (a : Option Addr) (L : List ByteArray) (n : Nat) : Prop :=
  ∀ i, i < n → ∃ b off, a = some ⟨b, off, none⟩ ∧ w.cell? ⟨b, off + i, none⟩ = some (.string (L.getD i ByteArray.empty))

theorem Strs.read {w : World} {a : Option Addr} {L : List ByteArray} {n : Nat} (h : Strs w a L) (hL : L.length = n) : Read w a L n := by
  intro i hi
  rcases h with rfl | ⟨b, off, rfl, hc⟩
  · simp at hL; omega
  · exact ⟨b, off, rfl, hc i (by omega)⟩

set_option maxHeartbeats 400000 in
theorem bytes_big (a : Option Addr) (n cap : Nat) (p : Int) (nm : ByteArray) (w : World) (hm : n ≤ 9223372036854775807) (h : ¬ n ≤ 1048576) :
    Calls Try.prog 4 #[.slice a n cap, .int .i64 p, .string nm] w fun e w' => e = .returned (.bool false) ∧ w' = w := by
  have h' : (1048576 : Int) < (n : Int) := by omega
  go_enter Try.func4, Try.ntmps4
  go_wp2
  go_ret
  exact ⟨rfl, rfl⟩

set_option maxHeartbeats 1000000 in
theorem bytes_any (a : Option Addr) (n cap : Nat) (p : Int) (nm : ByteArray) (L : List ByteArray) (w : World) (h : n ≤ 1048576) (hR : Read w a L n)
    (hnm : nm.size ≤ maxLen) (hsz : ∀ i, (L.getD i ByteArray.empty).size ≤ maxLen) :
    Calls Try.prog 4 #[.slice a n cap, .int .i64 p, .string nm] w fun e w' => (e = .returned (.bool false) ∧ w' = w) ∨ (e = .returned (.bool true) ∧ w' = w ∧ Hid (nm.size ≤ 1048576 ∧ ∀ i, i < n → (L.getD i ByteArray.empty).size ≤ 1048576)) := by
  unfold maxLen at hnm hsz
  have HR : Hid (Read w a L n) := hR
  have HZ : Hid (∀ i, (L.getD i ByteArray.empty).size ≤ 9223372036854775807) := hsz
  clear hR hsz
  go_enter Try.func4, Try.ntmps4
  go_wp2
  go_loop [7, 8] (fun t i => ∃ k : Nat, k ≤ n ∧ i = .int .i64 k ∧ ∃ z : Nat, z ≤ 1048576 ∧ t = .int .i64 z ∧ Hid (∀ i, i < k → (L.getD i ByteArray.empty).size ≤ 1048576)) (fun _ i => n - (intOf i).toNat)
  case atStart => exact ⟨0, Nat.zero_le _, rfl, n, h, rfl, fun i hi => by omega⟩
  case round =>
    obtain ⟨k, hk, rfl, z, hz, rfl, hall⟩ := hrel
    by_cases hlt : k < n
    · obtain ⟨b, off, rfl, hcx⟩ := HR.out k hlt
      obtain ⟨s, hs⟩ : ∃ s, s = L.getD k ByteArray.empty := ⟨_, rfl⟩
      have hss : s.size ≤ 9223372036854775807 := by rw [hs]; exact HZ.out k
      rw [← hs] at hcx
      have HS : Hid (s = L.getD k ByteArray.empty) := hs
      clear hs
      by_cases c1 : s.size ≤ 1048576
      · by_cases c2 : z + s.size ≤ 1048576
        · go_wp2
          go_round
          case rel => exact ⟨k + 1, by omega, by go_num, z + s.size, c2, by go_num, fun i hi => by
            by_cases e : i = k
            · subst e; rw [← HS.out]; exact c1
            · exact hall.out i (by omega)⟩
          case measure => simp [intOf]; omega
        · go_wp2
          go_ret
          exact .inl ⟨rfl, rfl⟩
      · go_wp2
        go_ret
        exact .inl ⟨rfl, rfl⟩
    · have hkn : k = n := by omega
      subst hkn
      by_cases c1 : nm.size ≤ 1048576
      · by_cases c2 : z + nm.size ≤ 1048576
        · go_wp2
          go_ret
          exact .inr ⟨rfl, rfl, fun i hi => by simpa using hall.out i hi⟩
        · go_wp2
          go_ret
          exact .inl ⟨rfl, rfl⟩
      · go_wp2
        go_ret
        exact .inl ⟨rfl, rfl⟩
end Go.Proofs.Qxb6619608a
