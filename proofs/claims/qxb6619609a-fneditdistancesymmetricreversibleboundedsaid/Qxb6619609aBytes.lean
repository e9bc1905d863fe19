/-
  zzBytes of the three laws (6, 9, 12).
-/
import Derived.Test.Qxb6619609aEd
namespace Go.Proofs.Qxb6619609a
open Go.RowKit Go.Deep
set_option linter.unusedVariables false

set_option maxHeartbeats 800000 in
theorem bytes6 (a b : ByteArray) (w : World) (ha : a.size ≤ 9223372036854775807) (hb : b.size ≤ 9223372036854775807) :
    Calls Try.prog 6 #[.string a, .string b] w fun e w' => (e = .returned (.bool false) ∧ w' = w) ∨ (e = .returned (.bool true) ∧ w' = w) := by
  by_cases c1 : a.size ≤ 1048576
  · by_cases c2 : b.size ≤ 1048576
    · by_cases c3 : a.size + b.size ≤ 1048576
      · go_enter Try.func6, Try.ntmps6
        go_wp2
        go_ret
        exact .inr ⟨rfl, rfl⟩
      · go_enter Try.func6, Try.ntmps6
        go_wp2
        go_ret
        exact .inl ⟨rfl, rfl⟩
    · go_enter Try.func6, Try.ntmps6
      go_wp2
      go_ret
      exact .inl ⟨rfl, rfl⟩
  · go_enter Try.func6, Try.ntmps6
    go_wp2
    go_ret
    exact .inl ⟨rfl, rfl⟩

set_option maxHeartbeats 800000 in
theorem bytes9 (a b : ByteArray) (w : World) (ha : a.size ≤ 9223372036854775807) (hb : b.size ≤ 9223372036854775807) :
    Calls Try.prog 9 #[.string a, .string b] w fun e w' => (e = .returned (.bool false) ∧ w' = w) ∨ (e = .returned (.bool true) ∧ w' = w) := by
  by_cases c1 : a.size ≤ 1048576
  · by_cases c2 : b.size ≤ 1048576
    · by_cases c3 : a.size + b.size ≤ 1048576
      · go_enter Try.func9, Try.ntmps9
        go_wp2
        go_ret
        exact .inr ⟨rfl, rfl⟩
      · go_enter Try.func9, Try.ntmps9
        go_wp2
        go_ret
        exact .inl ⟨rfl, rfl⟩
    · go_enter Try.func9, Try.ntmps9
      go_wp2
      go_ret
      exact .inl ⟨rfl, rfl⟩
  · go_enter Try.func9, Try.ntmps9
    go_wp2
    go_ret
    exact .inl ⟨rfl, rfl⟩

set_option maxHeartbeats 800000 in
theorem bytes12 (a b c : ByteArray) (w : World) (ha : a.size ≤ 9223372036854775807) (hb : b.size ≤ 9223372036854775807) (hc : c.size ≤ 9223372036854775807) :
    Calls Try.prog 12 #[.string a, .string b, .string c] w fun e w' => (e = .returned (.bool false) ∧ w' = w) ∨ (e = .returned (.bool true) ∧ w' = w) := by
  by_cases c1 : a.size ≤ 1048576
  · by_cases c2 : b.size ≤ 1048576
    · by_cases c3 : a.size + b.size ≤ 1048576
      · by_cases c4 : c.size ≤ 1048576
        · by_cases c5 : a.size + b.size + c.size ≤ 1048576
          · go_enter Try.func12, Try.ntmps12
            go_wp2
            go_ret
            exact .inr ⟨rfl, rfl⟩
          · go_enter Try.func12, Try.ntmps12
            go_wp2
            go_ret
            exact .inl ⟨rfl, rfl⟩
        · go_enter Try.func12, Try.ntmps12
          go_wp2
          go_ret
          exact .inl ⟨rfl, rfl⟩
      · go_enter Try.func12, Try.ntmps12
        go_wp2
        go_ret
        exact .inl ⟨rfl, rfl⟩
    · go_enter Try.func12, Try.ntmps12
      go_wp2
      go_ret
      exact .inl ⟨rfl, rfl⟩
  · go_enter Try.func12, Try.ntmps12
    go_wp2
    go_ret
    exact .inl ⟨rfl, rfl⟩
end Go.Proofs.Qxb6619609a
