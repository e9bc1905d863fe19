/-
  THE WALK OF FnEditDistanceMatchesSuffixRecurrence (3).
-/
import Derived.Test.Qxb6619609aBack
import Derived.Test.Qxb6619609aBytes
namespace Go.Proofs.Qxb6619609a
open Go.RowKit Go.Deep
set_option linter.unusedVariables false

set_option maxHeartbeats 1000000 in
theorem lawA_big (a b : ByteArray) (w : World) (ha : a.size ≤ 9223372036854775807) (hb : b.size ≤ 9223372036854775807) (h : ¬ (a.size ≤ 4096 ∧ b.size ≤ 4096)) :
    Calls Try.prog 3 #[.string a, .string b] w fun e w' => e = .returned (.bool true) ∧ Below w.heap.size w w' := by
  by_cases c1 : a.size ≤ 4096
  all_goals
    have c2 : a.size ≤ 4096 → ¬ b.size ≤ 4096 := fun h1 h2 => h ⟨h1, h2⟩
    first
      | (have c3 := c2 c1; clear c2 h)
      | (clear c2 h)
    go_enter Try.func3, Try.ntmps3
    go_wp2_with fail
    refine (bytes6 a b w ha hb).mono ?_
    rintro e w' (⟨rfl, hw⟩ | ⟨rfl, hw⟩)
    · obtain rfl := hw.symm
      clear hw
      go_wp2
      go_ret
      exact ⟨rfl, Below.refl _ _⟩
    · obtain rfl := hw.symm
      clear hw
      go_wp2
      go_ret
      exact ⟨rfl, Below.refl _ _⟩

set_option maxHeartbeats 1000000 in
theorem lawA_small (a b : ByteArray) (w : World) (ha : a.size ≤ 4096) (hb : b.size ≤ 4096) :
    Calls Try.prog 3 #[.string a, .string b] w fun e w' => e = .returned (.bool true) ∧ Below w.heap.size w w' := by
  have B6 : Hid (Calls Try.prog 6 #[.string a, .string b] w fun e w' => (e = .returned (.bool false) ∧ w' = w) ∨ (e = .returned (.bool true) ∧ w' = w)) := bytes6 a b w (by omega) (by omega)
  obtain ⟨d, hd⟩ : ∃ d, d = lev (runes a) (runes b) := ⟨_, rfl⟩
  have Z := zz_any a b w (by omega) (by omega)
  rw [← hd] at Z
  have HZ : Hid (Calls Try.prog 7 #[.string a, .string b] w fun e w' => e = .returned (.int .i64 d) ∧ Below w.heap.size w w') := Z
  have HD : Hid (d = lev (runes a) (runes b)) := hd
  clear Z hd
  go_enter Try.func3, Try.ntmps3
  go_wp2_with fail
  refine B6.out.mono ?_
  rintro e w' (⟨rfl, hw⟩ | ⟨rfl, hw⟩)
  · obtain rfl := hw.symm
    clear hw
    go_wp2
    go_ret
    exact ⟨rfl, Below.refl _ _⟩
  obtain rfl := hw.symm
  clear hw
  go_wp2_with fail
  refine HZ.out.mono ?_
  rintro e w0 ⟨rfl, hb0⟩
  obtain ⟨cap1, w1, hcv1, hb1, hs1, hx⟩ := conv_runes a (by omega) w0
  obtain ⟨cap2, w2, hcv2, hb2, hs2, hy⟩ := conv_runes b (by omega) w1
  have BK := back_any w0.heap.size w1.heap.size cap1 cap2 _ _ (runes a) (runes b) w2 (by have := runes_len a; omega) (by have := runes_len b; omega) rfl rfl (by omega) (by omega)
    (fun i hi => (hb2.cell (by show w0.heap.size < w1.heap.size; omega)).trans (hx i hi)) hy
  rw [← HD.out] at BK
  obtain ⟨n, hn⟩ : ∃ n, n = (runes a).length := ⟨_, rfl⟩
  obtain ⟨m, hm⟩ : ∃ m, m = (runes b).length := ⟨_, rfl⟩
  rw [← hn] at hcv1 BK
  rw [← hm] at hcv2 BK
  have HK : Hid (Calls Try.prog 8 #[.slice (some ⟨w0.heap.size, 0, none⟩) n cap1, .slice (some ⟨w1.heap.size, 0, none⟩) m cap2] w2 fun e w' => e = .returned (.int .i64 d) ∧ Below w2.heap.size w2 w') := BK
  have BW : Hid (Below w.heap.size w w2 ∧ w.heap.size ≤ w2.heap.size) := ⟨(hb0.trans (hb1.mono hb0.size)).trans (hb2.mono (by have := hb0.size; omega)), by have := hb0.size; omega⟩
  clear BK hb0 hb1 hb2 hs1 hs2 hx hy hn hm
  go_wp2_with fail
  refine HK.out.mono ?_
  rintro e w3 ⟨rfl, hb3⟩
  have HB3 : Hid (Below w2.heap.size w2 w3) := hb3
  clear hb3
  go_wp2
  go_ret
  exact ⟨rfl, BW.out.1.trans (HB3.out.mono BW.out.2)⟩
end Go.Proofs.Qxb6619609a
