/-
  ZZHex4 (5).
-/
import Derived.Test.Qxb6619369aHex
import Derived.WalkSmall
namespace Go.Proofs.Qxb6619369a
open Go.RowKit
set_option linter.unusedVariables false

set_option maxHeartbeats 400000 in
theorem zz_short (a : Option Addr) (len cap pos : Nat) (w : World) (hl : len ≤ 1048576) (hp : pos ≤ len) (hs : len < pos + 4) :
    Calls Try.prog 5 #[.slice a len cap, .int .i64 pos] w fun e w' => e = .returned (.tuple #[.int .i32 0, .bool false, .int .i64 pos]) ∧ Below w.heap.size w w' := by
  go_enter Try.func5, Try.ntmps5
  go_wp2_with fail
  refine (hex4_short _ a len cap pos _ hl hp hs (by simp) (by simp)).mono ?_
  rintro e w' ⟨rfl, n, rfl⟩
  go_wp2
  go_quiet (fail)
  go_wp2
  go_ret3
  exact ⟨rfl, below_drewN (below_drewN ((Below.refl _ _).alloc (Nat.le_refl _) _) _) _⟩

set_option maxHeartbeats 800000 in
theorem zz_long (b : Nat) (len cap pos : Nat) (zs : List Int) (w : World) (hl : len ≤ 1048576) (hlc : len ≤ cap) (hcc : cap ≤ 2097152) (hs : pos + 4 ≤ len)
    (hw : ∀ j : Nat, (0 : Int) ≤ zs[j]?.getD 0 ∧ zs[j]?.getD 0 ≤ 255) (hbw : b < w.heap.size) (hc : ∀ j : Nat, j < len → w.cell? ⟨b, j, none⟩ = some (.int .u8 (zs[j]?.getD 0))) :
    Calls Try.prog 5 #[.slice (some ⟨b, 0, none⟩) len cap, .int .i64 pos] w fun e w' =>
      Below w.heap.size w w' ∧
      ((e = .returned (.tuple #[.int .i32 0, .bool false, .int .i64 pos]) ∧ ∃ k, k < 4 ∧ hexv (zs[pos + k]?.getD 0) < 0) ∨
       (e = .returned (.tuple #[.int .i32 (acc zs pos 4), .bool true, .int .i64 (pos + 4)]) ∧ ∀ k, k < 4 → 0 ≤ hexv (zs[pos + k]?.getD 0))) := by
  go_enter Try.func5, Try.ntmps5
  go_wp2_with fail
  refine (hex4_long _ b len cap pos zs _ hl hlc hcc hs hw (fun j hj => (World.cell?_alloc_past _ b j hbw).trans (hc j hj)) (by simp) (by simp) (by simp)).mono ?_
  rintro e w' (⟨rfl, hk, n, rfl⟩ | ⟨rfl, hk, n, rfl⟩)
  · have HK := hk
    have HK2 : Hid (∃ k, k < 4 ∧ hexv (zs[pos + k]?.getD 0) < 0) := hk
    clear HK hk hc hw
    go_wp2
    go_quiet (fail)
    go_wp2
    go_ret3
    exact ⟨below_drewN (below_drewN ((Below.refl _ _).alloc (Nat.le_refl _) _) _) _, .inl ⟨rfl, HK2.out⟩⟩
  · have HK2 : Hid (∀ k, k < 4 → 0 ≤ hexv (zs[pos + k]?.getD 0)) := hk
    clear hk hc hw
    go_wp2
    go_quiet (fail)
    go_wp2
    go_ret3
    exact ⟨below_drewN (below_drewN ((Below.refl _ _).alloc (Nat.le_refl _) _) _) _, .inr ⟨rfl, HK2.out⟩⟩

end Go.Proofs.Qxb6619369a
