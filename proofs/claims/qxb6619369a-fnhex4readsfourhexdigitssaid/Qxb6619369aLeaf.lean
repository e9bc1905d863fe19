/-
  THE LEAVES OF FnHex4ReadsFourHexDigits: zzBytes (4), zzLowerASCII (7), zzHexDigitValue (6).
-/
import Derived.Test.Qxb6619369aRows
import Derived.WalkKit
import Derived.WalkSpells
import Derived.WalkLawsBesides
import Derived.Deep.QuietTactic
import Derived.BigQuiet
namespace Go.Proofs.Qxb6619369a
open Go.RowKit

/-- zzLowerASCII, plainly. -/
def lowr (c : Int) : Int := if 65 ≤ c ∧ c ≤ 90 then c + 32 else c
/-- the table of the sixteen digits. -/
def digs : List Int := [48, 49, 50, 51, 52, 53, 54, 55, 56, 57, 97, 98, 99, 100, 101, 102]
/-- the value of a hexadecimal digit in lower case; -1 where it is none. -/
def hexl (l : Int) : Int := if 48 ≤ l ∧ l ≤ 57 then l - 48 else if 97 ≤ l ∧ l ≤ 102 then l - 87 else -1
/-- zzHexDigitValue, plainly. -/
def hexv (c : Int) : Int := hexl (lowr c)

theorem ret_int {k : IntKind} {a b : Int} (h : a = b) : Ending.returned (.int k a) = .returned (.int k b) := by rw [h]

theorem lowr_bd (c : Int) (h0 : 0 ≤ c) (h1 : c ≤ 255) : 0 ≤ lowr c ∧ lowr c ≤ 255 := by
  unfold lowr; split <;> omega

set_option maxHeartbeats 400000 in
theorem lower_any (c : Int) (w : World) (h0 : 0 ≤ c) (h1 : c ≤ 255) :
    Calls Try.prog 7 #[.int .u8 c] w fun e w' => e = .returned (.int .u8 (lowr c)) ∧ w' = w := by
  by_cases ha : 65 ≤ c
  · by_cases hb : c ≤ 90
    · have e : lowr c = c + 32 := by unfold lowr; rw [if_pos ⟨ha, hb⟩]
      have E : Hid (lowr c = c + 32) := e
      clear e
      go_enter Try.func7, Try.ntmps7
      go_wp2
      go_ret
      exact ⟨ret_int E.out.symm, rfl⟩
    · have e : lowr c = c := by unfold lowr; rw [if_neg (by omega)]
      have E : Hid (lowr c = c) := e
      clear e
      go_enter Try.func7, Try.ntmps7
      go_wp2
      go_ret
      exact ⟨ret_int E.out.symm, rfl⟩
  · have e : lowr c = c := by unfold lowr; rw [if_neg (by omega)]
    have E : Hid (lowr c = c) := e
    clear e
    go_enter Try.func7, Try.ntmps7
    go_wp2
    go_ret
    exact ⟨ret_int E.out.symm, rfl⟩

set_option maxHeartbeats 400000 in
theorem bytes_any (a : Option Addr) (len cap : Nat) (p : Int) (w : World) (h : len ≤ 1048576) :
    Calls Try.prog 4 #[.slice a len cap, .int .i64 p] w fun e w' => e = .returned (.bool true) ∧ w' = w := by
  go_enter Try.func4, Try.ntmps4
  go_wp2
  go_ret
  exact ⟨rfl, rfl⟩

set_option maxHeartbeats 400000 in
theorem bytes_no (a : Option Addr) (len cap : Nat) (p : Int) (w : World) (h : ¬ len ≤ 1048576) :
    Calls Try.prog 4 #[.slice a len cap, .int .i64 p] w fun e w' => e = .returned (.bool false) ∧ w' = w := by
  have h' : (1048576 : Int) < (len : Int) := by omega
  go_enter Try.func4, Try.ntmps4
  go_wp2
  go_ret
  exact ⟨rfl, rfl⟩

/-- the digits' string. -/
theorem digs_at (k : Nat) (l : Int) (hk : k < 16) (h : digs.getD k 0 = l) : hexl l = k := by
  have : k = 0 ∨ k = 1 ∨ k = 2 ∨ k = 3 ∨ k = 4 ∨ k = 5 ∨ k = 6 ∨ k = 7 ∨ k = 8 ∨ k = 9 ∨ k = 10 ∨ k = 11 ∨ k = 12 ∨ k = 13 ∨ k = 14 ∨ k = 15 := by omega
  rcases this with rfl | rfl | rfl | rfl | rfl | rfl | rfl | rfl | rfl | rfl | rfl | rfl | rfl | rfl | rfl | rfl <;> (subst h; decide)

theorem digs_none (l : Int) (h : ∀ k, k < 16 → digs.getD k 0 ≠ l) : hexl l = -1 := by
  have h0 := h 0 (by omega); have h1 := h 1 (by omega); have h2 := h 2 (by omega); have h3 := h 3 (by omega)
  have h4 := h 4 (by omega); have h5 := h 5 (by omega); have h6 := h 6 (by omega); have h7 := h 7 (by omega)
  have h8 := h 8 (by omega); have h9 := h 9 (by omega); have h10 := h 10 (by omega); have h11 := h 11 (by omega)
  have h12 := h 12 (by omega); have h13 := h 13 (by omega); have h14 := h 14 (by omega); have h15 := h 15 (by omega)
  simp [digs] at h0 h1 h2 h3 h4 h5 h6 h7 h8 h9 h10 h11 h12 h13 h14 h15
  unfold hexl
  rw [if_neg (by omega), if_neg (by omega)]

/-- the digits' string, as the walk spells it. -/
abbrev digB : ByteArray := { data := #[48, 49, 50, 51, 52, 53, 54, 55, 56, 57, 97, 98, 99, 100, 101, 102] }
theorem digB_at (k : Nat) (hk : k < 16) (hh : k < digB.size) : ((digB[k]'hh).toNat : Int) = digs.getD k 0 := by
  have : k = 0 ∨ k = 1 ∨ k = 2 ∨ k = 3 ∨ k = 4 ∨ k = 5 ∨ k = 6 ∨ k = 7 ∨ k = 8 ∨ k = 9 ∨ k = 10 ∨ k = 11 ∨ k = 12 ∨ k = 13 ∨ k = 14 ∨ k = 15 := by omega
  rcases this with rfl | rfl | rfl | rfl | rfl | rfl | rfl | rfl | rfl | rfl | rfl | rfl | rfl | rfl | rfl | rfl <;> rfl
theorem digB_hit (k : Nat) (l : Int) (hk : k < 16) (hh : k < digB.size) (h : (((digB[k]'hh).toNat : Int) == l) = true) : hexl l = k :=
  digs_at k l hk (by rw [← digB_at k hk hh]; simpa using h)
theorem digB_miss (k : Nat) (l : Int) (hk : k < 16) (hh : k < digB.size) (h : (((digB[k]'hh).toNat : Int) == l) = false) (hn : ∀ j, j < k → digs.getD j 0 ≠ l) : ∀ j, j < k + 1 → digs.getD j 0 ≠ l := by
  intro j hj
  by_cases e : j = k
  · subst e; rw [← digB_at j hk hh]; simpa using h
  · exact hn j (by omega)

set_option maxHeartbeats 800000 in
theorem hexv_any (c : Int) (w : World) (h0 : 0 ≤ c) (h1 : c ≤ 255) :
    Calls Try.prog 6 #[.int .u8 c] w fun e w' => e = .returned (.int .i64 (hexv c)) ∧ w' = w := by
  obtain ⟨l, hl⟩ : ∃ l, l = lowr c := ⟨_, rfl⟩
  have HV : Hid (hexv c = hexl l) := by subst hl; exact rfl
  have hb : 0 ≤ l ∧ l ≤ 255 := by subst hl; exact lowr_bd c h0 h1
  have hlow : Calls Try.prog 7 #[.int .u8 c] w fun e w' => e = .returned (.int .u8 l) ∧ w' = w := by subst hl; exact lower_any c w h0 h1
  have HL : Hid (Calls Try.prog 7 #[.int .u8 c] w fun e w' => e = .returned (.int .u8 l) ∧ w' = w) := hlow
  clear hl hlow
  obtain ⟨hb0, hb1⟩ := hb
  go_enter Try.func6, Try.ntmps6
  go_wp2_with (go_at_call 7; refine (HL.out).mono ?_; rintro e w' ⟨rfl, rfl⟩)
  go_loop [4] (fun i => ∃ k : Nat, k ≤ 16 ∧ i = .int .i64 k ∧ Hid (∀ j, j < k → digs.getD j 0 ≠ l)) (fun i => 16 - (intOf i).toNat)
  case atStart => exact ⟨0, Nat.zero_le _, rfl, fun j hj => by omega⟩
  case round =>
    obtain ⟨k, hk, rfl, hnone⟩ := hrel
    by_cases hlt : k < 16
    · go_wp2
      · go_ret
        exact ⟨ret_int (by rw [HV.out]; exact (digB_hit k l hlt hlt (by assumption)).symm), rfl⟩
      · go_round
        case rel => exact ⟨k + 1, by omega, by go_num, digB_miss k l hlt hlt (by assumption) hnone.out⟩
        case measure => simp [intOf]; omega
    · go_wp2
      go_ret
      exact ⟨ret_int (by rw [HV.out]; exact (digs_none l fun j hj => hnone.out j (by omega)).symm), rfl⟩
end Go.Proofs.Qxb6619369a
