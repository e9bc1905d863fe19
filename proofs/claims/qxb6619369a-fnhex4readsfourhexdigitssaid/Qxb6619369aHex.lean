/-
  (*jsonReader).hex4 (8) AND ZZHex4 (5).
-/
import Derived.Test.Qxb6619369aLeaf
import Derived.Laws.BitsAllLaws
import Derived.Laws.BitsLemmas
namespace Go.Proofs.Qxb6619369a
open Go.RowKit
set_option linter.unusedVariables false

/-- the number that the first k digits from p on spell. -/
def acc (zs : List Int) (p : Nat) : Nat → Int
  | 0 => 0
  | k + 1 => acc zs p k * 16 + hexv (zs[p + k]?.getD 0)
theorem hexv_le (c : Int) : -1 ≤ hexv c ∧ hexv c ≤ 15 := by
  unfold hexv hexl; split
  · omega
  · split <;> omega
theorem hexv_dig (c : Int) (h1 : 48 ≤ c) (h2 : c ≤ 57) : hexv c = c - 48 := by
  unfold hexv lowr; rw [if_neg (by omega)]; unfold hexl; rw [if_pos (by omega)]
theorem hexv_low (c : Int) (h1 : 97 ≤ c) (h2 : c ≤ 102) : hexv c = c - 97 + 10 := by
  unfold hexv lowr; rw [if_neg (by omega)]; unfold hexl; rw [if_neg (by omega), if_pos (by omega)]; omega
theorem hexv_up (c : Int) (h1 : 65 ≤ c) (h2 : c ≤ 70) : hexv c = c - 65 + 10 := by
  unfold hexv lowr; rw [if_pos (by omega)]; unfold hexl; rw [if_neg (by omega), if_pos (by omega)]; omega
theorem hexv_no (c : Int) (h1 : ¬ (48 ≤ c ∧ c ≤ 57)) (h2 : ¬ (97 ≤ c ∧ c ≤ 102)) (h3 : ¬ (65 ≤ c ∧ c ≤ 70)) : hexv c = -1 := by
  unfold hexv lowr; split
  · unfold hexl; rw [if_neg (by omega), if_neg (by omega)]
  · unfold hexl; rw [if_neg (by omega), if_neg (by omega)]
theorem acc_bd (zs : List Int) (p : Nat) : ∀ k, (∀ j, j < k → 0 ≤ hexv (zs[p + j]?.getD 0)) → 0 ≤ acc zs p k ∧ acc zs p k < 16 ^ k
  | 0, _ => by simp [acc]
  | k + 1, h => by
    have ih := acc_bd zs p k fun j hj => h j (by omega)
    have h1 := h k (by omega)
    have h2 := (hexv_le (zs[p + k]?.getD 0)).2
    simp only [acc, Int.pow_succ]
    omega
theorem acc_4096 (zs : List Int) (p k : Nat) (hk : k < 4) (h : ∀ j, j < k → 0 ≤ hexv (zs[p + j]?.getD 0)) : 0 ≤ acc zs p k ∧ acc zs p k < 4096 := by
  have h1 := acc_bd zs p k h
  have : k = 0 ∨ k = 1 ∨ k = 2 ∨ k = 3 := by omega
  rcases this with rfl | rfl | rfl | rfl <;> simp at h1 ⊢ <;> omega
theorem step_dig (zs : List Int) (pos k : Nat) (c v d : Int) (HV : v = acc zs pos k) (HC : c = zs[pos + k]?.getD 0) (hv0 : 0 ≤ v) (hv1 : v < 4096) (hd : hexv c = d) (hd0 : 0 ≤ d) (hd1 : d ≤ 15) :
    bits .or .i32 (v * 16) d = acc zs pos (k + 1) := by
  rw [bits_join .i32 31 (by decide) wraps_i32 4 (v * 16) d (by omega) (by omega) (by omega) hd0 (by omega) (by omega)]
  simp only [acc]
  rw [← HC, hd, HV]
theorem all_succ (zs : List Int) (pos k : Nat) (c d : Int) (HC : c = zs[pos + k]?.getD 0) (hd : hexv c = d) (hd0 : 0 ≤ d) (h : ∀ j, j < k → 0 ≤ hexv (zs[pos + j]?.getD 0)) :
    ∀ j, j < k + 1 → 0 ≤ hexv (zs[pos + j]?.getD 0) := by
  intro j hj
  by_cases e : j = k
  · subst e; rw [← HC, hd]; exact hd0
  · exact h j (by omega)
theorem ret_i32 {a b : Int} (h : a = b) : Value.int .i32 a = .int .i32 b := by rw [h]

set_option maxHeartbeats 400000 in
theorem hex4_short (r : Nat) (a : Option Addr) (len cap pos : Nat) (w : World) (hl : len ≤ 1048576) (hp : pos ≤ len) (hs : len < pos + 4)
    (hc0 : w.cell? ⟨r, 0, none⟩ = some (.slice a len cap)) (hc2 : w.cell? ⟨r, 2, none⟩ = some (.int .i64 pos)) :
    Calls Try.prog 8 #[.pointer (some ⟨r, 0, none⟩)] w fun e w' => e = .returned (.tuple #[.int .i32 0, .bool false]) ∧ ∃ n, w' = w.drewN n := by
  go_enter Try.func8, Try.ntmps8
  go_wp2
  go_quiet (fail)
  go_wp2
  go_ret2
  exact ⟨rfl, _, rfl⟩

set_option maxHeartbeats 1600000 in
theorem hex4_long (r b : Nat) (len cap pos : Nat) (zs : List Int) (w : World) (hl : len ≤ 1048576) (hlc : len ≤ cap) (hcc : cap ≤ 2097152) (hs : pos + 4 ≤ len)
    (hw : ∀ j : Nat, (0 : Int) ≤ zs[j]?.getD 0 ∧ zs[j]?.getD 0 ≤ 255) (hc : ∀ j : Nat, j < len → w.cell? ⟨b, j, none⟩ = some (.int .u8 (zs[j]?.getD 0)))
    (hc0 : w.cell? ⟨r, 0, none⟩ = some (.slice (some ⟨b, 0, none⟩) len cap)) (hc2 : w.cell? ⟨r, 2, none⟩ = some (.int .i64 pos)) (hf2 : w.frozen? ⟨r, 2, none⟩ = false) :
    Calls Try.prog 8 #[.pointer (some ⟨r, 0, none⟩)] w fun e w' =>
      (e = .returned (.tuple #[.int .i32 0, .bool false]) ∧ (∃ k, k < 4 ∧ hexv (zs[pos + k]?.getD 0) < 0) ∧ ∃ n, w' = w.drewN n) ∨
      (e = .returned (.tuple #[.int .i32 (acc zs pos 4), .bool true]) ∧ (∀ k, k < 4 → 0 ≤ hexv (zs[pos + k]?.getD 0)) ∧ ∃ n, w' = (w.setCell ⟨r, 2, none⟩ (.int .i64 (pos + 4))).drewN n) := by
  go_enter Try.func8, Try.ntmps8
  go_wp2
  go_quiet (fail)
  go_wp2
  go_quiet (fail)
  go_wp2
  go_loop [4, 34] (fun t i => ∃ k : Nat, k ≤ 4 ∧ i = .int .i64 k ∧ t = .int .i32 (acc zs pos k) ∧ Hid (∀ j, j < k → 0 ≤ hexv (zs[pos + j]?.getD 0))) (fun _ i => 4 - (intOf i).toNat)
  case atStart => exact ⟨0, Nat.zero_le _, rfl, rfl, fun j hj => by omega⟩
  case round =>
    obtain ⟨k, hk, rfl, rfl, hnone⟩ := hrel
    by_cases hlt : k < 4
    · have hcx : w.cell? ⟨b, pos + k, none⟩ = some (.int .u8 (zs[pos + k]?.getD 0)) := hc (pos + k) (by omega)
      obtain ⟨c, hcc⟩ : ∃ c, c = zs[pos + k]?.getD 0 := ⟨_, rfl⟩
      have hcb : 0 ≤ c ∧ c ≤ 255 := by rw [hcc]; exact hw _
      have hvb := acc_4096 zs pos k hlt hnone.out
      obtain ⟨v, hv⟩ : ∃ v, v = acc zs pos k := ⟨_, rfl⟩
      rw [← hcc] at hcx
      rw [← hv] at hvb ⊢
      obtain ⟨hcb0, hcb1⟩ := hcb
      obtain ⟨hvb0, hvb1⟩ := hvb
      have HV : Hid (v = acc zs pos k) := hv
      have HC : Hid (c = zs[pos + k]?.getD 0) := hcc
      clear hv hcc
      clear hc hw
      by_cases d1 : 48 ≤ c ∧ c ≤ 57
      · obtain ⟨d1a, d1b⟩ := d1
        go_wp2
        go_round
        case rel => exact ⟨_, _, _, _, _, _, ⟨k + 1, by omega, rfl, rfl, all_succ zs pos k c _ HC.out (hexv_dig c d1a d1b) (by omega) hnone.out⟩, rfl, rfl, ret_i32 (step_dig zs pos k c v _ HV.out HC.out hvb0 hvb1 (hexv_dig c d1a d1b) (by omega) (by omega)), rfl, rfl, by go_num⟩
        case measure => simp [intOf]; omega
      by_cases d2 : 97 ≤ c ∧ c ≤ 102
      · obtain ⟨d2a, d2b⟩ := d2
        have d1c : ¬ c ≤ 57 := by omega
        clear d1
        go_wp2
        go_round
        case rel => exact ⟨_, _, _, _, _, _, ⟨k + 1, by omega, rfl, rfl, all_succ zs pos k c _ HC.out (hexv_low c d2a d2b) (by omega) hnone.out⟩, rfl, rfl, ret_i32 (step_dig zs pos k c v _ HV.out HC.out hvb0 hvb1 (hexv_low c d2a d2b) (by omega) (by omega)), rfl, rfl, by go_num⟩
        case measure => simp [intOf]; omega
      by_cases d3 : 65 ≤ c ∧ c ≤ 70
      · obtain ⟨d3a, d3b⟩ := d3
        have d1c : ¬ c ≤ 57 := by omega
        have d2c : ¬ 97 ≤ c := by omega
        clear d1 d2
        go_wp2
        go_round
        case rel => exact ⟨_, _, _, _, _, _, ⟨k + 1, by omega, rfl, rfl, all_succ zs pos k c _ HC.out (hexv_up c d3a d3b) (by omega) hnone.out⟩, rfl, rfl, ret_i32 (step_dig zs pos k c v _ HV.out HC.out hvb0 hvb1 (hexv_up c d3a d3b) (by omega) (by omega)), rfl, rfl, by go_num⟩
        case measure => simp [intOf]; omega
      have HN : Hid (hexv (zs[pos + k]?.getD 0) < 0) := by rw [← HC.out]; have := hexv_no c d1 d2 d3; show hexv c < 0; omega
      clear hnone
      go_wp2
      all_goals
        go_ret2
        exact .inl ⟨rfl, ⟨k, hlt, HN.out⟩, _, rfl⟩
    · have e4 : k = 4 := by omega
      subst e4
      have HB : Hid (∀ j, j < 4 → 0 ≤ hexv (zs[pos + j]?.getD 0)) := hnone
      clear hnone hc hw
      go_wp2
      go_ret2
      exact .inr ⟨rfl, HB.out, _, rfl⟩

end Go.Proofs.Qxb6619369a
