/-
  THE WALK OF FnModuleIsFirstOfNameAtEveryCut (3).
-/
import Derived.Test.Qxb6619608aBytes
namespace Go.Proofs.Qxb6619608a
open Go.RowKit
set_option linter.unusedVariables false

/-- a look-up and the place of what it found. -/
theorem look (p m n : Nat) (L : List ByteArray) (nm : ByteArray) (w : World) (hn : n ≤ 1048576) (hP : PlanAt w p m n L) : ∃ (q : Option Addr) (v : Int),
    (Calls Try.prog 6 #[.pointer (some ⟨p, 0, none⟩), .string nm] w fun e w' => e = .returned (.pointer q) ∧ w' = w) ∧
    (Calls Try.prog 7 #[.slice (some ⟨m, 0, none⟩) n n, .pointer q] w fun e w' => e = .returned (.int .i64 v) ∧ w' = w) ∧
    ((∃ r : Nat, r < n ∧ idx nm L = r ∧ v = (r : Int) ∧ q = some ⟨m, r * 9, none⟩) ∨ (¬ idx nm L < n ∧ v = -1 ∧ q = none)) := by
  by_cases h : idx nm L < n
  · exact ⟨_, _, zzm_hit p m n L nm w hn hP _ rfl h, index_some p m n L w hn hP _ h, .inl ⟨_, h, rfl, rfl, rfl⟩⟩
  · exact ⟨_, _, zzm_miss p m n L nm w hn hP h, index_nil _ _ _ w, .inr ⟨h, rfl, rfl⟩⟩

theorem Read.later {w w' : World} {a : Option Addr} {L : List ByteArray} {n : Nat} (h : Read w a L n) (hb : Below w.heap.size w w') : Read w' a L n := by
  intro i hi
  obtain ⟨b, off, h1, h2⟩ := h i hi
  exact ⟨b, off, h1, (hb.cell (block_lt_of_cell h2)).trans h2⟩

theorem Strs.later {w w' : World} {a : Option Addr} {L : List ByteArray} (h : Strs w a L) (hb : Below w.heap.size w w') : Strs w' a L := by
  rcases h with h | ⟨b, off, h1, h2⟩
  · exact .inl h
  · exact .inr ⟨b, off, h1, fun i hi => (hb.cell (block_lt_of_cell (h2 i hi))).trans (h2 i hi)⟩

set_option maxHeartbeats 400000 in
theorem law_big (a : Option Addr) (n cap : Nat) (p : Int) (nm : ByteArray) (w : World) (hm : n ≤ 9223372036854775807) (h : ¬ n ≤ 1048576) :
    Calls Try.prog 3 #[.slice a n cap, .int .i64 p, .string nm] w fun e w' => e = .returned (.bool true) ∧ Below w.heap.size w w' := by
  go_enter Try.func3, Try.ntmps3
  go_wp2_with (go_at_call 4; refine (bytes_big _ _ _ _ _ _ hm h).mono ?_; rintro e w' ⟨rfl, hw⟩; obtain rfl := hw.symm; clear hw)
  go_ret
  exact ⟨rfl, Below.refl _ _⟩

set_option maxHeartbeats 2000000 in
theorem law_any (a : Option Addr) (n cap : Nat) (p : Int) (nm : ByteArray) (L : List ByteArray) (w : World) (h : n ≤ 1048576) (hnc : n ≤ cap) (hL : L.length = n) (hR : Read w a L n)
    (hnm : nm.size ≤ maxLen) (hsz : ∀ i, (L.getD i ByteArray.empty).size ≤ maxLen)
    (hcalls : ∀ c : Nat, c ≤ n → ∃ a1 a2 : Option Addr, (∀ wx : World, (Instr.slice 22 (.slice a n cap) none (some (.int .i64 (c : Int))) none).run Try.prog wx = .ok (.slice a1 c cap) wx) ∧
      (∀ wx : World, (Instr.slice 22 (.slice a n cap) (some (.int .i64 (c : Int))) none none).run Try.prog wx = .ok (.slice a2 (n - c) (cap - c)) wx) ∧ Strs w a (L) ∧ Strs w a1 (L.take c) ∧ Strs w a2 (L.drop c)) :
    Calls Try.prog 3 #[.slice a n cap, .int .i64 p, .string nm] w fun e w' => e = .returned (.bool true) ∧ Below w.heap.size w w' := by
  have HB := bytes_any a n cap p nm L w h hR hnm hsz
  unfold maxLen at hnm
  have HB' : Hid (Calls Try.prog 4 #[.slice a n cap, .int .i64 p, .string nm] w fun e w' => (e = .returned (.bool false) ∧ w' = w) ∨ (e = .returned (.bool true) ∧ w' = w ∧ Hid (nm.size ≤ 1048576 ∧ ∀ i, i < n → (L.getD i ByteArray.empty).size ≤ 1048576))) := HB
  have HR : Hid (Read w a L n) := hR
  have HCL : Hid (∀ c : Nat, c ≤ n → ∃ a1 a2 : Option Addr, (∀ wx : World, (Instr.slice 22 (.slice a n cap) none (some (.int .i64 (c : Int))) none).run Try.prog wx = .ok (.slice a1 c cap) wx) ∧
      (∀ wx : World, (Instr.slice 22 (.slice a n cap) (some (.int .i64 (c : Int))) none none).run Try.prog wx = .ok (.slice a2 (n - c) (cap - c)) wx) ∧ Strs w a (L) ∧ Strs w a1 (L.take c) ∧ Strs w a2 (L.drop c)) := hcalls
  have HL : Hid (L.length = n) := hL
  clear HB hR hsz hcalls hL
  go_enter Try.func3, Try.ntmps3
  go_wp2_with fail
  refine HB'.out.mono ?_
  rintro e w' (⟨rfl, hw⟩ | ⟨rfl, hw, hbd⟩)
  · obtain rfl := hw.symm
    clear hw
    go_wp2
    go_ret
    exact ⟨rfl, Below.refl _ _⟩
  obtain rfl := hw.symm
  clear hw HB'
  have HZ : Hid (∀ i, i < n → (L.getD i ByteArray.empty).size ≤ 1048576) := hbd.out.2
  have hnz : nm.size ≤ 1048576 := hbd.out.1
  clear hbd
  go_wp2
  go_loop [7, 8] (fun t i => ∃ k : Nat, k ≤ n ∧ i = .int .i64 k ∧ ∃ z : Nat, z ≤ 1048576 ∧ t = .int .i64 z) (fun _ i => n - (intOf i).toNat)
  case atStart => exact ⟨0, Nat.zero_le _, rfl, nm.size, hnz, rfl⟩
  case round =>
    obtain ⟨k, hk, rfl, z, hz, rfl⟩ := hrel
    by_cases hlt : k < n
    · obtain ⟨b, off, rfl, hcx⟩ := HR.out k hlt
      obtain ⟨s, hs⟩ : ∃ s, s = L.getD k ByteArray.empty := ⟨_, rfl⟩
      have hss : s.size ≤ 1048576 := by rw [hs]; exact HZ.out k hlt
      rw [← hs] at hcx
      clear hs
      by_cases c2 : z + (16 + s.size) ≤ 1048576
      · go_wp2
        go_round
        case rel => exact ⟨k + 1, by omega, by go_num, z + (16 + s.size), c2, by go_num⟩
        case measure => simp [intOf]; omega
      · go_wp2
        go_ret
        exact ⟨rfl, Below.refl _ _⟩
    · by_cases c0 : p < 0
      · go_wp2
        go_ret
        exact ⟨rfl, Below.refl _ _⟩
      by_cases c1 : (n : Int) < p
      · go_wp2
        go_ret
        exact ⟨rfl, Below.refl _ _⟩
      obtain ⟨c, rfl⟩ : ∃ c : Nat, p = (c : Int) := ⟨p.toNat, by omega⟩
      have hcn : c ≤ n := by omega
      obtain ⟨a1, a2, hs1, hs2, S0, S1, S2⟩ := HCL.out c hcn
      have T0 : Hid (Strs w a L) := S0
      have T1 : Hid (Strs w a1 (L.take c)) := S1
      have T2 : Hid (Strs w a2 (L.drop c)) := S2
      clear S0 S1 S2 HCL
      go_wp2_with fail
      refine (plan_any a cap L n _ h HL.out T0.out).mono ?_
      rintro e w1 ⟨rfl, hb1, hz1, P1⟩
      have B1 : Hid (Below w.heap.size w w1) := hb1
      have Q1 : Hid (PlanAt w1 (w.heap.size + 1) w.heap.size n L) := P1
      clear hb1 hz1 P1
      go_wp2_with fail
      refine (plan_any a1 cap (L.take c) c _ (by omega) (by have := HL.out; simp; omega) (T1.out.later B1.out)).mono ?_
      rintro e w2 ⟨rfl, hb2, hz2, P2⟩
      have B2 : Hid (Below w1.heap.size w1 w2) := hb2
      have Q2 : Hid (PlanAt w2 (w1.heap.size + 1) w1.heap.size c (L.take c)) := P2
      clear hb2 hz2 P2
      go_wp2_with fail
      refine (plan_any a2 (cap - c) (L.drop c) (n - c) _ (by omega) (by have := HL.out; simp; omega) ((T2.out.later B1.out).later B2.out)).mono ?_
      rintro e w3 ⟨rfl, hb3, hz3, P3⟩
      have B3 : Hid (Below w2.heap.size w2 w3) := hb3
      have Q3 : Hid (PlanAt w3 (w2.heap.size + 1) w2.heap.size (n - c) (L.drop c)) := P3
      clear hb3 hz3 P3
      have BW : Hid (Below w.heap.size w w3) := (B1.out.trans (B2.out.mono B1.out.size)).trans (B3.out.mono (Nat.le_trans B1.out.size B2.out.size))
      have R3 : Hid (Read w3 a L n) := HR.out.later BW.out
      have U1 := (Q1.out.later B2.out).later B3.out
      have U2 := Q2.out.later B3.out
      have U3 := Q3.out
      have hcut := idx_cut nm L c (by rw [HL.out]; exact hcn)
      obtain ⟨qw, vw, Lw, Iw, hw⟩ := look _ _ _ _ nm w3 h U1
      obtain ⟨ql, vl, Ll, Il, hl⟩ := look _ _ _ _ nm w3 (by omega) U2
      obtain ⟨qr, vr, Lr, Ir, hr⟩ := look _ _ _ _ nm w3 (by omega) U3
      have m1 := U1.cell
      have m2 := U2.cell
      have m3 := U3.cell
      have V1 : Hid (PlanAt w3 (w.heap.size + 1) w.heap.size n L) := U1
      clear U1 U2 U3 Q1 Q2 Q3 B1 B2 B3 T0 T1 T2 HR HZ hs1 hs2
      have JW : Hid (Calls Try.prog 6 #[.pointer (some ⟨w.heap.size + 1, 0, none⟩), .string nm] w3 fun e w' => e = .returned (.pointer qw) ∧ w' = w3) := Lw
      have JL : Hid (Calls Try.prog 6 #[.pointer (some ⟨w1.heap.size + 1, 0, none⟩), .string nm] w3 fun e w' => e = .returned (.pointer ql) ∧ w' = w3) := Ll
      have JR : Hid (Calls Try.prog 6 #[.pointer (some ⟨w2.heap.size + 1, 0, none⟩), .string nm] w3 fun e w' => e = .returned (.pointer qr) ∧ w' = w3) := Lr
      have KW : Hid (Calls Try.prog 7 #[.slice (some ⟨w.heap.size, 0, none⟩) n n, .pointer qw] w3 fun e w' => e = .returned (.int .i64 vw) ∧ w' = w3) := Iw
      have KL : Hid (Calls Try.prog 7 #[.slice (some ⟨w1.heap.size, 0, none⟩) c c, .pointer ql] w3 fun e w' => e = .returned (.int .i64 vl) ∧ w' = w3) := Il
      have KR : Hid (Calls Try.prog 7 #[.slice (some ⟨w2.heap.size, 0, none⟩) (n - c) (n - c), .pointer qr] w3 fun e w' => e = .returned (.int .i64 vr) ∧ w' = w3) := Ir
      have HWv : Hid ((∃ r : Nat, r < n ∧ idx nm L = r ∧ vw = (r : Int) ∧ qw = some ⟨w.heap.size, r * 9, none⟩) ∨ (¬ idx nm L < n ∧ vw = -1 ∧ qw = none)) := hw
      have hwn : -1 ≤ vw ∧ vw ≤ 1048576 := by rcases hw with ⟨r, h⟩ | h <;> omega
      have hln : -1 ≤ vl ∧ vl ≤ 1048576 := by rcases hl with ⟨r, h⟩ | h <;> omega
      have hrn : -1 ≤ vr ∧ vr ≤ 1048576 := by rcases hr with ⟨r, h⟩ | h <;> omega
      have HX : Hid (if 0 ≤ vl then vw = vl else if 0 ≤ vr then vw = c + vr else vw = -1) := by
        show if 0 ≤ vl then vw = vl else if 0 ≤ vr then vw = c + vr else vw = -1
        rcases hl with ⟨l0, l1, l3, l2, _⟩ | ⟨l1, l2, _⟩
        · rw [if_pos (by omega)]
          rw [if_pos (by rw [l3]; exact l1)] at hcut
          rcases hw with ⟨k0, k1, k3, k2, _⟩ | ⟨k1, k2, _⟩ <;> omega
        · rw [if_neg (by omega)]
          rw [if_neg l1] at hcut
          rcases hr with ⟨r0, r1, r3, r2, _⟩ | ⟨r1, r2, _⟩
          · rw [if_pos (by omega)]
            rcases hw with ⟨k0, k1, k3, k2, _⟩ | ⟨k1, k2, _⟩ <;> omega
          · rw [if_neg (by omega)]
            rcases hw with ⟨k0, k1, k3, k2, _⟩ | ⟨k1, k2, _⟩ <;> omega
      clear hw hl hr hcut Lw Ll Lr Iw Il Ir
      obtain ⟨hwn0, hwn1⟩ := hwn
      obtain ⟨hln0, hln1⟩ := hln
      obtain ⟨hrn0, hrn1⟩ := hrn
      go_wp2_with fail
      refine JW.out.mono ?_
      rintro e w' ⟨rfl, hw⟩
      obtain rfl := hw.symm
      clear hw
      go_wp2_with fail
      refine JL.out.mono ?_
      rintro e w' ⟨rfl, hw⟩
      obtain rfl := hw.symm
      clear hw
      go_wp2_with fail
      refine JR.out.mono ?_
      rintro e w' ⟨rfl, hw⟩
      obtain rfl := hw.symm
      clear hw
      go_wp2_with fail
      refine KW.out.mono ?_
      rintro e w' ⟨rfl, hw⟩
      obtain rfl := hw.symm
      clear hw
      go_wp2_with fail
      refine KL.out.mono ?_
      rintro e w' ⟨rfl, hw⟩
      obtain rfl := hw.symm
      clear hw
      go_wp2_with fail
      refine KR.out.mono ?_
      rintro e w' ⟨rfl, hw⟩
      obtain rfl := hw.symm
      clear hw
      clear JW JL JR KW KL KR m1 m2 m3
      by_cases hv : vw = -1
      · subst hv
        have hno : ¬ idx nm L < n := by
          rcases HWv.out with ⟨k0, k1, k3, k2, _⟩ | ⟨k1, k2, _⟩
          · omega
          · exact k1
        have HNO : Hid (∀ j, j < n → eqS (L.getD j ByteArray.empty) nm = false) := fun j hj => idx_before nm L j (by omega)
        have hvv : vl = -1 ∧ vr = -1 := by
          have hx := HX.out
          split at hx
          · omega
          · split at hx <;> omega
        obtain ⟨rfl, rfl⟩ := hvv
        clear hno HX HWv V1
        go_wp2
        go_loop [18] (fun i => ∃ k : Nat, k ≤ n ∧ i = .int .i64 k) (fun i => n - (intOf i).toNat)
        case atStart => exact ⟨0, Nat.zero_le _, rfl⟩
        case round =>
          obtain ⟨k, hk, rfl⟩ := hrel
          by_cases hlt : k < n
          · obtain ⟨b, off, rfl, hcx⟩ := R3.out k hlt
            obtain ⟨s, hs⟩ : ∃ s, s = L.getD k ByteArray.empty := ⟨_, rfl⟩
            have hq : (s.toList == nm.toList) = false := by rw [hs]; exact HNO.out k hlt
            rw [← hs] at hcx
            clear hs
            go_wp2
            go_round
            case rel => exact ⟨k + 1, by omega, by go_num⟩
            case measure => simp [intOf]; omega
          · go_wp2
            go_ret
            exact ⟨rfl, BW.out⟩
      · have hyes : ∃ r : Nat, r < n ∧ idx nm L = r ∧ vw = (r : Int) ∧ qw = some ⟨w.heap.size, r * 9, none⟩ := by
          rcases HWv.out with k1 | ⟨_, k2, _⟩
          · exact k1
          · exact absurd k2 hv
        obtain ⟨r, hrn', hri, rfl, rfl⟩ := hyes
        have HNO : Hid (∀ j, j < r → eqS (L.getD j ByteArray.empty) nm = false) := fun j hj => idx_before nm L j (by omega)
        have hat := idx_at nm L (by rw [HL.out, hri]; exact hrn')
        rw [hri] at hat
        have hmod := V1.out.at _ hrn'
        obtain ⟨b, off, rfl, hcr⟩ := R3.out _ hrn'
        obtain ⟨s, hs⟩ : ∃ s, s = L.getD r ByteArray.empty := ⟨_, rfl⟩
        rw [← hs] at hat hmod hcr
        have hq : (s.toList == nm.toList) = true := hat
        clear hs hri hat V1 HWv hv hwn0 hwn1 hnm
        have hz2 : ((r : Int) == -2) = false := by simp
        have hz3 : ((r : Int) == -1) = false := by simp
        have hz4 : (vl == -2) = false := by simp; omega
        have hz5 : (vr == -2) = false := by simp; omega
        clear hln0 hrn0
        go_wp2
        go_loop [19] (fun i => ∃ k : Nat, k ≤ r ∧ i = .int .i64 k) (fun i => r - (intOf i).toNat)
        case atStart => exact ⟨0, Nat.zero_le _, rfl⟩
        case round =>
          obtain ⟨k, hk, rfl⟩ := hrel
          by_cases hlt : k < r
          · obtain ⟨b', off', hbo, hcx⟩ := R3.out k (by omega)
            simp only [Option.some.injEq, Addr.mk.injEq] at hbo
            obtain ⟨rfl, rfl, _⟩ := hbo
            obtain ⟨s', hs⟩ : ∃ s, s = L.getD k ByteArray.empty := ⟨_, rfl⟩
            have hq' : (s'.toList == nm.toList) = false := by rw [hs]; exact HNO.out k hlt
            rw [← hs] at hcx
            clear hs
            go_wp2
            go_round
            case rel => exact ⟨k + 1, by omega, by go_num⟩
            case measure => simp [intOf]; omega
          · by_cases x1 : 0 ≤ vl
            · have hx := HX.out
              rw [if_pos x1] at hx
              have e : ((r : Int) == vl) = true := by simp [hx]
              clear hx HX
              go_wp2
              go_ret
              exact ⟨rfl, BW.out⟩
            · have hx := HX.out
              rw [if_neg x1] at hx
              by_cases x2 : 0 ≤ vr
              · rw [if_pos x2] at hx
                have e : ((r : Int) == (c : Int) + vr) = true := by simp [hx]
                clear hx HX
                go_wp2
                go_ret
                exact ⟨rfl, BW.out⟩
              · rw [if_neg x2] at hx
                omega
end Go.Proofs.Qxb6619608a
