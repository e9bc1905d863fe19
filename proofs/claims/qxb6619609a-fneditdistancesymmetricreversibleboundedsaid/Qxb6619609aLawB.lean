/-
  THE WALK OF FnEditDistanceSymmetricReversibleBounded (4).
-/
import Derived.Test.Qxb6619609aRev
import Derived.Test.Qxb6619609aBytes
namespace Go.Proofs.Qxb6619609a
open Go.RowKit Go.Deep
set_option linter.unusedVariables false

set_option maxHeartbeats 2000000 in
theorem lawB_big (a b : ByteArray) (w : World) (ha : a.size ≤ 9223372036854775807) (hb : b.size ≤ 9223372036854775807) (h : ¬ (a.size ≤ 4096 ∧ b.size ≤ 4096)) :
    Calls Try.prog 4 #[.string a, .string b] w fun e w' => e = .returned (.bool true) ∧ Below w.heap.size w w' := by
  have h3 : ¬ a.size ≤ 4096 ∨ (a.size ≤ 4096 ∧ ¬ b.size ≤ 4096) := by omega
  clear h
  rcases h3 with c1 | ⟨c1, c2⟩
  all_goals
    go_enter Try.func4, Try.ntmps4
    go_wp2_with fail
    refine (bytes9 a b w ha hb).mono ?_
    rintro e w' (⟨rfl, hw⟩ | ⟨rfl, hw⟩)
    · obtain rfl := hw.symm
      clear hw
      go_wp2
      go_ret
      exact ⟨rfl, Below.refl _ _⟩
    · obtain rfl := hw.symm
      clear hw
      go_wp2
      go_ret
      exact ⟨rfl, Below.refl _ _⟩

/-- the worlds behind one another. -/
theorem nextB {B : Nat} {w3 wk wl : World} (h : Below B w3 wk) (hB : B ≤ w3.heap.size) (h2 : Below wk.heap.size wk wl) : Below B w3 wl := h.trans (h2.mono (Nat.le_trans hB h.size))

set_option maxHeartbeats 4000000 in
/-- what the walk is told of the calls: no runes, no lists in sight. -/
theorem lawB_core (a b sx sy : ByteArray) (w w1 w2 : World) (n m ca cb d : Nat) (sb : Bool) (ha : a.size ≤ 4096) (hb : b.size ≤ 4096) (hn : n ≤ 4096) (hm : m ≤ 4096)
    (hcv1 : (convert 9 25 (.string a)).run Try.prog w = .ok (.slice (some ⟨w.heap.size, 0, none⟩) n ca) w1)
    (hcv2 : (convert 9 25 (.string b)).run Try.prog w1 = .ok (.slice (some ⟨w1.heap.size, 0, none⟩) m cb) w2)
    (B2 : Hid (Below w.heap.size w w2)) (S2 : Hid (w.heap.size ≤ w2.heap.size))
    (hd1 : n ≤ d + m) (hd2 : m ≤ d + n) (hd3 : d ≤ max n m) (hs : ((d : Int) == 0) = sb)
    (B9 : Hid (Calls Try.prog 9 #[.string a, .string b] w fun e w' => (e = .returned (.bool false) ∧ w' = w) ∨ (e = .returned (.bool true) ∧ w' = w)))
    (ZAB : Hid (∀ wx, Calls Try.prog 7 #[.string a, .string b] wx fun e w' => e = .returned (.int .i64 (d : Int)) ∧ Below wx.heap.size wx w'))
    (ZBA : Hid (∀ wx, Calls Try.prog 7 #[.string b, .string a] wx fun e w' => e = .returned (.int .i64 (d : Int)) ∧ Below wx.heap.size wx w'))
    (ZR : Hid (∀ wx, Calls Try.prog 7 #[.string sx, .string sy] wx fun e w' => e = .returned (.int .i64 (d : Int)) ∧ Below wx.heap.size wx w'))
    (RX : Hid (∀ wx, Below w2.heap.size w2 wx → Calls Try.prog 10 #[.slice (some ⟨w.heap.size, 0, none⟩) n ca] wx fun e w' => e = .returned (.string sx) ∧ Below wx.heap.size wx w'))
    (RY : Hid (∀ wx, Below w2.heap.size w2 wx → Calls Try.prog 10 #[.slice (some ⟨w1.heap.size, 0, none⟩) m cb] wx fun e w' => e = .returned (.string sy) ∧ Below wx.heap.size wx w'))
    (SM : Hid (∀ wx, Below w2.heap.size w2 wx → Calls Try.prog 11 #[.slice (some ⟨w.heap.size, 0, none⟩) n ca, .slice (some ⟨w1.heap.size, 0, none⟩) m cb] wx fun e w' => e = .returned (.bool sb) ∧ Below wx.heap.size wx w')) :
    Calls Try.prog 4 #[.string a, .string b] w fun e w' => e = .returned (.bool true) ∧ Below w.heap.size w w' := by
  go_enter Try.func4, Try.ntmps4
  go_wp2_with fail
  refine B9.out.mono ?_
  rintro e w' (⟨rfl, hw⟩ | ⟨rfl, hw⟩)
  · obtain rfl := hw.symm
    clear hw
    go_wp2
    go_ret
    exact ⟨rfl, Below.refl _ _⟩
  obtain rfl := hw.symm
  clear hw B9
  go_wp2_with fail
  refine (ZAB.out _).mono ?_
  rintro e w3 ⟨rfl, h3⟩
  have B3 : Hid (Below w2.heap.size w2 w3) := h3
  clear h3 hcv1 hcv2
  go_wp2_with fail
  refine (ZBA.out _).mono ?_
  rintro e w4 ⟨rfl, h4⟩
  have B4 : Hid (Below w2.heap.size w2 w4) := nextB B3.out (Nat.le_refl _) h4
  clear h4
  go_wp2_with fail
  refine (RX.out _ B4.out).mono ?_
  rintro e w5 ⟨rfl, h5⟩
  have B5 : Hid (Below w2.heap.size w2 w5) := nextB B4.out (Nat.le_refl _) h5
  clear h5
  go_wp2_with fail
  refine (RY.out _ B5.out).mono ?_
  rintro e w6 ⟨rfl, h6⟩
  have B6 : Hid (Below w2.heap.size w2 w6) := nextB B5.out (Nat.le_refl _) h6
  clear h6
  go_wp2_with fail
  refine (ZR.out _).mono ?_
  rintro e w7 ⟨rfl, h7⟩
  have B7 : Hid (Below w2.heap.size w2 w7) := nextB B6.out (Nat.le_refl _) h7
  clear h7
  by_cases c : n < m
  all_goals
    go_wp2_with fail
    refine (SM.out _ B7.out).mono ?_
    rintro e w8 ⟨rfl, h8⟩
    have B8 : Hid (Below w2.heap.size w2 w8) := nextB B7.out (Nat.le_refl _) h8
    clear h8
    go_wp2
    go_ret
    exact ⟨rfl, B2.out.trans (B8.out.mono S2.out)⟩

theorem rev_size (xs : List Int) (h1 : xs.length ≤ 4096) : (runesBytes xs.reverse).size ≤ 1048576 := by
  have := runesBytes_size_le xs.reverse
  rw [List.length_reverse] at this
  omega

theorem lawB_small (a b : ByteArray) (w : World) (ha : a.size ≤ 4096) (hb : b.size ≤ 4096) :
    Calls Try.prog 4 #[.string a, .string b] w fun e w' => e = .returned (.bool true) ∧ Below w.heap.size w w' := by
  obtain ⟨ca, w1, hcv1, hb1, hs1, hx⟩ := conv_runes a (by omega) w
  obtain ⟨cb, w2, hcv2, hb2, hs2, hy⟩ := conv_runes b (by omega) w1
  have la := runes_len a; have lb := runes_len b
  have oa := runes_ok a; have ob := runes_ok b
  have X2 : ∀ wx, Below w2.heap.size w2 wx → ∀ i, i < (runes a).length → wx.cell? ⟨w.heap.size, i, none⟩ = some (.int .i32 ((runes a).getD i 0)) := fun wx hwx i hi =>
    (hwx.cell (by show w.heap.size < w2.heap.size; omega)).trans ((hb2.cell (by show w.heap.size < w1.heap.size; omega)).trans (hx i hi))
  have Y2 : ∀ wx, Below w2.heap.size w2 wx → ∀ i, i < (runes b).length → wx.cell? ⟨w1.heap.size, i, none⟩ = some (.int .i32 ((runes b).getD i 0)) := fun wx hwx i hi =>
    (hwx.cell (by show w1.heap.size < w2.heap.size; omega)).trans (hy i hi)
  have rx := runes_bytes (runes a).reverse (fun r hr => oa r (List.mem_reverse.1 hr))
  have ry := runes_bytes (runes b).reverse (fun r hr => ob r (List.mem_reverse.1 hr))
  have bd := lev_bounds (runes a) (runes b)
  have bw : Below w.heap.size w w2 := hb1.trans (hb2.mono (by omega))
  refine lawB_core a b (runesBytes (runes a).reverse) (runesBytes (runes b).reverse) w w1 w2 _ _ ca cb (lev (runes a) (runes b)) (decide (runes a = runes b)) ha hb (by omega) (by omega) hcv1 hcv2 bw ?_ bd.1 bd.2.1 bd.2.2 ?_
    (bytes9 a b w (by omega) (by omega)) (fun wx => zz_any a b wx (by omega) (by omega)) ?_ ?_ ?_ ?_ ?_
  · show w.heap.size ≤ w2.heap.size; omega
  · have h := lev_zero_iff (runes a) (runes b)
    by_cases e : runes a = runes b
    · rw [h.2 e, decide_eq_true e]; rfl
    · rw [decide_eq_false e]
      have : lev (runes a) (runes b) ≠ 0 := fun h0 => e (h.1 h0)
      simp; omega
  · intro wx
    have h := zz_any b a wx (by omega) (by omega)
    rw [lev_comm] at h; exact h
  · intro wx
    have h := zz_any (runesBytes (runes a).reverse) (runesBytes (runes b).reverse) wx (rev_size _ (by omega)) (rev_size _ (by omega))
    rw [rx, ry, lev_reverse] at h; exact h
  · exact fun wx hwx => rev_any w.heap.size ca _ (runes a) wx (by omega) rfl (by have := hwx.size; omega) (X2 wx hwx)
  · exact fun wx hwx => rev_any w1.heap.size cb _ (runes b) wx (by omega) rfl (by have := hwx.size; omega) (Y2 wx hwx)
  · intro wx hwx
    by_cases e : runes a = runes b
    · rw [decide_eq_true e]
      have hy' := Y2 wx hwx
      rw [← e] at hy' ⊢
      exact same_yes w.heap.size w1.heap.size ca cb _ (runes a) wx (by omega) (X2 wx hwx) hy'
    · rw [decide_eq_false e]
      by_cases el : (runes a).length = (runes b).length
      · have hy' := Y2 wx hwx
        rw [← el] at hy' ⊢
        exact same_no w.heap.size w1.heap.size ca cb _ (runes a) (runes b) wx (by omega) rfl el e (X2 wx hwx) hy'
      · exact same_len _ _ ca cb _ _ wx el
end Go.Proofs.Qxb6619609a
