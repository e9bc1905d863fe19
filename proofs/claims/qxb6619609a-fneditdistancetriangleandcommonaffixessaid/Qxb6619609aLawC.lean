/-
  THE WALK OF FnEditDistanceTriangleAndCommonAffixes (5).
-/
import Derived.Test.Qxb6619609aJoin
import Derived.Test.Qxb6619609aBytes
namespace Go.Proofs.Qxb6619609a
open Go.RowKit Go.Deep
set_option linter.unusedVariables false

set_option maxHeartbeats 2000000 in
theorem lawC_big (a b c : ByteArray) (w : World) (ha : a.size ≤ 9223372036854775807) (hb : b.size ≤ 9223372036854775807) (hc : c.size ≤ 9223372036854775807) (h : ¬ (a.size ≤ 4096 ∧ b.size ≤ 4096 ∧ c.size ≤ 4096)) :
    Calls Try.prog 5 #[.string a, .string b, .string c] w fun e w' => e = .returned (.bool true) ∧ Below w.heap.size w w' := by
  have h3 : ¬ a.size ≤ 4096 ∨ (a.size ≤ 4096 ∧ ¬ b.size ≤ 4096) ∨ (a.size ≤ 4096 ∧ b.size ≤ 4096 ∧ ¬ c.size ≤ 4096) := by omega
  clear h
  rcases h3 with c1 | ⟨c1, c2⟩ | ⟨c1, c2, c3⟩
  all_goals
    go_enter Try.func5, Try.ntmps5
    go_wp2_with fail
    refine (bytes12 a b c w ha hb hc).mono ?_
    rintro e w' (⟨rfl, hw⟩ | ⟨rfl, hw⟩)
    · obtain rfl := hw.symm
      clear hw
      go_wp2
      go_ret
      exact ⟨rfl, Below.refl _ _⟩
    · obtain rfl := hw.symm
      clear hw
      go_wp2
      go_ret
      exact ⟨rfl, Below.refl _ _⟩

/-- the worlds behind one another. -/
theorem next {B : Nat} {w3 wk wl : World} (h : Below B w3 wk) (hB : B ≤ w3.heap.size) (h2 : Below wk.heap.size wk wl) : Below B w3 wl := h.trans (h2.mono (Nat.le_trans hB h.size))

theorem bytes_size (xs ys : List Int) (h1 : xs.length ≤ 4096) (h2 : ys.length ≤ 4096) : (runesBytes (xs ++ ys)).size ≤ 1048576 := by
  have := runesBytes_size_le (xs ++ ys)
  rw [List.length_append] at this
  omega
theorem ok_append {xs ys : List Int} (h1 : ∀ r ∈ xs, Ok r) (h2 : ∀ r ∈ ys, Ok r) : ∀ r ∈ xs ++ ys, Ok r := by
  intro r hr
  rcases List.mem_append.1 hr with h | h
  · exact h1 r h
  · exact h2 r h

set_option maxHeartbeats 4000000 in
/-- what the walk is told of the calls: no runes, no lists in sight. -/
theorem lawC_core (a b c sxz syz szx szy : ByteArray) (w w1 w2 w3 : World) (n m k ca cb cc lab lac lbc : Nat) (ha : a.size ≤ 4096) (hb : b.size ≤ 4096) (hc : c.size ≤ 4096)
    (hcv1 : (convert 9 25 (.string a)).run Try.prog w = .ok (.slice (some ⟨w.heap.size, 0, none⟩) n ca) w1)
    (hcv2 : (convert 9 25 (.string b)).run Try.prog w1 = .ok (.slice (some ⟨w1.heap.size, 0, none⟩) m cb) w2)
    (hcv3 : (convert 9 25 (.string c)).run Try.prog w2 = .ok (.slice (some ⟨w2.heap.size, 0, none⟩) k cc) w3)
    (B3 : Hid (Below w.heap.size w w3)) (S3 : Hid (w.heap.size ≤ w3.heap.size))
    (hlab : lab ≤ 8192) (hlbc : lbc ≤ 8192) (hlac : lac ≤ lab + lbc)
    (B12 : Hid (Calls Try.prog 12 #[.string a, .string b, .string c] w fun e w' => (e = .returned (.bool false) ∧ w' = w) ∨ (e = .returned (.bool true) ∧ w' = w)))
    (ZAB : Hid (∀ wx, Calls Try.prog 7 #[.string a, .string b] wx fun e w' => e = .returned (.int .i64 (lab : Int)) ∧ Below wx.heap.size wx w'))
    (ZAC : Hid (∀ wx, Calls Try.prog 7 #[.string a, .string c] wx fun e w' => e = .returned (.int .i64 (lac : Int)) ∧ Below wx.heap.size wx w'))
    (ZBC : Hid (∀ wx, Calls Try.prog 7 #[.string b, .string c] wx fun e w' => e = .returned (.int .i64 (lbc : Int)) ∧ Below wx.heap.size wx w'))
    (ZXZ : Hid (∀ wx, Calls Try.prog 7 #[.string sxz, .string syz] wx fun e w' => e = .returned (.int .i64 (lab : Int)) ∧ Below wx.heap.size wx w'))
    (ZZX : Hid (∀ wx, Calls Try.prog 7 #[.string szx, .string szy] wx fun e w' => e = .returned (.int .i64 (lab : Int)) ∧ Below wx.heap.size wx w'))
    (ZAX : Hid (∀ wx, Calls Try.prog 7 #[.string a, .string sxz] wx fun e w' => e = .returned (.int .i64 (k : Int)) ∧ Below wx.heap.size wx w'))
    (JXZ : Hid (∀ wx, Below w3.heap.size w3 wx → Calls Try.prog 13 #[.slice (some ⟨w.heap.size, 0, none⟩) n ca, .slice (some ⟨w2.heap.size, 0, none⟩) k cc] wx fun e w' => e = .returned (.string sxz) ∧ Below wx.heap.size wx w'))
    (JYZ : Hid (∀ wx, Below w3.heap.size w3 wx → Calls Try.prog 13 #[.slice (some ⟨w1.heap.size, 0, none⟩) m cb, .slice (some ⟨w2.heap.size, 0, none⟩) k cc] wx fun e w' => e = .returned (.string syz) ∧ Below wx.heap.size wx w'))
    (JZX : Hid (∀ wx, Below w3.heap.size w3 wx → Calls Try.prog 13 #[.slice (some ⟨w2.heap.size, 0, none⟩) k cc, .slice (some ⟨w.heap.size, 0, none⟩) n ca] wx fun e w' => e = .returned (.string szx) ∧ Below wx.heap.size wx w'))
    (JZY : Hid (∀ wx, Below w3.heap.size w3 wx → Calls Try.prog 13 #[.slice (some ⟨w2.heap.size, 0, none⟩) k cc, .slice (some ⟨w1.heap.size, 0, none⟩) m cb] wx fun e w' => e = .returned (.string szy) ∧ Below wx.heap.size wx w')) :
    Calls Try.prog 5 #[.string a, .string b, .string c] w fun e w' => e = .returned (.bool true) ∧ Below w.heap.size w w' := by
  go_enter Try.func5, Try.ntmps5
  go_wp2_with fail
  refine B12.out.mono ?_
  rintro e w' (⟨rfl, hw⟩ | ⟨rfl, hw⟩)
  · obtain rfl := hw.symm
    clear hw
    go_wp2
    go_ret
    exact ⟨rfl, Below.refl _ _⟩
  obtain rfl := hw.symm
  clear hw B12
  go_wp2_with fail
  refine (ZAB.out _).mono ?_
  rintro e w4 ⟨rfl, h4⟩
  have B4 : Hid (Below w3.heap.size w3 w4) := h4
  clear h4 hcv1 hcv2 hcv3
  go_wp2_with fail
  refine (ZAC.out _).mono ?_
  rintro e w5 ⟨rfl, h5⟩
  have B5 : Hid (Below w3.heap.size w3 w5) := next B4.out (Nat.le_refl _) h5
  clear h5
  go_wp2_with fail
  refine (ZBC.out _).mono ?_
  rintro e w6 ⟨rfl, h6⟩
  have B6 : Hid (Below w3.heap.size w3 w6) := next B5.out (Nat.le_refl _) h6
  clear h6
  go_wp2_with fail
  refine (JXZ.out _ B6.out).mono ?_
  rintro e w7 ⟨rfl, h7⟩
  have B7 : Hid (Below w3.heap.size w3 w7) := next B6.out (Nat.le_refl _) h7
  clear h7
  go_wp2_with fail
  refine (JYZ.out _ B7.out).mono ?_
  rintro e w8 ⟨rfl, h8⟩
  have B8 : Hid (Below w3.heap.size w3 w8) := next B7.out (Nat.le_refl _) h8
  clear h8
  go_wp2_with fail
  refine (ZXZ.out _).mono ?_
  rintro e w9 ⟨rfl, h9⟩
  have B9 : Hid (Below w3.heap.size w3 w9) := next B8.out (Nat.le_refl _) h9
  clear h9
  go_wp2_with fail
  refine (JZX.out _ B9.out).mono ?_
  rintro e w10 ⟨rfl, h10⟩
  have B10 : Hid (Below w3.heap.size w3 w10) := next B9.out (Nat.le_refl _) h10
  clear h10
  go_wp2_with fail
  refine (JZY.out _ B10.out).mono ?_
  rintro e w11 ⟨rfl, h11⟩
  have B11 : Hid (Below w3.heap.size w3 w11) := next B10.out (Nat.le_refl _) h11
  clear h11
  go_wp2_with fail
  refine (ZZX.out _).mono ?_
  rintro e w12 ⟨rfl, h12⟩
  have B12 : Hid (Below w3.heap.size w3 w12) := next B11.out (Nat.le_refl _) h12
  clear h12
  go_wp2_with fail
  refine (ZAX.out _).mono ?_
  rintro e w13 ⟨rfl, h13⟩
  have B13 : Hid (Below w3.heap.size w3 w13) := next B12.out (Nat.le_refl _) h13
  clear h13
  go_wp2
  go_ret
  exact ⟨rfl, B3.out.trans (B13.out.mono S3.out)⟩

theorem lawC_small (a b c : ByteArray) (w : World) (ha : a.size ≤ 4096) (hb : b.size ≤ 4096) (hc : c.size ≤ 4096) :
    Calls Try.prog 5 #[.string a, .string b, .string c] w fun e w' => e = .returned (.bool true) ∧ Below w.heap.size w w' := by
  obtain ⟨ca, w1, hcv1, hb1, hs1, hx⟩ := conv_runes a (by omega) w
  obtain ⟨cb, w2, hcv2, hb2, hs2, hy⟩ := conv_runes b (by omega) w1
  obtain ⟨cc, w3, hcv3, hb3, hs3, hz⟩ := conv_runes c (by omega) w2
  have la := runes_len a; have lb := runes_len b; have lc := runes_len c
  have oa := runes_ok a; have ob := runes_ok b; have oc := runes_ok c
  have X3 : ∀ wx, Below w3.heap.size w3 wx → ∀ i, i < (runes a).length → wx.cell? ⟨w.heap.size, i, none⟩ = some (.int .i32 ((runes a).getD i 0)) := fun wx hwx i hi =>
    (hwx.cell (by show w.heap.size < w3.heap.size; omega)).trans ((hb3.cell (by show w.heap.size < w2.heap.size; omega)).trans ((hb2.cell (by show w.heap.size < w1.heap.size; omega)).trans (hx i hi)))
  have Y3 : ∀ wx, Below w3.heap.size w3 wx → ∀ i, i < (runes b).length → wx.cell? ⟨w1.heap.size, i, none⟩ = some (.int .i32 ((runes b).getD i 0)) := fun wx hwx i hi =>
    (hwx.cell (by show w1.heap.size < w3.heap.size; omega)).trans ((hb3.cell (by show w1.heap.size < w2.heap.size; omega)).trans (hy i hi))
  have Z3 : ∀ wx, Below w3.heap.size w3 wx → ∀ i, i < (runes c).length → wx.cell? ⟨w2.heap.size, i, none⟩ = some (.int .i32 ((runes c).getD i 0)) := fun wx hwx i hi =>
    (hwx.cell (by show w2.heap.size < w3.heap.size; omega)).trans (hz i hi)
  have rxz := runes_bytes (runes a ++ runes c) (ok_append oa oc)
  have ryz := runes_bytes (runes b ++ runes c) (ok_append ob oc)
  have rzx := runes_bytes (runes c ++ runes a) (ok_append oc oa)
  have rzy := runes_bytes (runes c ++ runes b) (ok_append oc ob)
  refine lawC_core a b c (runesBytes (runes a ++ runes c)) (runesBytes (runes b ++ runes c)) (runesBytes (runes c ++ runes a)) (runesBytes (runes c ++ runes b)) w w1 w2 w3 _ _ _ ca cb cc
    (lev (runes a) (runes b)) (lev (runes a) (runes c)) (lev (runes b) (runes c)) ha hb hc hcv1 hcv2 hcv3 ?_ ?_ ?_ ?_ (lev_tri _ _ _) (bytes12 a b c w (by omega) (by omega) (by omega))
    (fun wx => zz_any a b wx (by omega) (by omega)) (fun wx => zz_any a c wx (by omega) (by omega)) (fun wx => zz_any b c wx (by omega) (by omega)) ?_ ?_ ?_ ?_ ?_ ?_ ?_
  · exact (hb1.trans (hb2.mono (by omega))).trans (hb3.mono (by omega))
  · show w.heap.size ≤ w3.heap.size; omega
  · have := (lev_bounds (runes a) (runes b)).2.2; omega
  · have := (lev_bounds (runes b) (runes c)).2.2; omega
  · intro wx
    have h := zz_any (runesBytes (runes a ++ runes c)) (runesBytes (runes b ++ runes c)) wx (bytes_size _ _ (by omega) (by omega)) (bytes_size _ _ (by omega) (by omega))
    rw [rxz, ryz, lev_suffix] at h; exact h
  · intro wx
    have h := zz_any (runesBytes (runes c ++ runes a)) (runesBytes (runes c ++ runes b)) wx (bytes_size _ _ (by omega) (by omega)) (bytes_size _ _ (by omega) (by omega))
    rw [rzx, rzy, lev_prefix] at h; exact h
  · intro wx
    have h := zz_any a (runesBytes (runes a ++ runes c)) wx (by omega) (bytes_size _ _ (by omega) (by omega))
    rw [rxz, lev_longer] at h; exact h
  · exact fun wx hwx => join_any w.heap.size w2.heap.size ca cc _ _ (runes a) (runes c) wx (by omega) (by omega) rfl rfl (by have := hwx.size; omega) (by have := hwx.size; omega) (X3 wx hwx) (Z3 wx hwx)
  · exact fun wx hwx => join_any w1.heap.size w2.heap.size cb cc _ _ (runes b) (runes c) wx (by omega) (by omega) rfl rfl (by have := hwx.size; omega) (by have := hwx.size; omega) (Y3 wx hwx) (Z3 wx hwx)
  · exact fun wx hwx => join_any w2.heap.size w.heap.size cc ca _ _ (runes c) (runes a) wx (by omega) (by omega) rfl rfl (by have := hwx.size; omega) (by have := hwx.size; omega) (Z3 wx hwx) (X3 wx hwx)
  · exact fun wx hwx => join_any w2.heap.size w1.heap.size cc cb _ _ (runes c) (runes b) wx (by omega) (by omega) rfl rfl (by have := hwx.size; omega) (by have := hwx.size; omega) (Z3 wx hwx) (Y3 wx hwx)
end Go.Proofs.Qxb6619609a
