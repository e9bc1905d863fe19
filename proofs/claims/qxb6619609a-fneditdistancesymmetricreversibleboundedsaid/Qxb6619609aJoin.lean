/-
  zzJoinRunes (13).
-/
import Derived.Test.Qxb6619609aEd
import Derived.Test.Qxb6619609aUtf
import Derived.OwnWalk
namespace Go.Proofs.Qxb6619609a
open Go.RowKit Go.Deep
set_option linter.unusedVariables false

theorem info21 : (Try.prog.info? 21).map (fun i => (i.zero, i.size, i.bytes)) = some (some (.int .i32 0), 1, 4) := by kernel_rfl

/-- 'string(rs)' of a row of runes in memory. -/
theorem conv_back (w : World) (b cap n : Nat) (rs : List Int) (hn : rs.length = n) (hc : ∀ j, j < n → w.cell? ⟨b, j, none⟩ = some (.int .i32 (rs.getD j 0))) :
    (convert 25 9 (.slice (some ⟨b, 0, none⟩) n cap)).run Try.prog w = .ok (.string (runesBytes rs)) w := by
  have h := run_convert_runes (P := Try.prog) w 25 9 21 ⟨b, 0, none⟩ n cap rs (by omega) Try.underlying25 Try.underlying21 Try.underlying9 (fun j hj => by
    have := hc j (by omega)
    rw [← this, show ((⟨b, 0, none⟩ : Addr).add j) = ⟨b, j, none⟩ by unfold Addr.add; split <;> simp_all])
  rw [List.take_of_length_le (by omega)] at h
  exact h

theorem cells_of_ints (w : World) (b n : Nat) (xs : List Int) (hn : n = xs.length) (hx : ∀ i, i < n → w.cell? ⟨b, i, none⟩ = some (.int .i32 (xs.getD i 0))) :
    ∀ (j : Nat) (u : Value), (xs.map (Value.int .i32))[j]? = some u → w.cell? ((⟨b, 0, none⟩ : Addr).add j) = some u := by
  intro j u hj
  have hlt : j < xs.length := by
    by_cases e : j < xs.length
    · exact e
    · rw [List.getElem?_eq_none (by simp; omega)] at hj; cases hj
  rw [List.getElem?_map, List.getElem?_eq_getElem hlt] at hj
  simp at hj
  subst hj
  have := hx j (by omega)
  rw [show ((⟨b, 0, none⟩ : Addr).add j) = ⟨b, j, none⟩ by unfold Addr.add; split <;> simp_all, this]
  simp [List.getD, List.getElem?_eq_getElem hlt]
theorem one_ints (xs : List Int) : ∀ u ∈ xs.map (Value.int .i32), u.oneCell' = true := by
  intro u hu; obtain ⟨n, _, rfl⟩ := List.mem_map.1 hu; rfl

theorem own_cell {w : World} {B b n cap : Nat} {rs : List Int} (h : w.ownsRow B 21 1 (.slice (some ⟨b, 0, none⟩) n cap) n (rs.map (Value.int .i32))) (hn : rs.length = n) (j : Nat) (hj : j < n) : w.cell? ⟨b, j, none⟩ = some (.int .i32 (rs.getD j 0)) := by
  have := h.cells (g := b) rfl j (.int .i32 (rs.getD j 0)) (by rw [List.getElem?_map, List.getElem?_eq_getElem (by omega)]; simp [List.getD, List.getElem?_eq_getElem (show j < rs.length by omega)])
  rw [← this, show ((⟨b, 0, none⟩ : Addr).add j) = ⟨b, j, none⟩ by unfold Addr.add; split <;> simp_all]

theorem ret_str {a b : ByteArray} (h : a = b) : Ending.returned (.string a) = .returned (.string b) := by rw [h]

/-- behind the first append. -/
theorem step1 {w w0 w1 : World} {bey n m : Nat} {xs ys : List Int} (h0 : w.grownBy w0 none)
    (ho : w1.ownsRow w.heap.size 21 1 (.slice (some ⟨w.heap.size, 0, none⟩) (0 + n) (n + m)) (0 + n) ([] ++ xs.map (Value.int .i32))) (h1 : w0.grownBy w1 (some w.heap.size)) (hby : bey < w.heap.size)
    (hm : m = ys.length) (hy : ∀ i, i < m → w.cell? ⟨bey, i, none⟩ = some (.int .i32 (ys.getD i 0))) :
    Hid (w1.ownsRow w.heap.size 21 1 (.slice (some ⟨w.heap.size, 0, none⟩) n (n + m)) n (xs.map (Value.int .i32))) ∧ Hid (w0.grownBy w1 (some w.heap.size)) ∧
    Hid (∀ (j : Nat) (u : Value), (ys.map (Value.int .i32))[j]? = some u → w1.cell? ((⟨bey, 0, none⟩ : Addr).add j) = some u) := by
  rw [Nat.zero_add, List.nil_append] at ho
  refine ⟨ho, h1, cells_of_ints w1 bey m ys hm fun i hi => ?_⟩
  exact h1.cell (h0.cell (hy i hi) (fun h => by cases h)) (fun h => by have := Option.some.inj h; simp at this; omega)
/-- behind the second. -/
theorem step2 {w w0 w1 w2 : World} {n m : Nat} {xs ys : List Int} (h0 : w.grownBy w0 none) (h1 : w0.grownBy w1 (some w.heap.size))
    (ho : w2.ownsRow w.heap.size 21 1 (.slice (some ⟨w.heap.size, 0, none⟩) (n + m) (n + m)) (n + m) (xs.map (Value.int .i32) ++ ys.map (Value.int .i32))) (h2 : w1.grownBy w2 (some w.heap.size))
    (hn : n = xs.length) (hm : m = ys.length) :
    (convert 25 9 (.slice (some ⟨w.heap.size, 0, none⟩) (n + m) (n + m))).run Try.prog w2 = .ok (.string (runesBytes (xs ++ ys))) w2 ∧ Hid (Below w.heap.size w w2) := by
  rw [← List.map_append] at ho
  refine ⟨conv_back w2 w.heap.size (n + m) (n + m) (xs ++ ys) (by simp [hn, hm]) fun j hj => own_cell ho (by simp [hn, hm]) j hj, ?_⟩
  exact (((Below.refl _ _).grown h0 (Nat.le_refl _) (fun k h => by cases h)).grown h1 h0.size (fun k h => by cases h; exact Nat.le_refl _)).grown h2 (Nat.le_trans h0.size h1.size) (fun k h => by cases h; exact Nat.le_refl _)

set_option maxHeartbeats 1000000 in
theorem join_any (bx bey cx cy n m : Nat) (xs ys : List Int) (w : World) (hn20 : n ≤ 1048576) (hm20 : m ≤ 1048576) (hn : n = xs.length) (hm : m = ys.length)
    (hbx : bx < w.heap.size) (hby : bey < w.heap.size)
    (hx : ∀ i, i < n → w.cell? ⟨bx, i, none⟩ = some (.int .i32 (xs.getD i 0))) (hy : ∀ i, i < m → w.cell? ⟨bey, i, none⟩ = some (.int .i32 (ys.getD i 0))) :
    Calls Try.prog 13 #[.slice (some ⟨bx, 0, none⟩) n cx, .slice (some ⟨bey, 0, none⟩) m cy] w fun e w' => e = .returned (.string (runesBytes (xs ++ ys))) ∧ Below w.heap.size w w' := by
  obtain ⟨i0, hi, hz0, hz1, hz2⟩ := info_parts info21
  have HN : Hid (n = xs.length) := hn
  have HM : Hid (m = ys.length) := hm
  have HX : Hid (∀ i, i < n → w.cell? ⟨bx, i, none⟩ = some (.int .i32 (xs.getD i 0))) := hx
  have HY : Hid (∀ i, i < m → w.cell? ⟨bey, i, none⟩ = some (.int .i32 (ys.getD i 0))) := hy
  clear hn hm hx hy
  go_enter Try.func13, Try.ntmps13
  go_wp2_with (at_make; refine wpList_make_own _ rfl _ _ 25 rfl w.heap.size 21 i0 (.int .i32 0) 1 Try.underlying25 hi hz0 hz1 _ _ _ (n + m) rfl rfl (by omega) ?b2 ?b3 (Nat.le_refl _) ?_)
  case b2 => rw [hz2]; omega
  case b3 => unfold maxLen; omega
  intro w0 hown0 hgrow0
  have X0 := cells_of_ints w0 bx n xs HN.out (fun i hi => hgrow0.cell (HX.out i hi) (fun h => by cases h))
  have HO0 : Hid (w0.ownsRow w.heap.size 21 1 (.slice (some ⟨w.heap.size, 0, none⟩) 0 (n + m)) 0 []) := hown0
  have HG0 : Hid (w.grownBy w0 none) := hgrow0
  have HX0 : Hid (∀ (j : Nat) (u : Value), (xs.map (Value.int .i32))[j]? = some u → w0.cell? ((⟨bx, 0, none⟩ : Addr).add j) = some u) := X0
  clear hown0 hgrow0 X0
  go_wp2_with (first
    | (at_builtin; refine wpList_append_fits _ rfl (.tmp 12) (.tmp 13) 25 rfl w.heap.size 21 i0 1 Try.underlying25 hi hz1 w.heap.size 0 (n + m) [] rfl HO0.out ⟨bx, 0, none⟩ n cx (xs.map (Value.int .i32)) rfl (by simp [HN.out]) HX0.out (one_ints xs) (by omega) ?_; intro w1 hown1 hgrow1; obtain ⟨HO1, HG1, HY1⟩ := step1 HG0.out hown1 hgrow1 hby HM.out HY.out; clear hown1 hgrow1)
    | (at_builtin; refine wpList_append_fits _ rfl (.tmp 15) (.tmp 16) 25 rfl w.heap.size 21 i0 1 Try.underlying25 hi hz1 w.heap.size n (n + m) (xs.map (Value.int .i32)) rfl HO1.out ⟨bey, 0, none⟩ m cy (ys.map (Value.int .i32)) rfl (by simp [HM.out]) HY1.out (one_ints ys) (by omega) ?_; intro w2 hown2 hgrow2; obtain ⟨hcv, HG2⟩ := step2 HG0.out HG1.out hown2 hgrow2 HN.out HM.out; clear hown2 hgrow2))
  go_ret
  exact ⟨rfl, HG2.out⟩
end Go.Proofs.Qxb6619609a
