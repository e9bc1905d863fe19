/-
  THE WALK OF FnHex4ReadsFourHexDigits (3).
-/
import Derived.Test.Qxb6619369aZZ
import Derived.Laws.CopyOwn
import Derived.Deep.OwnRows
import Derived.Laws.OwnMore
import Derived.Laws.Rows
import Derived.OpenShut
namespace Go.Proofs.Qxb6619369a
open Go.RowKit Go.Deep
set_option linter.unusedVariables false

theorem info5 : (Try.prog.info? 5).map (fun i => (i.zero, i.size, i.bytes)) = some (some (.int .u8 0), 1, 1) := by kernel_rfl

set_option maxHeartbeats 400000 in
theorem law_big (a : Option Addr) (len cap : Nat) (p : Int) (w : World) (h : ¬ len ≤ 1048576) :
    Calls Try.prog 3 #[.slice a len cap, .int .i64 p] w fun e w' => e = .returned (.bool true) ∧ Below w.heap.size w w' := by
  have h' : (1048576 : Int) < (len : Int) := by omega
  go_enter Try.func3, Try.ntmps3
  go_wp2_with (go_at_call 4; refine (bytes_no _ _ _ _ _ h).mono ?_; rintro e w' ⟨rfl, rfl⟩)
  go_ret
  exact ⟨rfl, Below.refl _ _⟩

set_option maxHeartbeats 400000 in
theorem law_neg (a : Option Addr) (len cap : Nat) (p : Int) (w : World) (h : len ≤ 1048576) (hp : p < 0) :
    Calls Try.prog 3 #[.slice a len cap, .int .i64 p] w fun e w' => e = .returned (.bool true) ∧ Below w.heap.size w w' := by
  go_enter Try.func3, Try.ntmps3
  go_wp2_with (go_at_call 4; refine (bytes_any _ _ _ _ _ h).mono ?_; rintro e w' ⟨rfl, rfl⟩)
  go_ret
  exact ⟨rfl, Below.refl _ _⟩

set_option maxHeartbeats 400000 in
theorem law_past (a : Option Addr) (len cap : Nat) (p : Int) (w : World) (h : len ≤ 1048576) (hp : ¬ p < 0) (hq : (len : Int) < p) :
    Calls Try.prog 3 #[.slice a len cap, .int .i64 p] w fun e w' => e = .returned (.bool true) ∧ Below w.heap.size w w' := by
  go_enter Try.func3, Try.ntmps3
  go_wp2_with (go_at_call 4; refine (bytes_any _ _ _ _ _ h).mono ?_; rintro e w' ⟨rfl, rfl⟩)
  go_ret
  exact ⟨rfl, Below.refl _ _⟩

set_option maxHeartbeats 400000 in
theorem law_nil (w : World) :
    Calls Try.prog 3 #[.slice none 0 0, .int .i64 0] w fun e w' => e = .returned (.bool true) ∧ Below w.heap.size w w' := by
  have hn := fun wx : World => run_neq_slice_nil (P := Try.prog) wx 22 5 none 0 0 Try.underlying22
  go_enter Try.func3, Try.ntmps3
  go_wp2_with (first
    | (go_at_call 4; refine (bytes_any _ _ _ _ _ (by omega)).mono ?_; rintro e w' ⟨rfl, rfl⟩)
    | (go_at_call 5; refine (zz_short none 0 0 0 _ (by omega) (by omega) (by omega)).mono ?_; rintro e w' ⟨rfl, hb⟩))
  go_ret
  exact ⟨rfl, hb⟩

/-- are the first k bytes from p on hexadecimal digits? -/
def okB (zs : List Int) (p : Nat) : Nat → Bool
  | 0 => true
  | k + 1 => okB zs p k && decide (0 ≤ hexv (zs[p + k]?.getD 0))
theorem okB_true (zs : List Int) (p : Nat) : ∀ k, (∀ j, j < k → 0 ≤ hexv (zs[p + j]?.getD 0)) → okB zs p k = true
  | 0, _ => rfl
  | k + 1, h => by simp only [okB, okB_true zs p k fun j hj => h j (by omega), h k (by omega)]; rfl
theorem okB_false (zs : List Int) (p : Nat) : ∀ k, (∃ j, j < k ∧ hexv (zs[p + j]?.getD 0) < 0) → okB zs p k = false
  | 0, ⟨j, hj, _⟩ => by omega
  | k + 1, ⟨j, hj, h⟩ => by
    by_cases e : j = k
    · subst e; simp only [okB]; rw [decide_eq_false (by omega), Bool.and_false]
    · simp only [okB]; rw [okB_false zs p k ⟨j, by omega, h⟩, Bool.false_and]

/-- what the copy needs and leaves, out of the walk. -/
theorem copied (x : Addr) (len cap : Nat) (zs : List Int) (w : World) (hlc : len ≤ cap) (hz : zs.length = cap)
    (hc : ∀ i, i < zs.length → w.cell? (x.add i) = some (.int .u8 (zs.getD i 0))) (j : Nat) (v : Value) (h : ((zs.take len).map (Value.int .u8))[j]? = some v) (o : Obj) : (w.alloc o).cell? (x.add j) = some v := by
  have hj : j < len := by
    by_cases e : j < len
    · exact e
    · rw [List.getElem?_eq_none (by simp; omega)] at h; simp at h
  have h1 := hc j (by omega)
  have hlt : (x.add j).block < w.heap.size := block_lt_of_cell h1
  rw [List.getElem?_map, List.getElem?_take, if_pos hj] at h
  have h2 : zs[j]? = some zs[j] := List.getElem?_eq_getElem (by omega)
  rw [h2] at h
  simp at h
  subst h
  rw [World.cell?_alloc_lt w o _ hlt, h1]
  simp [List.getD, h2]

theorem setRow_alloc (w : World) (c d : Array Value) (t : TypeId) : (w.alloc (.cells c t)).setRow w.heap.size d = w.alloc (.cells d t) := by
  simp only [World.setRow, World.alloc]
  congr 1
  apply Array.ext_getElem?
  intro i
  rw [Array.getElem?_modify]
  by_cases e : w.heap.size = i
  · subst e; simp
  · rw [if_neg e]
    simp only [Array.getElem?_push]
    rw [if_neg (fun h => e h.symm), if_neg (fun h => e h.symm)]

theorem hcopy (x : Addr) (len cap : Nat) (zs : List Int) (w : World) (hlc : len ≤ cap) (hz : zs.length = cap)
    (hc : ∀ i, i < zs.length → w.cell? (x.add i) = some (.int .u8 (zs.getD i 0))) :
    (Builtin.copy_ #[22, 22] 3 #[.slice (some ⟨w.heap.size, 0, none⟩) len len, .slice (some x) len cap]).run Try.prog (w.alloc (.cells (madeCells #[Value.int .u8 0] len) 5)) =
      .ok (.int .i64 len) (w.alloc (.cells ((zs.take len).map (Value.int .u8)).toArray 5)) := by
  have hl : ((zs.take len).map (Value.int .u8)).length = len := by simp; omega
  have hr := run_copy_row (P := Try.prog) (w.alloc (.cells (madeCells #[Value.int .u8 0] len) 5)) 22 22 3 5 w.heap.size 0 len len x len cap (madeCells #[Value.int .u8 0] len) 5 ((zs.take len).map (Value.int .u8))
    Try.underlying22 (by kernel_rfl) (Array.getElem?_push_size) (by rw [hl]; simp) (fun j v hv => copied x len cap zs w hlc hz hc j v hv _) (by rw [size_madeCells, hl]; omega)
    (fun v hv => by obtain ⟨n, _, rfl⟩ := List.mem_map.1 hv; rfl)
  rw [hr, hl, setRow_alloc]
  have e : List.take 0 (madeCells #[Value.int .u8 0] len).toList ++ (zs.take len).map (Value.int .u8) ++ List.drop (0 + len) (madeCells #[Value.int .u8 0] len).toList = (zs.take len).map (Value.int .u8) := by
    rw [List.drop_eq_nil_of_le (by rw [toList_madeCells_one]; simp)]; simp
  rw [e]
  rfl

theorem cs_cell (len cap : Nat) (zs : List Int) (w : World) (hlc : len ≤ cap) (hz : zs.length = cap) (j : Nat) (hj : j < len) :
    (w.alloc (.cells ((zs.take len).map (Value.int .u8)).toArray 5)).cell? ⟨w.heap.size, j, none⟩ = some (.int .u8 (zs[j]?.getD 0)) := by
  have h2 : zs[j]? = some zs[j] := List.getElem?_eq_getElem (by omega)
  simp [hj, h2]

theorem okB_hit (zs : List Int) (p k : Nat) (h : 0 ≤ hexv (zs[p + k]?.getD 0)) : Value.bool (okB zs p k) = .bool (okB zs p (k + 1)) := by
  simp only [okB]; rw [decide_eq_true h, Bool.and_true]
theorem okB_miss (zs : List Int) (p k : Nat) (h : hexv (zs[p + k]?.getD 0) < 0) : Value.bool false = .bool (okB zs p (k + 1)) := by
  simp only [okB]; rw [decide_eq_false (by omega), Bool.and_false]

theorem i64_and15 (n : Int) : bits .and .i64 n 15 = n % 16 := by
  have h15 : (BitVec.ofInt 64 15).toNat = 2 ^ 4 - 1 := by decide
  have key : (BitVec.ofInt 64 n &&& BitVec.ofInt 64 15).toNat = (n % ((2 ^ 64 : Nat) : Int)).toNat % 2 ^ 4 := by
    rw [BitVec.toNat_and, BitVec.toNat_ofInt, h15, Nat.and_two_pow_sub_one_eq_mod]
  show IntKind.i64.wrap ((BitVec.ofInt 64 n &&& BitVec.ofInt 64 15).toNat : Nat) = n % 16
  rw [key, IntKind.wrap_i64]
  omega
theorem lowr_of (c : Int) (d : Nat) (h : hexv c = d) : digs.getD d 0 = lowr c := by
  unfold hexv hexl at h
  have hd : d < 16 := by
    split at h
    · omega
    · split at h <;> omega
  generalize lowr c = l at h
  have : d = 0 ∨ d = 1 ∨ d = 2 ∨ d = 3 ∨ d = 4 ∨ d = 5 ∨ d = 6 ∨ d = 7 ∨ d = 8 ∨ d = 9 ∨ d = 10 ∨ d = 11 ∨ d = 12 ∨ d = 13 ∨ d = 14 ∨ d = 15 := by omega
  rcases this with rfl | rfl | rfl | rfl | rfl | rfl | rfl | rfl | rfl | rfl | rfl | rfl | rfl | rfl | rfl | rfl <;> simp [digs] <;> (by_cases a1 : 48 ≤ l ∧ l ≤ 57) <;> (by_cases a2 : 97 ≤ l ∧ l ≤ 102) <;> simp [a1, a2] at h <;> omega
/-- what the second loop's round needs to know: the nibble as an index into the table, and the byte that lies there. -/
theorem nibble (c n : Int) (h0 : 0 ≤ hexv c) (h : n % 16 = hexv c) :
    ∃ d : Nat, bits .and .i64 n 15 = (d : Int) ∧ ∃ hd : d < digB.size, (((digB[d]'hd).toNat : Int) != lowr c) = false := by
  have hb := hexv_le c
  refine ⟨(hexv c).toNat, by rw [i64_and15]; omega, ?_, ?_⟩
  · show (hexv c).toNat < 16; omega
  · rw [digB_at _ (by omega)]
    rw [lowr_of c (hexv c).toNat (by omega)]; simp
theorem nib0 (zs : List Int) (p : Nat) (v : Int) (hv : v = acc zs p 4) (h : ∀ k, k < 4 → 0 ≤ hexv (zs[p + k]?.getD 0)) :
    v / 4096 % 16 = hexv (zs[p + 0]?.getD 0) ∧ v / 256 % 16 = hexv (zs[p + 1]?.getD 0) ∧ v / 16 % 16 = hexv (zs[p + 2]?.getD 0) ∧ v % 16 = hexv (zs[p + 3]?.getD 0) := by
  have h0 := h 0 (by omega); have h1 := h 1 (by omega); have h2 := h 2 (by omega); have h3 := h 3 (by omega)
  have g0 := (hexv_le (zs[p + 0]?.getD 0)).2; have g1 := (hexv_le (zs[p + 1]?.getD 0)).2; have g2 := (hexv_le (zs[p + 2]?.getD 0)).2; have g3 := (hexv_le (zs[p + 3]?.getD 0)).2
  simp only [acc] at hv
  omega

set_option maxHeartbeats 1000000 in
theorem law_some (x : Addr) (len cap pos : Nat) (zs : List Int) (w : World) (h : len ≤ 1048576) (hp : pos ≤ len) (hlc : len ≤ cap) (hz : zs.length = cap)
    (hc : ∀ i, i < zs.length → w.cell? (x.add i) = some (.int .u8 (zs.getD i 0))) (hwf : ∀ n ∈ zs, (Lit.int .u8 n).wf = true) :
    Calls Try.prog 3 #[.slice (some x) len cap, .int .i64 pos] w fun e w' => e = .returned (.bool true) ∧ Below w.heap.size w w' := by
  have hn := fun (wx : World) => run_neq_slice_nil (P := Try.prog) wx 22 5 (some x) len cap Try.underlying22
  have hmk := fun (wx : World) => run_make_row' (P := Try.prog) 22 5 (.int .u8 0) 1 Try.underlying22 info5 rfl .i64 .i64 len (by omega) (by omega) wx
  have hcp := hcopy x len cap zs w hlc hz hc
  have HD0 := fun j (hj : j < len) => cs_cell len cap zs w hlc hz j hj
  obtain ⟨cs, hcs⟩ : ∃ cs, cs = ((zs.take len).map (Value.int .u8)).toArray := ⟨_, rfl⟩
  obtain ⟨mk, hmk0⟩ : ∃ mk, mk = madeCells #[Value.int .u8 0] len := ⟨_, rfl⟩
  rw [← hcs] at hcp
  rw [← hmk0] at hmk hcp
  rw [← hcs] at HD0
  have HD : Hid (∀ j : Nat, j < len → (w.alloc (.cells cs 5)).cell? ⟨w.heap.size, j, none⟩ = some (.int .u8 (zs[j]?.getD 0))) := HD0
  have HW : Hid (∀ j : Nat, (0 : Int) ≤ zs[j]?.getD 0 ∧ zs[j]?.getD 0 ≤ 255) := range_u8 hwf
  clear hcs hmk0 hc hwf HD0
  by_cases hs : len < pos + 4
  · have hdec : decide ((4 : Int) ≤ (len : Int) - (pos : Int)) = false := decide_eq_false (by omega)
    go_enter Try.func3, Try.ntmps3
    go_wp2_with (first
      | (go_at_call 4; refine (bytes_any _ _ _ _ _ (by omega)).mono ?_; rintro e w' ⟨rfl, hw⟩; obtain rfl := hw.symm; clear hw)
      | (go_at_call 5; refine (zz_short _ _ _ _ _ (by omega) (by omega) (by omega)).mono ?_; rintro e w' ⟨rfl, hb⟩))
    go_ret
    exact ⟨rfl, ((Below.refl _ _).alloc (Nat.le_refl _) _).trans (hb.mono (by simp))⟩
  · have hdec : decide ((4 : Int) ≤ (len : Int) - (pos : Int)) = true := decide_eq_true (by omega)
    go_enter Try.func3, Try.ntmps3
    go_wp2_with (first
      | (go_at_call 4; refine (bytes_any _ _ _ _ _ (by omega)).mono ?_; rintro e w' ⟨rfl, hw⟩; obtain rfl := hw.symm; clear hw))
    refine (zz_long w.heap.size len len pos zs _ h (Nat.le_refl _) (by omega) (by omega) HW.out (by simp) HD.out).mono ?_
    rintro e w' ⟨hb, ⟨rfl, hbad⟩ | ⟨rfl, hgood⟩⟩
    · have HB : Hid (okB zs pos 4 = false) := okB_false zs pos 4 hbad
      have HC : Hid (∀ j : Nat, j < len → w'.cell? ⟨w.heap.size, j, none⟩ = some (.int .u8 (zs[j]?.getD 0))) := fun j hj => (hb.cell (p := ⟨w.heap.size, j, none⟩) (by simp)).trans (HD.out j hj)
      have HE : Hid (Below w.heap.size w w') := ((Below.refl _ _).alloc (Nat.le_refl _) _).trans (hb.mono (by simp))
      clear hbad HD hb hcp hmk hn
      go_wp2
      go_loop [9, 10] (fun t i => ∃ k : Nat, k ≤ 4 ∧ i = .int .i64 k ∧ t = .bool (okB zs pos k)) (fun _ i => 4 - (intOf i).toNat)
      case atStart => exact ⟨0, Nat.zero_le _, rfl, rfl⟩
      case round =>
        obtain ⟨k, hk, rfl, rfl⟩ := hrel
        by_cases hlt : k < 4
        · have hcx : w'.cell? ⟨w.heap.size, pos + k, none⟩ = some (.int .u8 (zs[pos + k]?.getD 0)) := HC.out _ (by omega)
          have hcb := HW.out (pos + k)
          go_wp2_with (go_at_call 6; refine (hexv_any _ _ (by omega) (by omega)).mono ?_; rintro e wx ⟨rfl, hw⟩; obtain rfl := hw.symm; clear hw)
          · go_round
            case rel => exact ⟨k + 1, by omega, by go_num, okB_miss zs pos k (by assumption)⟩
            case measure => simp [intOf]; omega
          · go_round
            case rel => exact ⟨k + 1, by omega, by go_num, okB_hit zs pos k (by assumption)⟩
            case measure => simp [intOf]; omega
        · have e4 : k = 4 := by omega
          subst e4
          have hB := HB.out
          go_wp2
          go_ret
          exact ⟨rfl, HE.out⟩
    · have HB : Hid (okB zs pos 4 = true) := okB_true zs pos 4 hgood
      have HC : Hid (∀ j : Nat, j < len → w'.cell? ⟨w.heap.size, j, none⟩ = some (.int .u8 (zs[j]?.getD 0))) := fun j hj => (hb.cell (p := ⟨w.heap.size, j, none⟩) (by simp)).trans (HD.out j hj)
      have HE : Hid (Below w.heap.size w w') := ((Below.refl _ _).alloc (Nat.le_refl _) _).trans (hb.mono (by simp))
      have hbd := acc_bd zs pos 4 hgood
      obtain ⟨v, hv⟩ : ∃ v, v = acc zs pos 4 := ⟨_, rfl⟩
      rw [← hv] at hbd ⊢
      have HV : Hid (v = acc zs pos 4) := hv
      have HG : Hid (∀ k, k < 4 → 0 ≤ hexv (zs[pos + k]?.getD 0)) := hgood
      have hv0 : 0 ≤ v := hbd.1
      have hv1 : v < 65536 := by have := hbd.2; simp at this; exact this
      clear hgood HD hb hcp hmk hn hv hbd
      go_wp2
      go_loop [9, 10] (fun t i => ∃ k : Nat, k ≤ 4 ∧ i = .int .i64 k ∧ t = .bool (okB zs pos k)) (fun _ i => 4 - (intOf i).toNat)
      case atStart => exact ⟨0, Nat.zero_le _, rfl, rfl⟩
      case round =>
        obtain ⟨k, hk, rfl, rfl⟩ := hrel
        by_cases hlt : k < 4
        · have hcx : w'.cell? ⟨w.heap.size, pos + k, none⟩ = some (.int .u8 (zs[pos + k]?.getD 0)) := HC.out _ (by omega)
          have hcb := HW.out (pos + k)
          go_wp2_with (go_at_call 6; refine (hexv_any _ _ (by omega) (by omega)).mono ?_; rintro e wx ⟨rfl, hw⟩; obtain rfl := hw.symm; clear hw)
          · go_round
            case rel => exact ⟨k + 1, by omega, by go_num, okB_miss zs pos k (by assumption)⟩
            case measure => simp [intOf]; omega
          · go_round
            case rel => exact ⟨k + 1, by omega, by go_num, okB_hit zs pos k (by assumption)⟩
            case measure => simp [intOf]; omega
        · have e4 : k = 4 := by omega
          subst e4
          have hB := HB.out
          go_wp2
          go_loopw [11] (fun i wr => ∃ k : Nat, k ≤ 4 ∧ i = .int .i64 k ∧ ∃ n, wr = w'.drewN n) (fun i _ => 4 - (intOf i).toNat)
          case atStart => exact ⟨0, Nat.zero_le _, rfl, 0, rfl⟩
          case round =>
            obtain ⟨k, hk, rfl, n, rfl⟩ := hrel
            obtain ⟨q0, q1, q2, q3⟩ := nib0 zs pos v HV.out HG.out
            have Q0 : Hid (v / 4096 % 16 = hexv (zs[pos + 0]?.getD 0)) := q0
            have Q1 : Hid (v / 256 % 16 = hexv (zs[pos + 1]?.getD 0)) := q1
            have Q2 : Hid (v / 16 % 16 = hexv (zs[pos + 2]?.getD 0)) := q2
            have Q3 : Hid (v % 16 = hexv (zs[pos + 3]?.getD 0)) := q3
            clear q0 q1 q2 q3
            by_cases hlt : k < 4
            · have : k = 0 ∨ k = 1 ∨ k = 2 ∨ k = 3 := by omega
              rcases this with rfl | rfl | rfl | rfl
              · have hcx : w'.cell? ⟨w.heap.size, pos, none⟩ = some (.int .u8 (zs[pos + 0]?.getD 0)) := HC.out _ (by omega)
                obtain ⟨hcb0, hcb1⟩ := HW.out (pos + 0)
                obtain ⟨d, hbit, hd, hne⟩ := nibble _ _ (HG.out 0 (by omega)) Q0.out
                have hd16 : d < 16 := hd
                have hdI : (d : Int) < 16 := by omega
                have hpI : (pos : Int) < (len : Int) := by omega
                have hpI0 : (0 : Int) ≤ (pos : Int) := by omega
                have hpN : pos < len := by omega
                obtain ⟨c, hc⟩ : ∃ c, c = zs[pos + 0]?.getD 0 := ⟨_, rfl⟩
                rw [← hc] at hcx hcb0 hcb1 hne
                have HCC : Hid (c = zs[pos + 0]?.getD 0) := hc
                clear hc
                go_wp2
                go_quiet ((go_at_call 7; exact (lower_any _ _ (by omega) (by omega)).mono fun e w'' ⟨he, hw⟩ => ⟨he, _, hw⟩))
                go_wp2
                go_roundw
                case rel => exact ⟨0 + 1, by omega, by go_num, _, rfl⟩
                case measure => simp [intOf]
              · have hcx : w'.cell? ⟨w.heap.size, pos + 1, none⟩ = some (.int .u8 (zs[pos + 1]?.getD 0)) := HC.out _ (by omega)
                obtain ⟨hcb0, hcb1⟩ := HW.out (pos + 1)
                obtain ⟨d, hbit, hd, hne⟩ := nibble _ _ (HG.out 1 (by omega)) Q1.out
                have hd16 : d < 16 := hd
                have hdI : (d : Int) < 16 := by omega
                have hpI : (pos : Int) + 1 < (len : Int) := by omega
                have hpI0 : (0 : Int) ≤ (pos : Int) + 1 := by omega
                obtain ⟨c, hc⟩ : ∃ c, c = zs[pos + 1]?.getD 0 := ⟨_, rfl⟩
                rw [← hc] at hcx hcb0 hcb1 hne
                have HCC : Hid (c = zs[pos + 1]?.getD 0) := hc
                clear hc
                go_wp2
                go_quiet ((go_at_call 7; exact (lower_any _ _ (by omega) (by omega)).mono fun e w'' ⟨he, hw⟩ => ⟨he, _, hw⟩))
                go_wp2
                go_roundw
                case rel => exact ⟨1 + 1, by omega, by go_num, _, rfl⟩
                case measure => simp [intOf]
              · have hcx : w'.cell? ⟨w.heap.size, pos + 2, none⟩ = some (.int .u8 (zs[pos + 2]?.getD 0)) := HC.out _ (by omega)
                obtain ⟨hcb0, hcb1⟩ := HW.out (pos + 2)
                obtain ⟨d, hbit, hd, hne⟩ := nibble _ _ (HG.out 2 (by omega)) Q2.out
                have hd16 : d < 16 := hd
                have hdI : (d : Int) < 16 := by omega
                have hpI : (pos : Int) + 2 < (len : Int) := by omega
                have hpI0 : (0 : Int) ≤ (pos : Int) + 2 := by omega
                obtain ⟨c, hc⟩ : ∃ c, c = zs[pos + 2]?.getD 0 := ⟨_, rfl⟩
                rw [← hc] at hcx hcb0 hcb1 hne
                have HCC : Hid (c = zs[pos + 2]?.getD 0) := hc
                clear hc
                go_wp2
                go_quiet ((go_at_call 7; exact (lower_any _ _ (by omega) (by omega)).mono fun e w'' ⟨he, hw⟩ => ⟨he, _, hw⟩))
                go_wp2
                go_roundw
                case rel => exact ⟨2 + 1, by omega, by go_num, _, rfl⟩
                case measure => simp [intOf]
              · have hcx : w'.cell? ⟨w.heap.size, pos + 3, none⟩ = some (.int .u8 (zs[pos + 3]?.getD 0)) := HC.out _ (by omega)
                obtain ⟨hcb0, hcb1⟩ := HW.out (pos + 3)
                obtain ⟨d, hbit, hd, hne⟩ := nibble _ _ (HG.out 3 (by omega)) Q3.out
                have hd16 : d < 16 := hd
                have hdI : (d : Int) < 16 := by omega
                have hpI : (pos : Int) + 3 < (len : Int) := by omega
                have hpI0 : (0 : Int) ≤ (pos : Int) + 3 := by omega
                obtain ⟨c, hc⟩ : ∃ c, c = zs[pos + 3]?.getD 0 := ⟨_, rfl⟩
                rw [← hc] at hcx hcb0 hcb1 hne
                have HCC : Hid (c = zs[pos + 3]?.getD 0) := hc
                clear hc
                go_wp2
                go_quiet ((go_at_call 7; exact (lower_any _ _ (by omega) (by omega)).mono fun e w'' ⟨he, hw⟩ => ⟨he, _, hw⟩))
                go_wp2
                go_roundw
                case rel => exact ⟨3 + 1, by omega, by go_num, _, rfl⟩
                case measure => simp [intOf]
            · go_wp2
              go_ret
              exact ⟨rfl, below_drewN HE.out _⟩
end Go.Proofs.Qxb6619369a
