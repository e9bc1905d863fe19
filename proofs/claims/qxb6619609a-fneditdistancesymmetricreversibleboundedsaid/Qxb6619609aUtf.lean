/-
  RUNES WRITTEN AS BYTES AND READ AGAIN ARE THE SAME RUNES.
-/
import Derived.Test.Qxb6619609aDp
import Derived.Lib.TrimUEq
import Derived.Lib.QuoteLoop
import Derived.Laws.Cover4
namespace Go.Proofs.Qxb6619609a

/-- a rune that a string can hold. -/
def Ok (r : Int) : Prop := (0 ≤ r ∧ r < 55296) ∨ (57344 ≤ r ∧ r ≤ 1114111)
theorem Ok.valid {r : Int} (h : Ok r) : Utf8.valid r = true := by
  unfold Ok at h
  unfold Utf8.valid
  rcases h with h | h
  · rw [decide_eq_true h.1, decide_eq_true h.2]; rfl
  · rw [decide_eq_true h.1, decide_eq_true h.2]; simp

def enc (r : Int) : List UInt8 := (Utf8.encode r).data.toList

theorem u8_of (n : Nat) (h : n < 256) : (UInt8.ofNat n).toNat = n := by simp; omega

set_option maxRecDepth 100000 in
set_option maxHeartbeats 2000000 in
theorem decodeN_enc (r : Int) (hv : Ok r) (t : List UInt8) :
    Lib.decodeN (enc r ++ t).length ((enc r ++ t).getD 0 0).toNat ((enc r ++ t).getD 1 0).toNat ((enc r ++ t).getD 2 0).toNat ((enc r ++ t).getD 3 0).toNat = (r.toNat, (enc r).length) ∧ 1 ≤ (enc r).length := by
  have hval := hv.valid
  obtain ⟨c, rfl⟩ : ∃ c : Nat, r = (c : Int) := ⟨r.toNat, by unfold Ok at hv; omega⟩
  have hc : c < 55296 ∨ (57344 ≤ c ∧ c ≤ 1114111) := by unfold Ok at hv; omega
  unfold enc Utf8.encode
  rw [if_pos hval]
  simp only [Int.toNat_natCast]
  by_cases h1 : c < 128
  · rw [if_pos (by exact h1)]
    simp only [List.cons_append, List.nil_append, List.getD_cons_zero, List.length_cons, List.length_nil]
    rw [u8_of c (by omega)]
    unfold Lib.decodeN
    rw [if_pos h1]
    exact ⟨rfl, by omega⟩
  rw [if_neg (by exact h1)]
  by_cases h2 : c < 2048
  · rw [if_pos (by exact h2)]
    simp only [List.cons_append, List.nil_append, List.getD_cons_zero, List.getD_cons_succ, List.length_cons, List.length_nil]
    rw [u8_of (192 + c / 64) (by omega), u8_of (128 + c % 64) (by omega)]
    unfold Lib.decodeN
    rw [if_neg (by omega), if_pos ⟨by omega, by omega, by omega⟩, if_pos (by omega)]
    refine ⟨?_, by omega⟩
    rw [show (192 + c / 64) % 32 * 64 + (128 + c % 64) % 64 = c by omega]
  rw [if_neg (by exact h2)]
  by_cases h3 : c < 65536
  · rw [if_pos (by exact h3)]
    simp only [List.cons_append, List.nil_append, List.getD_cons_zero, List.getD_cons_succ, List.length_cons, List.length_nil]
    rw [u8_of (224 + c / 4096) (by omega), u8_of (128 + c / 64 % 64) (by omega), u8_of (128 + c % 64) (by omega)]
    have e : (224 + c / 4096) % 16 * 4096 + (128 + c / 64 % 64) % 64 * 64 + (128 + c % 64) % 64 = c := by omega
    unfold Lib.decodeN
    rw [if_neg (by omega), if_neg (by omega), if_pos ⟨by omega, ⟨by omega, by omega⟩, by omega, by omega⟩, e, if_pos ⟨by omega, by omega⟩]
    exact ⟨rfl, by omega⟩
  · rw [if_neg (by exact h3)]
    simp only [List.cons_append, List.nil_append, List.getD_cons_zero, List.getD_cons_succ, List.length_cons, List.length_nil]
    rw [u8_of (240 + c / 262144) (by omega), u8_of (128 + c / 4096 % 64) (by omega), u8_of (128 + c / 64 % 64) (by omega), u8_of (128 + c % 64) (by omega)]
    have e : (240 + c / 262144) % 8 * 262144 + (128 + c / 4096 % 64) % 64 * 4096 + (128 + c / 64 % 64) % 64 * 64 + (128 + c % 64) % 64 = c := by omega
    unfold Lib.decodeN
    rw [if_neg (by omega), if_neg (by omega), if_neg (by omega), if_pos ⟨by omega, ⟨by omega, by omega⟩, ⟨by omega, by omega⟩, by omega, by omega⟩, e, if_pos ⟨by omega, by omega⟩]
    exact ⟨rfl, by omega⟩

theorem getD_past (p l : List UInt8) (k : Nat) : (p ++ l).getD (p.length + k) 0 = l.getD k 0 := by
  simp [List.getD, List.getElem?_append_right]

theorem decode_enc (s : ByteArray) (p t : List UInt8) (r : Int) (hv : Ok r) (hs : s.data.toList = p ++ (enc r ++ t)) :
    Utf8.decode s p.length = (r.toNat, (enc r).length) ∧ 1 ≤ (enc r).length ∧ p.length < s.size := by
  have h := decodeN_enc r hv t
  refine ⟨?_, h.2, ?_⟩
  · rw [Lib.decode_N, hs, ← h.1]
    have e0 := getD_past p (enc r ++ t) 0
    rw [Nat.add_zero] at e0
    rw [e0, getD_past, getD_past, getD_past]
    have el : (p ++ (enc r ++ t)).length - p.length = (enc r ++ t).length := by simp
    rw [el]
  · have hl := congrArg List.length hs
    have h2 := h.2
    simp only [List.length_append, Array.length_toList] at hl
    show p.length < s.data.size
    omega

theorem runesL_enc (s : ByteArray) : ∀ (rs : List Int) (p : List UInt8) (b : Nat), (∀ r ∈ rs, Ok r) → rs.length ≤ b → s.data.toList = p ++ rs.flatMap enc → runesL s b p.length = rs
  | [], p, b, _, _, hs => by
    cases b with
    | zero => rfl
    | succ b =>
      have hl : s.data.toList.length = p.length := by rw [hs]; simp
      rw [Array.length_toList] at hl
      unfold runesL
      rw [if_neg (by show ¬ p.length < s.data.size; omega)]
  | r :: rs, p, b, hv, hb, hs => by
    cases b with
    | zero => simp at hb
    | succ b =>
      have hr := hv r (by simp)
      rw [List.flatMap_cons] at hs
      obtain ⟨h1, h2, h3⟩ := decode_enc s p (rs.flatMap enc) r hr hs
      unfold runesL
      rw [if_pos h3, h1]
      have ih := runesL_enc s rs (p ++ enc r) b (fun x hx => hv x (by simp [hx])) (by simpa using hb) (by rw [hs, List.append_assoc])
      rw [List.length_append] at ih
      rw [ih]
      have : ((r.toNat : Nat) : Int) = r := by unfold Ok at hr; omega
      show ((r.toNat : Nat) : Int) :: rs = r :: rs
      rw [this]

theorem foldl_data : ∀ (rs : List Int) (a : ByteArray), (rs.foldl (fun r n => r ++ Utf8.encode n) a).data.toList = a.data.toList ++ rs.flatMap enc
  | [], a => by simp
  | r :: rs, a => by
    rw [List.foldl_cons, foldl_data rs]
    simp [ByteArray.data_append, List.flatMap_cons, enc]
theorem runesBytes_data (rs : List Int) : (runesBytes rs).data.toList = rs.flatMap enc := by
  unfold runesBytes; rw [foldl_data]; rfl
theorem flat_len : ∀ rs : List Int, (∀ r ∈ rs, Ok r) → rs.length ≤ (rs.flatMap enc).length
  | [], _ => by simp
  | r :: rs, hv => by
    have h := (decodeN_enc r (hv r (by simp)) []).2
    have ih := flat_len rs (fun x hx => hv x (by simp [hx]))
    rw [List.flatMap_cons, List.length_append, List.length_cons]; omega
/-- THE ROUND TRIP. -/
theorem runes_bytes (rs : List Int) (hv : ∀ r ∈ rs, Ok r) : runes (runesBytes rs) = rs := by
  have hd := runesBytes_data rs
  have hl := flat_len rs hv
  rw [← hd] at hl
  exact runesL_enc (runesBytes rs) rs [] _ hv (by simpa using hl) (by simpa using hd)

theorem runesL_ok (s : ByteArray) : ∀ b i, ∀ r ∈ runesL s b i, Ok r
  | 0, i, r, h => by simp [runesL] at h
  | b + 1, i, r, h => by
    unfold runesL at h
    split at h
    · rcases List.mem_cons.1 h with rfl | h
      · rw [Lib.decode_at]
        have := Lib.decodeN_valid (s.size - i) (s.get! i).toNat (s.get! (i + 1)).toNat (s.get! (i + 2)).toNat (s.get! (i + 3)).toNat (UInt8.toNat_lt _)
        unfold Ok; omega
      · exact runesL_ok s b _ r h
    · simp at h
/-- the runes of a string are runes that a string can hold. -/
theorem runes_ok (s : ByteArray) : ∀ r ∈ runes s, Ok r := runesL_ok s _ _
end Go.Proofs.Qxb6619609a
