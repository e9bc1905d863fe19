/-
  THE PROOF OF 'Rows.FnModuleIsFirstOfNameAtEveryCutSaid': the frame (after the guide's own for slices of integers and strings), its walk from Qxb6619608aLaw.
-/
import Derived.Test.Qxb6619608aLaw
import Derived.WalkKit
import Derived.ProofKit
import Derived.OpenShut
import Derived.ShutString
import Derived.ChangeOld
import Derived.Below
import Derived.SliceStrings
namespace Go.Proofs.Qxb6619608a.fnModuleIsFirstOfNameAtEveryCut
open Go.ChangeShapes Go.WideShapes Go.ChangeAt Go.RowKit
open Go.ChangeMaps (open_string shut_string)
set_option linter.unusedVariables false

theorem own : ownKnob Try.prog.godebug = none := by kernel_rfl
theorem laidOut : laidOutB Try.prog = true := by kernel_rfl
theorem size9 (w : World) : (sizeOf 9).run Try.prog w = .ok 1 w := by kernel_rfl

/-- what the walk is told of a slice of strings that came in. -/
def IsStrs (w : World) (a : Option Addr) (len cap : Nat) (ss : List ByteArray) : Prop :=
  (a = none ∧ len = 0 ∧ cap = 0 ∧ ss = []) ∨
  ∃ x, a = some x ∧ len ≤ cap ∧ cap ≤ maxLen ∧ ss.length = cap ∧ (∀ i, i < ss.length → w.cell? (x.add i) = some (.string (ss.getD i ByteArray.empty))) ∧ ∀ s ∈ ss, s.size ≤ maxLen

theorem slice_h (a : Option Addr) (n cap c : Nat) (hc : c ≤ n) (hn : n ≤ cap) (wx : World) :
    (Instr.slice 22 (.slice a n cap) none (some (.int .i64 (c : Int))) none).run Try.prog wx = .ok (.slice (if cap = 0 then a else a.map (·.add 0)) c cap) wx := by
  rw [run_slice_h (P := Try.prog) wx 22 a n cap (by kernel_rfl) .i64 (c : Int) (by omega) (by omega)]
  have he : Try.prog.elem 22 = 9 := by kernel_rfl
  rw [he, size9]
  simp [Result.andThen, sliced]
theorem slice_l (a : Option Addr) (n cap c : Nat) (hc : c ≤ n) (hn : n ≤ cap) (wx : World) :
    (Instr.slice 22 (.slice a n cap) (some (.int .i64 (c : Int))) none none).run Try.prog wx = .ok (.slice (if cap = c then a else a.map (·.add c)) (n - c) (cap - c)) wx := by
  rw [run_slice_l (P := Try.prog) wx 22 a n cap (by kernel_rfl) .i64 (c : Int) (by omega) (by omega)]
  have he : Try.prog.elem 22 = 9 := by kernel_rfl
  rw [he, size9]
  simp [Result.andThen, sliced]

theorem walk (a0 : Option Addr) (len0 cap0 : Nat) (z0 : List ByteArray) (a1 : Int) (a2 : ByteArray) (w : World) (w0 : IsStrs w a0 len0 cap0 z0) (w1 : (Lit.int .i64 a1).wf = true) (w2 : a2.size ≤ maxLen) :
    Calls Try.prog 3 #[.slice a0 len0 cap0, .int .i64 a1, .string a2] w fun e w' => e = .returned (.bool true) ∧ Below w.heap.size w w' := by
  rcases w0 with ⟨rfl, rfl, rfl, rfl⟩ | ⟨x, rfl, hlc, hm, hz, hc, hs⟩
  · refine law_any none 0 0 a1 a2 [] w (by omega) (by omega) rfl (fun i hi => by omega) w2 (fun i => by simp [maxLen]) (fun c hc => ?_)
    exact ⟨_, _, fun wx => slice_h none 0 0 c hc (Nat.le_refl _) wx, fun wx => slice_l none 0 0 c hc (Nat.le_refl _) wx, .inl rfl, .inl (by simp), .inl (by simp)⟩
  · by_cases h : len0 ≤ 1048576
    · have hL : (z0.take len0).length = len0 := by simp; omega
      have hget : ∀ i, i < len0 → (z0.take len0).getD i ByteArray.empty = z0.getD i ByteArray.empty := fun i hi => by simp [List.getD, hi]
      have hS : z0.take len0 = [] ∨ ∃ b off, x = ⟨b, off, none⟩ := by
        by_cases e : len0 = 0
        · left; rw [e]; rfl
        · right
          obtain ⟨b, off, spot⟩ := x
          have hspot : spot = none := by simpa [Addr.add] using World.cell?_spot (hc 0 (by omega))
          subst hspot
          exact ⟨b, off, rfl⟩
      have hS0 : Strs w (some x) (z0.take len0) := by
        rcases hS with e | ⟨b, off, rfl⟩
        · exact .inl e
        · refine .inr ⟨b, off, rfl, fun i hi => ?_⟩
          rw [hget i (by omega)]
          have := hc i (by omega)
          rw [add_plain] at this; exact this
      refine law_any (some x) len0 cap0 a1 a2 (z0.take len0) w h hlc hL (hS0.read hL) w2 (fun i => ?_) (fun c hcn => ?_)
      · by_cases hi : i < (z0.take len0).length
        · rw [List.getD, List.getElem?_eq_getElem hi]
          exact hs _ (List.mem_of_mem_take (List.getElem_mem hi))
        · rw [List.getD, List.getElem?_eq_none (by omega)]; simp [maxLen]
      · refine ⟨_, _, fun wx => slice_h (some x) len0 cap0 c hcn hlc wx, fun wx => slice_l (some x) len0 cap0 c hcn hlc wx, hS0, ?_, ?_⟩
        · rcases hS0 with e | ⟨b, off, hx, hcell⟩
          · exact .inl (by rw [e]; simp)
          · by_cases e0 : c = 0
            · exact .inl (by rw [e0]; rfl)
            · rw [if_neg (by omega)]
              obtain rfl : x = ⟨b, off, none⟩ := by simpa using hx
              refine .inr ⟨b, off, by simp [add_plain], fun i hi => ?_⟩
              rw [List.length_take] at hi
              rw [hcell i (by omega)]
              simp [List.getD, (by omega : i < c)]
        · rcases hS0 with e | ⟨b, off, hx, hcell⟩
          · exact .inl (by rw [e]; simp)
          · by_cases e0 : cap0 = c
            · exact .inl (List.drop_eq_nil_of_le (by omega))
            · rw [if_neg e0]
              obtain rfl : x = ⟨b, off, none⟩ := by simpa using hx
              refine .inr ⟨b, off + c, by simp [add_plain], fun i hi => ?_⟩
              rw [List.length_drop] at hi
              rw [Nat.add_assoc, hcell (c + i) (by omega)]
              simp [List.getD]
    · exact law_big (some x) len0 cap0 a1 a2 w (by unfold maxLen at hm; omega) h

set_option maxRecDepth 100000 in
theorem lifted (os : Os) (started : os.Started) (H : Type) (enc : TypeId × Value → H) :
    ReturnsInHanded {} Try.checked os 3 .any (Rows.fnModuleIsFirstOfNameAtEveryCutSpec.pre6 enc Try.prog Try.f3 Rows.fnModuleIsFirstOfNameAtEveryCutRow.domain false) (Rows.fnModuleIsFirstOfNameAtEveryCutSpec.post enc Try.prog Try.f3 false true false false) := by
  refine returnsInHanded_of_change (C := Try.checked) own started (by kernel_rfl) Try.func3
    (ChangeSpec.witness6 (enc := enc) (C := Try.checked) false ⟨#[], #[.slice none 0 0, .int .i64 0, .string ByteArray.empty], []⟩ 8 (by kernel_rfl) (by kernel_rfl) (by kernel_rfl) (by kernel_rfl)) ?_
  intro W base args ds gs before hval0 hW hcnd _
  have hval : ∀ (j : Nat) t v, Try.f3.params[j]? = some t → args[j]? = some v → Value.okWide Try.prog W .any base t v := hval0
  have hW' := hW
  obtain ⟨p, q, hA0, hV, rfl, hfz, hnd⟩ := hW
  have hA : DataW.TrodAll enc Try.prog W 0 (fun _ => true) true Try.f3.params.toList args.toList ds p := hA0
  rw [Try.params3] at hA hval
  obtain ⟨v0, vs0, d0, ds0, p0, q0, hargs, rfl, rfl, h0, r0⟩ := trodAll_cons hA
  obtain ⟨v1, vs1, d1, ds1, p1, q1, rfl, rfl, rfl, h1, r1⟩ := trodAll_cons r0
  obtain ⟨v2, vs2, d2, ds2, p2, q2, rfl, rfl, rfl, h2, r2⟩ := trodAll_cons r1
  obtain ⟨rfl, rfl, rfl⟩ := trodAll_nil r2
  obtain rfl : args = #[v0, v1, v2] := by cases args; simp_all
  obtain ⟨rfl, rfl⟩ := trodVars_none hV
  obtain ⟨a0, len0, cap0, rfl⟩ := okWide_slice Try.underlying22 (hval 0 22 v0 rfl rfl)
  have k0 := h0
  have lt0 : ∀ x ∈ p0, x.block < W.heap.size := by obtain ⟨m, hm⟩ := k0; exact DataW.trod_lt m _ _ _ hm
  obtain ⟨z0, w0⟩ : ∃ zs, IsStrs W a0 len0 cap0 zs := by
    obtain ⟨fuel, hf⟩ := h0
    rcases open_strings Try.underlying22 Try.underlying9 (by kernel_rfl) hf with ⟨hcs, _⟩ | ⟨x, l, c, zs, hcs, _, hl, hm, hz, _, hcell, hwz⟩
    · simp [Value.cells] at hcs
      obtain ⟨rfl, rfl, rfl⟩ := hcs
      exact ⟨[], .inl ⟨rfl, rfl, rfl, rfl⟩⟩
    · simp [Value.cells] at hcs
      obtain ⟨rfl, rfl, rfl⟩ := hcs
      exact ⟨zs, .inr ⟨_, rfl, hl, hm, by simpa using hz, hcell, hwz⟩⟩
  obtain ⟨a1, rfl, rfl, rfl, w1⟩ := open_int Try.underlying3 (hval 1 3 v1 rfl rfl) h1
  obtain ⟨a2, rfl, rfl, rfl, w2⟩ := open_string Try.underlying9 (hval 2 9 v2 rfl rfl) h2
  clear hA0 hval0
  refine (walk a0 len0 cap0 z0 a1 a2 W w0 w1 w2).mono fun e W' ⟨he, bel⟩ => ?_
  subst he
  exact ⟨_, rfl, _, _, _, [], _, [], hW', trodAll_mk1 (shut_bool Try.underlying4 _), (trodAll_cons_mk (Below.trod laidOut (by kernel_rfl) (of_decide_eq_true (by kernel_rfl)) k0 bel lt0) (trodAll_cons_mk (shut_int Try.underlying3 w1) (trodAll_cons_mk (shut_string Try.underlying9 w2) trodAll_mk0))), rfl, bel.frame _, fun h => by cases h⟩

theorem over : Rows.fnModuleIsFirstOfNameAtEveryCutRow.holds Try.pinned (OpenSpec.ofChange Rows.fnModuleIsFirstOfNameAtEveryCutSpec) :=
  OpenClaim.holds_of_wide 3 Try.f3 rfl rfl rfl rfl rfl rfl rfl ⟨rfl, rfl, rfl, rfl, rfl⟩ rfl rfl rfl rfl rfl (by kernel_rfl) Try.func3 (by kernel_rfl)
    (of_decide_eq_true (by kernel_rfl)) (by unfold Func.isWrapper; first | (rw [if_pos (by decide +kernel)]; kernel_rfl) | (rw [if_neg (by decide +kernel)]; exact ⟨rfl, rfl⟩))
    (fun os started H enc _ => lifted os started H enc)

/-- THE STATEMENT -/
theorem proved : Rows.FnModuleIsFirstOfNameAtEveryCutSaid := over
end Go.Proofs.Qxb6619608a.fnModuleIsFirstOfNameAtEveryCut
