/-
  'Rows.FnFittestIsFirstMostNamedSaid': the walk (law3, in Qxb6603170aFitLaw) laid under the row: the arguments opened, read again behind the call. The frame is the guide's (a law with slices among her arguments).
-/
import Derived.Test.Qxb6603170aFitLaw
import Derived.ProofKit
import Derived.OpenShut
import Derived.ShutString
import Derived.ChangeOld
import Derived.Below
import Derived.Deep.Strs
namespace Go.Proofs.Qxb6603170a.fnFittestIsFirstMostNamed
open Go.ChangeShapes Go.WideShapes Go.ChangeAt Go.RowKit
set_option linter.unusedVariables false

theorem own : ownKnob Try.prog.godebug = none := by kernel_rfl
theorem laidOut : laidOutB Try.prog = true := by kernel_rfl

section
variable {H : Type} {enc : TypeId × Value → H} {w : World} {base : Nat} {held : Bool}

theorem strs_of {fuel : Nat} {v : Value} {x : DataW H × List MemPlace} (h : DataW.trod enc Try.prog w base (fun _ => true) held fuel 22 [v] = some x) :
    ∃ (q : Option Addr × Nat × Nat × (Nat → ByteArray)), v = .slice q.1 q.2.1 q.2.2.1 ∧ StrsAt w q.1 q.2.1 q.2.2.2 := by
  rcases Go.Deep.open_strs Try.underlying22 Try.underlying9 (by kernel_rfl) h with ⟨hcs, _⟩ | ⟨a, len, cap, m, Sx, hcs, _, hl, hm, hmm, _, hc⟩
  · simp only [List.cons.injEq, and_true] at hcs
    exact ⟨(none, 0, 0, fun _ => ByteArray.empty), hcs, Nat.zero_le _, Or.inl rfl⟩
  · simp only [List.cons.injEq, and_true] at hcs
    simp only [if_true] at hmm
    unfold maxLen at hm
    refine ⟨(some a, len, cap, Sx), hcs, by show len ≤ _; omega, ?_⟩
    by_cases h0 : len = 0
    · exact Or.inl h0
    · obtain ⟨b, off, spot⟩ := a
      have hspot : spot = none := by simpa [Addr.add] using World.cell?_spot (hc 0 (by omega)).1
      subst hspot
      exact Or.inr ⟨b, off, rfl, fun i hi => by have := (hc i (by have : i < len := hi; omega)).1; rwa [plus] at this⟩

theorem cols_of {fuel : Nat} {v : Value} {x : DataW H × List MemPlace} (h : DataW.trod enc Try.prog w base (fun _ => true) held fuel 23 [v] = some x) :
    ∃ (a : Option Addr) (n cap : Nat) (A : Nat → Option Addr) (L Cp : Nat → Nat) (S : Nat → Nat → ByteArray), v = .slice a n cap ∧ ColsAt w a n A L Cp S := by
  rcases Go.Deep.open_slice1 Try.underlying23 (by kernel_rfl) h with ⟨hcs, _⟩ | ⟨a, len, cap, m, n, V, D, Pl, hcs, _, hl, hm, hmm, _, hc⟩
  · simp only [List.cons.injEq, and_true] at hcs
    exact ⟨none, 0, 0, fun _ => none, fun _ => 0, fun _ => 0, fun _ _ => ByteArray.empty, hcs, by omega, Or.inl rfl, fun i hi => absurd hi (Nat.not_lt_zero _)⟩
  · simp only [List.cons.injEq, and_true] at hcs
    simp only [if_true] at hmm
    unfold maxLen at hm
    obtain ⟨Q, hQ⟩ := Go.Deep.choose_lt (n := len) (p := fun i (q : Option Addr × Nat × Nat × (Nat → ByteArray)) => V i = .slice q.1 q.2.1 q.2.2.1 ∧ StrsAt w q.1 q.2.1 q.2.2.2) (fun i hi => strs_of (hc i (by omega)).2)
    refine ⟨some a, len, cap, fun i => (Q i).1, fun i => (Q i).2.1, fun i => (Q i).2.2.1, fun i => (Q i).2.2.2, hcs, by omega, ?_, fun i hi => (hQ i hi).2⟩
    by_cases h0 : len = 0
    · exact Or.inl h0
    · obtain ⟨b, off, spot⟩ := a
      have hspot : spot = none := by simpa [Addr.add] using World.cell?_spot (hc 0 (by omega)).1
      subst hspot
      exact Or.inr ⟨b, off, rfl, fun i hi => by have := (hc i (by omega)).1; rw [plus] at this; rw [this, (hQ i hi).1]⟩
end

/-! ### THE ROW's STEP: WRITTEN OUT: LEAVE IT -/
set_option maxRecDepth 100000 in
theorem lifted (os : Os) (started : os.Started) (H : Type) (enc : TypeId × Value → H) :
    ReturnsInHanded {} Try.checked os 3 .any (Rows.fnFittestIsFirstMostNamedSpec.pre6 enc Try.prog Try.f3 Rows.fnFittestIsFirstMostNamedRow.domain false) (Rows.fnFittestIsFirstMostNamedSpec.post enc Try.prog Try.f3 false true false false) := by
  refine returnsInHanded_of_change (C := Try.checked) own started (by kernel_rfl) Try.func3
    (ChangeSpec.witness6 (enc := enc) (C := Try.checked) false ⟨#[], #[.slice none 0 0, .slice none 0 0], []⟩ 8 (by kernel_rfl) (by kernel_rfl) (by kernel_rfl) (by kernel_rfl)) ?_
  intro W base args ds gs before hval0 hW hcnd _
  have hval : ∀ (j : Nat) t v, Try.f3.params[j]? = some t → args[j]? = some v → Value.okWide Try.prog W .any base t v := hval0
  have hW' := hW
  obtain ⟨p, q, hA0, hV, rfl, hfz, hnd⟩ := hW
  have hA : DataW.TrodAll enc Try.prog W 0 (fun _ => true) true Try.f3.params.toList args.toList ds p := hA0
  rw [Try.params3] at hA hval
  obtain ⟨v0, vs0, d0, ds0, p0, q0, hargs, rfl, rfl, h0, r0⟩ := trodAll_cons hA
  obtain ⟨v1, vs1, d1, ds1, p1, q1, rfl, rfl, rfl, h1, r1⟩ := trodAll_cons r0
  obtain ⟨rfl, rfl, rfl⟩ := trodAll_nil r1
  obtain rfl : args = #[v0, v1] := by cases args; simp_all
  obtain ⟨rfl, rfl⟩ := trodVars_none hV
  have k0 := h0
  have k1 := h1
  have lt0 : ∀ x ∈ p0, x.block < W.heap.size := by obtain ⟨m, hm⟩ := k0; exact DataW.trod_lt m _ _ _ hm
  have lt1 : ∀ x ∈ p1, x.block < W.heap.size := by obtain ⟨m, hm⟩ := k1; exact DataW.trod_lt m _ _ _ hm
  obtain ⟨a0, len0, cap0, rfl⟩ := okWide_slice Try.underlying22 (hval 0 22 v0 rfl rfl)
  obtain ⟨a1, len1, cap1, rfl⟩ := okWide_slice Try.underlying23 (hval 1 23 v1 rfl rfl)
  obtain ⟨S0, w0⟩ : ∃ S, StrsAt W a0 len0 S := by
    obtain ⟨fuel, hf⟩ := h0
    obtain ⟨⟨a, l, c, S⟩, he, hs⟩ := strs_of (by simpa [Value.cells] using hf)
    simp only [Value.slice.injEq] at he
    obtain ⟨rfl, rfl, rfl⟩ := he
    exact ⟨S, hs⟩
  obtain ⟨A, L, Cp, S1, w1⟩ : ∃ A L Cp S, ColsAt W a1 len1 A L Cp S := by
    obtain ⟨fuel, hf⟩ := h1
    obtain ⟨a, l, c, A, L, Cp, S, he, hs⟩ := cols_of (by simpa [Value.cells] using hf)
    simp only [Value.slice.injEq] at he
    obtain ⟨rfl, rfl, rfl⟩ := he
    exact ⟨A, L, Cp, S, hs⟩
  clear hA0 hval0
  refine (law3 W a0 len0 cap0 S0 a1 len1 cap1 A L Cp S1 w0 w1).mono fun e W' ⟨he, bel⟩ => ?_
  subst he
  exact ⟨_, rfl, _, _, _, [], _, [], hW', trodAll_mk1 (shut_bool Try.underlying4 _), (trodAll_cons_mk (Below.trod laidOut (by kernel_rfl) (of_decide_eq_true (by kernel_rfl)) k0 bel lt0) (trodAll_cons_mk (Below.trod laidOut (by kernel_rfl) (of_decide_eq_true (by kernel_rfl)) k1 bel lt1) trodAll_mk0)), rfl, bel.frame _, fun h => by cases h⟩

theorem over : Rows.fnFittestIsFirstMostNamedRow.holds Try.pinned (OpenSpec.ofChange Rows.fnFittestIsFirstMostNamedSpec) :=
  OpenClaim.holds_of_wide 3 Try.f3 rfl rfl rfl rfl rfl rfl rfl ⟨rfl, rfl, rfl, rfl, rfl⟩ rfl rfl rfl rfl rfl (by kernel_rfl) Try.func3 (by kernel_rfl)
    (of_decide_eq_true (by kernel_rfl)) (by unfold Func.isWrapper; first | (rw [if_pos (by decide +kernel)]; kernel_rfl) | (rw [if_neg (by decide +kernel)]; exact ⟨rfl, rfl⟩))
    (fun os started H enc _ => lifted os started H enc)

/-- ████ THE STATEMENT ████ -/
theorem proved : Rows.FnFittestIsFirstMostNamedSaid := over
end Go.Proofs.Qxb6603170a.fnFittestIsFirstMostNamed
