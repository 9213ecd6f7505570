/-
  'Rows.FnAddHoldsFirstRefusalsInLineOrderSaid': the walk (addh8) laid under the row: the arguments opened, read again behind the call. The frame is the guide's (a law with slices among her arguments).
-/
import Derived.Test.Qxb6603170aAddH
import Derived.Test.Qxb6603170aOpen
namespace Go.Proofs.Qxb6603170a.fnAddHoldsFirstRefusalsInLineOrder
open Go.ChangeShapes Go.WideShapes Go.ChangeAt Go.RowKit
set_option linter.unusedVariables false

set_option maxRecDepth 100000 in
theorem lifted (os : Os) (started : os.Started) (H : Type) (enc : TypeId × Value → H) :
    ReturnsInHanded {} Try.checked os 8 .any (Rows.fnAddHoldsFirstRefusalsInLineOrderSpec.pre6 enc Try.prog Try.f8 Rows.fnAddHoldsFirstRefusalsInLineOrderRow.domain false) (Rows.fnAddHoldsFirstRefusalsInLineOrderSpec.post enc Try.prog Try.f8 false true false false) := by
  refine returnsInHanded_of_change (C := Try.checked) Try.own started (by kernel_rfl) Try.func8
    (ChangeSpec.witness6 (enc := enc) (C := Try.checked) false ⟨#[], #[.slice none 0 0], []⟩ 8 (by kernel_rfl) (by kernel_rfl) (by kernel_rfl) (by kernel_rfl)) ?_
  intro W base args ds gs before hval0 hW hcnd _
  have hval : ∀ (j : Nat) t v, Try.f8.params[j]? = some t → args[j]? = some v → Value.okWide Try.prog W .any base t v := hval0
  have hW' := hW
  obtain ⟨p, q, hA0, hV, rfl, hfz, hnd⟩ := hW
  have hA : DataW.TrodAll enc Try.prog W 0 (fun _ => true) true Try.f8.params.toList args.toList ds p := hA0
  rw [Try.params8] at hA hval
  obtain ⟨v0, vs0, d0, ds0, p0, q0, hargs, rfl, rfl, h0, r0⟩ := trodAll_cons hA
  obtain ⟨rfl, rfl, rfl⟩ := trodAll_nil r0
  obtain rfl : args = #[v0] := by cases args; simp_all
  obtain ⟨rfl, rfl⟩ := trodVars_none hV
  have k0 := h0
  have lt0 : ∀ x ∈ p0, x.block < W.heap.size := by obtain ⟨m, hm⟩ := k0; exact DataW.trod_lt m _ _ _ hm
  obtain ⟨a0, len0, cap0, rfl⟩ := okWide_slice Try.underlying33 (hval 0 33 v0 rfl rfl)
  obtain ⟨F, L, G, Q, w0⟩ : ∃ F L G Q, RefsAt W a0 len0 F L G Q := by
    obtain ⟨fuel, hf⟩ := h0
    obtain ⟨a, l, c, F, L, G, Q, he, hs⟩ := refs_of (by simpa [Value.cells] using hf)
    simp only [Value.slice.injEq] at he
    obtain ⟨rfl, rfl, rfl⟩ := he
    exact ⟨F, L, G, Q, hs⟩
  clear hA0 hval0
  refine (addh8 W a0 len0 cap0 F L G Q w0).mono fun e W' ⟨he, bel⟩ => ?_
  subst he
  exact ⟨_, rfl, _, _, _, [], _, [], hW', trodAll_mk1 (shut_bool Try.underlying4 _), (trodAll_cons_mk (Below.trod Try.laidOut (by kernel_rfl) (of_decide_eq_true (by kernel_rfl)) k0 bel lt0) trodAll_mk0), rfl, bel.frame _, fun h => by cases h⟩

theorem over : Rows.fnAddHoldsFirstRefusalsInLineOrderRow.holds Try.pinned (OpenSpec.ofChange Rows.fnAddHoldsFirstRefusalsInLineOrderSpec) :=
  OpenClaim.holds_of_wide 8 Try.f8 rfl rfl rfl rfl rfl rfl rfl ⟨rfl, rfl, rfl, rfl, rfl⟩ rfl rfl rfl rfl rfl (by kernel_rfl) Try.func8 (by kernel_rfl)
    (of_decide_eq_true (by kernel_rfl)) (by unfold Func.isWrapper; first | (rw [if_pos (by decide +kernel)]; kernel_rfl) | (rw [if_neg (by decide +kernel)]; exact ⟨rfl, rfl⟩))
    (fun os started H enc _ => lifted os started H enc)

/-- THE STATEMENT. -/
theorem proved : Rows.FnAddHoldsFirstRefusalsInLineOrderSaid := over
end Go.Proofs.Qxb6603170a.fnAddHoldsFirstRefusalsInLineOrder
