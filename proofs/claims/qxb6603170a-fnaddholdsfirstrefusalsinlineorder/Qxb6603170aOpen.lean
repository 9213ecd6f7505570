/-
  A []RefB1 that came in, opened: 'RefsAt'.
-/
import Derived.Test.Qxb6603170aRefs
import Derived.ProofKit
import Derived.OpenShut
import Derived.ShutString
import Derived.ChangeOld
import Derived.Below
import Derived.Deep.Strs
namespace Go.Proofs.Qxb6603170a
open Go.ChangeShapes Go.WideShapes Go.ChangeAt Go.RowKit Go.Deep
set_option linter.unusedVariables false
set_option linter.unusedSimpArgs false

theorem Try.own : ownKnob Try.prog.godebug = none := by kernel_rfl
theorem Try.laidOut : laidOutB Try.prog = true := by kernel_rfl
theorem Try.cells52 : Try.prog.cellsOf 52 = 4 := by kernel_rfl
theorem Try.cells9 : Try.prog.cellsOf 9 = 1 := by kernel_rfl
theorem Try.cells3 : Try.prog.cellsOf 3 = 1 := by kernel_rfl

theorem refs_of {H : Type} {enc : TypeId × Value → H} {w : World} {base : Nat} {held : Bool} {fuel : Nat} {v : Value} {x : DataW H × List MemPlace} (h : DataW.trod enc Try.prog w base (fun _ => true) held fuel 33 [v] = some x) :
    ∃ (a : Option Addr) (n cap : Nat) (F : Nat → ByteArray) (L : Nat → Int) (G Q : Nat → ByteArray), v = .slice a n cap ∧ RefsAt w a n F L G Q := by
  rcases open_slice Try.underlying33 h with ⟨hcs, _⟩ | ⟨a, len, cap, m, n, D, Pl, hcs, _, hl, hm, hmm, _, hx⟩
  · simp only [List.cons.injEq, and_true] at hcs
    exact ⟨none, 0, 0, fun _ => ByteArray.empty, fun _ => 0, fun _ => ByteArray.empty, fun _ => ByteArray.empty, hcs, Nat.zero_le _, Or.inl rfl⟩
  · simp only [List.cons.injEq, and_true] at hcs
    simp only [if_true] at hmm
    unfold maxLen at hm
    have each : ∀ i, i < len → ∃ q : ByteArray × Int × ByteArray × ByteArray, w.cell? (a.add (i * 4)) = some (.string q.1) ∧ w.cell? (a.add (i * 4 + 1)) = some (.int .i64 q.2.1) ∧ w.cell? (a.add (i * 4 + 2)) = some (.string q.2.2.1) ∧ w.cell? (a.add (i * 4 + 3)) = some (.string q.2.2.2) := by
      intro i hi
      obtain ⟨cs', h1, h2⟩ := hx i (by omega)
      rw [Try.cells52] at h1
      obtain ⟨_, hlen, hcell⟩ := World.cells?_some h1
      obtain ⟨xs, k, hk, hxy, _, hxl, hf⟩ := DataW.trod_struct Try.underlying52 h2
      match xs, hxl, cs', hlen with
      | [y0, y1, y2, y3], _, [v0, v1, v2, v3], _ =>
        have g0 := hf 0 _ rfl
        have g1 := hf 1 _ rfl
        have g2 := hf 2 _ rfl
        have g3 := hf 3 _ rfl
        simp [Try.cells9, Try.cells3] at g0 g1 g2 g3
        obtain ⟨s0, e0, _, _⟩ := DataW.trod_string Try.underlying9 g0
        obtain ⟨l1, e1, _, _⟩ := DataW.trod_int Try.underlying3 g1
        obtain ⟨s2, e2, _, _⟩ := DataW.trod_string Try.underlying9 g2
        obtain ⟨s3, e3, _, _⟩ := DataW.trod_string Try.underlying9 g3
        simp only [List.cons.injEq, and_true] at e0 e1 e2 e3
        subst e0 e1 e2 e3
        have d0 := hcell 0 (by omega)
        have d1 := hcell 1 (by omega)
        have d2 := hcell 2 (by omega)
        have d3 := hcell 3 (by omega)
        rw [add_add] at d0 d1 d2 d3
        exact ⟨(s0, l1, s2, s3), by simpa using d0, by simpa using d1, by simpa using d2, by simpa using d3⟩
    obtain ⟨q, hq⟩ := choose_lt each
    refine ⟨some a, len, cap, fun i => (q i).1, fun i => (q i).2.1, fun i => (q i).2.2.1, fun i => (q i).2.2.2, hcs, by omega, ?_⟩
    by_cases h0 : len = 0
    · exact Or.inl h0
    · obtain ⟨b, off, spot⟩ := a
      have hspot : spot = none := by simpa [Addr.add] using World.cell?_spot (hq 0 (by omega)).1
      subst hspot
      refine Or.inr ⟨b, off, rfl, fun i hi => ?_⟩
      obtain ⟨d0, d1, d2, d3⟩ := hq i hi
      rw [add_plain] at d0 d1 d2 d3
      exact ⟨d0, by rw [Nat.add_assoc]; exact d1, by rw [Nat.add_assoc]; exact d2, by rw [Nat.add_assoc]; exact d3⟩
end Go.Proofs.Qxb6603170a
