/-
  WHAT add HOLDS, no Go in sight: ids of the refusals, i of them added, m of them held.
-/
import Derived.Test.Qxb6603170aAdd
import Derived.Test.Qxb6603170aRank
namespace Go.Proofs.Qxb6603170a
open Go.RowKit
set_option linter.unusedSimpArgs false
set_option linter.unusedVariables false

/-- One add, on ids. -/
def Step (L : Nat → Int) (i m : Nat) (I : Nat → Nat) (u : Bool) (m' : Nat) (I' : Nat → Nat) (u' : Bool) : Prop :=
  (outOf m (fun k => L (I k)) (L i) = false ∧ 1000 ≤ m ∧ u = false ∧ m' = m ∧ I' = I ∧ u' = u) ∨
  (¬ (outOf m (fun k => L (I k)) (L i) = false ∧ 1000 ≤ m ∧ u = false) ∧ m + 1 < 2000 ∧ m' = m + 1 ∧ I' = snoc I m i ∧ u' = (u || outOf m (fun k => L (I k)) (L i))) ∨
  (¬ (outOf m (fun k => L (I k)) (L i) = false ∧ 1000 ≤ m ∧ u = false) ∧ 2000 ≤ m + 1 ∧ ∃ g, Dom (m + 1) g ∧ ((u || outOf m (fun k => L (I k)) (L i)) = true → Srt (snoc (fun k => L (I k)) m (L i)) g 0 (m + 1)) ∧
    ((u || outOf m (fun k => L (I k)) (L i)) = false → g = fun k => k) ∧ m' = min (m + 1) 1000 ∧ I' = (fun k => snoc I m i (g k)) ∧ u' = false)

theorem snoc_map {α β : Type} (f : α → β) (I : Nat → α) (n : Nat) (x : α) : snoc (fun k => f (I k)) n (f x) = fun k => f (snoc I n x k) := by
  funext k; unfold snoc; by_cases e : k = n
  · rw [if_pos e, if_pos e]
  · rw [if_neg e, if_neg e]

theorem AddOut.step {w' : World} {fb m P i : Nat} {I : Nat → Nat} {L : Nat → Int} {u : Bool} (h : AddOut w' fb m (fun k => P + 1 + I k) (fun k => L (I k)) u (P + 1 + i) (L i)) :
    ∃ m' I' u', Step L i m I u m' I' u' ∧ Own w' fb m' (fun k => P + 1 + I' k) u' := by
  have es := snoc_map (fun k => P + 1 + k) I m i
  rcases h with ⟨h1, h2, h3, h4⟩ | ⟨h1, h2, h3⟩ | ⟨h1, h2, g, h3, h4, h5, h6⟩
  · exact ⟨m, I, u, Or.inl ⟨h1, h2, h3, rfl, rfl, rfl⟩, h4⟩
  · rw [show snoc (fun k => P + 1 + I k) m (P + 1 + i) = _ from es] at h3
    exact ⟨m + 1, snoc I m i, _, Or.inr (Or.inl ⟨h1, h2, rfl, rfl, rfl⟩), h3⟩
  · rw [show snoc (fun k => P + 1 + I k) m (P + 1 + i) = _ from es] at h6
    exact ⟨min (m + 1) 1000, fun k => snoc I m i (g k), false, Or.inr (Or.inr ⟨h1, h2, g, h3, h4, h5, rfl, rfl, rfl⟩), h6⟩

/-- The held list: at least one once one was added, below 2000; refusals of one line stand in the order they were added; in order it holds at most 1000. -/
structure Held (L : Nat → Int) (i m : Nat) (I : Nat → Nat) (u : Bool) : Prop where
  lt : ∀ k, k < m → I k < i
  pos : 0 < i → 0 < m
  cnt : m < 2000
  stable : ∀ j k, j < k → k < m → L (I j) = L (I k) → I j < I k
  srt : u = false → m ≤ 1000 ∧ Srt L I 0 m

theorem Held.start (L : Nat → Int) (I : Nat → Nat) : Held L 0 0 I false :=
  ⟨fun k hk => absurd hk (Nat.not_lt_zero _), fun h => h, by omega, fun j k _ hk => absurd hk (Nat.not_lt_zero _), fun _ => ⟨by omega, Srt.short (by omega)⟩⟩

section
variable {L : Nat → Int} {i m m' : Nat} {I I' : Nat → Nat} {u u' : Bool}
/-- In order by line and place, hence by line and id. -/
theorem srt_ids {n : Nat} {J g : Nat → Nat} (hst : ∀ j k, j < k → k < n → L (J j) = L (J k) → J j < J k) (hd : Dom n g) (hs : Srt (fun k => L (J k)) g 0 n) : Srt L (fun k => J (g k)) 0 n := by
  intro a b ha hab hb
  rcases hs a b ha hab hb with h | ⟨h1, h2⟩
  · exact Or.inl h
  · exact Or.inr ⟨h1, hst _ _ h2 (hd b hb) h1⟩

theorem snoc_at {α : Type} (f : Nat → α) (n : Nat) (x : α) : snoc f n x n = x := if_pos rfl
theorem snoc_lt {α : Type} (f : Nat → α) {n k : Nat} (x : α) (h : k < n) : snoc f n x k = f k := if_neg (by omega)

theorem Held.snoc_lt' (h : Held L i m I u) : ∀ k, k < m + 1 → snoc I m i k < i + 1 := fun k hk => by
  by_cases e : k = m
  · subst e; rw [snoc_at]; omega
  · rw [snoc_lt I i (by omega)]; have := h.lt k (by omega); omega
theorem Held.snoc_stable (h : Held L i m I u) : ∀ j k, j < k → k < m + 1 → L (snoc I m i j) = L (snoc I m i k) → snoc I m i j < snoc I m i k := fun j k hjk hk e => by
  by_cases ek : k = m
  · subst ek; rw [snoc_at, snoc_lt I i hjk]; exact h.lt j hjk
  · rw [snoc_lt I i (by omega), snoc_lt I i (by omega)] at e ⊢; exact h.stable j k hjk (by omega) e
/-- Not out of line: no held one has a greater line. -/
theorem Held.le_of (h : Held L i m I u) (hu : u = false) (ho : outOf m (fun k => L (I k)) (L i) = false) : ∀ k, k < m → L (I k) ≤ L i := fun k hk => by
  have h1 : ¬ L i < L (I (m - 1)) := fun q => by
    have : outOf m (fun k => L (I k)) (L i) = true := by unfold outOf; simp [q]; omega
    rw [this] at ho; cases ho
  have hs := (h.srt hu).2
  by_cases e : k = m - 1
  · subst e; omega
  · have := hs k (m - 1) (Nat.zero_le _) (by omega) (by omega)
    unfold lx at this; omega
theorem Held.snoc_srt (h : Held L i m I u) (hu : u = false) (ho : outOf m (fun k => L (I k)) (L i) = false) : Srt L (snoc I m i) 0 (m + 1) := fun a b ha hab hb => by
  by_cases eb : b = m
  · subst eb
    rw [snoc_at, snoc_lt I i hab]
    have h1 := h.le_of hu ho a hab
    have h2 := h.lt a hab
    unfold lx; omega
  · rw [snoc_lt I i (by omega), snoc_lt I i (by omega)]
    exact (h.srt hu).2 a b ha hab (by omega)

theorem Held.step (h : Held L i m I u) (s : Step L i m I u m' I' u') : Held L (i + 1) m' I' u' := by
  have hc := h.cnt
  rcases s with ⟨h1, h2, h3, rfl, rfl, rfl⟩ | ⟨h1, h2, rfl, rfl, rfl⟩ | ⟨h1, h2, g, h3, h4, h5, rfl, rfl, rfl⟩
  · exact ⟨fun k hk => by have := h.lt k hk; omega, fun _ => by omega, h.cnt, h.stable, h.srt⟩
  · refine ⟨h.snoc_lt', fun _ => by omega, h2, h.snoc_stable, fun e => ?_⟩
    rw [Bool.or_eq_false_iff] at e
    refine ⟨?_, h.snoc_srt e.1 e.2⟩
    have : ¬ 1000 ≤ m := fun q => h1 ⟨e.2, q, e.1⟩
    omega
  · have hu : (u || outOf m (fun k => L (I k)) (L i)) = true := by
      cases hb : (u || outOf m (fun k => L (I k)) (L i)) with
      | true => rfl
      | false =>
        rw [Bool.or_eq_false_iff] at hb
        exact absurd ⟨hb.2, by omega, hb.1⟩ h1
    have hs := h4 hu
    rw [show snoc (fun k => L (I k)) m (L i) = _ from snoc_map L I m i] at hs
    have hT := srt_ids h.snoc_stable h3 hs
    rw [Nat.min_eq_right (by omega)]
    refine ⟨fun k hk => h.snoc_lt' _ (h3 k (by omega)), fun _ => by omega, by omega, fun j k hjk hk e => ?_, fun _ => ⟨Nat.le_refl _, hT.part (Nat.le_refl _) (by omega)⟩⟩
    rcases hT j k (Nat.zero_le _) hjk (by omega) with q | ⟨_, q⟩
    · exact absurd e (Int.ne_of_lt q)
    · exact q
end
end Go.Proofs.Qxb6603170a
