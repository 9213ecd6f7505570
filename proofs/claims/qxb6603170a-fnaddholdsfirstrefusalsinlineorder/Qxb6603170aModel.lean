/-
  THE FIRST 1000 IN LINE ORDER, no Go in sight: the law's model, an id put in at its spot; and what add holds, put in order, opens with it.
-/
import Derived.Test.Qxb6603170aHeld
namespace Go.Proofs.Qxb6603170a
open Go.RowKit
set_option linter.unusedSimpArgs false
set_option linter.unusedVariables false

/-- c ids, the first of the i in order. -/
structure Model (L : Nat → Int) (i c : Nat) (M : Nat → Nat) : Prop where
  cap : c ≤ 1000
  lt : ∀ k, k < c → M k < i
  srt : Srt L M 0 c
  out : ∀ p, p < i → (∃ k, k < c ∧ M k = p) ∨ (c = 1000 ∧ ∀ k, k < c → lx L (M k) p)

theorem Model.start (L : Nat → Int) (M : Nat → Nat) : Model L 0 0 M :=
  ⟨by omega, fun k hk => absurd hk (Nat.not_lt_zero _), Srt.short (by omega), fun p hp => absurd hp (Nat.not_lt_zero _)⟩

/-- Behind all of a line no greater. -/
structure Spot (L : Nat → Int) (M : Nat → Nat) (c i p : Nat) : Prop where
  le : p ≤ c
  lo : ∀ k, k < p → L (M k) ≤ L i
  hi : p < c → L i < L (M p)

def insAt (M : Nat → Nat) (p i : Nat) : Nat → Nat := fun k => if k < p then M k else if k = p then i else M (k - 1)
theorem insAt_lt (M : Nat → Nat) {p k : Nat} (i : Nat) (h : k < p) : insAt M p i k = M k := if_pos h
theorem insAt_at (M : Nat → Nat) (p i : Nat) : insAt M p i p = i := by unfold insAt; rw [if_neg (Nat.lt_irrefl _), if_pos rfl]
theorem insAt_gt (M : Nat → Nat) {p k : Nat} (i : Nat) (h : p < k) : insAt M p i k = M (k - 1) := by unfold insAt; rw [if_neg (by omega), if_neg (by omega)]

/-- One id more. -/
def MStep (L : Nat → Int) (i c : Nat) (M : Nat → Nat) (c' : Nat) (M' : Nat → Nat) : Prop :=
  ∃ p, Spot L M c i p ∧ ((1000 ≤ p ∧ c' = c ∧ M' = M) ∨ (p < 1000 ∧ c' = min (c + 1) 1000 ∧ M' = insAt M p i))

section
variable {L : Nat → Int} {i c c' m m' : Nat} {M M' I I' : Nat → Nat} {u u' : Bool}

theorem lx_le {a b : Nat} (h : lx L a b) : L a ≤ L b := by unfold lx at h; omega
theorem Model.le (h : Model L i c M) {a b : Nat} (hab : a ≤ b) (hb : b < c) : L (M a) ≤ L (M b) := by
  by_cases e : a = b
  · subst e; exact Int.le_refl _
  · exact lx_le (h.srt a b (Nat.zero_le _) (by omega) hb)

theorem Model.step (h : Model L i c M) (s : MStep L i c M c' M') : Model L (i + 1) c' M' := by
  have hcap := h.cap
  obtain ⟨p, hs, ⟨h1, rfl, rfl⟩ | ⟨h1, rfl, rfl⟩⟩ := s
  · have hp := hs.le
    refine ⟨h.cap, fun k hk => by have := h.lt k hk; omega, h.srt, fun q hq => ?_⟩
    by_cases e : q = i
    · subst e
      refine Or.inr ⟨by omega, fun k hk => ?_⟩
      have h2 := hs.lo k (by omega)
      have h3 := h.lt k hk
      unfold lx; omega
    · exact h.out q (by omega)
  · have hp := hs.le
    -- what is put in stands behind all ahead of the spot, and ahead of all from the spot on
    have hlo : ∀ k, k < p → lx L (M k) i := fun k hk => by
      have h2 := hs.lo k hk
      have h3 := h.lt k (by omega)
      unfold lx; omega
    have hhi : ∀ k, p ≤ k → k < c → lx L i (M k) := fun k hk hkc => by
      have h2 := hs.hi (by omega)
      have h3 := h.le hk hkc
      exact Or.inl (by omega)
    refine ⟨by omega, fun k hk => ?_, fun a b ha hab hb => ?_, fun q hq => ?_⟩
    · by_cases e1 : k < p
      · rw [insAt_lt M i e1]; have := h.lt k (by omega); omega
      · by_cases e2 : k = p
        · subst e2; rw [insAt_at]; omega
        · rw [insAt_gt M i (by omega)]; have := h.lt (k - 1) (by omega); omega
    · by_cases a1 : a < p
      · rw [insAt_lt M i a1]
        by_cases b1 : b < p
        · rw [insAt_lt M i b1]; exact h.srt a b ha hab (by omega)
        · by_cases b2 : b = p
          · subst b2; rw [insAt_at]; exact hlo a a1
          · rw [insAt_gt M i (by omega)]; exact h.srt a (b - 1) ha (by omega) (by omega)
      · by_cases a2 : a = p
        · subst a2; rw [insAt_at, insAt_gt M i hab]; exact hhi (b - 1) (by omega) (by omega)
        · rw [insAt_gt M i (by omega), insAt_gt M i (by omega)]; exact h.srt (a - 1) (b - 1) (Nat.zero_le _) (by omega) (by omega)
    · by_cases e : q = i
      · subst e; exact Or.inl ⟨p, by omega, insAt_at _ _ _⟩
      · rcases h.out q (by omega) with ⟨k, hk, rfl⟩ | ⟨hc, hall⟩
        · by_cases k1 : k < p
          · exact Or.inl ⟨k, by omega, insAt_lt M i k1⟩
          · by_cases k2 : k + 1 < min (c + 1) 1000
            · exact Or.inl ⟨k + 1, k2, by rw [insAt_gt M i (by omega)]; rfl⟩
            · refine Or.inr ⟨by omega, fun j hj => ?_⟩
              by_cases j1 : j < p
              · rw [insAt_lt M i j1]; exact h.srt j k (Nat.zero_le _) (by omega) hk
              · by_cases j2 : j = p
                · subst j2; rw [insAt_at]; exact hhi k (by omega) hk
                · rw [insAt_gt M i (by omega)]; exact h.srt (j - 1) k (Nat.zero_le _) (by omega) hk
        · refine Or.inr ⟨by omega, fun j hj => ?_⟩
          by_cases j1 : j < p
          · rw [insAt_lt M i j1]; exact hall j (by omega)
          · by_cases j2 : j = p
            · subst j2; rw [insAt_at]; exact lx_trans (hhi j (Nat.le_refl _) (by omega)) (hall j (by omega))
            · rw [insAt_gt M i (by omega)]; exact hall (j - 1) (by omega)

/-- Two rows in order; whatever the second holds the first holds, and what the first holds beyond that stands behind all of the second: the first opens with the second. -/
theorem first_of {A B : Nat → Nat} {a b : Nat} (hA : Srt L A 0 a) (hB : Srt L B 0 b) (hin : ∀ k, k < b → ∃ s, s < a ∧ A s = B k) (hout : ∀ s, s < a → (∃ k, k < b ∧ B k = A s) ∨ ∀ k, k < b → lx L (B k) (A s)) :
    ∀ t, t < b → t < a ∧ A t = B t := by
  intro t
  induction t using Nat.strongRecOn with
  | ind t ih =>
    intro ht
    obtain ⟨s, hs, es⟩ := hin t ht
    have h1 : ¬ s < t := fun q => by
      have e := (ih s q (by omega)).2
      have := hB s t (Nat.zero_le _) q ht
      rw [← e, es] at this
      exact lx_irrefl this
    refine ⟨by omega, ?_⟩
    by_cases e : s = t
    · subst e; exact es
    · have h2 : lx L (A t) (B t) := by rw [← es]; exact hA t s (Nat.zero_le _) (by omega) hs
      rcases hout t (by omega) with ⟨r, hr, er⟩ | hall
      · rw [← er] at h2
        have hrt : r < t := by
          rcases Nat.lt_trichotomy r t with q | q | q
          · exact q
          · subst q; exact absurd h2 (fun q => lx_irrefl q)
          · exact absurd (lx_trans h2 (hB t r (Nat.zero_le _) q hr)) (fun q => lx_irrefl q)
        have e2 := (ih r hrt hr).2
        have := hA r t (Nat.zero_le _) hrt (by omega)
        rw [e2, er] at this
        exact absurd this (fun q => lx_irrefl q)
      · exact absurd (lx_trans h2 (hall t ht)) (fun q => lx_irrefl q)

/-- A row of the first n numbers, in order, holds them all. -/
theorem srt_onto {key : Nat → Int} {n : Nat} {g : Nat → Nat} (hd : Dom n g) (hs : Srt key g 0 n) {j : Nat} (hj : j < n) : ∃ s, s < n ∧ g s = j := by
  refine ⟨rank key j n, rank_bound key j n hj, ?_⟩
  have e := rank_srt hd hs (rank key j n) (rank_bound key j n hj)
  by_cases q : g (rank key j n) = j
  · exact q
  · exact absurd e (rank_inj (hd _ (rank_bound key j n hj)) hj q)

/-- Whatever the model holds is held. -/
def Has (c : Nat) (M : Nat → Nat) (m : Nat) (I : Nat → Nat) : Prop := ∀ k, k < c → ∃ j, j < m ∧ I j = M k

/-- PUT IN ORDER, WHAT IS HELD OPENS WITH THE MODEL. -/
theorem opens {J g : Nat → Nat} (hlt : ∀ k, k < m → J k < i) (hM : Model L i c M) (hH : Has c M m J) (hd : Dom m g) (hT : Srt L (fun k => J (g k)) 0 m) (honto : ∀ j, j < m → ∃ s, s < m ∧ g s = j) :
    (∀ t, t < c → t < m ∧ J (g t) = M t) ∧ min m 1000 = c := by
  have hin : ∀ k, k < c → ∃ s, s < m ∧ J (g s) = M k := fun k hk => by
    obtain ⟨j, hj, e⟩ := hH k hk
    obtain ⟨s, hs, es⟩ := honto j hj
    exact ⟨s, hs, by rw [es]; exact e⟩
  have hone : ∀ t, t < c → t < m ∧ J (g t) = M t := first_of (A := fun k => J (g k)) hT hM.srt hin (fun s hs => by
    rcases hM.out (J (g s)) (hlt _ (hd s hs)) with ⟨k, hk, e⟩ | ⟨_, hall⟩
    · exact Or.inl ⟨k, hk, e⟩
    · exact Or.inr hall)
  refine ⟨hone, ?_⟩
  have hcap := hM.cap
  have hcm : c ≤ m := by
    by_cases e : c = 0
    · omega
    · have := (hone (c - 1) (by omega)).1; omega
  by_cases e : c = 1000
  · omega
  · have hmc : m ≤ c := by
      by_cases em : m = 0
      · omega
      · have := (first_of (A := M) (B := fun k => J (g k)) hM.srt hT (fun k hk => by
          rcases hM.out (J (g k)) (hlt _ (hd k hk)) with ⟨s, hs, q⟩ | ⟨q, _⟩
          · exact ⟨s, hs, q⟩
          · exact absurd q e) (fun s hs => by
          obtain ⟨k, hk, q⟩ := hin s hs
          exact Or.inl ⟨k, hk, q⟩) (m - 1) (by omega)).1
        omega
    omega

/-- .. as trim leaves it. -/
theorem Held.opens (h : Held L i m I u) (hM : Model L i c M) (hH : Has c M m I) {g : Nat → Nat} (hd : Dom m g) (hs : u = true → Srt (fun k => L (I k)) g 0 m) (he : u = false → g = fun k => k) :
    (∀ t, t < c → t < m ∧ I (g t) = M t) ∧ min m 1000 = c := by
  cases u with
  | true => exact Qxb6603170a.opens h.lt hM hH hd (srt_ids h.stable hd (hs rfl)) (fun j hj => srt_onto hd (hs rfl) hj)
  | false =>
    have e := he rfl
    subst e
    exact Qxb6603170a.opens h.lt hM hH hd (h.srt rfl).2 (fun j hj => ⟨j, hj, rfl⟩)

theorem MStep.sub (s : MStep L i c M c' M') : ∀ k, k < c' → M' k = i ∨ ∃ k2, k2 < c ∧ M' k = M k2 := by
  obtain ⟨p, hs, ⟨h1, rfl, rfl⟩ | ⟨h1, rfl, rfl⟩⟩ := s
  · exact fun k hk => Or.inr ⟨k, hk, rfl⟩
  · intro k hk
    have hp := hs.le
    by_cases e1 : k < p
    · exact Or.inr ⟨k, by omega, insAt_lt M i e1⟩
    · by_cases e2 : k = p
      · subst e2; exact Or.inl (insAt_at _ _ _)
      · exact Or.inr ⟨k - 1, by omega, insAt_gt M i (by omega)⟩

theorem Has.step (h : Held L i m I u) (hM : Model L i c M) (hH : Has c M m I) (sM : MStep L i c M c' M') (s : Step L i m I u m' I' u') : Has c' M' m' I' := by
  have hc := h.cnt
  have hsn : Has c' M' (m + 1) (snoc I m i) := fun k hk => by
    rcases sM.sub k hk with e | ⟨k2, hk2, e⟩
    · exact ⟨m, by omega, by rw [snoc_at, e]⟩
    · obtain ⟨j, hj, ej⟩ := hH k2 hk2
      exact ⟨j, by omega, by rw [snoc_lt I i hj, e]; exact ej⟩
  have hM' := hM.step sM
  rcases s with ⟨h1, h2, h3, rfl, rfl, rfl⟩ | ⟨h1, h2, rfl, rfl, rfl⟩ | ⟨h1, h2, g, h3, h4, h5, rfl, rfl, rfl⟩
  · -- nothing added: all held are of a line no greater, the model stands
    obtain ⟨hv, hmin⟩ := h.opens hM hH (g := fun k => k) (fun k hk => hk) (fun q => by rw [h3] at q; cases q) (fun _ => rfl)
    obtain ⟨p, hs, ⟨q1, rfl, rfl⟩ | ⟨q1, rfl, rfl⟩⟩ := sM
    · exact hH
    · exfalso
      have q2 := hs.hi (by omega)
      obtain ⟨q3, q4⟩ := hv p (by omega)
      have q5 := h.le_of h3 h1 p q3
      rw [show I' p = M p from q4] at q5
      omega
  · exact hsn
  · have hu : (u || outOf m (fun k => L (I k)) (L i)) = true := by
      cases hb : (u || outOf m (fun k => L (I k)) (L i)) with
      | true => rfl
      | false =>
        rw [Bool.or_eq_false_iff] at hb
        exact absurd ⟨hb.2, by omega, hb.1⟩ h1
    have hs := h4 hu
    have hs' := hs
    rw [show snoc (fun k => L (I k)) m (L i) = _ from snoc_map L I m i] at hs
    have hT := srt_ids h.snoc_stable h3 hs
    obtain ⟨hv, hmin⟩ := Qxb6603170a.opens h.snoc_lt' hM' hsn h3 hT (fun j hj => srt_onto h3 hs' hj)
    intro k hk
    exact ⟨k, by omega, (hv k hk).2⟩
end
end Go.Proofs.Qxb6603170a
