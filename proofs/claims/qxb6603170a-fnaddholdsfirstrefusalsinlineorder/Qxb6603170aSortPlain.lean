/-
  THE PLAIN THEORY OF THE STABLE SORT, no Go in sight: a row is a function from places to elements ('f : Nat → Nat', an element is its first place); 'lx key': by the key, then by the first place.
-/
namespace Go.Proofs.Qxb6603170a

/-- By the key, then by the first place: a strict total order. -/
def lx (key : Nat → Int) (i j : Nat) : Prop := key i < key j ∨ (key i = key j ∧ i < j)

section
variable {key : Nat → Int}
theorem lx_trans {i j k : Nat} (h : lx key i j) (h' : lx key j k) : lx key i k := by unfold lx at *; omega
theorem lx_irrefl {i : Nat} (h : lx key i i) : False := by unfold lx at h; omega
theorem lx_of_not {i j : Nat} (hij : i < j) (h : ¬ key j < key i) : lx key i j := by unfold lx; omega
theorem lx_of_key {i j : Nat} (h : key i < key j) : lx key i j := Or.inl h
theorem lx_total {i j : Nat} (h : i ≠ j) : lx key i j ∨ lx key j i := by unfold lx; omega
end

/-- The places a .. b - 1 stand in order. -/
def Srt (key : Nat → Int) (f : Nat → Nat) (a b : Nat) : Prop := ∀ i j, a ≤ i → i < j → j < b → lx key (f i) (f j)

theorem Srt.part {key : Nat → Int} {f : Nat → Nat} {a b a' b' : Nat} (h : Srt key f a b) (ha : a ≤ a') (hb : b' ≤ b) : Srt key f a' b' :=
  fun i j hi hij hj => h i j (by omega) hij (by omega)
theorem Srt.congr {key : Nat → Int} {f g : Nat → Nat} {a b : Nat} (h : Srt key f a b) (e : ∀ k, a ≤ k → k < b → g k = f k) : Srt key g a b :=
  fun i j hi hij hj => by rw [e i hi (by omega), e j (by omega) hj]; exact h i j hi hij hj
theorem Srt.join {key : Nat → Int} {f : Nat → Nat} {a m b : Nat} (h1 : Srt key f a m) (h2 : Srt key f m b) (h : ∀ i j, a ≤ i → i < m → m ≤ j → j < b → lx key (f i) (f j)) : Srt key f a b := by
  intro i j hi hij hj
  by_cases h' : j < m
  · exact h1 i j hi hij h'
  · by_cases h'' : i < m
    · exact h i j hi h'' (by omega) hj
    · exact h2 i j (by omega) hij hj
theorem Srt.short {key : Nat → Int} {f : Nat → Nat} {a b : Nat} (h : b ≤ a + 1) : Srt key f a b := fun i j hi hij hj => by omega

/-- g has turned in a .. b - 1 alone, and holds there nothing but what f held there. -/
structure Sub (a b : Nat) (f g : Nat → Nat) : Prop where
  out : ∀ k, k < a ∨ b ≤ k → g k = f k
  into : ∀ k, a ≤ k → k < b → ∃ k', a ≤ k' ∧ k' < b ∧ g k = f k'

theorem Sub.refl (a b : Nat) (f : Nat → Nat) : Sub a b f f := ⟨fun _ _ => rfl, fun k h1 h2 => ⟨k, h1, h2, rfl⟩⟩
theorem Sub.trans {a b : Nat} {f g h : Nat → Nat} (h1 : Sub a b f g) (h2 : Sub a b g h) : Sub a b f h := by
  refine ⟨fun k hk => (h2.out k hk).trans (h1.out k hk), fun k ha hb => ?_⟩
  obtain ⟨k1, a1, b1, e1⟩ := h2.into k ha hb
  obtain ⟨k2, a2, b2, e2⟩ := h1.into k1 a1 b1
  exact ⟨k2, a2, b2, e1.trans e2⟩
theorem Sub.wide {a b a' b' : Nat} {f g : Nat → Nat} (h : Sub a b f g) (ha : a' ≤ a) (hb : b ≤ b') : Sub a' b' f g := by
  refine ⟨fun k hk => h.out k (by omega), fun k h1 h2 => ?_⟩
  by_cases hk : a ≤ k ∧ k < b
  · obtain ⟨k', x, y, e⟩ := h.into k hk.1 hk.2
    exact ⟨k', by omega, by omega, e⟩
  · exact ⟨k, h1, h2, h.out k (by omega)⟩

/-- Two places change what they hold. -/
def sw1 (f : Nat → Nat) (i j : Nat) : Nat → Nat := fun k => if k = i then f j else if k = j then f i else f k

theorem sw1_sub {a b i j : Nat} (f : Nat → Nat) (hi : a ≤ i ∧ i < b) (hj : a ≤ j ∧ j < b) : Sub a b f (sw1 f i j) := by
  refine ⟨fun k hk => ?_, fun k h1 h2 => ?_⟩
  · unfold sw1; rw [if_neg (by omega), if_neg (by omega)]
  · unfold sw1
    by_cases e1 : k = i
    · exact ⟨j, hj.1, hj.2, by rw [if_pos e1]⟩
    · by_cases e2 : k = j
      · exact ⟨i, hi.1, hi.2, by rw [if_neg e1, if_pos e2]⟩
      · exact ⟨k, h1, h2, by rw [if_neg e1, if_neg e2]⟩

/-! ### swapRange -/
def swR (a b n : Nat) (f : Nat → Nat) : Nat → Nat := fun k => if a ≤ k ∧ k < a + n then f (k - a + b) else if b ≤ k ∧ k < b + n then f (k - b + a) else f k

theorem swR_zero (a b : Nat) (f : Nat → Nat) : swR a b 0 f = f := by
  funext k; unfold swR; rw [if_neg (by omega), if_neg (by omega)]
theorem swR_succ (a b n i : Nat) (f : Nat → Nat) (hab : a + n ≤ b) (hi : i < n) : sw1 (swR a b i f) (a + i) (b + i) = swR a b (i + 1) f := by
  funext k
  unfold sw1 swR
  by_cases h1 : k = a + i
  · subst h1
    rw [if_pos rfl, if_neg (by omega), if_neg (by omega), if_pos (by omega)]
    congr 1; omega
  · by_cases h2 : k = b + i
    · subst h2
      rw [if_neg (by omega), if_pos rfl, if_neg (by omega), if_neg (by omega), if_neg (by omega), if_pos (by omega)]
      congr 1; omega
    · rw [if_neg h1, if_neg h2]
      by_cases h3 : a ≤ k ∧ k < a + i
      · rw [if_pos h3, if_pos (by omega)]
      · rw [if_neg h3, if_neg (by omega : ¬ (a ≤ k ∧ k < a + (i + 1)))]
        by_cases h4 : b ≤ k ∧ k < b + i
        · rw [if_pos h4, if_pos (by omega)]
        · rw [if_neg h4, if_neg (by omega)]

/-! ### rotate -/
/-- The two neighbours a .. m - 1 and m .. b - 1 change places. -/
def rotF (a m b : Nat) (f : Nat → Nat) : Nat → Nat := fun k => if a ≤ k ∧ k < a + (b - m) then f (k + (m - a)) else if a + (b - m) ≤ k ∧ k < b then f (k - (b - m)) else f k

theorem rot_left (m i j : Nat) (f : Nat → Nat) (hi : i ≤ m) (hij : j < i) : rotF (m - (i - j)) m (m + j) (swR (m - i) m j f) = rotF (m - i) m (m + j) f := by
  funext k
  unfold rotF swR
  by_cases h1 : m - i ≤ k ∧ k < m - i + j
  · rw [if_neg (by omega), if_neg (by omega), if_pos h1, if_pos (by omega)]
    congr 1; omega
  · by_cases h2 : m - i + j ≤ k ∧ k < m - i + j + j
    · rw [if_pos (by omega), if_neg (by omega), if_pos (by omega), if_neg (by omega), if_pos (by omega)]
      congr 1; omega
    · by_cases h3 : m - i + j + j ≤ k ∧ k < m + j
      · rw [if_neg (by omega), if_pos (by omega), if_neg (by omega), if_neg (by omega), if_neg (by omega), if_pos (by omega)]
      · rw [if_neg (by omega), if_neg (by omega), if_neg (by omega), if_neg (by omega), if_neg (by omega), if_neg (by omega)]
theorem rot_right (m i j : Nat) (f : Nat → Nat) (hi : i ≤ m) (hij : i < j) : rotF (m - i) m (m + (j - i)) (swR (m - i) (m + j - i) i f) = rotF (m - i) m (m + j) f := by
  funext k
  unfold rotF swR
  by_cases h1 : m + j - i ≤ k ∧ k < m + j
  · rw [if_neg (by omega), if_neg (by omega), if_neg (by omega), if_pos (by omega), if_neg (by omega), if_pos (by omega)]
    congr 1; omega
  · by_cases h2 : m - i ≤ k ∧ k < m - i + (j - i)
    · rw [if_pos (by omega), if_neg (by omega), if_neg (by omega), if_pos (by omega)]
    · by_cases h3 : m - i + (j - i) ≤ k ∧ k < m + j - i
      · rw [if_neg (by omega), if_pos (by omega), if_pos (by omega), if_pos (by omega)]
        congr 1; omega
      · rw [if_neg (by omega), if_neg (by omega), if_neg (by omega), if_neg (by omega), if_neg (by omega), if_neg (by omega)]
theorem rot_even (m i : Nat) (f : Nat → Nat) (hi : i ≤ m) : swR (m - i) m i f = rotF (m - i) m (m + i) f := by
  funext k
  unfold rotF swR
  by_cases h1 : m - i ≤ k ∧ k < m - i + i
  · rw [if_pos h1, if_pos (by omega)]
    congr 1; omega
  · rw [if_neg h1, if_neg (by omega : ¬ (m - i ≤ k ∧ k < m - i + (m + i - m)))]
    by_cases h2 : m ≤ k ∧ k < m + i
    · rw [if_pos h2, if_pos (by omega)]
      congr 1; omega
    · rw [if_neg h2, if_neg (by omega)]
theorem rot_sub (a m b : Nat) (f : Nat → Nat) (h1 : a ≤ m) (h2 : m ≤ b) : Sub a b f (rotF a m b f) := by
  refine ⟨fun k hk => ?_, fun k ha hb => ?_⟩
  · unfold rotF; rw [if_neg (by omega), if_neg (by omega)]
  · unfold rotF
    by_cases h : k < a + (b - m)
    · exact ⟨k + (m - a), by omega, by omega, by rw [if_pos ⟨ha, h⟩]⟩
    · exact ⟨k - (b - m), by omega, by omega, by rw [if_neg (by omega), if_pos ⟨by omega, hb⟩]⟩
theorem rot_lo {a m b : Nat} {f : Nat → Nat} {k : Nat} (h1 : a ≤ k) (h2 : k < a + (b - m)) : rotF a m b f k = f (k + (m - a)) := by unfold rotF; rw [if_pos ⟨h1, h2⟩]
theorem rot_hi {a m b : Nat} {f : Nat → Nat} {k : Nat} (h1 : a + (b - m) ≤ k) (h2 : k < b) : rotF a m b f k = f (k - (b - m)) := by unfold rotF; rw [if_neg (by omega), if_pos ⟨h1, h2⟩]
theorem rot_out {a m b : Nat} {f : Nat → Nat} {k : Nat} (h : k < a ∨ b ≤ k) (h1 : a ≤ m) (h2 : m ≤ b) : rotF a m b f k = f k := (rot_sub a m b f h1 h2).out k h

/-! ### one element inserted among its neighbours -/
/-- f a goes to place t, what stood in a + 1 .. t one down. -/
def shL (a t : Nat) (f : Nat → Nat) : Nat → Nat := fun k => if a ≤ k ∧ k < t then f (k + 1) else if k = t then f a else f k
/-- f m goes to place t, what stood in t .. m - 1 one up. -/
def shR (t m : Nat) (f : Nat → Nat) : Nat → Nat := fun k => if t < k ∧ k ≤ m then f (k - 1) else if k = t then f m else f k

theorem shL_zero (a : Nat) (f : Nat → Nat) : shL a a f = f := by
  funext k; unfold shL; rw [if_neg (by omega)]; by_cases h : k = a <;> simp [h]
theorem shL_succ (a t : Nat) (f : Nat → Nat) (h : a ≤ t) : sw1 (shL a t f) t (t + 1) = shL a (t + 1) f := by
  funext k
  unfold sw1 shL
  by_cases h1 : k = t
  · subst h1; rw [if_pos rfl, if_neg (by omega), if_neg (by omega), if_pos (by omega)]
  · by_cases h2 : k = t + 1
    · subst h2; rw [if_neg (by omega), if_pos rfl, if_neg (by omega), if_pos rfl, if_neg (by omega), if_pos rfl]
    · rw [if_neg h1, if_neg h2]
      by_cases h3 : a ≤ k ∧ k < t
      · rw [if_pos h3, if_pos (by omega)]
      · rw [if_neg h3, if_neg h1, if_neg (by omega), if_neg h2]
theorem shR_zero (m : Nat) (f : Nat → Nat) : shR m m f = f := by
  funext k; unfold shR; rw [if_neg (by omega)]; by_cases h : k = m <;> simp [h]
theorem shR_succ (t m : Nat) (f : Nat → Nat) (h : t + 1 ≤ m) : sw1 (shR (t + 1) m f) (t + 1) t = shR t m f := by
  funext k
  unfold sw1 shR
  by_cases h1 : k = t + 1
  · subst h1; rw [if_pos rfl, if_neg (by omega), if_neg (by omega), if_pos (by omega)]; rfl
  · by_cases h2 : k = t
    · subst h2; rw [if_neg (by omega), if_pos rfl, if_neg (by omega), if_pos rfl, if_neg (by omega), if_pos rfl]
    · rw [if_neg h1, if_neg h2]
      by_cases h3 : t + 1 < k ∧ k ≤ m
      · rw [if_pos h3, if_pos (by omega)]
      · rw [if_neg h3, if_neg h1, if_neg (by omega), if_neg h2]
theorem shL_sub {a b t : Nat} (f : Nat → Nat) (h1 : a ≤ t) (h2 : t < b) : Sub a b f (shL a t f) := by
  refine ⟨fun k hk => ?_, fun k ha hb => ?_⟩
  · unfold shL; rw [if_neg (by omega), if_neg (by omega)]
  · unfold shL
    by_cases h : k < t
    · exact ⟨k + 1, by omega, by omega, by rw [if_pos ⟨ha, h⟩]⟩
    · by_cases h' : k = t
      · exact ⟨a, by omega, by omega, by rw [if_neg (by omega), if_pos h']⟩
      · exact ⟨k, ha, hb, by rw [if_neg (by omega), if_neg h']⟩
theorem shR_sub {a b t m : Nat} (f : Nat → Nat) (h0 : a ≤ t) (h1 : t ≤ m) (h2 : m < b) : Sub a b f (shR t m f) := by
  refine ⟨fun k hk => ?_, fun k ha hb => ?_⟩
  · unfold shR; rw [if_neg (by omega), if_neg (by omega)]
  · unfold shR
    by_cases h : t < k ∧ k ≤ m
    · exact ⟨k - 1, by omega, by omega, by rw [if_pos h]⟩
    · by_cases h' : k = t
      · exact ⟨m, by omega, by omega, by rw [if_neg h, if_pos h']⟩
      · exact ⟨k, ha, hb, by rw [if_neg h, if_neg h']⟩
/-- a's element belongs between t and t + 1. -/
theorem shL_srt {key : Nat → Int} {a b t : Nat} {f : Nat → Nat} (h1 : a ≤ t) (h2 : t < b) (hs : Srt key f (a + 1) b) (hlo : ∀ k, a < k → k ≤ t → lx key (f k) (f a)) (hhi : ∀ k, t < k → k < b → lx key (f a) (f k)) : Srt key (shL a t f) a b := by
  intro i j hi hij hj
  unfold shL
  by_cases ht : j < t
  · rw [if_pos (by omega), if_pos (by omega)]; exact hs _ _ (by omega) (by omega) (by omega)
  · by_cases ht' : j = t
    · rw [if_pos (by omega), if_neg (by omega), if_pos ht']; exact hlo _ (by omega) (by omega)
    · rw [if_neg (by omega : ¬ (a ≤ j ∧ j < t)), if_neg ht']
      by_cases hit : i < t
      · rw [if_pos (by omega)]; exact hs _ _ (by omega) (by omega) hj
      · by_cases hit' : i = t
        · rw [if_neg (by omega), if_pos hit']; exact hhi _ (by omega) hj
        · rw [if_neg (by omega), if_neg hit']; exact hs _ _ (by omega) hij hj
/-- m's element belongs at t. -/
theorem shR_srt {key : Nat → Int} {a m t : Nat} {f : Nat → Nat} (h1 : a ≤ t) (h2 : t ≤ m) (hs : Srt key f a m) (hlo : ∀ k, a ≤ k → k < t → lx key (f k) (f m)) (hhi : ∀ k, t ≤ k → k < m → lx key (f m) (f k)) : Srt key (shR t m f) a (m + 1) := by
  intro i j hi hij hj
  unfold shR
  by_cases ht : j < t
  · rw [if_neg (by omega), if_neg (by omega), if_neg (by omega), if_neg (by omega)]; exact hs _ _ hi hij (by omega)
  · by_cases ht' : j = t
    · rw [if_neg (by omega : ¬ (t < i ∧ i ≤ m)), if_neg (by omega), if_neg (by omega), if_pos ht']; exact hlo _ hi (by omega)
    · rw [if_pos (by omega : t < j ∧ j ≤ m)]
      by_cases hit : i < t
      · rw [if_neg (by omega), if_neg (by omega)]; exact hs _ _ hi (by omega) (by omega)
      · by_cases hit' : i = t
        · rw [if_neg (by omega), if_pos hit']; exact hhi _ (by omega) (by omega)
        · rw [if_pos (by omega)]; exact hs _ _ (by omega) (by omega) (by omega)

/-! ### symMerge -/
/-- Left places hold elements that stood ahead of those of the right places. -/
def LR (f : Nat → Nat) (a m b : Nat) : Prop := ∀ i j, a ≤ i → i < m → m ≤ j → j < b → f i < f j

/-- BEHIND THE SEARCH AND THE ROTATION: the two halves are each a pair of sorted neighbours, and every element of the lower half comes ahead of every one of the upper. -/
theorem sym_rot {key : Nat → Int} {a m b mid s : Nat} {f : Nat → Nat} (hs1 : Srt key f a m) (hs2 : Srt key f m b) (hlr : LR f a m b)
    (h1 : a ≤ s) (h2 : s ≤ m) (h3 : a < mid) (h4 : mid < b) (hn : s ≤ mid) (he1 : m ≤ mid + m - s) (he2 : mid + m - s ≤ b)
    (hlo : 0 < s → a < s → mid + m - s < b → lx key (f (s - 1)) (f (mid + m - s))) (hhi : s < m → m < mid + m - s → lx key (f (mid + m - s - 1)) (f s)) :
    let g := rotF s m (mid + m - s) f
    Srt key g a s ∧ Srt key g s mid ∧ LR g a s mid ∧ Srt key g mid (mid + m - s) ∧ Srt key g (mid + m - s) b ∧ LR g mid (mid + m - s) b ∧
      (∀ i j, a ≤ i → i < mid → mid ≤ j → j < b → lx key (g i) (g j)) := by
  intro g
  have glo : ∀ k, k < s → g k = f k := fun k hk => rot_out (Or.inl hk) h2 he1
  have gR : ∀ k, s ≤ k → k < mid → g k = f (k + (m - s)) := fun k h h' => rot_lo h (by omega)
  have gL : ∀ k, mid ≤ k → k < mid + m - s → g k = f (k - (mid - s)) := fun k h h' => by
    have e : mid + m - s - m = mid - s := by omega
    have := rot_hi (a := s) (m := m) (b := mid + m - s) (f := f) (k := k) (by omega) h'
    rw [e] at this; exact this
  have ghi : ∀ k, mid + m - s ≤ k → g k = f k := fun k hk => rot_out (Or.inr hk) h2 he1
  have cross1 : ∀ i j, a ≤ i → i < s → mid + m - s ≤ j → j < b → lx key (f i) (f j) := by
    intro i j hi his hj hjb
    have base := hlo (by omega) (by omega) (by omega)
    have left : i = s - 1 ∨ lx key (f i) (f (s - 1)) := by
      by_cases e : i = s - 1
      · exact Or.inl e
      · exact Or.inr (hs1 i (s - 1) hi (by omega) (by omega))
    have right : j = mid + m - s ∨ lx key (f (mid + m - s)) (f j) := by
      by_cases e : j = mid + m - s
      · exact Or.inl e
      · exact Or.inr (hs2 _ j (by omega) (by omega) hjb)
    rcases left with rfl | l <;> rcases right with rfl | r
    · exact base
    · exact lx_trans base r
    · exact lx_trans l base
    · exact lx_trans l (lx_trans base r)
  have cross2 : ∀ i j, m ≤ i → i < mid + m - s → s ≤ j → j < m → lx key (f i) (f j) := by
    intro i j hi hie hj hjm
    have base := hhi (by omega) (by omega)
    have left : i = mid + m - s - 1 ∨ lx key (f i) (f (mid + m - s - 1)) := by
      by_cases e : i = mid + m - s - 1
      · exact Or.inl e
      · exact Or.inr (hs2 i _ hi (by omega) (by omega))
    have right : j = s ∨ lx key (f s) (f j) := by
      by_cases e : j = s
      · exact Or.inl e
      · exact Or.inr (hs1 s j (by omega) (by omega) hjm)
    rcases left with rfl | l <;> rcases right with rfl | r
    · exact base
    · exact lx_trans base r
    · exact lx_trans l base
    · exact lx_trans l (lx_trans base r)
  refine ⟨fun i j hi hij hj => ?_, fun i j hi hij hj => ?_, fun i j hi hi' hj hj' => ?_, fun i j hi hij hj => ?_, fun i j hi hij hj => ?_, fun i j hi hi' hj hj' => ?_, fun i j hi hi' hj hj' => ?_⟩
  · rw [glo i (by omega), glo j hj]; exact hs1 i j hi hij (by omega)
  · rw [gR i hi (by omega), gR j (by omega) hj]; exact hs2 _ _ (by omega) (by omega) (by omega)
  · rw [glo i hi', gR j hj hj']; exact hlr _ _ hi (by omega) (by omega) (by omega)
  · rw [gL i hi (by omega), gL j (by omega) hj]; exact hs1 _ _ (by omega) (by omega) (by omega)
  · rw [ghi i hi, ghi j (by omega)]; exact hs2 i j (by omega) hij hj
  · rw [gL i hi hi', ghi j hj]; exact hlr _ _ (by omega) (by omega) (by omega) hj'
  · by_cases his : i < s
    · rw [glo i his]
      by_cases hje : j < mid + m - s
      · rw [gL j hj hje]; exact hs1 _ _ hi (by omega) (by omega)
      · rw [ghi j (by omega)]; exact cross1 i j hi his (by omega) hj'
    · rw [gR i (by omega) hi']
      by_cases hje : j < mid + m - s
      · rw [gL j hj hje]; exact cross2 _ _ (by omega) (by omega) (by omega) (by omega)
      · rw [ghi j (by omega)]; exact hs2 _ _ (by omega) (by omega) hj'

/-- THE TWO HALVES MERGED: the whole is in order. -/
theorem sym_done {key : Nat → Int} {a b mid : Nat} {g g1 g2 : Nat → Nat} (hc : ∀ i j, a ≤ i → i < mid → mid ≤ j → j < b → lx key (g i) (g j))
    (s1 : Sub a mid g g1) (t1 : Srt key g1 a mid) (s2 : Sub mid b g1 g2) (t2 : Srt key g2 mid b) : Srt key g2 a b := by
  refine Srt.join (t1.congr fun k h1 h2 => s2.out k (Or.inl h2)) t2 fun i j hi hi' hj hj' => ?_
  obtain ⟨j', j1, j2, e⟩ := s2.into j hj hj'
  obtain ⟨i', i1, i2, e'⟩ := s1.into i hi hi'
  rw [s2.out i (Or.inl hi'), e', e, s1.out j' (Or.inr j1)]
  exact hc i' j' i1 i2 j1 j2

end Go.Proofs.Qxb6603170a
