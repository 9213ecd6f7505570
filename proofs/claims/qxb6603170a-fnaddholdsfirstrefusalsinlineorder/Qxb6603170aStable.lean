/-
  stableCmpFunc (39) and SortStableFunc (36): the row stands in order by the line, then by the first place.
-/
import Derived.Test.Qxb6603170aSym2
namespace Go.Proofs.Qxb6603170a
open Go.RowKit
set_option linter.unusedSimpArgs false
set_option linter.unusedVariables false
set_option maxRecDepth 100000

/-! ### Plain -/
/-- The places a .. b - 1 hold elements of those places alone, in order. -/
def Done (key : Nat → Int) (f : Nat → Nat) (a b : Nat) : Prop := Srt key f a b ∧ ∀ k, a ≤ k → k < b → a ≤ f k ∧ f k < b
/-- Every block of d places is done. -/
def Blks (key : Nat → Int) (n d : Nat) (f : Nat → Nat) : Prop := ∀ a, d ∣ a → Done key f a (min (a + d) n)
/-- The blocks below a are done; from a on all is as in f0. -/
def Upto (key : Nat → Int) (n d : Nat) (f0 : Nat → Nat) (a : Nat) (g : Nat → Nat) : Prop := d ∣ a ∧ a ≤ n ∧ (∀ x, d ∣ x → x < a → Done key g x (x + d)) ∧ (∀ k, a ≤ k → g k = f0 k)

theorem dvd_gap {d x y : Nat} (hx : d ∣ x) (hy : d ∣ y) (h : x < y) : x + d ≤ y := by
  obtain ⟨p, rfl⟩ := hx
  obtain ⟨q, rfl⟩ := hy
  have hpq : p < q := Nat.lt_of_mul_lt_mul_left h
  calc d * p + d = d * (p + 1) := by rw [Nat.mul_add, Nat.mul_one]
    _ ≤ d * q := Nat.mul_le_mul_left d hpq

theorem Done.congr {key : Nat → Int} {f g : Nat → Nat} {a b : Nat} (h : Done key f a b) (e : ∀ k, a ≤ k → k < b → g k = f k) : Done key g a b :=
  ⟨h.1.congr e, fun k h1 h2 => by rw [e k h1 h2]; exact h.2 k h1 h2⟩
theorem Done.none {key : Nat → Int} {f : Nat → Nat} {a b : Nat} (h : b ≤ a) : Done key f a b := ⟨Srt.short (by omega), fun k h1 h2 => by omega⟩
theorem Done.of_sub {key : Nat → Int} {f0 g g' : Nat → Nat} {a b : Nat} (hg : ∀ k, a ≤ k → k < b → g k = f0 k) (h0 : ∀ k, a ≤ k → k < b → a ≤ f0 k ∧ f0 k < b) (hs : Sub a b g g') (ht : Srt key g' a b) : Done key g' a b :=
  ⟨ht, fun k h1 h2 => by obtain ⟨k', q1, q2, e⟩ := hs.into k h1 h2; rw [e, hg k' q1 q2]; exact h0 k' q1 q2⟩

theorem Upto.step {key : Nat → Int} {n d a : Nat} {f0 g g' : Nat → Nat} (h : Upto key n d f0 a g) (hb : a + d ≤ n) (h0 : ∀ k, a ≤ k → k < a + d → a ≤ f0 k ∧ f0 k < a + d) (hs : Sub a (a + d) g g') (ht : Srt key g' a (a + d)) : Upto key n d f0 (a + d) g' := by
  obtain ⟨q1, q2, q3, q4⟩ := h
  refine ⟨(Nat.dvd_add_right q1).2 (Nat.dvd_refl d), hb, fun x hx hlt => ?_, fun k hk => ?_⟩
  · rcases Nat.lt_trichotomy x a with hxa | rfl | hxa
    · have := dvd_gap hx q1 hxa
      exact (q3 x hx hxa).congr fun k h1 h2 => hs.out k (by omega)
    · exact Done.of_sub (fun k h1 _ => q4 k h1) h0 hs ht
    · have := dvd_gap q1 hx hxa; omega
  · rw [hs.out k (by omega)]; exact q4 k (by omega)
theorem Upto.last {key : Nat → Int} {n d a : Nat} {f0 g g' : Nat → Nat} (h : Upto key n d f0 a g) (hb : n < a + d) (h0 : ∀ k, a ≤ k → k < n → a ≤ f0 k ∧ f0 k < n) (hs : Sub a n g g') (ht : Srt key g' a n) : Blks key n d g' := by
  obtain ⟨q1, q2, q3, q4⟩ := h
  intro x hx
  rcases Nat.lt_trichotomy x a with hxa | rfl | hxa
  · have := dvd_gap hx q1 hxa
    rw [Nat.min_eq_left (by omega)]
    exact (q3 x hx hxa).congr fun k h1 h2 => hs.out k (by omega)
  · rw [Nat.min_eq_right (by omega)]
    exact Done.of_sub (fun k h1 _ => q4 k h1) h0 hs ht
  · have := dvd_gap q1 hx hxa
    exact Done.none (by omega)
theorem Upto.start (key : Nat → Int) (n d : Nat) (f0 : Nat → Nat) : Upto key n d f0 0 f0 := ⟨Nat.dvd_zero d, Nat.zero_le _, fun x _ h => absurd h (Nat.not_lt_zero _), fun _ _ => rfl⟩

/-- Two neighbouring blocks, ahead of their merge. -/
theorem Blks.pair {key : Nat → Int} {n d a b : Nat} {f0 g : Nat → Nat} (h : Blks key n d f0) (hu : Upto key n (2 * d) f0 a g) (hd : a + d < b) (hb : b = a + 2 * d ∧ b ≤ n ∨ b = n ∧ n < a + 2 * d) :
    Srt key g a (a + d) ∧ Srt key g (a + d) b ∧ LR g a (a + d) b ∧ ∀ k, a ≤ k → k < b → a ≤ f0 k ∧ f0 k < b := by
  obtain ⟨q1, q2, q3, q4⟩ := hu
  have da : d ∣ a := Nat.dvd_trans (Nat.dvd_mul_left d 2) q1
  have h1 := h a da
  have h2 := h (a + d) ((Nat.dvd_add_right da).2 (Nat.dvd_refl d))
  rw [Nat.min_eq_left (by omega)] at h1
  have e2 : min (a + d + d) n = b := by omega
  rw [e2] at h2
  refine ⟨h1.1.congr fun k k1 k2 => q4 k k1, h2.1.congr fun k k1 k2 => q4 k (by omega), fun i j i1 i2 j1 j2 => ?_, fun k k1 k2 => ?_⟩
  · rw [q4 i i1, q4 j (by omega)]
    have := (h1.2 i i1 i2).2
    have := (h2.2 j j1 j2).1
    omega
  · by_cases hk : k < a + d
    · have := h1.2 k k1 hk; omega
    · have := h2.2 k (by omega) k2; omega
/-- The last block of all stands alone. -/
theorem Blks.lone {key : Nat → Int} {n d a : Nat} {f0 g : Nat → Nat} (h : Blks key n d f0) (hu : Upto key n (2 * d) f0 a g) (hn : n ≤ a + d) (h2 : n < a + 2 * d) : Blks key n (2 * d) g := by
  have q := hu
  obtain ⟨q1, q2, q3, q4⟩ := q
  have h1 := h a (Nat.dvd_trans (Nat.dvd_mul_left d 2) q1)
  rw [Nat.min_eq_right hn] at h1
  exact hu.last h2 h1.2 (Sub.refl _ _ _) (h1.1.congr fun k k1 k2 => q4 k k1)

set_option maxHeartbeats 2000000 in
theorem stable39 (w0 : World) (blk off n cap : Nat) (R : Nat → Nat) (key : Nat → Int) (hK : Keyed w0 blk n R key) (hn : n ≤ 1000000) (w : World) (h : Sw w0 blk off n R (fun k => k) w) :
    Calls Try.prog 39 #[.slice (some ⟨blk, off, none⟩) n cap, .int .i64 n, .func (.func 37) #[] #[]] w fun e w' => e = .returned (.tuple #[]) ∧ ∃ g, Sw w0 blk off n R g w' ∧ Dom n g ∧ Srt key g 0 n := by
  have HS := hidden h
  have HK := hidden hK
  clear h hK
  go_enter Try.func39, Try.ntmps39
  go_wp2
  go_loopw [7, 8] (fun va vb wr => ∃ (a : Nat) (g : Nat → Nat), va = .int .i64 a ∧ vb = .int .i64 ((a + 20 : Nat) : Int) ∧ a ≤ n ∧ Hid (Upto key n 20 (fun k => k) a g) ∧ Hid (Dom n g) ∧ Hid (Sw w0 blk off n R g wr)) (fun a _ _ => n - (intOf a).toNat)
  case atStart => exact ⟨0, fun k => k, rfl, rfl, Nat.zero_le _, Upto.start _ _ _ _, fun k hk => hk, HS.out⟩
  case round =>
    clear HS
    obtain ⟨a, g, rfl, rfl, han, HU, HD, HS⟩ := hrel
    by_cases hlt : a + 20 ≤ n
    · have hltz : (a : Int) + 20 ≤ (n : Int) := by omega
      go_wp2_with fail
      refine (ins40 w0 blk off n cap R g key a (a + 20) _ HS.out HK.out HD.out hn (by omega) hlt (fun i j i1 i2 i3 => by rw [HU.out.2.2.2 i i1, HU.out.2.2.2 j (by omega)]; exact i2)).mono ?_
      rintro e w1 ⟨rfl, g', hS, hU, hT⟩
      have HN := hidden (And.intro (HU.out.step hlt (fun k h1 h2 => ⟨h1, h2⟩) hU hT) (And.intro (hU.dom hlt HD.out) hS))
      clear hS hU hT HS
      go_wp2_with fail
      go_roundw
      case rel => exact ⟨a + 20, g', rfl, by go_num, hlt, HN.out.1, HN.out.2.1, HN.out.2.2⟩
      case measure => simp [intOf]; omega
    · have hltz : ¬ (a : Int) + 20 ≤ (n : Int) := by omega
      go_wp2_with fail
      refine (ins40 w0 blk off n cap R g key a n _ HS.out HK.out HD.out hn han (Nat.le_refl _) (fun i j i1 i2 i3 => by rw [HU.out.2.2.2 i i1, HU.out.2.2.2 j (by omega)]; exact i2)).mono ?_
      rintro e w1 ⟨rfl, g', hS, hU, hT⟩
      have HN := hidden (And.intro (HU.out.last (by omega) (fun k h1 h2 => ⟨h1, h2⟩) hU hT) (And.intro (hU.dom (Nat.le_refl _) HD.out) hS))
      clear hS hU hT HS HU HD hltz hlt han
      go_wp2_with fail
      go_loopw [6, 7, 8, 9] (fun vd _ _ _ wr => ∃ (d : Nat) (f : Nat → Nat), vd = .int .i64 d ∧ 20 ≤ d ∧ d ≤ 2000020 ∧ Hid (Blks key n d f) ∧ Hid (Dom n f) ∧ Hid (Sw w0 blk off n R f wr)) (fun d _ _ _ _ => n - (intOf d).toNat)
      case atStart => exact ⟨20, g', rfl, Nat.le_refl _, by omega, HN.out.1, HN.out.2.1, HN.out.2.2⟩
      case round =>
        clear HN
        obtain ⟨d, f, rfl, hd1, hd2, HB, HD, HS⟩ := hrel
        by_cases hdn : d < n
        · have hdz : (d : Int) < (n : Int) := by omega
          go_wp2_with fail
          go_loopw [7, 8] (fun va vb wr => ∃ (a : Nat) (g : Nat → Nat), va = .int .i64 a ∧ vb = .int .i64 ((a + 2 * d : Nat) : Int) ∧ a ≤ n ∧ Hid (Upto key n (2 * d) f a g) ∧ Hid (Dom n g) ∧ Hid (Sw w0 blk off n R g wr)) (fun a _ _ => n - (intOf a).toNat)
          case atStart => exact ⟨0, f, rfl, by go_num, Nat.zero_le _, Upto.start _ _ _ _, HD.out, HS.out⟩
          case round =>
            clear HS HD
            obtain ⟨a2, g, rfl, rfl, han, HU, HD, HS⟩ := hrel
            by_cases hlt : a2 + 2 * d ≤ n
            · have hltz : (a2 : Int) + 2 * (d : Int) ≤ (n : Int) := by omega
              have hp := HB.out.pair HU.out (b := a2 + 2 * d) (by omega) (Or.inl ⟨rfl, hlt⟩)
              have HP := hidden hp
              clear hp
              go_wp2_with fail
              refine (sym41 w0 blk off n cap R key HK.out hn (a2 + 2 * d - a2) a2 (a2 + d) (a2 + 2 * d) (Nat.le_refl _) (by omega) (by omega) hlt g _ HS.out HD.out HP.out.1 HP.out.2.1 HP.out.2.2.1).mono ?_
              rintro e w2 ⟨rfl, g2, hS, hU, hT⟩
              have HN := hidden (And.intro (HU.out.step hlt HP.out.2.2.2 hU hT) (And.intro (hU.dom hlt HD.out) hS))
              clear hS hU hT HS
              go_wp2_with fail
              go_roundw
              case rel => exact ⟨a2 + 2 * d, g2, by go_num, by go_num, hlt, HN.out.1, HN.out.2.1, HN.out.2.2⟩
              case measure => simp [intOf]; omega
            · have hltz : ¬ (a2 : Int) + 2 * (d : Int) ≤ (n : Int) := by omega
              by_cases hm : a2 + d < n
              · have hmz : (a2 : Int) + (d : Int) < (n : Int) := by omega
                have hp := HB.out.pair HU.out (b := n) hm (Or.inr ⟨rfl, by omega⟩)
                have HP := hidden hp
                clear hp
                go_wp2_with fail
                refine (sym41 w0 blk off n cap R key HK.out hn (n - a2) a2 (a2 + d) n (Nat.le_refl _) (by omega) hm (Nat.le_refl _) g _ HS.out HD.out HP.out.1 HP.out.2.1 HP.out.2.2.1).mono ?_
                rintro e w2 ⟨rfl, g2, hS, hU, hT⟩
                have HN := hidden (And.intro (HU.out.last (by omega) HP.out.2.2.2 hU hT) (And.intro (hU.dom (Nat.le_refl _) HD.out) hS))
                clear hS hU hT HS
                go_wp2_with fail
                go_roundw
                case rel => exact ⟨2 * d, g2, by go_num, by omega, by omega, HN.out.1, HN.out.2.1, HN.out.2.2⟩
                case measure => simp [intOf]; omega
              · have hmz : ¬ (a2 : Int) + (d : Int) < (n : Int) := by omega
                have HN := hidden (HB.out.lone HU.out (by omega) (by omega))
                go_wp2_with fail
                go_roundw
                case rel => exact ⟨2 * d, g, by go_num, by omega, by omega, HN.out, HD.out, HS.out⟩
                case measure => simp [intOf]; omega
        · have hdz : ¬ (d : Int) < (n : Int) := by omega
          have hfin := HB.out 0 (Nat.dvd_zero d)
          rw [Nat.zero_add, Nat.min_eq_right (by omega)] at hfin
          have HF := hidden hfin.1
          clear hfin
          go_wp2_with fail
          go_end0
          exact ⟨rfl, f, HS.out, HD.out, HF.out⟩

theorem sortStable36 (w0 : World) (blk off n cap : Nat) (R : Nat → Nat) (key : Nat → Int) (hK : Keyed w0 blk n R key) (hn : n ≤ 1000000) (w : World) (h : Sw w0 blk off n R (fun k => k) w) :
    Calls Try.prog 36 #[.slice (some ⟨blk, off, none⟩) n cap, .func (.func 37) #[] #[]] w fun e w' => e = .returned (.tuple #[]) ∧ ∃ g, Sw w0 blk off n R g w' ∧ Dom n g ∧ Srt key g 0 n := by
  have HS := hidden h
  have HK := hidden hK
  clear h hK
  go_enter Try.func36, Try.ntmps36
  go_wp2_with fail
  refine (stable39 w0 blk off n cap R key HK.out hn w HS.out).mono ?_
  rintro e w1 ⟨rfl, hg⟩
  have HG := hidden hg
  clear hg
  go_wp2_with fail
  go_end0
  exact ⟨rfl, HG.out⟩
end Go.Proofs.Qxb6603170a
