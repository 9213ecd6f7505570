/-
  stableRankB1 (23): the place in line order; and the plain law: the k-th of a row in order has the rank k.
-/
import Derived.Test.Qxb6603170aRefs
import Derived.Test.Qxb6603170aSortPlain
import Derived.Test.Qxb6603170aStable
namespace Go.Proofs.Qxb6603170a
open Go.RowKit
set_option linter.unusedSimpArgs false
set_option linter.unusedVariables false
set_option maxRecDepth 100000

/-! ### Plain -/
/-- j comes ahead of i. -/
def ahead (L : Nat → Int) (j i : Nat) : Bool := decide (L j < L i) || (decide (L j = L i) && decide (j < i))
def rank (L : Nat → Int) (i : Nat) : Nat → Nat
  | 0 => 0
  | n + 1 => rank L i n + (if ahead L n i then 1 else 0)

theorem ahead_iff {L : Nat → Int} {j i : Nat} : ahead L j i = true ↔ lx L j i := by
  unfold ahead lx; simp
theorem rank_le (L : Nat → Int) (i n : Nat) : rank L i n ≤ n := by
  induction n with
  | zero => exact Nat.le_refl _
  | succ n ih => unfold rank; split <;> omega
theorem rank_mono {L : Nat → Int} {i j : Nat} (h : lx L i j) (n : Nat) : rank L i n ≤ rank L j n := by
  induction n with
  | zero => exact Nat.le_refl _
  | succ n ih =>
    unfold rank
    by_cases h1 : ahead L n i = true
    · have h2 : ahead L n j = true := ahead_iff.2 (lx_trans (ahead_iff.1 h1) h)
      rw [if_pos h1, if_pos h2]; omega
    · rw [if_neg h1]; omega
theorem rank_lt {L : Nat → Int} {i j : Nat} (h : lx L i j) (n : Nat) (hi : i < n) : rank L i n < rank L j n := by
  induction n with
  | zero => omega
  | succ n ih =>
    unfold rank
    by_cases e : i = n
    · subst e
      have h1 : ¬ ahead L i i = true := fun q => lx_irrefl (ahead_iff.1 q)
      have h2 : ahead L i j = true := ahead_iff.2 h
      have := rank_mono h i
      rw [if_neg h1, if_pos h2]; omega
    · have := ih (by omega)
      by_cases h1 : ahead L n i = true
      · have h2 : ahead L n j = true := ahead_iff.2 (lx_trans (ahead_iff.1 h1) h)
        rw [if_pos h1, if_pos h2]; omega
      · rw [if_neg h1]; omega
theorem rank_bound (L : Nat → Int) (i n : Nat) (hi : i < n) : rank L i n < n := by
  induction n with
  | zero => omega
  | succ n ih =>
    unfold rank
    by_cases e : i = n
    · subst e
      have h1 : ¬ ahead L i i = true := fun q => lx_irrefl (ahead_iff.1 q)
      have := rank_le L i i
      rw [if_neg h1]; omega
    · have := ih (by omega)
      split <;> omega
theorem rank_inj {L : Nat → Int} {i j n : Nat} (hi : i < n) (hj : j < n) (hne : i ≠ j) : rank L i n ≠ rank L j n := by
  rcases lx_total (key := L) hne with h | h
  · have := rank_lt h n hi; omega
  · have := rank_lt h n hj; omega

/-- A strictly rising map of the first n numbers into themselves is the identity. -/
theorem rising (n : Nat) (h : Nat → Nat) (hlt : ∀ k, k < n → h k < n) (hup : ∀ i j, i < j → j < n → h i < h j) : ∀ k, k < n → h k = k := by
  have lo : ∀ k, k < n → k ≤ h k := by
    intro k
    induction k with
    | zero => intro _; exact Nat.zero_le _
    | succ k ih => intro hk; have := ih (by omega); have := hup k (k + 1) (by omega) hk; omega
  have hi : ∀ d k, k + d + 1 = n → h k ≤ k := by
    intro d
    induction d with
    | zero => intro k hk; have := hlt k (by omega); omega
    | succ d ih => intro k hk; have := ih (k + 1) (by omega); have := hup k (k + 1) (by omega) (by omega); omega
  intro k hk
  have := lo k hk
  have := hi (n - 1 - k) k (by omega)
  omega

/-- The k-th of a row in order has the rank k. -/
theorem rank_srt {L : Nat → Int} {n : Nat} {g : Nat → Nat} (hd : Dom n g) (hs : Srt L g 0 n) : ∀ k, k < n → rank L (g k) n = k :=
  rising n (fun k => rank L (g k) n) (fun k hk => rank_bound L (g k) n (hd k hk)) (fun i j hij hj => rank_lt (hs i j (Nat.zero_le _) hij hj) n (hd i (by omega)))

/-! ### The walk -/
set_option maxHeartbeats 2000000 in
theorem rank23 (w : World) (a : Option Addr) (n cap : Nat) (F : Nat → ByteArray) (L : Nat → Int) (G Q : Nat → ByteArray) (h : RefsAt w a n F L G Q) (hn : n ≤ 4096) (i : Nat) (hi : i < n) :
    Calls Try.prog 23 #[.slice a n cap, .int .i64 i] w fun e w' => e = .returned (.int .i64 (rank L i n)) ∧ ∃ q, w' = w.drewN q := by
  obtain ⟨b, off, rfl, hb, _, ci, _, _⟩ := h.get hi
  have HH := hidden h
  clear h hb
  go_enter Try.func23, Try.ntmps23
  go_wp2
  go_loopw [5, 6] (fun vr vj wr => ∃ j : Nat, j ≤ n ∧ vj = .int .i64 j ∧ vr = .int .i64 (rank L i j) ∧ ∃ q, wr = w.drewN q) (fun _ j _ => n - (intOf j).toNat)
  case atStart => exact ⟨0, Nat.zero_le _, rfl, rfl, 0, rfl⟩
  case round =>
    obtain ⟨j, hj, rfl, rfl, q, rfl⟩ := hrel
    have hr := rank_le L i j
    by_cases hlt : j < n
    · have cj := HH.out.line rfl hlt
      have hjz : (j : Int) < (n : Int) := by omega
      have hj0 : (0 : Int) ≤ (j : Int) := by omega
      have hiz : (i : Int) < (n : Int) := by omega
      have hi0 : (0 : Int) ≤ (i : Int) := by omega
      by_cases h1 : L j < L i
      · have hd1 : decide (L j < L i) = true := decide_eq_true h1
        have HA : Hid (rank L i (j + 1) = rank L i j + 1) := by show _ = _; rw [rank, if_pos (by simp [ahead, h1])]
        go_wp2_with fail
        go_quiet (fail)
        go_wp2_with fail
        go_roundw
        case rel => exact ⟨j + 1, by omega, by go_num, by rw [HA.out]; go_num, _, rfl⟩
        case measure => simp [intOf]; omega
      · have hd1 : decide (L j < L i) = false := decide_eq_false h1
        by_cases h2 : L j = L i
        · rw [h2] at cj h1 hd1
          have hd2 : (L i == L i) = true := by simp
          by_cases h3 : j < i
          · have hd3 : decide ((j : Int) < (i : Int)) = true := decide_eq_true (by omega)
            have hz3 : (j : Int) < (i : Int) := by omega
            have HA : Hid (rank L i (j + 1) = rank L i j + 1) := by show _ = _; rw [rank, if_pos (by simp [ahead, h2, h3])]
            clear h2
            go_wp2_with fail
            go_quiet (fail)
            go_wp2_with fail
            go_roundw
            case rel => exact ⟨j + 1, by omega, by go_num, by rw [HA.out]; go_num, _, rfl⟩
            case measure => simp [intOf]; omega
          · have hd3 : decide ((j : Int) < (i : Int)) = false := decide_eq_false (by omega)
            have hz3 : ¬ (j : Int) < (i : Int) := by omega
            have HA : Hid (rank L i (j + 1) = rank L i j) := by show _ = _; rw [rank, if_neg (by simp [ahead, h2, h3])]; rfl
            clear h2
            go_wp2_with fail
            go_quiet (fail)
            go_wp2_with fail
            go_roundw
            case rel => exact ⟨j + 1, by omega, by go_num, by rw [HA.out], _, rfl⟩
            case measure => simp [intOf]; omega
        · have hd2 : (L j == L i) = false := by rw [beq_eq_false_iff_ne]; exact h2
          have HA : Hid (rank L i (j + 1) = rank L i j) := by show _ = _; rw [rank, if_neg (by simp [ahead, h1, h2])]; rfl
          clear h2
          go_wp2_with fail
          go_quiet (fail)
          go_wp2_with fail
          go_roundw
          case rel => exact ⟨j + 1, by omega, by go_num, by rw [HA.out], _, rfl⟩
          case measure => simp [intOf]; omega
    · obtain rfl : j = n := by omega
      go_wp2_with fail
      go_ret
      exact ⟨rfl, q, rfl⟩
end Go.Proofs.Qxb6603170a
