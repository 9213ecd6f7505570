/-
  fittest (32) and ZZFittest (13): the least index among those of the most named.
-/
import Derived.Test.Qxb6603170aKinds
namespace Go.Proofs.Qxb6603170a
open Go.RowKit
set_option linter.unusedSimpArgs false
set_option linter.unusedVariables false

/-- After k kinds: the best so far, and how many it names. -/
def Fit (N : Nat → Nat) (k r : Nat) (b : Int) : Prop := (k = 0 ∧ r = 0 ∧ b = -1) ∨ (r < k ∧ b = (N r : Int) ∧ (∀ i, i < k → N i ≤ N r) ∧ (∀ i, i < r → N i < N r))

theorem Fit.more {N : Nat → Nat} {k r : Nat} {b : Int} (h : Fit N k r b) (hb : b < (N k : Int)) : Fit N (k + 1) k (N k : Int) := by
  refine Or.inr ⟨by omega, rfl, ?_, ?_⟩
  · rcases h with ⟨rfl, _, _⟩ | ⟨h1, h2, h3, _⟩
    · intro i hi; have : i = 0 := by omega
      subst this; exact Nat.le_refl _
    · intro i hi
      rcases Nat.lt_succ_iff_lt_or_eq.1 hi with h | rfl
      · have := h3 i h; omega
      · exact Nat.le_refl _
  · rcases h with ⟨rfl, _, _⟩ | ⟨h1, h2, h3, _⟩
    · intro i hi; omega
    · intro i hi; have := h3 i hi; omega
theorem Fit.same {N : Nat → Nat} {k r : Nat} {b : Int} (h : Fit N k r b) (hb : ¬ b < (N k : Int)) : Fit N (k + 1) r b := by
  rcases h with ⟨rfl, rfl, rfl⟩ | ⟨h1, h2, h3, h4⟩
  · exact absurd (by omega) hb
  · refine Or.inr ⟨by omega, h2, fun i hi => ?_, h4⟩
    rcases Nat.lt_succ_iff_lt_or_eq.1 hi with h | rfl
    · exact h3 i h
    · omega
theorem Fit.bounds {N : Nat → Nat} {k r : Nat} {b : Int} (h : Fit N k r b) (n : Nat) (hN : ∀ i, N i ≤ n) : r ≤ k ∧ -1 ≤ b ∧ b ≤ n := by
  rcases h with ⟨rfl, rfl, rfl⟩ | ⟨h1, h2, h3, h4⟩
  · omega
  · have := hN r; omega

set_option maxHeartbeats 2000000 in
theorem fittest32 (w : World) (a : Option Addr) (n cap : Nat) (H : Nat → ByteArray) (K m : Nat) (A : Nat → Option Addr) (L Cp : Nat → Nat) (S : Nat → Nat → ByteArray) (h : StrsAt w a n H)
    (hk : ∀ i, i < m → w.cell? ⟨K, i * 3, none⟩ = some (.string ⟨#[]⟩) ∧ w.cell? ⟨K, i * 3 + 1, none⟩ = some (.slice (A i) (L i) (Cp i)) ∧ w.cell? ⟨K, i * 3 + 2, none⟩ = some (.map none))
    (hrow : ∀ i, i < m → StrsAt w (A i) (L i) (S i)) (hn : n ≤ 4096) (hm : m ≤ 4096) :
    Calls Try.prog 32 #[.slice a n cap, .slice (some ⟨K, 0, none⟩) m m] w fun e w' => ∃ (r : Nat) (b : Int), e = .returned (.int .i64 r) ∧ Fit (fun i => named n H (L i) (S i)) m r b ∧ Below w.heap.size w w' := by
  have HH := hidden h
  have HK := hidden hk
  have HR := hidden hrow
  clear h hk hrow
  go_enter Try.func32, Try.ntmps32
  go_wp2
  go_loopw [5, 6, 14] (fun vb vn vi wr => ∃ (k r : Nat) (b : Int), k ≤ m ∧ vi = .int .i64 k ∧ vb = .int .i64 r ∧ vn = .int .i64 b ∧ Hid (Fit (fun i => named n H (L i) (S i)) k r b) ∧ Hid (Below w.heap.size w wr)) (fun _ _ i _ => m - (intOf i).toNat)
  case atStart => exact ⟨0, 0, -1, Nat.zero_le _, rfl, rfl, rfl, Or.inl ⟨rfl, rfl, rfl⟩, Below.refl _ _⟩
  case round =>
    obtain ⟨k, r, b, hkm, rfl, rfl, rfl, HF, HB⟩ := hrel
    obtain ⟨g1, g2, g3⟩ := HF.out.bounds n (fun i => named_le _ _ _ _)
    by_cases hlt : k < m
    · obtain ⟨c0, c1, c2⟩ := HK.out k hlt
      have hKs := World.block_lt_of_cell? _ _ c0
      rw [← HB.out.cell (by exact hKs)] at c0 c1 c2
      have hsz := HB.out.size
      have hB' := HB.out.alloc (HB.out.size) (.cells #[.string ⟨#[]⟩, .slice (A k) (L k) (Cp k), .map none] 32)
      have HS := hidden ((HR.out k hlt).below hB' (Nat.le_refl _))
      have HH' := hidden (HH.out.below hB' (Nat.le_refl _))
      have HB' := hidden hB'
      have hKr : K < wr.heap.size := Nat.lt_of_lt_of_le hKs hsz
      have hbox : (wr.alloc (.cells #[.string ⟨#[]⟩, .slice (A k) (L k) (Cp k), .map none] 32)).cell? ⟨wr.heap.size, 1, none⟩ = some (.slice (A k) (L k) (Cp k)) := by simp
      have HX := hidden hbox
      clear hbox hB' HB
      go_wp2
      clear c0 c1 c2
      generalize wr.alloc (.cells #[.string ⟨#[]⟩, .slice (A k) (L k) (Cp k), .map none] 32) = w2 at HS HH' HB' HX ⊢
      have hbox := HX.out
      go_loop [9, 21] (fun vn vi => ∃ j : Nat, j ≤ n ∧ vi = .int .i64 j ∧ vn = .int .i64 (named j H (L k) (S k))) (fun _ i => n - (intOf i).toNat)
      case atStart => exact ⟨0, Nat.zero_le _, rfl, rfl⟩
      case round =>
        obtain ⟨j, hj, rfl, rfl⟩ := hrel
        have hnl := named_le j H (L k) (S k)
        by_cases hjn : j < n
        · obtain ⟨b1, off1, rfl, hcell⟩ := HH'.out.get hjn
          have HN := hidden (named_succ j H (L k) (S k))
          go_wp2_with fail
          refine (contains35 w2 (A k) (L k) (Cp k) (S k) (H j) HS.out).mono ?_
          rintro e w' ⟨rfl, rfl⟩
          cases hq : hasS (L k) (S k) (H j) with
          | true =>
            have HQ := hidden hq
            clear hq
            go_wp2_with fail
            go_round
            case rel => exact ⟨j + 1, by omega, by go_num, by rw [HN.out, HQ.out]; go_num⟩
            case measure => simp [intOf]; omega
          | false =>
            have HQ := hidden hq
            clear hq
            go_wp2_with fail
            go_round
            case rel => exact ⟨j + 1, by omega, by go_num, by rw [HN.out, HQ.out]; simp⟩
            case measure => simp [intOf]; omega
        · obtain rfl : j = n := by omega
          by_cases hmore : b < (named j H (L k) (S k) : Int)
          · have HM := hidden (HF.out.more hmore)
            go_wp2
            go_roundw
            case rel => exact ⟨k + 1, k, _, by omega, by go_num, rfl, rfl, HM.out, HB'.out⟩
            case measure => simp [intOf]; omega
          · have HM := hidden (HF.out.same hmore)
            go_wp2
            go_roundw
            case rel => exact ⟨k + 1, r, b, by omega, by go_num, rfl, rfl, HM.out, HB'.out⟩
            case measure => simp [intOf]; omega
    · obtain rfl : k = m := by omega
      go_wp2
      go_ret
      exact ⟨r, b, rfl, HF.out, HB.out⟩

theorem zzfit13 (w : World) (a : Option Addr) (n cap : Nat) (H : Nat → ByteArray) (K m : Nat) (A : Nat → Option Addr) (L Cp : Nat → Nat) (S : Nat → Nat → ByteArray) (h : StrsAt w a n H)
    (hk : ∀ i, i < m → w.cell? ⟨K, i * 3, none⟩ = some (.string ⟨#[]⟩) ∧ w.cell? ⟨K, i * 3 + 1, none⟩ = some (.slice (A i) (L i) (Cp i)) ∧ w.cell? ⟨K, i * 3 + 2, none⟩ = some (.map none))
    (hrow : ∀ i, i < m → StrsAt w (A i) (L i) (S i)) (hn : n ≤ 4096) (hm : m ≤ 4096) :
    Calls Try.prog 13 #[.slice a n cap, .slice (some ⟨K, 0, none⟩) m m] w fun e w' => ∃ (r : Nat) (b : Int), e = .returned (.int .i64 r) ∧ Fit (fun i => named n H (L i) (S i)) m r b ∧ Below w.heap.size w w' := by
  have HH := hidden h
  have HK := hidden hk
  have HR := hidden hrow
  clear h hk hrow
  go_enter Try.func13, Try.ntmps13
  go_wp2_with fail
  refine (fittest32 w a n cap H K m A L Cp S HH.out HK.out HR.out hn hm).mono ?_
  rintro e w' ⟨r, b, rfl, hf, hb⟩
  have HF := hidden hf
  have HB := hidden hb
  clear hf hb
  go_wp2_with fail
  go_ret
  exact ⟨r, b, rfl, HF.out, HB.out⟩
end Go.Proofs.Qxb6603170a
