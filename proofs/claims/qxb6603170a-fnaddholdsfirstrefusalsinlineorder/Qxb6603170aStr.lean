/-
  Slices of strings: what lies in memory ('StrsAt'); slices.Index (38), slices.Contains (35), namedCountB1 (14).
-/
import Derived.Test.Qxb6603170aRows
import Derived.WalkKit
import Derived.WalkSpells
import Derived.WalkLawsBesides
import Derived.Deep.QuietTactic
import Derived.BigQuiet
namespace Go.Proofs.Qxb6603170a
open Go.RowKit
set_option linter.unusedSimpArgs false
set_option linter.unusedVariables false

theorem hidden {p : Prop} (h : p) : Hid p := h
theorem ret_int {k : IntKind} {a b : Int} (h : a = b) : Ending.returned (.int k a) = .returned (.int k b) := by rw [h]

theorem ret_bool {a b : Bool} (h : a = b) : Ending.returned (.bool a) = .returned (.bool b) := by rw [h]

/-! ### Plain -/
def hasS (m : Nat) (C : Nat → ByteArray) (x : ByteArray) : Bool := (List.range m).any fun k => (C k).toList == x.toList
def named (n : Nat) (H : Nat → ByteArray) (m : Nat) (C : Nat → ByteArray) : Nat := ((List.range n).filter fun j => hasS m C (H j)).length

theorem hasS_true {m : Nat} {C : Nat → ByteArray} {x : ByteArray} {k : Nat} (hk : k < m) (h : ((C k).toList == x.toList) = true) : hasS m C x = true := by
  unfold hasS; rw [List.any_eq_true]; exact ⟨k, List.mem_range.2 hk, h⟩
theorem hasS_false {m : Nat} {C : Nat → ByteArray} {x : ByteArray} (h : ∀ k, k < m → ((C k).toList == x.toList) = false) : hasS m C x = false := by
  unfold hasS; rw [List.any_eq_false]; intro k hk; rw [h k (List.mem_range.1 hk)]; simp
theorem named_zero (H : Nat → ByteArray) (m : Nat) (C : Nat → ByteArray) : named 0 H m C = 0 := rfl
theorem named_succ (n : Nat) (H : Nat → ByteArray) (m : Nat) (C : Nat → ByteArray) : named (n + 1) H m C = named n H m C + (if hasS m C (H n) then 1 else 0) := by
  unfold named
  rw [List.range_succ, List.filter_append, List.length_append]
  by_cases h : hasS m C (H n) = true <;> simp [h]
theorem named_le (n : Nat) (H : Nat → ByteArray) (m : Nat) (C : Nat → ByteArray) : named n H m C ≤ n := by
  unfold named
  have := List.length_filter_le (fun j => hasS m C (H j)) (List.range n)
  simpa using this

/-! ### What lies in memory -/
structure StrsAt (w : World) (a : Option Addr) (n : Nat) (S : Nat → ByteArray) : Prop where
  big : n ≤ 9223372036854775807
  at' : n = 0 ∨ ∃ b off, a = some ⟨b, off, none⟩ ∧ ∀ i, i < n → w.cell? ⟨b, off + i, none⟩ = some (.string (S i))

theorem StrsAt.below {w w' : World} {a : Option Addr} {n B : Nat} {S : Nat → ByteArray} (h : StrsAt w a n S) (hb : Below B w w') (hB : w.heap.size ≤ B) : StrsAt w' a n S := by
  refine ⟨h.big, ?_⟩
  rcases h.at' with h0 | ⟨b, off, ha, hc⟩
  · exact Or.inl h0
  · refine Or.inr ⟨b, off, ha, fun i hi => ?_⟩
    have hlt := World.block_lt_of_cell? w _ (hc i hi)
    rw [hb.cell (by show b < B; exact Nat.lt_of_lt_of_le hlt hB)]
    exact hc i hi
theorem StrsAt.drewN {w : World} {a : Option Addr} {n : Nat} {S : Nat → ByteArray} (h : StrsAt w a n S) (k : Nat) : StrsAt (w.drewN k) a n S := ⟨h.big, h.at'⟩

/-! ### slices.Index -/
set_option maxHeartbeats 400000 in
theorem index38 (w : World) (a : Option Addr) (n cap : Nat) (S : Nat → ByteArray) (x : ByteArray) (h : StrsAt w a n S) :
    Calls Try.prog 38 #[.slice a n cap, .string x] w fun e w' => ∃ r : Int, e = .returned (.int .i64 r) ∧ decide (0 ≤ r) = hasS n S x ∧ w' = w := by
  have hbig := h.big
  rcases h.at' with h0 | ⟨b, off, rfl, hc⟩
  · subst h0
    go_enter Try.func38, Try.ntmps38
    go_wp2
    refine wp_loop_rounds 1 ?_
    rw [rounds_succ]
    go_wp2
    go_ret
    exact ⟨-1, rfl, rfl, rfl⟩
  · clear h
    have HC := hidden hc
    clear hc
    go_enter Try.func38, Try.ntmps38
    go_wp2
    go_loop [8] (fun i => ∃ k : Nat, k ≤ n ∧ i = .int .i64 k ∧ Hid (∀ j, j < k → ((S j).toList == x.toList) = false)) (fun i => n - (intOf i).toNat)
    case atStart => exact ⟨0, Nat.zero_le _, rfl, fun j hj => absurd hj (Nat.not_lt_zero _)⟩
    case round =>
      obtain ⟨k, hk, rfl, HF⟩ := hrel
      by_cases hlt : k < n
      · have hcell := HC.out k hlt
        cases hq : (x.toList == (S k).toList) with
        | true =>
          go_wp2
          go_ret
          exact ⟨_, rfl, by rw [hasS_true hlt (by rw [beq_iff_eq] at hq ⊢; exact hq.symm)]; simp, rfl⟩
        | false =>
          have hq' : ((S k).toList == x.toList) = false := by rw [beq_eq_false_iff_ne] at hq ⊢; exact fun e => hq e.symm
          have HQ := hidden hq'
          clear hq'
          go_wp2
          go_round
          case rel =>
            refine ⟨k + 1, by omega, by go_num, fun j hj => ?_⟩
            rcases Nat.lt_succ_iff_lt_or_eq.1 hj with h1 | rfl
            · exact HF.out j h1
            · exact HQ.out
          case measure => simp [intOf]; omega
      · have hge : n ≤ k := by omega
        go_wp2
        go_ret
        exact ⟨-1, rfl, by rw [hasS_false (fun j hj => HF.out j (by omega))]; rfl, rfl⟩

theorem contains35 (w : World) (a : Option Addr) (n cap : Nat) (S : Nat → ByteArray) (x : ByteArray) (h : StrsAt w a n S) :
    Calls Try.prog 35 #[.slice a n cap, .string x] w fun e w' => e = .returned (.bool (hasS n S x)) ∧ w' = w := by
  go_enter Try.func35, Try.ntmps35
  go_wp2_with fail
  refine (index38 w a n cap S x h).mono ?_
  rintro e w' ⟨r, rfl, hr, rfl⟩
  go_wp2_with fail
  go_ret
  exact ⟨rfl, rfl⟩

/-! ### namedCountB1 -/
set_option maxHeartbeats 1000000 in
theorem named14 (w : World) (a : Option Addr) (n cap : Nat) (H : Nat → ByteArray) (a1 : Option Addr) (m cap1 : Nat) (C : Nat → ByteArray) (h : StrsAt w a n H) (h1 : StrsAt w a1 m C) :
    Calls Try.prog 14 #[.slice a n cap, .slice a1 m cap1] w fun e w' => e = .returned (.int .i64 (named n H m C)) ∧ ∃ q, w' = w.drewN q := by
  have hbig := h.big
  have hbig1 := h1.big
  rcases h.at' with h0 | ⟨b, off, rfl, hc⟩
  · subst h0
    clear h h1
    go_enter Try.func14, Try.ntmps14
    go_wp2
    refine wp_loop_rounds 1 ?_
    rw [rounds_succ]
    go_wp2
    go_ret
    exact ⟨rfl, 0, rfl⟩
  rcases h1.at' with h0 | ⟨b1, off1, rfl, hc1⟩
  · subst h0
    clear h h1 hc
    go_enter Try.func14, Try.ntmps14
    go_wp2
    go_loopw [5, 6] (fun c i wr => ∃ k : Nat, k ≤ n ∧ i = .int .i64 k ∧ c = .int .i64 (named k H 0 C) ∧ ∃ q, wr = w.drewN q) (fun _ i _ => n - (intOf i).toNat)
    case atStart => exact ⟨0, Nat.zero_le _, rfl, rfl, 0, rfl⟩
    case round =>
      obtain ⟨k, hk, rfl, rfl, q, rfl⟩ := hrel
      by_cases hlt : k < n
      · have hd : decide ((0 : Int) < ((0 : Nat) : Int)) = false := by decide
        go_wp2
        refine wp_loop_rounds 1 ?_
        rw [rounds_succ]
        go_wp2_with fail
        have hns := named_succ k H 0 C
        have hno : hasS 0 C (H k) = false := rfl
        rw [hno] at hns
        have HN := hidden hns
        clear hns hno
        have hnl := named_le k H 0 C
        go_quiet (fail)
        go_wp2
        go_roundw
        case rel => exact ⟨k + 1, by omega, by go_num, by rw [HN.out]; simp, _, rfl⟩
        case measure => simp [intOf]; omega
      · have hge : n ≤ k := by omega
        obtain rfl : k = n := by omega
        go_wp2
        go_ret
        exact ⟨rfl, q, rfl⟩
  · clear h h1
    have HC := hidden hc
    have HC1 := hidden hc1
    clear hc hc1
    go_enter Try.func14, Try.ntmps14
    go_wp2
    go_loopw [5, 6] (fun c i wr => ∃ k : Nat, k ≤ n ∧ i = .int .i64 k ∧ c = .int .i64 (named k H m C) ∧ ∃ q, wr = w.drewN q) (fun _ i _ => n - (intOf i).toNat)
    case atStart => exact ⟨0, Nat.zero_le _, rfl, rfl, 0, rfl⟩
    case round =>
      obtain ⟨k, hk, rfl, rfl, q, rfl⟩ := hrel
      have hnl := named_le k H m C
      by_cases hlt : k < n
      · have HN := hidden (named_succ k H m C)
        have hcell := HC.out k hlt
        go_wp2
        go_loopw [7] (fun i wr => ∃ j : Nat, j ≤ m ∧ i = .int .i64 j ∧ Hid (∀ t, t < j → ((C t).toList == (H k).toList) = false) ∧ ∃ q, wr = w.drewN q) (fun i _ => m - (intOf i).toNat)
        case atStart => exact ⟨0, Nat.zero_le _, rfl, fun j hj => absurd hj (Nat.not_lt_zero _), q, rfl⟩
        case round =>
          obtain ⟨j, hj, rfl, HF, q2, rfl⟩ := hrel
          by_cases hjm : j < m
          · have hcell1 := HC1.out j hjm
            have hjz : (j : Int) < (m : Int) := by omega
            have hjd : decide ((j : Int) < (m : Int)) = true := decide_eq_true hjz
            have hkz : (k : Int) < (n : Int) := by omega
            have hj0 : (0 : Int) ≤ (j : Int) := by omega
            have hk0 : (0 : Int) ≤ (k : Int) := by omega
            cases hq : ((C j).toList == (H k).toList) with
            | true =>
              have HT := hidden (hasS_true hjm hq)
              go_wp2_with fail
              go_quiet (fail)
              go_wp2
              go_roundw
              case rel => exact ⟨k + 1, by omega, by go_num, by rw [HN.out, HT.out]; go_num, _, rfl⟩
              case measure => simp [intOf]; omega
            | false =>
              have HQ := hidden hq
              go_wp2_with fail
              go_quiet (fail)
              go_wp2
              go_roundw
              case rel =>
                refine ⟨j + 1, by omega, by go_num, fun t ht => ?_, _, rfl⟩
                rcases Nat.lt_succ_iff_lt_or_eq.1 ht with h1 | rfl
                · exact HF.out t h1
                · exact HQ.out
              case measure => simp [intOf]; omega
          · have hjz : ¬ (j : Int) < (m : Int) := by omega
            have hjd : decide ((j : Int) < (m : Int)) = false := decide_eq_false hjz
            have HT := hidden (hasS_false (x := H k) (fun t ht => HF.out t (by omega)) : hasS m C (H k) = false)
            go_wp2_with fail
            go_quiet (fail)
            go_wp2
            go_roundw
            case rel => exact ⟨k + 1, by omega, by go_num, by rw [HN.out, HT.out]; simp, _, rfl⟩
            case measure => simp [intOf]; omega
      · obtain rfl : k = n := by omega
        go_wp2
        go_ret
        exact ⟨rfl, q, rfl⟩

end Go.Proofs.Qxb6603170a
