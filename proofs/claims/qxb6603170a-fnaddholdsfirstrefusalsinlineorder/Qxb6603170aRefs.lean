/-
  The refusals that a law is handed ('RefsAt'); the bounds on bytes (17, 27, 28, 31), refBytesB1 (18), linesFitB1 (19).
-/
import Derived.Test.Qxb6603170aCols
namespace Go.Proofs.Qxb6603170a
open Go.RowKit
set_option linter.unusedSimpArgs false
set_option linter.unusedVariables false

/-- Refusal i: its four cells. -/
structure RefsAt (w : World) (a : Option Addr) (n : Nat) (F : Nat → ByteArray) (L : Nat → Int) (G Q : Nat → ByteArray) : Prop where
  big : n ≤ 9223372036854775807
  at' : n = 0 ∨ ∃ b off, a = some ⟨b, off, none⟩ ∧ ∀ i, i < n → w.cell? ⟨b, off + i * 4, none⟩ = some (.string (F i)) ∧ w.cell? ⟨b, off + i * 4 + 1, none⟩ = some (.int .i64 (L i)) ∧
    w.cell? ⟨b, off + i * 4 + 2, none⟩ = some (.string (G i)) ∧ w.cell? ⟨b, off + i * 4 + 3, none⟩ = some (.string (Q i))

section
variable {w w' : World} {a : Option Addr} {n B : Nat} {F : Nat → ByteArray} {L : Nat → Int} {G Q : Nat → ByteArray}
theorem RefsAt.below (h : RefsAt w a n F L G Q) (hb : Below B w w') (hB : w.heap.size ≤ B) : RefsAt w' a n F L G Q := by
  refine ⟨h.big, ?_⟩
  rcases h.at' with h0 | ⟨b, off, ha, hc⟩
  · exact Or.inl h0
  · refine Or.inr ⟨b, off, ha, fun i hi => ?_⟩
    have hlt : b < B := Nat.lt_of_lt_of_le (World.block_lt_of_cell? w _ (hc i hi).1) hB
    exact ⟨(hb.cell (by exact hlt)).trans (hc i hi).1, (hb.cell (by exact hlt)).trans (hc i hi).2.1, (hb.cell (by exact hlt)).trans (hc i hi).2.2.1, (hb.cell (by exact hlt)).trans (hc i hi).2.2.2⟩
theorem RefsAt.drewN (h : RefsAt w a n F L G Q) (q : Nat) : RefsAt (w.drewN q) a n F L G Q := ⟨h.big, h.at'⟩
theorem RefsAt.get (h : RefsAt w a n F L G Q) {k : Nat} (hk : k < n) : ∃ b off, a = some ⟨b, off, none⟩ ∧ b < w.heap.size ∧ w.cell? ⟨b, off + k * 4, none⟩ = some (.string (F k)) ∧ w.cell? ⟨b, off + k * 4 + 1, none⟩ = some (.int .i64 (L k)) ∧
    w.cell? ⟨b, off + k * 4 + 2, none⟩ = some (.string (G k)) ∧ w.cell? ⟨b, off + k * 4 + 3, none⟩ = some (.string (Q k)) := by
  rcases h.at' with h0 | ⟨b, off, ha, hc⟩
  · omega
  · exact ⟨b, off, ha, World.block_lt_of_cell? w _ (hc k hk).1, hc k hk⟩
theorem RefsAt.line (h : RefsAt w a n F L G Q) {b off : Nat} (ha : a = some ⟨b, off, none⟩) {k : Nat} (hk : k < n) : w.cell? ⟨b, off + k * 4 + 1, none⟩ = some (.int .i64 (L k)) := by
  obtain ⟨b', off', e, _, _, hl, _⟩ := h.get hk
  rw [ha] at e
  simp only [Option.some.injEq, Addr.mk.injEq, and_true] at e
  rw [e.1, e.2]; exact hl
end

/-! ### the bounds on bytes: some answer; nothing turns -/
set_option maxHeartbeats 2000000 in
theorem zz17 (w : World) (a : Option Addr) (n cap : Nat) (u : Bool) (F : Nat → ByteArray) (L : Nat → Int) (G Q : Nat → ByteArray) (h : RefsAt w a n F L G Q) :
    Calls Try.prog 17 #[.slice a n cap, .bool u] w fun e w' => AnyBool e ∧ w' = w := by
  have hbig := h.big
  have HH := hidden h
  clear h
  go_enter Try.func17, Try.ntmps17
  go_wp2
  · go_ret
    exact ⟨⟨_, rfl⟩, rfl⟩
  go_loop [5, 6] (fun z i => ∃ (k : Nat) (y : Int), k ≤ n ∧ i = .int .i64 k ∧ z = .int .i64 y) (fun _ i => n - (intOf i).toNat)
  case atStart => exact ⟨0, _, Nat.zero_le _, rfl, rfl⟩
  case round =>
    obtain ⟨k, y, hk, rfl, rfl⟩ := hrel
    by_cases hlt : k < n
    · obtain ⟨b, off, rfl, hb, c0, c1, c2, c3⟩ := HH.out.get hlt
      go_wp2
      all_goals first
        | (go_ret; exact ⟨⟨_, rfl⟩, rfl⟩)
        | (go_round
           case rel => exact ⟨k + 1, _, by omega, by go_num, rfl⟩
           case measure => simp [intOf]; omega)
    · clear HH
      go_wp2
      go_ret
      exact ⟨⟨_, rfl⟩, rfl⟩

set_option maxHeartbeats 2000000 in
theorem zz27 (w : World) (a : Option Addr) (n cap : Nat) (u : Bool) (F : Nat → ByteArray) (L : Nat → Int) (G Q : Nat → ByteArray) (h : RefsAt w a n F L G Q) :
    Calls Try.prog 27 #[.slice a n cap, .bool u] w fun e w' => AnyBool e ∧ w' = w := by
  have hbig := h.big
  have HH := hidden h
  clear h
  go_enter Try.func27, Try.ntmps27
  go_wp2
  · go_ret
    exact ⟨⟨_, rfl⟩, rfl⟩
  go_loop [5, 6] (fun z i => ∃ (k : Nat) (y : Int), k ≤ n ∧ i = .int .i64 k ∧ z = .int .i64 y) (fun _ i => n - (intOf i).toNat)
  case atStart => exact ⟨0, _, Nat.zero_le _, rfl, rfl⟩
  case round =>
    obtain ⟨k, y, hk, rfl, rfl⟩ := hrel
    by_cases hlt : k < n
    · obtain ⟨b, off, rfl, hb, c0, c1, c2, c3⟩ := HH.out.get hlt
      go_wp2
      all_goals first
        | (go_ret; exact ⟨⟨_, rfl⟩, rfl⟩)
        | (go_round
           case rel => exact ⟨k + 1, _, by omega, by go_num, rfl⟩
           case measure => simp [intOf]; omega)
    · clear HH
      go_wp2
      go_ret
      exact ⟨⟨_, rfl⟩, rfl⟩

set_option maxHeartbeats 2000000 in
theorem zz28 (w : World) (a : Option Addr) (n cap : Nat) (F : Nat → ByteArray) (L : Nat → Int) (G Q : Nat → ByteArray) (h : RefsAt w a n F L G Q) :
    Calls Try.prog 28 #[.slice a n cap] w fun e w' => AnyBool e ∧ w' = w := by
  have hbig := h.big
  have HH := hidden h
  clear h
  go_enter Try.func28, Try.ntmps28
  go_wp2
  · go_ret
    exact ⟨⟨_, rfl⟩, rfl⟩
  go_loop [3, 4] (fun z i => ∃ (k : Nat) (y : Int), k ≤ n ∧ i = .int .i64 k ∧ z = .int .i64 y) (fun _ i => n - (intOf i).toNat)
  case atStart => exact ⟨0, _, Nat.zero_le _, rfl, rfl⟩
  case round =>
    obtain ⟨k, y, hk, rfl, rfl⟩ := hrel
    by_cases hlt : k < n
    · obtain ⟨b, off, rfl, hb, c0, c1, c2, c3⟩ := HH.out.get hlt
      go_wp2
      all_goals first
        | (go_ret; exact ⟨⟨_, rfl⟩, rfl⟩)
        | (go_round
           case rel => exact ⟨k + 1, _, by omega, by go_num, rfl⟩
           case measure => simp [intOf]; omega)
    · clear HH
      go_wp2
      go_ret
      exact ⟨⟨_, rfl⟩, rfl⟩

set_option maxHeartbeats 2000000 in
theorem zz31 (w : World) (a : Option Addr) (n cap : Nat) (F : Nat → ByteArray) (L : Nat → Int) (G Q : Nat → ByteArray) (h : RefsAt w a n F L G Q) :
    Calls Try.prog 31 #[.slice a n cap] w fun e w' => AnyBool e ∧ w' = w := by
  have hbig := h.big
  have HH := hidden h
  clear h
  go_enter Try.func31, Try.ntmps31
  go_wp2
  · go_ret
    exact ⟨⟨_, rfl⟩, rfl⟩
  go_loop [3, 4] (fun z i => ∃ (k : Nat) (y : Int), k ≤ n ∧ i = .int .i64 k ∧ z = .int .i64 y) (fun _ i => n - (intOf i).toNat)
  case atStart => exact ⟨0, _, Nat.zero_le _, rfl, rfl⟩
  case round =>
    obtain ⟨k, y, hk, rfl, rfl⟩ := hrel
    by_cases hlt : k < n
    · obtain ⟨b, off, rfl, hb, c0, c1, c2, c3⟩ := HH.out.get hlt
      go_wp2
      all_goals first
        | (go_ret; exact ⟨⟨_, rfl⟩, rfl⟩)
        | (go_round
           case rel => exact ⟨k + 1, _, by omega, by go_num, rfl⟩
           case measure => simp [intOf]; omega)
    · clear HH
      go_wp2
      go_ret
      exact ⟨⟨_, rfl⟩, rfl⟩

set_option maxHeartbeats 2000000 in
theorem bytes18 (w : World) (a : Option Addr) (n cap : Nat) (F : Nat → ByteArray) (L : Nat → Int) (G Q : Nat → ByteArray) (h : RefsAt w a n F L G Q) :
    Calls Try.prog 18 #[.slice a n cap] w fun e w' => AnyInt e ∧ w' = w := by
  have hbig := h.big
  have HH := hidden h
  clear h
  go_enter Try.func18, Try.ntmps18
  go_wp2
  go_loop [3, 4] (fun z i => ∃ (k : Nat) (y : Int), k ≤ n ∧ i = .int .i64 k ∧ z = .int .i64 y) (fun _ i => n - (intOf i).toNat)
  case atStart => exact ⟨0, _, Nat.zero_le _, rfl, rfl⟩
  case round =>
    obtain ⟨k, y, hk, rfl, rfl⟩ := hrel
    by_cases hlt : k < n
    · obtain ⟨b, off, rfl, hb, c0, c1, c2, c3⟩ := HH.out.get hlt
      go_wp2
      all_goals first
        | (go_ret; exact ⟨⟨_, rfl⟩, rfl⟩)
        | (go_round
           case rel => exact ⟨k + 1, _, by omega, by go_num, rfl⟩
           case measure => simp [intOf]; omega)
    · clear HH
      go_wp2
      go_ret
      exact ⟨⟨_, rfl⟩, rfl⟩

/-- The answer, and what a yes says. -/
def FitB (n : Nat) (L : Nat → Int) (e : Ending) : Prop := ∃ r, e = .returned (.bool r) ∧ (r = true → ∀ i, i < n → -4611686018427387903 ≤ L i ∧ L i ≤ 4611686018427387903)

set_option maxHeartbeats 2000000 in
theorem fit19 (w : World) (a : Option Addr) (n cap : Nat) (F : Nat → ByteArray) (L : Nat → Int) (G Q : Nat → ByteArray) (h : RefsAt w a n F L G Q) :
    Calls Try.prog 19 #[.slice a n cap] w fun e w' => FitB n L e ∧ w' = w := by
  have hbig := h.big
  have HH := hidden h
  clear h
  go_enter Try.func19, Try.ntmps19
  go_wp2
  go_loop [3] (fun i => ∃ k : Nat, k ≤ n ∧ i = .int .i64 k ∧ Hid (∀ i, i < k → -4611686018427387903 ≤ L i ∧ L i ≤ 4611686018427387903)) (fun i => n - (intOf i).toNat)
  case atStart => exact ⟨0, Nat.zero_le _, rfl, fun i hi => absurd hi (Nat.not_lt_zero _)⟩
  case round =>
    obtain ⟨k, hk, rfl, HF⟩ := hrel
    by_cases hlt : k < n
    · obtain ⟨b, off, rfl, hb, c0, c1, c2, c3⟩ := HH.out.get hlt
      by_cases h1 : L k < -4611686018427387903
      · go_wp2
        go_ret
        exact ⟨⟨_, rfl, fun e => by cases e⟩, rfl⟩
      · by_cases h2 : 4611686018427387903 < L k
        · go_wp2
          go_ret
          exact ⟨⟨_, rfl, fun e => by cases e⟩, rfl⟩
        · go_wp2
          go_round
          case rel =>
            refine ⟨k + 1, by omega, by go_num, fun i hi => ?_⟩
            rcases Nat.lt_succ_iff_lt_or_eq.1 hi with q | rfl
            · exact HF.out i q
            · omega
          case measure => simp [intOf]; omega
    · obtain rfl : k = n := by omega
      go_wp2
      go_ret
      exact ⟨⟨_, rfl, fun _ => HF.out⟩, rfl⟩

end Go.Proofs.Qxb6603170a
