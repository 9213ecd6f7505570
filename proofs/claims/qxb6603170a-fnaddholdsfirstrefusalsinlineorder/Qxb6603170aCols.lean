/-
  A slice of slices of strings: what lies in memory ('ColsAt'); zzBytes_FnFittestIsFirstMostNamed (10) and textBytesB1 (11) answer something and turn nothing.
-/
import Derived.Test.Qxb6603170aStr
namespace Go.Proofs.Qxb6603170a
open Go.RowKit
set_option linter.unusedSimpArgs false
set_option linter.unusedVariables false

/-- Row i: the cell holds '.slice (A i) (L i) (C i)', and its strings lie at 'A i'. -/
structure ColsAt (w : World) (a : Option Addr) (n : Nat) (A : Nat → Option Addr) (L Cp : Nat → Nat) (S : Nat → Nat → ByteArray) : Prop where
  big : n ≤ 9223372036854775807
  at' : n = 0 ∨ ∃ b off, a = some ⟨b, off, none⟩ ∧ ∀ i, i < n → w.cell? ⟨b, off + i, none⟩ = some (.slice (A i) (L i) (Cp i))
  row : ∀ i, i < n → StrsAt w (A i) (L i) (S i)

theorem ColsAt.below {w w' : World} {a : Option Addr} {n B : Nat} {A : Nat → Option Addr} {L Cp : Nat → Nat} {S : Nat → Nat → ByteArray} (h : ColsAt w a n A L Cp S) (hb : Below B w w') (hB : w.heap.size ≤ B) : ColsAt w' a n A L Cp S := by
  refine ⟨h.big, ?_, fun i hi => (h.row i hi).below hb hB⟩
  rcases h.at' with h0 | ⟨b, off, ha, hc⟩
  · exact Or.inl h0
  · refine Or.inr ⟨b, off, ha, fun i hi => ?_⟩
    have hlt := World.block_lt_of_cell? w _ (hc i hi)
    rw [hb.cell (by show b < B; exact Nat.lt_of_lt_of_le hlt hB)]
    exact hc i hi

theorem StrsAt.get {w : World} {a : Option Addr} {n : Nat} {S : Nat → ByteArray} (h : StrsAt w a n S) {k : Nat} (hk : k < n) : ∃ b off, a = some ⟨b, off, none⟩ ∧ w.cell? ⟨b, off + k, none⟩ = some (.string (S k)) := by
  rcases h.at' with h0 | ⟨b, off, ha, hc⟩
  · omega
  · exact ⟨b, off, ha, hc k hk⟩
theorem ColsAt.get {w : World} {a : Option Addr} {n : Nat} {A : Nat → Option Addr} {L Cp : Nat → Nat} {S : Nat → Nat → ByteArray} (h : ColsAt w a n A L Cp S) {k : Nat} (hk : k < n) : ∃ b off, a = some ⟨b, off, none⟩ ∧ w.cell? ⟨b, off + k, none⟩ = some (.slice (A k) (L k) (Cp k)) := by
  rcases h.at' with h0 | ⟨b, off, ha, hc⟩
  · omega
  · exact ⟨b, off, ha, hc k hk⟩

def AnyBool (e : Ending) : Prop := ∃ r, e = .returned (.bool r)
def AnyInt (e : Ending) : Prop := ∃ r, e = .returned (.int .i64 r)

set_option maxHeartbeats 2000000 in
theorem zz10 (w : World) (a : Option Addr) (n cap : Nat) (H : Nat → ByteArray) (a1 : Option Addr) (m cap1 : Nat) (A : Nat → Option Addr) (L Cp : Nat → Nat) (S : Nat → Nat → ByteArray) (h : StrsAt w a n H) (h1 : ColsAt w a1 m A L Cp S) :
    Calls Try.prog 10 #[.slice a n cap, .slice a1 m cap1] w fun e w' => AnyBool e ∧ w' = w := by
  have hbig := h.big
  have hbig1 := h1.big
  have HH := hidden h
  have HK := hidden h1
  clear h h1
  go_enter Try.func10, Try.ntmps10
  go_wp2
  · go_ret
    exact ⟨⟨_, rfl⟩, rfl⟩
  go_loop [5, 6] (fun z i => ∃ (k : Nat) (y : Int), k ≤ n ∧ i = .int .i64 k ∧ z = .int .i64 y) (fun _ i => n - (intOf i).toNat)
  case atStart => exact ⟨0, _, Nat.zero_le _, rfl, rfl⟩
  case round =>
    obtain ⟨k, y, hk, rfl, rfl⟩ := hrel
    by_cases hlt : k < n
    · obtain ⟨b, off, rfl, hcell⟩ := HH.out.get hlt
      go_wp2
      · go_ret
        exact ⟨⟨_, rfl⟩, rfl⟩
      · go_ret
        exact ⟨⟨_, rfl⟩, rfl⟩
      · go_round
        case rel => exact ⟨k + 1, _, by omega, by go_num, rfl⟩
        case measure => simp [intOf]; omega
    · clear HH
      go_wp2
      · go_ret
        exact ⟨⟨_, rfl⟩, rfl⟩
      · go_ret
        exact ⟨⟨_, rfl⟩, rfl⟩
      go_loop [5, 7, 8] (fun z i _ => ∃ (j : Nat) (y : Int), j ≤ m ∧ i = .int .i64 j ∧ z = .int .i64 y) (fun _ i _ => m - (intOf i).toNat)
      case atStart => exact ⟨0, _, Nat.zero_le _, rfl, rfl⟩
      case round =>
        obtain ⟨j, y2, hj, rfl, rfl⟩ := hrel
        by_cases hjm : j < m
        · obtain ⟨b1, off1, rfl, hcell1⟩ := HK.out.get hjm
          have HR := hidden (HK.out.row j hjm)
          have hbig2 := HR.out.big
          clear HK
          generalize A j = aj at hcell1 HR
          generalize L j = lj at hcell1 HR hbig2
          generalize Cp j = cj at hcell1
          go_wp2
          · go_ret
            exact ⟨⟨_, rfl⟩, rfl⟩
          · go_ret
            exact ⟨⟨_, rfl⟩, rfl⟩
          go_loop [5, 8] (fun z i => ∃ (k : Nat) (y : Int), k ≤ lj ∧ i = .int .i64 k ∧ z = .int .i64 y) (fun _ i => lj - (intOf i).toNat)
          case atStart => exact ⟨0, _, Nat.zero_le _, rfl, rfl⟩
          case round =>
            obtain ⟨k2, y3, hk2, rfl, rfl⟩ := hrel
            by_cases hkl : k2 < lj
            · obtain ⟨b2, off2, rfl, hcell2⟩ := HR.out.get hkl
              go_wp2
              · go_ret
                exact ⟨⟨_, rfl⟩, rfl⟩
              · go_ret
                exact ⟨⟨_, rfl⟩, rfl⟩
              · go_round
                case rel => exact ⟨k2 + 1, _, by omega, by go_num, rfl⟩
                case measure => simp [intOf]; omega
            · go_wp2
              go_round
              case rel => exact ⟨j + 1, _, by omega, by go_num, rfl⟩
              case measure => simp [intOf]; omega
        · go_wp2
          go_ret
          exact ⟨⟨_, rfl⟩, rfl⟩
set_option maxHeartbeats 2000000 in
theorem text11 (w : World) (a : Option Addr) (n cap : Nat) (H : Nat → ByteArray) (a1 : Option Addr) (m cap1 : Nat) (A : Nat → Option Addr) (L Cp : Nat → Nat) (S : Nat → Nat → ByteArray) (h : StrsAt w a n H) (h1 : ColsAt w a1 m A L Cp S) :
    Calls Try.prog 11 #[.slice a n cap, .slice a1 m cap1] w fun e w' => AnyInt e ∧ w' = w := by
  have hbig := h.big
  have hbig1 := h1.big
  have HH := hidden h
  have HK := hidden h1
  clear h h1
  go_enter Try.func11, Try.ntmps11
  go_wp2
  go_loop [5, 6] (fun z i => ∃ (k : Nat) (y : Int), k ≤ n ∧ i = .int .i64 k ∧ z = .int .i64 y) (fun _ i => n - (intOf i).toNat)
  case atStart => exact ⟨0, _, Nat.zero_le _, rfl, rfl⟩
  case round =>
    obtain ⟨k, y, hk, rfl, rfl⟩ := hrel
    by_cases hlt : k < n
    · obtain ⟨b, off, rfl, hcell⟩ := HH.out.get hlt
      go_wp2
      · go_ret
        exact ⟨⟨_, rfl⟩, rfl⟩
      · go_ret
        exact ⟨⟨_, rfl⟩, rfl⟩
      · go_round
        case rel => exact ⟨k + 1, _, by omega, by go_num, rfl⟩
        case measure => simp [intOf]; omega
    · clear HH
      go_wp2
      go_loop [5, 7, 8] (fun z i _ => ∃ (j : Nat) (y : Int), j ≤ m ∧ i = .int .i64 j ∧ z = .int .i64 y) (fun _ i _ => m - (intOf i).toNat)
      case atStart => exact ⟨0, _, Nat.zero_le _, rfl, rfl⟩
      case round =>
        obtain ⟨j, y2, hj, rfl, rfl⟩ := hrel
        by_cases hjm : j < m
        · obtain ⟨b1, off1, rfl, hcell1⟩ := HK.out.get hjm
          have HR := hidden (HK.out.row j hjm)
          have hbig2 := HR.out.big
          clear HK
          generalize A j = aj at hcell1 HR
          generalize L j = lj at hcell1 HR hbig2
          generalize Cp j = cj at hcell1
          go_wp2
          · go_ret
            exact ⟨⟨_, rfl⟩, rfl⟩
          go_loop [5, 8] (fun z i => ∃ (k : Nat) (y : Int), k ≤ lj ∧ i = .int .i64 k ∧ z = .int .i64 y) (fun _ i => lj - (intOf i).toNat)
          case atStart => exact ⟨0, _, Nat.zero_le _, rfl, rfl⟩
          case round =>
            obtain ⟨k2, y3, hk2, rfl, rfl⟩ := hrel
            by_cases hkl : k2 < lj
            · obtain ⟨b2, off2, rfl, hcell2⟩ := HR.out.get hkl
              go_wp2
              · go_ret
                exact ⟨⟨_, rfl⟩, rfl⟩
              · go_ret
                exact ⟨⟨_, rfl⟩, rfl⟩
              · go_round
                case rel => exact ⟨k2 + 1, _, by omega, by go_num, rfl⟩
                case measure => simp [intOf]; omega
            · go_wp2
              go_round
              case rel => exact ⟨j + 1, _, by omega, by go_num, rfl⟩
              case measure => simp [intOf]; omega
        · go_wp2
          go_ret
          exact ⟨⟨_, rfl⟩, rfl⟩

end Go.Proofs.Qxb6603170a
