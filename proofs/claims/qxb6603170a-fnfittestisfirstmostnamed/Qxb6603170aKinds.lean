/-
  makeKindsB1 (12): a fresh row of Kinds, each with its Columns.
-/
import Derived.Test.Qxb6603170aCols
import Derived.Deep.OwnRows
namespace Go.Proofs.Qxb6603170a
open Go.RowKit
set_option linter.unusedSimpArgs false
set_option linter.unusedVariables false

theorem Try.info32 : (Try.prog.info? 32).map (fun i => (i.zero, i.size, i.bytes)) = some (some (.agg #[.string ⟨#[]⟩, .slice none 0 0, .map none]), 3, 48) := by kernel_rfl

def kz (t : Nat) : Value := #[.string ⟨#[]⟩, .slice none 0 0, .map none][t % 3]!

theorem make26 (n : Nat) (hn : n ≤ 4096) (w : World) :
    (Instr.makeSlice 26 (.int .i64 (n : Int)) (.int .i64 (n : Int))).run Try.prog w = .ok (.slice (some ⟨w.heap.size, 0, none⟩) n n) (w.alloc (.cells (madeCells #[.string ⟨#[]⟩, .slice none 0 0, .map none] (n * 3)) 32)) := by
  obtain ⟨i, hi, hz0, hz1, hz2⟩ := info_parts Try.info32
  have hr := run_make (P := Try.prog) w 26 32 i _ Try.underlying26 hi hz0 .i64 .i64 n n (by omega) (Int.le_refl _) (by rw [hz2]; omega) (by omega)
  simp only [Int.toNat_natCast, hz1] at hr
  exact hr

theorem kinds_row (w : World) (n : Nat) : (w.alloc (.cells (madeCells #[.string ⟨#[]⟩, .slice none 0 0, .map none] (n * 3)) 32)).rowIs w.heap.size 32 (n * 3) kz := by
  have h := World.rowIs_alloc w (madeCells #[.string ⟨#[]⟩, .slice none 0 0, .map none] (n * 3)) 32 kz (fun i hi => by
    rw [size_madeCells] at hi
    simp [madeCells, hi, kz])
  rwa [size_madeCells] at h

theorem kinds_step {wr : World} {K n k : Nat} {f : Nat → Value} {V : Nat → Value} (h : wr.rowIs K 32 n f) (hf : ∀ i, i < k → f (i * 3) = .string ⟨#[]⟩ ∧ f (i * 3 + 1) = V i ∧ f (i * 3 + 2) = .map none) :
    ∃ g, (((wr.setCell ⟨K, k * 3, none⟩ (.string ⟨#[]⟩)).setCell ⟨K, k * 3 + 1, none⟩ (V k)).setCell ⟨K, k * 3 + 2, none⟩ (.map none)).rowIs K 32 n g ∧ ∀ i, i < k + 1 → g (i * 3) = .string ⟨#[]⟩ ∧ g (i * 3 + 1) = V i ∧ g (i * 3 + 2) = .map none := by
  refine ⟨_, ((h.set (k * 3) _).set (k * 3 + 1) _).set (k * 3 + 2) _, fun i hi => ?_⟩
  rcases Nat.lt_succ_iff_lt_or_eq.1 hi with h1 | rfl
  · obtain ⟨e0, e1, e2⟩ := hf i h1
    refine ⟨?_, ?_, ?_⟩
    · rw [if_neg (by omega), if_neg (by omega), if_neg (by omega)]; exact e0
    · rw [if_neg (by omega), if_neg (by omega), if_neg (by omega)]; exact e1
    · rw [if_neg (by omega), if_neg (by omega), if_neg (by omega)]; exact e2
  · refine ⟨?_, ?_, ?_⟩
    · rw [if_neg (by omega), if_neg (by omega), if_pos rfl]
    · rw [if_neg (by omega), if_pos rfl]
    · rw [if_pos rfl]

set_option maxHeartbeats 1000000 in
theorem kinds12 (w : World) (a1 : Option Addr) (m cap1 : Nat) (A : Nat → Option Addr) (L Cp : Nat → Nat) (S : Nat → Nat → ByteArray) (h1 : ColsAt w a1 m A L Cp S) (hm : m ≤ 4096) :
    Calls Try.prog 12 #[.slice a1 m cap1] w fun e w' => e = .returned (.slice (some ⟨w.heap.size, 0, none⟩) m m) ∧ Below w.heap.size w w' ∧
      ∃ f, w'.rowIs w.heap.size 32 (m * 3) f ∧ ∀ i, i < m → f (i * 3) = .string ⟨#[]⟩ ∧ f (i * 3 + 1) = .slice (A i) (L i) (Cp i) ∧ f (i * 3 + 2) = .map none := by
  have HK := hidden h1
  clear h1
  have hmk := make26 m hm
  have hrow := kinds_row w m
  have hbel := (Below.refl w.heap.size w).alloc (Nat.le_refl _) (.cells (madeCells #[.string ⟨#[]⟩, .slice none 0 0, .map none] (m * 3)) 32)
  have HROW := hidden hrow
  have HBEL := hidden hbel
  clear hrow hbel
  go_enter Try.func12, Try.ntmps12
  go_wp2
  clear hmk
  generalize w.alloc (.cells (madeCells #[.string ⟨#[]⟩, .slice none 0 0, .map none] (m * 3)) 32) = w1 at HROW HBEL ⊢
  go_loopw [4] (fun i wr => ∃ k : Nat, k ≤ m ∧ i = .int .i64 k ∧ Hid (Below w.heap.size w wr) ∧ Hid (∃ f, wr.rowIs w.heap.size 32 (m * 3) f ∧ (∀ i, i < k → f (i * 3) = .string ⟨#[]⟩ ∧ f (i * 3 + 1) = .slice (A i) (L i) (Cp i) ∧ f (i * 3 + 2) = .map none))) (fun i _ => m - (intOf i).toNat)
  case atStart => exact ⟨0, Nat.zero_le _, rfl, HBEL.out, kz, HROW.out, fun i hi => absurd hi (Nat.not_lt_zero _)⟩
  case round =>
    obtain ⟨k, hk, rfl, HB, HF⟩ := hrel
    by_cases hlt : k < m
    · obtain ⟨b1, off1, rfl, hcell⟩ := HK.out.get hlt
      have hb1 := World.block_lt_of_cell? _ _ hcell
      rw [← HB.out.cell (by exact hb1)] at hcell
      obtain ⟨f, hrow, hf⟩ := HF.out
      have c0 := hrow.cell (i := k * 3) (by omega)
      have c1 := hrow.cell (i := k * 3 + 1) (by omega)
      have c2 := hrow.cell (i := k * 3 + 2) (by omega)
      have f0 := hrow.frozen (k * 3)
      have f1 := hrow.frozen (k * 3 + 1)
      have f2 := hrow.frozen (k * 3 + 2)
      have HR := hidden hrow
      have HF' := hidden hf
      clear hrow hf
      go_wp2
      go_roundw
      case rel => exact ⟨k + 1, by omega, by go_num, ((HB.out.setCell (Nat.le_refl _) _).setCell (Nat.le_refl _) _).setCell (Nat.le_refl _) _, kinds_step (V := fun i => .slice (A i) (L i) (Cp i)) HR.out HF'.out⟩
      case measure => simp [intOf]; omega
    · obtain rfl : k = m := by omega
      go_wp2
      go_ret
      exact ⟨rfl, HB.out, HF.out⟩
end Go.Proofs.Qxb6603170a
