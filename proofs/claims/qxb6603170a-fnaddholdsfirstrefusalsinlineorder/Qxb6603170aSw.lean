/-
  The sort's row in memory ('Sw'); the comparison (37), swapRangeCmpFunc (43), rotateCmpFunc (42).
-/
import Derived.Test.Qxb6603170aStr
import Derived.Test.Qxb6603170aSortPlain
import Derived.Deep.LoopGhost
import Derived.Deep.OwnRows
import Derived.Deep.RegionHeld3
import Derived.BigRegion
namespace Go.Proofs.Qxb6603170a
open Go.RowKit
set_option linter.unusedSimpArgs false
set_option linter.unusedVariables false

/-- A pointer to the refusal in block r. -/
def ptr (r : Nat) : Value := .pointer (some ⟨r, 0, none⟩)

/-- THE ROW: n cells from ⟨blk, off⟩ on; place i holds the pointer to block 'R (f i)'; all else is as in w0. -/
structure Sw (w0 : World) (blk off n : Nat) (R : Nat → Nat) (f : Nat → Nat) (W : World) : Prop where
  cell : ∀ i, i < n → W.cell? ⟨blk, off + i, none⟩ = some (.pointer (some ⟨R (f i), 0, none⟩))
  frz : ∀ i, i < n → W.frozen? ⟨blk, off + i, none⟩ = false
  out : ∀ o, o < off ∨ off + n ≤ o → W.cell? ⟨blk, o, none⟩ = w0.cell? ⟨blk, o, none⟩
  frozen : ∀ a, W.frozen? a = w0.frozen? a
  block : ∀ k, k ≠ blk → W.heap[k]? = w0.heap[k]?
  size : W.heap.size = w0.heap.size
  os : W.os = w0.os
  tape : W.tape = w0.tape
  output : W.output = w0.output
  shape : ∀ t c V, w0.rowIs blk t c V → ∃ V', W.rowIs blk t c V'

section
variable {w0 W : World} {blk off n : Nat} {R f : Nat → Nat}
theorem Sw.drewN (h : Sw w0 blk off n R f W) (q : Nat) : Sw w0 blk off n R f (W.drewN q) := ⟨h.cell, h.frz, h.out, h.frozen, h.block, h.size, h.os, h.tape, h.output, h.shape⟩
theorem Sw.drew (h : Sw w0 blk off n R f W) : Sw w0 blk off n R f W.drew := ⟨h.cell, h.frz, h.out, h.frozen, h.block, h.size, h.os, h.tape, h.output, h.shape⟩
theorem Sw.other (h : Sw w0 blk off n R f W) {b : Nat} (hb : b ≠ blk) (o : Nat) : W.cell? ⟨b, o, none⟩ = w0.cell? ⟨b, o, none⟩ := World.cell?_of_block (w := w0) (h.block b hb)
theorem Sw.below (h : Sw w0 blk off n R f W) {B : Nat} (hB : B ≤ blk) : Below B w0 W := ⟨h.os, h.tape, h.output, Nat.le_of_eq h.size.symm, fun k hk => h.block k (by omega)⟩

theorem cell_ne (w : World) {b i j : Nat} (v : Value) (h : i ≠ j) : (w.setCell ⟨b, i, none⟩ v).cell? ⟨b, j, none⟩ = w.cell? ⟨b, j, none⟩ :=
  World.cell?_setCell_other _ _ _ _ (by intro e; simp only [Addr.mk.injEq] at e; omega)

/-- The exchange. -/
theorem Sw.swap (h : Sw w0 blk off n R f W) {i j : Nat} (hi : i < n) (hj : j < n) :
    Sw w0 blk off n R (sw1 f i j) ((W.setCell ⟨blk, off + i, none⟩ (.pointer (some ⟨R (f j), 0, none⟩))).setCell ⟨blk, off + j, none⟩ (.pointer (some ⟨R (f i), 0, none⟩))) where
  cell k hk := by
    unfold sw1
    by_cases e : k = j
    · subst e
      by_cases e2 : k = i
      · subst e2
        rw [if_pos rfl]
        exact World.cell?_setCell_same _ _ _ (World.cell?_setCell_same _ _ _ (h.cell k hk))
      · rw [if_neg e2, if_pos rfl]
        exact World.cell?_setCell_same _ _ _ ((cell_ne _ _ (by omega)).trans (h.cell k hk))
    · rw [cell_ne _ _ (by omega)]
      by_cases e2 : k = i
      · subst e2
        rw [if_pos rfl]
        exact World.cell?_setCell_same _ _ _ (h.cell k hk)
      · rw [if_neg e2, if_neg e, cell_ne _ _ (by omega)]
        exact h.cell k hk
  frz k hk := by rw [World.frozen?_setCell, World.frozen?_setCell]; exact h.frz k hk
  out o ho := by rw [cell_ne _ _ (by omega), cell_ne _ _ (by omega)]; exact h.out o ho
  frozen a := by rw [World.frozen?_setCell, World.frozen?_setCell]; exact h.frozen a
  block k hk := by rw [Below.heap_setCell _ _ _ _ (by exact hk), Below.heap_setCell _ _ _ _ (by exact hk)]; exact h.block k hk
  size := by simpa using h.size
  os := h.os
  tape := h.tape
  output := h.output
  shape t c V hV := by
    obtain ⟨V', h'⟩ := h.shape t c V hV
    exact ⟨_, (h'.set _ _).set _ _⟩
/-- Behind the exchange's first store the second place still holds something. -/
theorem Sw.mid (h : Sw w0 blk off n R f W) {i j : Nat} (hi : i < n) (hj : j < n) (v : Value) : ∃ u, (W.setCell ⟨blk, off + i, none⟩ v).cell? ⟨blk, off + j, none⟩ = some u := by
  by_cases e : i = j
  · subst e; exact ⟨v, World.cell?_setCell_same _ _ _ (h.cell i hi)⟩
  · exact ⟨_, (cell_ne _ _ (by omega)).trans (h.cell j hj)⟩
end

/-! ### the comparison -/
set_option maxHeartbeats 400000 in
theorem cmp37 (w : World) (r s : Nat) (x y : Int) (hx : w.cell? ⟨r, 1, none⟩ = some (.int .i64 x)) (hy : w.cell? ⟨s, 1, none⟩ = some (.int .i64 y))
    (bx : -4611686018427387903 ≤ x ∧ x ≤ 4611686018427387903) (bY : -4611686018427387903 ≤ y ∧ y ≤ 4611686018427387903) :
    Calls Try.prog 37 #[.pointer (some ⟨r, 0, none⟩), .pointer (some ⟨s, 0, none⟩)] w fun e w' => e = .returned (.int .i64 (x - y)) ∧ ∃ q, w' = w.drewN q := by
  obtain ⟨b1, b2⟩ := bx
  obtain ⟨b3, b4⟩ := bY
  go_enter Try.func37, Try.ntmps37
  go_wp2
  go_quiet (fail)
  go_wp2
  go_ret
  exact ⟨rfl, _, rfl⟩

/-! ### swapRange -/
set_option maxHeartbeats 1000000 in
theorem swap43 (w0 : World) (blk off n cap : Nat) (R f : Nat → Nat) (a b m : Nat) (fv : Value) (w : World) (h : Sw w0 blk off n R f w) (hn : n ≤ 1000000) (hab : a + m ≤ b) (hbn : b + m ≤ n) :
    Calls Try.prog 43 #[.slice (some ⟨blk, off, none⟩) n cap, .int .i64 a, .int .i64 b, .int .i64 m, fv] w fun e w' => e = .returned (.tuple #[]) ∧ Sw w0 blk off n R (swR a b m f) w' := by
  have HS := hidden h
  clear h
  go_enter Try.func43, Try.ntmps43
  go_wp2
  go_loopw [10] (fun i wr => ∃ k : Nat, k ≤ m ∧ i = .int .i64 k ∧ Hid (Sw w0 blk off n R (swR a b k f) wr)) (fun i _ => m - (intOf i).toNat)
  case atStart => exact ⟨0, Nat.zero_le _, rfl, by rw [swR_zero]; exact HS.out⟩
  case round =>
    clear HS
    obtain ⟨k, hk, rfl, HK⟩ := hrel
    by_cases hlt : k < m
    · have c1 := HK.out.cell (a + k) (by omega)
      have c2 := HK.out.cell (b + k) (by omega)
      have f1 := HK.out.frz (a + k) (by omega)
      have f2 := HK.out.frz (b + k) (by omega)
      have HW := hidden (HK.out.swap (i := a + k) (j := b + k) (by omega) (by omega))
      rw [swR_succ a b m k f hab hlt] at HW
      have hx1 : (a : Int) + (k : Int) < (n : Int) := by omega
      have hx2 : (b : Int) + (k : Int) < (n : Int) := by omega
      clear HK
      generalize R (swR a b k f (a + k)) = x at c1 HW
      generalize R (swR a b k f (b + k)) = y at c2 HW
      go_wp2
      go_region
      go_wp2
      go_roundw
      case rel => exact ⟨k + 1, by omega, by go_num, HW.out.drew⟩
      case measure => simp [intOf]; omega
    · obtain rfl : k = m := by omega
      go_wp2
      go_end0
      exact ⟨rfl, HK.out⟩

/-! ### rotate -/
set_option maxHeartbeats 1000000 in
theorem rotate42 (w0 : World) (blk off n cap : Nat) (R f : Nat → Nat) (a m b : Nat) (fv : Value) (w : World) (h : Sw w0 blk off n R f w) (hn : n ≤ 1000000) (ham : a < m) (hmb : m < b) (hbn : b ≤ n) :
    Calls Try.prog 42 #[.slice (some ⟨blk, off, none⟩) n cap, .int .i64 a, .int .i64 m, .int .i64 b, fv] w fun e w' => e = .returned (.tuple #[]) ∧ Sw w0 blk off n R (rotF a m b f) w' := by
  have HS := hidden h
  clear h
  go_enter Try.func42, Try.ntmps42
  go_wp2
  go_loopw [10, 11] (fun vi vj wr => ∃ (i j : Nat) (g : Nat → Nat), 0 < i ∧ 0 < j ∧ i ≤ m - a ∧ j ≤ b - m ∧ vi = .int .i64 i ∧ vj = .int .i64 j ∧ Hid (rotF (m - i) m (m + j) g = rotF a m b f) ∧ Hid (Sw w0 blk off n R g wr)) (fun i j _ => (intOf i).toNat + (intOf j).toNat)
  case atStart => exact ⟨m - a, b - m, f, by omega, by omega, Nat.le_refl _, Nat.le_refl _, by go_num, by go_num, by show _ = _; rw [show m - (m - a) = a by omega, show m + (b - m) = b by omega], HS.out⟩
  case round =>
    clear HS
    obtain ⟨i, j, g, hi0, hj0, hi, hj, rfl, rfl, HE, HK⟩ := hrel
    rcases Nat.lt_trichotomy i j with hij | rfl | hij
    · have hne : ((i : Int) != (j : Int)) = true := by rw [bne_iff_ne]; omega
      go_wp2_with fail
      rw [show ((m : Int) - (i : Int)) = ((m - i : Nat) : Int) from by omega, show ((m : Int) + (j : Int) - (i : Int)) = ((m + j - i : Nat) : Int) from by omega]
      refine (swap43 w0 blk off n cap R g (m - i) (m + j - i) i fv _ HK.out hn (by omega) (by omega)).mono ?_
      rintro e w1 ⟨rfl, hs⟩
      have HW := hidden hs
      clear hs HK
      go_wp2_with fail
      go_roundw
      case rel => exact ⟨i, j - i, _, hi0, by omega, hi, by omega, rfl, by go_num, by show _ = _; rw [rot_right m i j g (by omega) hij]; exact HE.out, HW.out⟩
      case measure => simp [intOf]; omega
    · have hne : ((i : Int) != (i : Int)) = false := by simp
      go_wp2_with fail
      rw [show ((m : Int) - (i : Int)) = ((m - i : Nat) : Int) from by omega]
      refine (swap43 w0 blk off n cap R g (m - i) m i fv _ HK.out hn (by omega) (by omega)).mono ?_
      rintro e w1 ⟨rfl, hs⟩
      have HW := hidden hs
      clear hs HK
      go_wp2_with fail
      go_end0
      exact ⟨rfl, by rw [← HE.out, ← rot_even m i g (by omega)]; exact HW.out⟩
    · have hne : ((i : Int) != (j : Int)) = true := by rw [bne_iff_ne]; omega
      go_wp2_with fail
      rw [show ((m : Int) - (i : Int)) = ((m - i : Nat) : Int) from by omega]
      refine (swap43 w0 blk off n cap R g (m - i) m j fv _ HK.out hn (by omega) (by omega)).mono ?_
      rintro e w1 ⟨rfl, hs⟩
      have HW := hidden hs
      clear hs HK
      go_wp2_with fail
      go_roundw
      case rel => exact ⟨i - j, j, _, by omega, hj0, by omega, hj, by go_num, rfl, by show _ = _; rw [rot_left m i j g (by omega) hij]; exact HE.out, HW.out⟩
      case measure => simp [intOf]; omega
end Go.Proofs.Qxb6603170a
