/-
  symMergeCmpFunc (41): one element on the left; one element on the right.
-/
import Derived.Test.Qxb6603170aIns
namespace Go.Proofs.Qxb6603170a
open Go.RowKit
set_option linter.unusedSimpArgs false
set_option linter.unusedVariables false
set_option maxRecDepth 100000

set_option maxHeartbeats 2000000 in
theorem sym_left (w0 : World) (blk off n cap : Nat) (R f : Nat → Nat) (key : Nat → Int) (a b : Nat) (w : World) (h : Sw w0 blk off n R f w) (hK : Keyed w0 blk n R key) (hd : Dom n f) (hn : n ≤ 1000000) (hab : a + 1 < b) (hbn : b ≤ n)
    (hs : Srt key f (a + 1) b) (hlr : LR f a (a + 1) b) :
    Calls Try.prog 41 #[.slice (some ⟨blk, off, none⟩) n cap, .int .i64 a, .int .i64 (a + 1), .int .i64 b, .func (.func 37) #[] #[]] w fun e w' => e = .returned (.tuple #[]) ∧ ∃ g, Sw w0 blk off n R g w' ∧ Sub a b f g ∧ Srt key g a b := by
  have HS := hidden h
  have HK := hidden hK
  have HD := hidden hd
  have HT := hidden hs
  have HL := hidden hlr
  clear h hK hd hs hlr
  go_enter Try.func41, Try.ntmps41
  go_wp2
  go_loopw [10, 11] (fun vi vj wr => ∃ i j : Nat, a + 1 ≤ i ∧ i ≤ j ∧ j ≤ b ∧ vi = .int .i64 i ∧ vj = .int .i64 j ∧ Hid (∀ k, a < k → k < i → lx key (f k) (f a)) ∧ Hid (∀ k, j ≤ k → k < b → lx key (f a) (f k)) ∧ Hid (Sw w0 blk off n R f wr)) (fun i j _ => (intOf j - intOf i).toNat)
  case atStart => exact ⟨a + 1, b, Nat.le_refl _, by omega, Nat.le_refl _, by go_num, rfl, fun k h1 h2 => by omega, fun k h1 h2 => by omega, HS.out⟩
  case round =>
    clear HS
    obtain ⟨i, j, hi, hij, hj, rfl, rfl, HA, HB, HS⟩ := hrel
    by_cases hlt : i < j
    · obtain ⟨c, hc⟩ : ∃ c : Nat, c = (i + j) / 2 := ⟨_, rfl⟩
      have hci : i ≤ c := by omega
      have hcj : c < j := by omega
      have ec : ((i : Int) + (j : Int)) / 2 = (c : Int) := by omega
      have EC := hidden ec
      clear hc ec
      have c1 := HS.out.cell c (by omega)
      have c2 := HS.out.cell a (by omega)
      have hcmp := cmpAt HS.out HK.out HD.out (i := c) (j := a) (by omega) (by omega)
      have hx1 : (c : Int) < (n : Int) := by omega
      have hx2 : (a : Int) < (n : Int) := by omega
      have hx3 : (0 : Int) ≤ (c : Int) := by omega
      have hx4 : (0 : Int) ≤ (a : Int) := by omega
      go_wp2_with fail
      rw [EC.out]
      by_cases hlv : key (f c) < key (f a)
      · have hdl : decide (key (f c) - key (f a) < 0) = true := decide_eq_true (by omega)
        have hdl2 : key (f c) - key (f a) < 0 := by omega
        go_quiet ((go_at_call 37; exact Calls.quiet_of (hcmp _)))
        have HS2 := hidden (HS.out.drewN nq)
        clear HS c1 c2 hcmp
        generalize wr.drewN nq = w2 at HS2 ⊢
        go_wp2
        go_roundw
        case rel =>
          refine ⟨c + 1, j, by omega, by omega, hj, by go_num, rfl, fun k h1 h2 => ?_, HB.out, HS2.out⟩
          by_cases e : k = c
          · rw [e]; exact lx_of_key hlv
          · exact lx_trans (HT.out k c (by omega) (by omega) (by omega)) (lx_of_key hlv)
        case measure => simp [intOf]; omega
      · have hdl : decide (key (f c) - key (f a) < 0) = false := decide_eq_false (by omega)
        have hdl2 : ¬ key (f c) - key (f a) < 0 := by omega
        have hle : lx key (f a) (f c) := lx_of_not (HL.out a c (Nat.le_refl _) (by omega) (by omega) (by omega)) hlv
        have HLE := hidden hle
        clear hle
        go_quiet ((go_at_call 37; exact Calls.quiet_of (hcmp _)))
        have HS2 := hidden (HS.out.drewN nq)
        clear HS c1 c2 hcmp
        generalize wr.drewN nq = w2 at HS2 ⊢
        go_wp2
        go_roundw
        case rel =>
          refine ⟨i, c, hi, hci, by omega, rfl, rfl, HA.out, fun k h1 h2 => ?_, HS2.out⟩
          by_cases e : k = c
          · rw [e]; exact HLE.out
          · exact lx_trans HLE.out (HT.out c k (by omega) (by omega) h2)
        case measure => simp [intOf]; omega
    · obtain rfl : i = j := by omega
      go_wp2
      go_loopw [13] (fun vk wr => ∃ k : Nat, a ≤ k ∧ k ≤ i - 1 ∧ vk = .int .i64 k ∧ Hid (Sw w0 blk off n R (shL a k f) wr)) (fun k _ => i - (intOf k).toNat)
      case atStart => exact ⟨a, Nat.le_refl _, by omega, rfl, by rw [shL_zero]; exact HS.out⟩
      case round =>
        clear HS
        obtain ⟨k, hak, hki, rfl, HS⟩ := hrel
        by_cases hkl : k < i - 1
        · have c1 := HS.out.cell k (by omega)
          have c2 := HS.out.cell (k + 1) (by omega)
          have f1 := HS.out.frz k (by omega)
          have f2 := HS.out.frz (k + 1) (by omega)
          have HW := hidden (HS.out.swap (i := k) (j := k + 1) (by omega) (by omega))
          rw [shL_succ a k f hak] at HW
          have hx1 : (k : Int) + 1 < (n : Int) := by omega
          have hx2 : (k : Int) < (n : Int) := by omega
          clear HS
          generalize R (shL a k f k) = x at c1 HW
          generalize R (shL a k f (k + 1)) = y at c2 HW
          go_wp2
          go_region
          go_wp2
          go_roundw
          case rel => exact ⟨k + 1, by omega, by omega, by go_num, HW.out.drew⟩
          case measure => simp [intOf]; omega
        · obtain rfl : k = i - 1 := by omega
          have hfin : Srt key (shL a (i - 1) f) a b := shL_srt (by omega) (by omega) HT.out (fun k h1 h2 => HA.out k h1 (by omega)) (fun k h1 h2 => HB.out k (by omega) h2)
          have HF := hidden hfin
          clear hfin
          go_wp2
          refine bodyPost_ret (results_none rfl _ _ _) rfl ?_
          exact ⟨rfl, _, HS.out, shL_sub f (by omega) (by omega), HF.out⟩

set_option maxHeartbeats 2000000 in
theorem sym_right (w0 : World) (blk off n cap : Nat) (R f : Nat → Nat) (key : Nat → Int) (a m : Nat) (w : World) (h : Sw w0 blk off n R f w) (hK : Keyed w0 blk n R key) (hd : Dom n f) (hn : n ≤ 1000000) (ham : a + 1 < m) (hbn : m + 1 ≤ n)
    (hs : Srt key f a m) (hlr : LR f a m (m + 1)) :
    Calls Try.prog 41 #[.slice (some ⟨blk, off, none⟩) n cap, .int .i64 a, .int .i64 m, .int .i64 (m + 1), .func (.func 37) #[] #[]] w fun e w' => e = .returned (.tuple #[]) ∧ ∃ g, Sw w0 blk off n R g w' ∧ Sub a (m + 1) f g ∧ Srt key g a (m + 1) := by
  have HS := hidden h
  have HK := hidden hK
  have HD := hidden hd
  have HT := hidden hs
  have HL := hidden hlr
  clear h hK hd hs hlr
  have hne : ((m : Int) - (a : Int) == 1) = false := by rw [beq_eq_false_iff_ne]; omega
  go_enter Try.func41, Try.ntmps41
  go_wp2
  go_loopw [14, 15] (fun vi vj wr => ∃ i j : Nat, a ≤ i ∧ i ≤ j ∧ j ≤ m ∧ vi = .int .i64 i ∧ vj = .int .i64 j ∧ Hid (∀ k, a ≤ k → k < i → lx key (f k) (f m)) ∧ Hid (∀ k, j ≤ k → k < m → lx key (f m) (f k)) ∧ Hid (Sw w0 blk off n R f wr)) (fun i j _ => (intOf j - intOf i).toNat)
  case atStart => exact ⟨a, m, Nat.le_refl _, by omega, Nat.le_refl _, rfl, rfl, fun k h1 h2 => by omega, fun k h1 h2 => by omega, HS.out⟩
  case round =>
    clear HS
    obtain ⟨i, j, hi, hij, hj, rfl, rfl, HA, HB, HS⟩ := hrel
    by_cases hlt : i < j
    · obtain ⟨c, hc⟩ : ∃ c : Nat, c = (i + j) / 2 := ⟨_, rfl⟩
      have hci : i ≤ c := by omega
      have hcj : c < j := by omega
      have ec : ((i : Int) + (j : Int)) / 2 = (c : Int) := by omega
      have EC := hidden ec
      clear hc ec
      have c1 := HS.out.cell c (by omega)
      have c2 := HS.out.cell m (by omega)
      have hcmp := cmpAt HS.out HK.out HD.out (i := m) (j := c) (by omega) (by omega)
      have hx1 : (c : Int) < (n : Int) := by omega
      have hx2 : (m : Int) < (n : Int) := by omega
      have hx3 : (0 : Int) ≤ (c : Int) := by omega
      have hx4 : (0 : Int) ≤ (m : Int) := by omega
      go_wp2_with fail
      rw [EC.out]
      by_cases hlv : key (f m) < key (f c)
      · have hdl : decide (key (f m) - key (f c) < 0) = true := decide_eq_true (by omega)
        have hdl2 : key (f m) - key (f c) < 0 := by omega
        go_quiet ((go_at_call 37; exact Calls.quiet_of (hcmp _)))
        have HS2 := hidden (HS.out.drewN nq)
        clear HS c1 c2 hcmp
        generalize wr.drewN nq = w2 at HS2 ⊢
        go_wp2
        go_roundw
        case rel =>
          refine ⟨i, c, hi, hci, by omega, rfl, rfl, HA.out, fun k h1 h2 => ?_, HS2.out⟩
          by_cases e : k = c
          · rw [e]; exact lx_of_key hlv
          · exact lx_trans (lx_of_key hlv) (HT.out c k (by omega) (by omega) h2)
        case measure => simp [intOf]; omega
      · have hdl : decide (key (f m) - key (f c) < 0) = false := decide_eq_false (by omega)
        have hdl2 : ¬ key (f m) - key (f c) < 0 := by omega
        have hle : lx key (f c) (f m) := lx_of_not (HL.out c m (by omega) (by omega) (Nat.le_refl _) (by omega)) hlv
        have HLE := hidden hle
        clear hle
        go_quiet ((go_at_call 37; exact Calls.quiet_of (hcmp _)))
        have HS2 := hidden (HS.out.drewN nq)
        clear HS c1 c2 hcmp
        generalize wr.drewN nq = w2 at HS2 ⊢
        go_wp2
        go_roundw
        case rel =>
          refine ⟨c + 1, j, by omega, by omega, hj, by go_num, rfl, fun k h1 h2 => ?_, HB.out, HS2.out⟩
          by_cases e : k = c
          · rw [e]; exact HLE.out
          · exact lx_trans (HT.out k c (by omega) (by omega) (by omega)) HLE.out
        case measure => simp [intOf]; omega
    · obtain rfl : i = j := by omega
      go_wp2
      go_loopw [17] (fun vk wr => ∃ k : Nat, i ≤ k ∧ k ≤ m ∧ vk = .int .i64 k ∧ Hid (Sw w0 blk off n R (shR k m f) wr)) (fun k _ => (intOf k).toNat)
      case atStart => exact ⟨m, by omega, Nat.le_refl _, rfl, by rw [shR_zero]; exact HS.out⟩
      case round =>
        clear HS
        obtain ⟨k, hik, hkm, rfl, HS⟩ := hrel
        by_cases hkl : i < k
        · obtain ⟨t, rfl⟩ : ∃ t, k = t + 1 := ⟨k - 1, by omega⟩
          have c1 := HS.out.cell (t + 1) (by omega)
          have c2 := HS.out.cell t (by omega)
          have f1 := HS.out.frz (t + 1) (by omega)
          have f2 := HS.out.frz t (by omega)
          have HW := hidden (HS.out.swap (i := t + 1) (j := t) (by omega) (by omega))
          rw [shR_succ t m f (by omega)] at HW
          have hx1 : (t : Int) + 1 < (n : Int) := by omega
          have hx2 : (t : Int) < (n : Int) := by omega
          have hx3 : (i : Int) < (t : Int) + 1 := by omega
          clear HS
          generalize R (shR (t + 1) m f (t + 1)) = x at c1 HW
          generalize R (shR (t + 1) m f t) = y at c2 HW
          rw [show ((t + 1 : Nat) : Int) = (t : Int) + 1 from rfl]
          go_wp2
          go_region
          go_wp2
          go_roundw
          case rel => exact ⟨t, by omega, by omega, by first | rfl | go_num, HW.out.drew⟩
          case measure => simp [intOf]
        · obtain rfl : k = i := by omega
          have hfin : Srt key (shR k m f) a (m + 1) := shR_srt hi hkm HT.out HA.out HB.out
          have HF := hidden hfin
          clear hfin
          go_wp2
          refine bodyPost_ret (results_none rfl _ _ _) rfl ?_
          exact ⟨rfl, _, HS.out, shR_sub f hi hkm (by omega), HF.out⟩
end Go.Proofs.Qxb6603170a
