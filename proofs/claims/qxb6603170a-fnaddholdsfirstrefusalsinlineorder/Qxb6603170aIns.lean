/-
  insertionSortCmpFunc (40).
-/
import Derived.Test.Qxb6603170aSw
namespace Go.Proofs.Qxb6603170a
open Go.RowKit
set_option linter.unusedSimpArgs false
set_option linter.unusedVariables false

/-- What the comparison reads: element p's line lies in block R p, which is not the row's. -/
structure Keyed (w0 : World) (blk n : Nat) (R : Nat → Nat) (key : Nat → Int) : Prop where
  ne : ∀ p, p < n → R p ≠ blk
  cell : ∀ p, p < n → w0.cell? ⟨R p, 1, none⟩ = some (.int .i64 (key p))
  lo : ∀ p, p < n → -4611686018427387903 ≤ key p
  hi : ∀ p, p < n → key p ≤ 4611686018427387903

def Dom (n : Nat) (f : Nat → Nat) : Prop := ∀ k, k < n → f k < n
theorem Sub.dom {a b n : Nat} {f g : Nat → Nat} (h : Sub a b f g) (hb : b ≤ n) (hd : Dom n f) : Dom n g := fun k hk => by
  by_cases hk' : a ≤ k ∧ k < b
  · obtain ⟨k', h1, h2, e⟩ := h.into k hk'.1 hk'.2
    rw [e]; exact hd k' (by omega)
  · rw [h.out k (by omega)]; exact hd k hk

/-- The comparison of what two places hold, in whatever world of the sort's. -/
theorem cmpAt {w0 : World} {blk off n : Nat} {R f : Nat → Nat} {key : Nat → Int} {W : World} (S : Sw w0 blk off n R f W) (K : Keyed w0 blk n R key) (hd : Dom n f) {i j : Nat} (hi : i < n) (hj : j < n) (q : Nat) :
    Calls Try.prog 37 #[.pointer (some ⟨R (f i), 0, none⟩), .pointer (some ⟨R (f j), 0, none⟩)] (W.drewN q) fun e w' => e = .returned (.int .i64 (key (f i) - key (f j))) ∧ ∃ m, w' = (W.drewN q).drewN m := by
  have di := hd i hi
  have dj := hd j hj
  exact cmp37 (W.drewN q) (R (f i)) (R (f j)) (key (f i)) (key (f j)) (((S.drewN q).other (K.ne _ di) 1).trans (K.cell _ di)) (((S.drewN q).other (K.ne _ dj) 1).trans (K.cell _ dj)) ⟨K.lo _ di, K.hi _ di⟩ ⟨K.lo _ dj, K.hi _ dj⟩

theorem shR_at {t m : Nat} {f : Nat → Nat} (h : t ≤ m) : shR t m f t = f m := by unfold shR; rw [if_neg (by omega), if_pos rfl]
theorem shR_below {t m k : Nat} {f : Nat → Nat} (h : k < t) : shR t m f k = f k := by unfold shR; rw [if_neg (by omega), if_neg (by omega)]

set_option maxHeartbeats 2000000 in
theorem ins40 (w0 : World) (blk off n cap : Nat) (R f : Nat → Nat) (key : Nat → Int) (a b : Nat) (w : World) (h : Sw w0 blk off n R f w) (hK : Keyed w0 blk n R key) (hd : Dom n f) (hn : n ≤ 1000000) (hab : a ≤ b) (hbn : b ≤ n)
    (hinc : ∀ i j, a ≤ i → i < j → j < b → f i < f j) :
    Calls Try.prog 40 #[.slice (some ⟨blk, off, none⟩) n cap, .int .i64 a, .int .i64 b, .func (.func 37) #[] #[]] w fun e w' => e = .returned (.tuple #[]) ∧ ∃ g, Sw w0 blk off n R g w' ∧ Sub a b f g ∧ Srt key g a b := by
  have HS := hidden h
  have HK := hidden hK
  have HD := hidden hd
  have HI := hidden hinc
  clear h hK hd hinc
  go_enter Try.func40, Try.ntmps40
  go_wp2
  go_loopg [8] (b - a) (fun g1 vi wr => ∃ (i : Nat) (g : Nat → Nat), vi = .int .i64 i ∧ a < i ∧ (i ≤ b ∨ i = a + 1) ∧ b + 1 - i ≤ g1 + 1 ∧ Hid (Sw w0 blk off n R g wr) ∧ Hid (Sub a i f g) ∧ Hid (Srt key g a i))
  case atStart => exact ⟨a + 1, f, by go_num, by omega, Or.inr rfl, by omega, HS.out, Sub.refl _ _ _, Srt.short (by omega)⟩
  case round =>
    clear HS
    obtain ⟨i, g, rfl, hai, hib, hg1, HS, HU, HT⟩ := hrel
    by_cases hlt : i < b
    · have hltz : (i : Int) < (b : Int) := by omega
      go_wp2
      go_loopg [9] i (fun g2 vj wr2 => ∃ j : Nat, vj = .int .i64 j ∧ a ≤ j ∧ j ≤ i ∧ j ≤ g2 ∧ Hid (Sw w0 blk off n R (shR j i g) wr2) ∧ Hid (∀ k, j ≤ k → k < i → lx key (g i) (g k)))
      case atStart => exact ⟨i, rfl, by omega, Nat.le_refl _, Nat.le_refl _, by rw [shR_zero]; exact HS.out, fun k h1 h2 => by omega⟩
      case round =>
        clear HS
        obtain ⟨j, rfl, haj, hji, hg2, HJ, HL⟩ := hrel
        have hdg : Dom n g := HU.out.dom (by omega) HD.out
        have hds : Dom n (shR j i g) := (shR_sub (a := a) (b := i + 1) g haj hji (by omega)).dom (by omega) hdg
        have HDS := hidden hds
        clear hds
        have out : Hid ((a < j → lx key (g (j - 1)) (g i)) → Sub a (i + 1) f (shR j i g) ∧ Srt key (shR j i g) a (i + 1)) := fun hlo => by
          refine ⟨(HU.out.wide (Nat.le_refl _) (by omega)).trans (shR_sub g haj hji (by omega)), shR_srt haj hji HT.out (fun k h1 h2 => ?_) HL.out⟩
          by_cases e : k = j - 1
          · rw [e]; exact hlo (by omega)
          · exact lx_trans (HT.out k (j - 1) h1 (by omega) (by omega)) (hlo (by omega))
        by_cases hja : a < j
        · obtain ⟨jp, rfl⟩ : ∃ q, j = q + 1 := ⟨j - 1, by omega⟩
          have hid : g jp < g i := by
            have e1 : g i = f i := HU.out.out i (Or.inr (Nat.le_refl _))
            obtain ⟨k', h1, h2, e2⟩ := HU.out.into jp (by omega) (by omega)
            rw [e1, e2]; exact HI.out k' i h1 h2 hlt
          have HID := hidden hid
          clear hid
          have c1 := HJ.out.cell (jp + 1) (by omega)
          have c2 := HJ.out.cell jp (by omega)
          have f1 := HJ.out.frz (jp + 1) (by omega)
          have f2 := HJ.out.frz jp (by omega)
          have hc := cmpAt HJ.out HK.out HDS.out (i := jp + 1) (j := jp) (by omega) (by omega)
          rw [shR_at hji, shR_below (Nat.lt_succ_self _)] at hc
          rw [shR_at hji] at c1
          rw [shR_below (Nat.lt_succ_self _)] at c2
          have hjaz : (a : Int) < (jp : Int) + 1 := by omega
          have hjad : decide ((a : Int) < (jp : Int) + 1) = true := decide_eq_true hjaz
          have hx1 : (jp : Int) + 1 < (n : Int) := by omega
          have hx2 : (jp : Int) < (n : Int) := by omega
          have hx0 : (0 : Int) ≤ (jp : Int) := by omega
          by_cases hlv : key (g i) < key (g jp)
          · have HW := hidden (HJ.out.swap (i := jp + 1) (j := jp) (by omega) (by omega))
            rw [shR_succ jp i g (by omega), shR_at hji, shR_below (Nat.lt_succ_self _)] at HW
            have hdl : decide (key (g i) - key (g jp) < 0) = true := decide_eq_true (by omega)
            have hdl2 : key (g i) - key (g jp) < 0 := by omega
            clear HJ
            go_wp2_with fail
            try rw [show ((jp + 1 : Nat) : Int) = (jp : Int) + 1 from rfl]
            go_quiet ((go_at_call 37; exact Calls.quiet_of (hc _)))
            go_wp2_with fail
            go_region
            go_wp2
            go_roundg jp
            case measure => omega
            case rel =>
              refine ⟨jp, by first | rfl | go_num, by omega, by omega, Nat.le_refl _, ?_, fun k h1 h2 => ?_⟩
              · exact Sw.drewN (W := _) HW.out (nq + 1)
              · by_cases e : k = jp
                · rw [e]; exact lx_of_key hlv
                · exact HL.out k (by omega) h2
          · have HO := hidden (out.out fun _ => lx_of_not HID.out hlv)
            have hdl : decide (key (g i) - key (g jp) < 0) = false := decide_eq_false (by omega)
            have hdl2 : ¬ key (g i) - key (g jp) < 0 := by omega
            go_wp2_with fail
            try rw [show ((jp + 1 : Nat) : Int) = (jp : Int) + 1 from rfl]
            go_quiet ((go_at_call 37; exact Calls.quiet_of (hc _)))
            have HJ2 := hidden (HJ.out.drewN nq)
            clear HJ hc c1 c2 f1 f2
            generalize wr.drewN nq = w2 at HJ2 ⊢
            go_wp2
            go_roundg (b - (i + 1))
            case measure => omega
            case rel => exact ⟨i + 1, _, by go_num, by omega, Or.inl (by omega), by omega, HJ2.out, HO.out.1, HO.out.2⟩
        · have HO := hidden (out.out fun h => absurd h hja)
          have hjad : decide ((a : Int) < (j : Int)) = false := decide_eq_false (by omega)
          have hjaz : ¬ (a : Int) < (j : Int) := by omega
          go_wp2_with fail
          go_quiet (fail)
          have HJ2 := hidden (HJ.out.drewN nq)
          clear HJ
          generalize wr.drewN nq = w2 at HJ2 ⊢
          go_wp2
          go_roundg (b - (i + 1))
          case measure => omega
          case rel => exact ⟨i + 1, _, by go_num, by omega, Or.inl (by omega), by omega, HJ2.out, HO.out.1, HO.out.2⟩
    · have hltz : ¬ (i : Int) < (b : Int) := by omega
      go_wp2
      go_end0
      refine ⟨rfl, g, HS.out, ?_, ?_⟩
      · by_cases e : i = b
        · rw [← e]; exact HU.out
        · have hia : i = a + 1 := by omega
          have hg : g = f := by
            funext k
            by_cases hk : k = a
            · obtain ⟨k', h1, h2, e'⟩ := HU.out.into k (by omega) (by omega)
              rw [e']; congr 1; omega
            · exact HU.out.out k (by omega)
          rw [hg]; exact Sub.refl _ _ _
      · exact HT.out.part (Nat.le_refl _) (by omega)
end Go.Proofs.Qxb6603170a
