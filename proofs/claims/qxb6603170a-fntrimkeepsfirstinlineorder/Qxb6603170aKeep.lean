/-
  FnTrimKeepsFirstInLineOrder (6): the walk.
-/
import Derived.Test.Qxb6603170aIdem
import Derived.Test.Qxb6603170aRank
import Derived.Deep.DeepCutAuto
namespace Go.Proofs.Qxb6603170a
open Go.RowKit
set_option linter.unusedSimpArgs false
set_option linter.unusedVariables false
set_option maxRecDepth 100000

/-- Where refusal i is to stand. -/
def place (u : Bool) (L : Nat → Int) (n i : Nat) : Nat := if u then rank L i n else i
theorem place_lt (u : Bool) (L : Nat → Int) {n i : Nat} (h : i < n) : place u L n i < n := by
  unfold place; cases u with
  | true => exact rank_bound L i n h
  | false => exact h
theorem place_inj (u : Bool) (L : Nat → Int) {n i j : Nat} (hi : i < n) (hj : j < n) (hne : i ≠ j) : place u L n i ≠ place u L n j := by
  unfold place; cases u with
  | true => exact rank_inj hi hj hne
  | false => exact hne
theorem place_of {w w' : World} {fb blk n cap : Nat} {R : Nat → Nat} {L : Nat → Int} {u : Bool} {g : Nat → Nat} (h : Trimmed w w' fb blk n cap R L u g) {k : Nat} (hk : k < n) : place u L n (g k) = k := by
  unfold place; cases u with
  | true => exact rank_srt h.dom (h.srt rfl) k hk
  | false => rw [h.same rfl]; rfl

/-- The first i refusals stand at their places in the row O. -/
def Placed (wr : World) (O n : Nat) (u : Bool) (L : Nat → Int) (P i : Nat) : Prop := ∃ X, wr.rowIs O 39 n X ∧ ∀ j, j < i → X (place u L n j) = .pointer (some ⟨P + 1 + j, 0, none⟩)
theorem Placed.step {wr : World} {O n : Nat} {u : Bool} {L : Nat → Int} {P i : Nat} (h : Placed wr O n u L P i) (hi : i < n) (q : Nat) :
    Placed ((wr.setCell ⟨O, place u L n i, none⟩ (.pointer (some ⟨P + 1 + i, 0, none⟩))).drewN q) O n u L P (i + 1) := by
  obtain ⟨X, hX, hp⟩ := h
  refine ⟨_, hX.set (place u L n i) _, fun j hj => ?_⟩
  by_cases e : j = i
  · subst e; rw [if_pos rfl]
  · rw [if_neg (place_inj u L (by omega) hi e)]
    exact hp j (by omega)

set_option maxHeartbeats 4000000 in
theorem keep_in (w : World) (a : Option Addr) (n cap : Nat) (u : Bool) (F : Nat → ByteArray) (L : Nat → Int) (G Q : Nat → ByteArray) (h : RefsAt w a n F L G Q) (hn : n ≤ 4096) :
    Calls Try.prog 6 #[.slice a n cap, .bool u] w fun e w' => e = .returned (.bool true) ∧ Below w.heap.size w w' := by
  have HH := hidden h
  clear h
  go_enter Try.func6, Try.ntmps6
  go_wp2_with fail
  refine (zz17 w a n cap u F L G Q HH.out).mono ?_
  rintro e w' ⟨⟨r, rfl⟩, rfl⟩
  cases r with
  | false =>
    go_wp2_with fail
    go_ret
    exact ⟨rfl, Below.refl _ _⟩
  | true =>
    go_wp2_with fail
    refine (bytes18 w' a n cap F L G Q HH.out).mono ?_
    rintro e w' ⟨⟨tx, rfl⟩, rfl⟩
    by_cases htx : 1048576 < tx
    · go_wp2_with fail
      go_ret
      exact ⟨rfl, Below.refl _ _⟩
    · go_wp2_with fail
      refine (fit19 w' a n cap F L G Q HH.out).mono ?_
      rintro e w' ⟨⟨r, rfl, hfit⟩, rfl⟩
      have HF := hidden hfit
      clear hfit
      cases r with
      | false =>
        go_wp2_with fail
        go_ret
        exact ⟨rfl, Below.refl _ _⟩
      | true =>
        go_wp2_with fail
        refine (mk20 w' a n cap F L G Q HH.out hn).mono ?_
        rintro e w1 ⟨rfl, hM⟩
        have hl := HF.out (by first | rfl | trivial)
        obtain ⟨P, hP⟩ : ∃ P, P = w'.heap.size := ⟨_, rfl⟩
        obtain ⟨Hd, hHd⟩ : ∃ x, x = w1.heap.size := ⟨_, rfl⟩
        have hs1 : Hd = P + 1 + n := by rw [hHd, hP]; exact hM.size
        rw [← hP] at hM ⊢
        have HM := hidden hM
        have HLn := hidden hl
        have HPe := hidden hP
        have hHP : P < Hd := by omega
        have hmk := make37 n hn w1
        rw [← hHd] at hmk
        have hR0 := (World.rowIs_made w1 (.pointer none) n 39).congr (g := fun i => if i < 0 then .pointer (some ⟨P + 1 + i, 0, none⟩) else .pointer none) fun i hi => by simp
        have hB0 := (Below.refl w1.heap.size w1).alloc (Nat.le_refl _) (.cells (madeCells #[.pointer none] n) 39)
        rw [← hHd] at hR0 hB0
        have hS0 : (w1.alloc (.cells (madeCells #[.pointer none] n) 39)).heap.size = Hd + 1 := by simp [hHd]
        have HR0 := hidden hR0
        have HB0 := hidden hB0
        have HS0 := hidden hS0
        have HHd := hidden hHd
        have HS1 := hidden hs1
        clear hM hl HF hs1 hR0 hB0 hS0 hP hHd
        go_wp2_with fail
        clear hmk
        generalize w1.alloc (.cells (madeCells #[.pointer none] n) 39) = w2 at HR0 HB0 HS0 ⊢
        go_loopw [8] (fun i wr => ∃ k : Nat, k ≤ n ∧ i = .int .i64 k ∧ Hid (wr.rowIs Hd 39 n (fun i => if i < k then .pointer (some ⟨P + 1 + i, 0, none⟩) else .pointer none)) ∧ Hid (Below Hd w1 wr) ∧ Hid (wr.heap.size = Hd + 1)) (fun i _ => n - (intOf i).toNat)
        case atStart => exact ⟨0, Nat.zero_le _, rfl, HR0.out, HB0.out, HS0.out⟩
        case round =>
          clear HR0 HB0 HS0
          obtain ⟨k, hk, rfl, HR, HB, HZ⟩ := hrel
          by_cases hlt : k < n
          · have d0 := HM.out.full.cell hlt
            rw [← HB.out.cell (by exact hHP)] at d0
            have d1 := HR.out.cell hlt
            have d2 := HR.out.frozen k
            have HR2 := hidden (copy_step (X := fun i => .pointer (some ⟨P + 1 + i, 0, none⟩)) HR.out hlt)
            have HB2 := hidden (HB.out.setCell (p := ⟨Hd, k, none⟩) (Nat.le_refl _) (.pointer (some ⟨P + 1 + k, 0, none⟩)))
            have HZ2 : Hid ((wr.setCell ⟨Hd, k, none⟩ (.pointer (some ⟨P + 1 + k, 0, none⟩))).heap.size = Hd + 1) := by show _ = _; simpa using HZ.out
            rw [if_neg (Nat.lt_irrefl _)] at d1
            clear HR HB HZ
            go_wp2_with fail
            go_roundw
            case rel => exact ⟨k + 1, by omega, by go_num, HR2.out, HB2.out, HZ2.out⟩
            case measure => simp [intOf]; omega
          · obtain rfl : k = n := by omega
            go_wp2_with fail
            refine (new21 wr _ _ k k u rfl).mono ?_
            rintro e w3 ⟨rfl, rfl⟩
            rw [HZ.out]
            have hrow : wr.rowIs Hd 39 k (fun i => .pointer (some ⟨P + 1 + i, 0, none⟩)) := HR.out.congr fun i hi => by rw [if_pos hi]
            have hL3 : Lst (wr.alloc (.cells #[.slice (some ⟨Hd, 0, none⟩) k k, .bool u] 54)) (Hd + 1) Hd k k (fun i => P + 1 + i) u (fun i => .pointer (some ⟨P + 1 + i, 0, none⟩)) := by
              have e := HZ.out
              exact ⟨by rw [← e]; simp, by rw [← e]; simp, fun o => by rw [← e]; simp, hrow.alloc _, fun i hi => rfl, by omega, Nat.le_refl _⟩
            have hB3 : Below Hd w1 (wr.alloc (.cells #[.slice (some ⟨Hd, 0, none⟩) k k, .bool u] 54)) := HB.out.alloc (by rw [HZ.out]; omega) _
            have hZ3 : (wr.alloc (.cells #[.slice (some ⟨Hd, 0, none⟩) k k, .bool u] 54)).heap.size = Hd + 2 := by simp [HZ.out]
            have hK3 : Keyed (wr.alloc (.cells #[.slice (some ⟨Hd, 0, none⟩) k k, .bool u] 54)) Hd k (fun i => P + 1 + i) L := by
              refine ⟨fun p hp => by have := HS1.out; omega, fun p hp => ((HM.out.refs p hp).below hB3 (by have := HS1.out; omega)).c1, fun p hp => (HLn.out p hp).1, fun p hp => (HLn.out p hp).2⟩
            clear HR HB HZ hrow
            generalize wr.alloc (.cells #[.slice (some ⟨Hd, 0, none⟩) k k, .bool u] 54) = w3 at hL3 hB3 hZ3 hK3 ⊢
            have HL3 := hidden hL3
            have HB3 := hidden hB3
            have HZ3 := hidden hZ3
            have HK3 := hidden hK3
            clear hL3 hB3 hZ3 hK3
            go_wp2_with fail
            refine (zztrim22 w3 (Hd + 1) Hd k k _ L u _ HL3.out (by omega) (fun _ => HK3.out)).mono ?_
            rintro e w4 ⟨rfl, g, hT⟩
            obtain ⟨V, hL4, hnil⟩ := hT.lst
            have hB4 : Below Hd w1 w4 := HB3.out.trans (hT.two.below (by omega) (Nat.le_refl _))
            have hZ4 : w4.heap.size = Hd + 2 := hT.two.size.trans HZ3.out
            have hpl : ∀ t, t < k → place u L k (g t) = t := fun t ht => place_of hT ht
            have hmk := make37 k hn w4
            rw [hZ4] at hmk
            have hP0 : Placed (w4.alloc (.cells (madeCells #[.pointer none] k) 39)) (Hd + 2) k u L P 0 := ⟨_, by rw [← hZ4]; exact World.rowIs_made w4 (.pointer none) k 39, fun j hj => absurd hj (Nat.not_lt_zero _)⟩
            have hB5 : Below (Hd + 2) w4 (w4.alloc (.cells (madeCells #[.pointer none] k) 39)) := (Below.refl _ w4).alloc (by rw [hZ4]; exact Nat.le_refl _) _
            have HDm := hidden hT.dom
            have HL4 := hidden hL4
            have HNil := hidden hnil
            have HB4 := hidden hB4
            have HPl := hidden hpl
            have HP0 := hidden hP0
            have HB5 := hidden hB5
            clear hT hL4 hnil hB4 hZ4 hpl hP0 hB5 HL3 HB3 HZ3 HK3
            go_wp2_with fail
            clear hmk
            generalize w4.alloc (.cells (madeCells #[.pointer none] k) 39) = w5 at HP0 HB5 ⊢
            go_loopw [11] (fun i wr => ∃ j : Nat, j ≤ k ∧ i = .int .i64 j ∧ Hid (Placed wr (Hd + 2) k u L P j) ∧ Hid (Below (Hd + 2) w4 wr)) (fun i _ => k - (intOf i).toNat)
            case atStart => exact ⟨0, Nat.zero_le _, rfl, HP0.out, HB5.out⟩
            case round =>
              clear HP0 HB5
              obtain ⟨j, hj, rfl, HP, HB⟩ := hrel
              by_cases hlt2 : j < k
              · have d0 := HM.out.full.cell hlt2
                rw [← HB4.out.cell (by exact hHP), ← HB.out.cell (by show P < Hd + 2; omega)] at d0
                have HP2 := hidden (HP.out.step hlt2)
                have HB2 := hidden (fun q => (⟨HB.out.os, HB.out.tape, HB.out.output, by simpa using HB.out.size, (HB.out.setCell (p := ⟨Hd + 2, place u L k j, none⟩) (Nat.le_refl _) (.pointer (some ⟨P + 1 + j, 0, none⟩))).block⟩ : Below (Hd + 2) w4 ((wr.setCell ⟨Hd + 2, place u L k j, none⟩ (.pointer (some ⟨P + 1 + j, 0, none⟩))).drewN q)))
                obtain ⟨X, hX, _⟩ := HP.out
                have hpl := place_lt u L hlt2
                have d1 := hX.cell hpl
                have d2 := hX.frozen (place u L k j)
                have HRf := hidden (HH.out.below (HM.out.below.trans ((HB4.out.mono (Nat.le_of_lt hHP)).trans (HB.out.mono (by omega)))) (Nat.le_of_eq HPe.out.symm))
                clear hX HP
                cases u with
                | true =>
                  have ep : place true L k j = rank L j k := rfl
                  rw [ep] at d1 d2 hpl HP2 HB2
                  have hrz : (rank L j k : Int) < (k : Int) := by omega
                  have hr0 : (0 : Int) ≤ (rank L j k : Int) := by omega
                  have hjz : (j : Int) < (k : Int) := by omega
                  have hj0 : (0 : Int) ≤ (j : Int) := by omega
                  have hne1 : P ≠ Hd + 2 := by omega
                  have hne2 : Hd + 2 ≠ P := by omega
                  clear ep
                  go_wp2_with fail
                  go_region_held3 (fun w' => w'.cell? ⟨P, j, none⟩ = some (.pointer (some ⟨P + 1 + j, 0, none⟩))) (go_keep) ((go_at_call 23; refine (rank23 _ a k cap F L G Q (by exact HRf.out.drewN 1) hn j hlt2).mono ?_; rintro e w' ⟨rfl, q, rfl⟩))
                  go_wp2
                  go_roundw
                  case rel => exact ⟨j + 1, by omega, by go_num, HP2.out (1 + q), HB2.out (1 + q)⟩
                  case measure => simp [intOf]; omega
                | false =>
                  have ep : place false L k j = j := rfl
                  rw [ep] at d1 d2 HP2 HB2
                  clear ep
                  go_wp2_with fail
                  go_roundw
                  case rel => exact ⟨j + 1, by omega, by go_num, HP2.out 0, HB2.out 0⟩
                  case measure => simp [intOf]; omega
              · obtain rfl : j = k := by omega
                obtain ⟨mm, hmm⟩ : ∃ m, m = min j 1000 := ⟨_, rfl⟩
                rw [← hmm] at HL4
                have HMM := hidden hmm
                have hm1 : mm ≤ 1000 := by omega
                have hm2 : mm ≤ j := by omega
                clear hmm
                have HB4r := hidden (HB4.out.trans (HB.out.mono (by omega : Hd ≤ Hd + 2)))
                have HLr := hidden (HL4.out.below HB.out (by omega) (by omega))
                have HBw := hidden ((HM.out.below).trans (HB4r.out.mono (Nat.le_of_lt hHP)))
                have HX : Hid (∀ t, t < j → wr.cell? ⟨Hd + 2, t, none⟩ = some (.pointer (some ⟨P + 1 + g t, 0, none⟩))) := fun t ht => by
                  obtain ⟨X, hX, hp⟩ := HP.out
                  have e1 := hp (g t) (HDm.out t ht)
                  rw [HPl.out t ht] at e1
                  rw [hX.cell ht, e1]
                have HNr : Hid (∀ t, 1000 ≤ t → t < j → wr.cell? ⟨Hd, t, none⟩ = some (.pointer none)) := fun t h1 h2 => by
                  rw [HLr.out.row.cell h2, HNil.out t h1 h2]
                have HPr : Hid (∀ t, t < j → wr.cell? ⟨P, t, none⟩ = some (.pointer (some ⟨P + 1 + t, 0, none⟩))) := fun t ht => by
                  rw [HB4r.out.cell (by exact hHP)]; exact HM.out.full.cell ht
                have HRr : Hid (∀ t, t < j → RefB wr (P + 1 + t) (F t) (L t) (G t) (Q t)) := fun t ht => (HM.out.refs t ht).below HB4r.out (by have := HS1.out; omega)
                have HHr := hidden (HH.out.below HBw.out (Nat.le_of_eq HPe.out.symm))
                have e0 := HLr.out.c0
                have e1 := HLr.out.c1
                clear HP HB HNil HB4r HDm HPl HLn HM HS1 HL4 HB4
                go_upto_if 78 with (fail)
                go_cut [12] (fun v w6 => v = .int .i64 mm ∧ w6 = wr)
                case first =>
                  by_cases hbig : 1000 < j
                  · have hz : (1000 : Int) < (j : Int) := by omega
                    go_wp2_with fail
                    go_meet
                    case rel => exact ⟨by have := HMM.out; go_num, rfl⟩
                  · have hz : ¬ (1000 : Int) < (j : Int) := by omega
                    go_wp2_with fail
                    go_meet
                    case rel => exact ⟨by have := HMM.out; go_num, rfl⟩
                case rest =>
                  obtain ⟨rfl, rfl⟩ := hcut
                  go_wp2_with fail
                  refine (list24 wc (Hd + 1) _ mm j e0).mono ?_
                  rintro e w6 ⟨rfl, rfl⟩
                  have hnn : ((mm : Int) != (mm : Int)) = false := by simp
                  go_wp2_with fail
                  go_loopw [14] (fun i wr => ∃ t : Nat, t ≤ mm ∧ i = .int .i64 t ∧ ∃ q, wr = w6.drewN q) (fun i _ => mm - (intOf i).toNat)
                  case atStart => exact ⟨0, Nat.zero_le _, rfl, 0, rfl⟩
                  case round =>
                    obtain ⟨t, ht, rfl, q, rfl⟩ := hrel
                    by_cases hlt3 : t < mm
                    · have d0 := HLr.out.at hlt3
                      have d1 := HX.out t (by omega)
                      have hpn := neq_same (P + 1 + g t)
                      have hz0 : (0 : Int) ≤ (t : Int) := by omega
                      have hz1 : (t : Int) < (mm : Int) := by omega
                      have hz2 : (t : Int) < (j : Int) := by omega
                      go_wp2_with fail
                      go_quiet (fail)
                      go_wp2_with fail
                      go_roundw
                      case rel => exact ⟨t + 1, by omega, by go_num, _, rfl⟩
                      case measure => simp [intOf]; omega
                    · obtain rfl : t = mm := by omega
                      go_wp2_with fail
                      go_loopw [15] (fun i wr => ∃ s : Nat, t ≤ s ∧ s ≤ j ∧ i = .int .i64 s ∧ ∃ q, wr = w6.drewN q) (fun i _ => j - (intOf i).toNat)
                      case atStart => exact ⟨t, Nat.le_refl _, hm2, rfl, q, rfl⟩
                      case round =>
                        obtain ⟨s, hs1, hs2, rfl, q2, rfl⟩ := hrel
                        by_cases hlt4 : s < j
                        · have d0 := HNr.out s (by have := HMM.out; omega) hlt4
                          go_wp2_with fail
                          go_roundw
                          case rel => exact ⟨s + 1, by omega, by omega, by go_num, q2, rfl⟩
                          case measure => simp [intOf]; omega
                        · go_wp2_with fail
                          refine (unord25 _ (Hd + 1) false (by exact e1)).mono ?_
                          rintro e w7 ⟨rfl, rfl⟩
                          go_wp2_with fail
                          refine (un26 _ a j cap F L G Q (HHr.out.drewN q2) hn P j (fun t => P + 1 + t) HPr.out (fun t ht => (HRr.out t ht).of_block rfl)).mono ?_
                          rintro e w8 ⟨rfl, q3, rfl⟩
                          go_wp2_with fail
                          go_ret
                          exact ⟨rfl, by have := HPe.out; subst this; exact ⟨HBw.out.os, HBw.out.tape, HBw.out.output, HBw.out.size, HBw.out.block⟩⟩

set_option maxHeartbeats 1000000 in
theorem keep6 (w : World) (a : Option Addr) (n cap : Nat) (u : Bool) (F : Nat → ByteArray) (L : Nat → Int) (G Q : Nat → ByteArray) (h : RefsAt w a n F L G Q) :
    Calls Try.prog 6 #[.slice a n cap, .bool u] w fun e w' => e = .returned (.bool true) ∧ Below w.heap.size w w' := by
  by_cases hn : n ≤ 4096
  · exact keep_in w a n cap u F L G Q h hn
  · have HH := hidden h
    have hn' : 4096 < n := by omega
    clear h
    go_enter Try.func6, Try.ntmps6
    go_wp2_with fail
    refine (zz17 w a n cap u F L G Q HH.out).mono ?_
    rintro e w' ⟨⟨r, rfl⟩, rfl⟩
    cases r with
    | false =>
      go_wp2_with fail
      go_ret
      exact ⟨rfl, Below.refl _ _⟩
    | true =>
      go_wp2_with fail
      go_ret
      exact ⟨rfl, Below.refl _ _⟩
end Go.Proofs.Qxb6603170a
