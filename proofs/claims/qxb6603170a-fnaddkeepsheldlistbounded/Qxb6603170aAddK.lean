/-
  FnAddKeepsHeldListBounded (9): the walk.
-/
import Derived.Test.Qxb6603170aHeld
import Derived.Test.Qxb6603170aIdem
import Derived.Deep.DeepCutAuto
namespace Go.Proofs.Qxb6603170a
open Go.RowKit
set_option linter.unusedSimpArgs false
set_option linter.unusedVariables false
set_option maxRecDepth 100000

/-- A new firstRefusals holds nothing. -/
theorem Own.start (w : World) (R : Nat → Nat) : Own (w.alloc (.cells #[.slice none 0 0, .bool false] 54)) w.heap.size 0 R false where
  list := ⟨.slice none 0 0, by simp, World.ownsRow_nil _ _ _ _⟩
  c1 := by simp
  fz o := by simp

section
variable {w w1 wr : World} {P n i m : Nat} {F : Nat → ByteArray} {L : Nat → Int} {G Q : Nat → ByteArray} {I : Nat → Nat} {u : Bool}
theorem Made.lines (h : Made w w1 P n n F L G Q) (hl : ∀ i, i < n → -4611686018427387903 ≤ L i ∧ L i ≤ 4611686018427387903) (hb : Below w1.heap.size w1 wr) (hI : ∀ k, k < m → I k < n) : Lines wr w1.heap.size m (fun k => P + 1 + I k) (fun k => L (I k)) where
  lt k hk := by have := hI k hk; rw [h.size]; omega
  cell k hk := ((h.refs (I k) (hI k hk)).below hb (by have := hI k hk; rw [h.size]; omega)).c1
  lo k hk := (hl _ (hI k hk)).1
  hi k hk := (hl _ (hI k hk)).2
end

set_option maxHeartbeats 4000000 in
theorem addk_in (w : World) (a : Option Addr) (n cap : Nat) (F : Nat → ByteArray) (L : Nat → Int) (G Q : Nat → ByteArray) (h : RefsAt w a n F L G Q) (hn : n ≤ 4096) :
    Calls Try.prog 9 #[.slice a n cap] w fun e w' => e = .returned (.bool true) ∧ Below w.heap.size w w' := by
  have HH := hidden h
  clear h
  go_enter Try.func9, Try.ntmps9
  go_wp2_with fail
  refine (zz31 w a n cap F L G Q HH.out).mono ?_
  rintro e w' ⟨⟨r, rfl⟩, rfl⟩
  cases r with
  | false =>
    go_wp2_with fail
    go_ret
    exact ⟨rfl, Below.refl _ _⟩
  | true =>
    go_wp2_with fail
    refine (bytes18 w' a n cap F L G Q HH.out).mono ?_
    rintro e w' ⟨⟨tx, rfl⟩, rfl⟩
    by_cases htx : 1048576 < tx
    · go_wp2_with fail
      go_ret
      exact ⟨rfl, Below.refl _ _⟩
    · go_wp2_with fail
      refine (fit19 w' a n cap F L G Q HH.out).mono ?_
      rintro e w' ⟨⟨r, rfl, hfit⟩, rfl⟩
      have HF := hidden hfit
      clear hfit
      cases r with
      | false =>
        go_wp2_with fail
        go_ret
        exact ⟨rfl, Below.refl _ _⟩
      | true =>
        go_wp2_with fail
        refine (mk20 w' a n cap F L G Q HH.out hn).mono ?_
        rintro e w1 ⟨rfl, hM⟩
        have hl := HF.out (by first | rfl | trivial)
        obtain ⟨P, hP⟩ : ∃ P, P = w'.heap.size := ⟨_, rfl⟩
        rw [← hP] at hM ⊢
        have HM := hidden hM
        have HLn := hidden hl
        have HPe := hidden hP
        clear hM hl HF hP
        go_wp2_with fail
        refine (new21 w1 _ none 0 0 false rfl).mono ?_
        rintro e w2 ⟨rfl, rfl⟩
        have HO0 := hidden (Own.start w1 (fun k => P + 1 + k))
        have HB0 := hidden ((Below.refl w1.heap.size w1).alloc (Nat.le_refl _) (.cells #[.slice none 0 0, .bool false] 54))
        generalize w1.alloc (.cells #[.slice none 0 0, .bool false] 54) = w2 at HO0 HB0 ⊢
        obtain ⟨fb, hfb⟩ : ∃ x, x = w1.heap.size := ⟨_, rfl⟩
        have HFB := hidden hfb
        have hPf : P < fb := by rw [hfb, HM.out.size]; omega
        rw [← hfb] at HO0 HB0 ⊢
        clear hfb
        go_wp2_with fail
        go_loopw [5] (fun v wr => ∃ i : Nat, i ≤ n ∧ v = .int .i64 i ∧ ∃ m I u, Hid (Held L i m I u) ∧ Hid (Own wr fb m (fun k => P + 1 + I k) u) ∧ Hid (Below fb w1 wr)) (fun v _ => n - (intOf v).toNat)
        case atStart => exact ⟨0, Nat.zero_le _, rfl, 0, fun k => k, false, Held.start _ _, HO0.out, HB0.out⟩
        case round =>
          clear HO0 HB0
          obtain ⟨i, hi, rfl, m, I, u, HD, HO, HB⟩ := hrel
          by_cases hlt : i < n
          · have d0 := HM.out.full.cell hlt
            rw [← HB.out.cell (by exact hPf)] at d0
            have hiz : (i : Int) < (n : Int) := by omega
            have hi0 : (0 : Int) ≤ (i : Int) := by omega
            go_wp2_with fail
            refine (zzadd29 wr fb m (fun k => P + 1 + I k) (fun k => L (I k)) u (P + 1 + i) (L i) HO.out (by rw [HFB.out]; exact HM.out.lines HLn.out (by rw [← HFB.out]; exact HB.out) (fun k hk => by have := HD.out.lt k hk; omega)) HD.out.cnt (by rw [HFB.out, HM.out.size]; omega)
              ((HM.out.refs i hlt).below HB.out (by rw [HFB.out, HM.out.size]; omega)).c1 (HLn.out i hlt).1 (HLn.out i hlt).2).mono ?_
            rintro e w3 ⟨rfl, hA, hB3, _⟩
            obtain ⟨m', I', u', hS, hO'⟩ := AddOut.step hA
            have hD' := HD.out.step hS
            have hm0 := hD'.pos (Nat.succ_pos _)
            have hm2 := hD'.cnt
            have HD' := hidden hD'
            have HO' := hidden hO'
            have HB' := hidden (HB.out.trans hB3)
            clear hA hB3 hS hD' hO' HD HO HB d0
            obtain ⟨blk, cp, V, hbk, _, hLs⟩ := HO'.out.lst hm0
            have e0 := hLs.c0
            have e1 := hLs.c1
            have HLs := hidden hLs
            clear hLs
            have hq1 : ¬ (m' : Int) = 0 := by omega
            have hq2 : ¬ (2000 : Int) ≤ (m' : Int) := by omega
            have hd1 : ((m' : Int) == 0) = false := by rw [beq_eq_false_iff_ne]; exact hq1
            have hd2 : decide ((2000 : Int) ≤ (m' : Int)) = false := decide_eq_false hq2
            go_wp2_with fail
            refine (list24 w3 fb _ m' cp e0).mono ?_
            rintro e w3' ⟨rfl, rfl⟩
            go_wp2_with fail
            refine (unord25 w3' fb u' e1).mono ?_
            rintro e w3 ⟨rfl, rfl⟩
            cases u' with
            | true =>
              go_wp2_with fail
              go_roundw
              case rel => exact ⟨i + 1, by omega, by go_num, m', I', true, HD'.out, HO'.out, HB'.out⟩
              case measure => simp [intOf]; omega
            | false =>
              have hm1 : m' ≤ 1000 := (HD'.out.srt rfl).1
              go_wp2_with fail
              go_loopw [7] (fun v wr => ∃ k : Nat, 1 ≤ k ∧ k ≤ m' ∧ v = .int .i64 k ∧ ∃ q, wr = w3.drewN q) (fun v _ => m' - (intOf v).toNat)
              case atStart => exact ⟨1, Nat.le_refl _, hm0, rfl, 0, rfl⟩
              case round =>
                obtain ⟨k, hk1, hk2, rfl, q, rfl⟩ := hrel
                by_cases hlt2 : k < m'
                · obtain ⟨j, rfl⟩ : ∃ j, k = j + 1 := ⟨k - 1, by omega⟩
                  have d0 := HLs.out.at (k := j + 1) hlt2
                  have d1 := HLs.out.at (k := j) (by omega)
                  have hLn := HM.out.lines (m := m') (I := I') HLn.out (by rw [← HFB.out]; exact HB'.out) (fun k hk => by have := HD'.out.lt k hk; omega)
                  have d2 := hLn.cell (j + 1) hlt2
                  have d3 := hLn.cell j (by omega)
                  have hnl : ¬ L (I' (j + 1)) < L (I' j) := by
                    have := (HD'.out.srt rfl).2 j (j + 1) (Nat.zero_le _) (by omega) hlt2
                    unfold lx at this; omega
                  clear hLn
                  have hz0 : (0 : Int) ≤ (j : Int) := by omega
                  have hz1 : (j : Int) < (m' : Int) := by omega
                  have hz2 : (j : Int) + 1 < (m' : Int) := by omega
                  have hz3 : (0 : Int) ≤ (j : Int) + 1 := by omega
                  have hdn : decide (L (I' (j + 1)) < L (I' j)) = false := decide_eq_false hnl
                  go_wp2_with fail
                  go_quiet (fail)
                  go_wp2_with fail
                  go_roundw
                  case rel => exact ⟨j + 2, by omega, by omega, by go_num, _, rfl⟩
                  case measure => simp [intOf]; omega
                · go_wp2_with fail
                  go_roundw
                  case rel => exact ⟨i + 1, by omega, by go_num, m', I', false, HD'.out, HO'.out.drewN q, ⟨HB'.out.os, HB'.out.tape, HB'.out.output, HB'.out.size, HB'.out.block⟩⟩
                  case measure => simp [intOf]; omega
          · obtain rfl : i = n := by omega
            have HPr : Hid (∀ t, t < i → wr.cell? ⟨P, t, none⟩ = some (.pointer (some ⟨P + 1 + t, 0, none⟩))) := fun t ht => by
              rw [HB.out.cell (by exact hPf)]; exact HM.out.full.cell ht
            have HRr : Hid (∀ t, t < i → RefB wr (P + 1 + t) (F t) (L t) (G t) (Q t)) := fun t ht => (HM.out.refs t ht).below HB.out (by rw [HFB.out, HM.out.size]; omega)
            have HBw := hidden (HM.out.below.trans (HB.out.mono (Nat.le_of_lt hPf)))
            have HHr := hidden (HH.out.below HBw.out (Nat.le_of_eq HPe.out.symm))
            clear HD HO HB HM HLn
            go_wp2_with fail
            refine (un26 _ a i cap F L G Q HHr.out hn P i (fun t => P + 1 + t) HPr.out HRr.out).mono ?_
            rintro e w8 ⟨rfl, q3, rfl⟩
            go_wp2_with fail
            go_ret
            exact ⟨rfl, by have := HPe.out; subst this; exact ⟨HBw.out.os, HBw.out.tape, HBw.out.output, HBw.out.size, HBw.out.block⟩⟩

set_option maxHeartbeats 1000000 in
theorem addk9 (w : World) (a : Option Addr) (n cap : Nat) (F : Nat → ByteArray) (L : Nat → Int) (G Q : Nat → ByteArray) (h : RefsAt w a n F L G Q) :
    Calls Try.prog 9 #[.slice a n cap] w fun e w' => e = .returned (.bool true) ∧ Below w.heap.size w w' := by
  by_cases hn : n ≤ 4096
  · exact addk_in w a n cap F L G Q h hn
  · have HH := hidden h
    have hn' : 4096 < n := by omega
    clear h
    go_enter Try.func9, Try.ntmps9
    go_wp2_with fail
    refine (zz31 w a n cap F L G Q HH.out).mono ?_
    rintro e w' ⟨⟨r, rfl⟩, rfl⟩
    cases r with
    | false =>
      go_wp2_with fail
      go_ret
      exact ⟨rfl, Below.refl _ _⟩
    | true =>
      go_wp2_with fail
      go_ret
      exact ⟨rfl, Below.refl _ _⟩
end Go.Proofs.Qxb6603170a
