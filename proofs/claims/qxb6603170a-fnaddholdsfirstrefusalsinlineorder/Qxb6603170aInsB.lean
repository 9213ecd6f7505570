/-
  insertBoundedB1 (30): the walk.
-/
import Derived.Test.Qxb6603170aModel
import Derived.Test.Qxb6603170aMk
namespace Go.Proofs.Qxb6603170a
open Go.RowKit
set_option linter.unusedSimpArgs false
set_option linter.unusedVariables false
set_option maxRecDepth 100000

theorem Try.info3' : (Try.prog.info? 3).map (fun i => (i.zero, i.size, i.bytes)) = some (some (.int .i64 0), 1, 8) := by kernel_rfl

theorem make47 (c : Nat) (hc : c ≤ 4096) (w : World) :
    (Instr.makeSlice 47 (.int .i64 0) (.int .i64 ((c : Int) + 1))).run Try.prog w = .ok (.slice (some ⟨w.heap.size, 0, none⟩) 0 (c + 1)) (w.alloc (.cells (madeCells #[.int .i64 0] (c + 1)) 3)) := by
  obtain ⟨i0, hi, hz0, hz1, hz2⟩ := info_parts Try.info3'
  have h := run_make (P := Try.prog) w 47 3 i0 (.int .i64 0) Try.underlying47 hi hz0 .i64 .i64 0 ((c : Int) + 1) (by omega) (by omega) (by rw [hz2]; omega) (by omega)
  rw [hz1] at h
  rw [show ((c : Int) + 1).toNat = c + 1 by omega, Nat.mul_one] at h
  exact h

/-- The ids in block mb. -/
def IntsAt (w : World) (mb c : Nat) (M : Nat → Nat) : Prop := ∀ k, k < c → w.cell? ⟨mb, k, none⟩ = some (.int .i64 (M k : Int))

def ints (M : Nat → Nat) (n : Nat) : List Value := (List.range n).map fun i => .int .i64 (M i : Int)
theorem ints_len (M : Nat → Nat) (n : Nat) : (ints M n).length = n := by simp [ints]
theorem ints_get (M : Nat → Nat) {n i : Nat} (h : i < n) : (ints M n)[i]? = some (.int .i64 (M i : Int)) := by simp [ints, h]
theorem ints_snoc (M : Nat → Nat) (n : Nat) : ints M n ++ [.int .i64 (M n : Int)] = ints M (n + 1) := by simp [ints, List.range_succ]

theorem ints_shape {w : World} {B n : Nat} {v : Value} {M : Nat → Nat} (h : w.ownsRow B 3 1 v n (ints M n)) (hn : 0 < n) : ∃ g cap, v = .slice (some ⟨g, 0, none⟩) n cap ∧ B ≤ g ∧ IntsAt w g n M := by
  have h' := h
  obtain ⟨_, hr⟩ := h
  rcases hr with ⟨_, h0⟩ | ⟨g, cap, cur, rfl, hg, _⟩
  · omega
  · exact ⟨g, cap, rfl, hg, fun k hk => by have e := h'.cellAt k (by omega); rw [ints_get M hk] at e; exact e⟩

/-- WHAT IT LEAVES. -/
def InsOut (w : World) (L : Nat → Int) (i c mb : Nat) (M : Nat → Nat) (e : Ending) (w' : World) : Prop :=
  ∃ c' M' mb' cap', e = .returned (.slice (some ⟨mb', 0, none⟩) c' cap') ∧ MStep L i c M c' M' ∧ IntsAt w' mb' c' M' ∧ Below w.heap.size w w' ∧ (mb' = mb ∨ w.heap.size ≤ mb')

set_option maxHeartbeats 4000000 in
theorem insb30 (w : World) (a : Option Addr) (n cap : Nat) (F : Nat → ByteArray) (L : Nat → Int) (G Q : Nat → ByteArray) (h : RefsAt w a n F L G Q) (hn : n ≤ 4096) (mb c capm : Nat) (M : Nat → Nat) (hM : IntsAt w mb c M) (hc : c ≤ 1000) (hlt : ∀ k, k < c → M k < n)
    (i : Nat) (hi : i < n) :
    Calls Try.prog 30 #[.slice (some ⟨mb, 0, none⟩) c capm, .slice a n cap, .int .i64 i] w fun e w' => InsOut w L i c mb M e w' := by
  obtain ⟨b, off, rfl, hb, _, ci, _, _⟩ := h.get hi
  have HH := hidden h
  have HM := hidden hM
  have HLt := hidden hlt
  clear h hM hlt
  obtain ⟨i0, hif, hz0, hz1, hz2⟩ := info_parts Try.info3'
  have HI := hidden (And.intro hif (And.intro hz0 (And.intro hz1 hz2)))
  clear hif hz0 hz1 hz2
  go_enter Try.func30, Try.ntmps30
  go_wp2_with fail
  go_loopw [8] (fun v wr => ∃ p : Nat, p ≤ c ∧ v = .int .i64 p ∧ Hid (∀ k, k < p → L (M k) ≤ L i) ∧ wr = w) (fun v _ => c - (intOf v).toNat)
  case atStart => exact ⟨0, Nat.zero_le _, rfl, fun k hk => absurd hk (Nat.not_lt_zero _), rfl⟩
  case round =>
    obtain ⟨p, hp, rfl, HP, rfl⟩ := hrel
    rename World => w
    by_cases hgo : p < c ∧ L (M p) ≤ L i
    · obtain ⟨hpc, hle⟩ := hgo
      have d0 := HM.out p hpc
      have hMn := HLt.out p hpc
      have d1 := HH.out.line rfl hMn
      have HP2 : Hid (∀ k, k < p + 1 → L (M k) ≤ L i) := fun k hk => by
        by_cases e : k = p
        · subst e; exact hle
        · exact HP.out k (by omega)
      go_wp2_with fail
      go_roundw
      case rel => exact ⟨p + 1, by omega, by go_num, HP2, by trivial⟩
      case measure => simp [intOf]; omega
    · have HS : Hid (Spot L M c i p) := ⟨hp, HP.out, fun q => by
        have h1 : ¬ L (M p) ≤ L i := fun x => hgo ⟨q, x⟩
        omega⟩
      clear HP
      by_cases hbig : 1000 ≤ p
      · obtain rfl : p = c := by omega
        clear hgo
        go_wp2_with fail
        go_ret
        exact ⟨p, M, mb, capm, rfl, ⟨p, HS.out, Or.inl ⟨hbig, rfl, rfl⟩⟩, HM.out, Below.refl _ _, Or.inl rfl⟩
      · have hmk := make47 c (by omega) w
        have hR0 : (w.alloc (.cells (madeCells #[.int .i64 0] (c + 1)) 3)).ownsRow w.heap.size 3 1 (.slice (some ⟨w.heap.size, 0, none⟩) 0 (c + 1)) 0 (ints (insAt M p i) 0) :=
          World.ownsRow_made w _ (c + 1) (Nat.le_refl _) (by unfold maxLen; omega) (by rw [size_madeCells, Nat.mul_one])
        have HR0 := hidden hR0
        have HB0 := hidden ((Below.refl w.heap.size w).alloc (Nat.le_refl _) (.cells (madeCells #[.int .i64 0] (c + 1)) 3))
        have HZ0 : Hid (w.heap.size ≤ (w.alloc (.cells (madeCells #[.int .i64 0] (c + 1)) 3)).heap.size) := by show _ ≤ _; simp
        clear hR0
        rcases Nat.lt_or_ge p c with hpc | hpc
        all_goals
          first
          | (have d0 := HM.out p hpc
             have hMn := HLt.out p hpc
             have d1 := HH.out.line rfl (HLt.out p hpc)
             have hnle : ¬ L (M p) ≤ L i := fun x => hgo ⟨hpc, x⟩
             clear hgo
             go_wp2_with fail
             clear d0 d1 hnle hMn)
          | (clear hgo
             go_wp2_with fail)
          clear hmk
          generalize w.alloc (.cells (madeCells #[.int .i64 0] (c + 1)) 3) = w1 at HR0 HB0 HZ0 ⊢
          go_loopw [9, 10] (fun vo vk wr => ∃ k : Nat, k ≤ p ∧ vk = .int .i64 k ∧ Hid (wr.ownsRow w.heap.size 3 1 vo k (ints (insAt M p i) k)) ∧ Hid (Below w.heap.size w wr)) (fun _ vk _ => p - (intOf vk).toNat)
          case atStart => exact ⟨0, Nat.zero_le _, rfl, HR0.out, HB0.out⟩
          case round =>
            clear HR0 HB0 HZ0
            obtain ⟨k, hk, rfl, HR, HB⟩ := hrel
            have hws := HB.out.size
            by_cases hkp : k < p
            · have hmb : mb < w.heap.size := World.block_lt_of_cell? _ _ (HM.out k (by omega))
              have d0 := HM.out k (by omega)
              rw [← HB.out.cell (by exact hmb)] at d0
              go_wp2_with (first | (at_builtin; refine wpList_append_own _ rfl _ _ 47 rfl w.heap.size 3 i0 (.int .i64 0) 1 8 Try.underlying47 HI.out.1 HI.out.2.1 HI.out.2.2.1 HI.out.2.2.2 rfl (by decide) _ _ _ rfl (HR.out.alloc _) ⟨wr.heap.size, 0, none⟩ 1 1 [.int .i64 (M k : Int)] rfl rfl (cell_one_new _ _ _) (by intro v hv; simp at hv; subst hv; rfl) (by unfold maxLen; omega) (by omega) (by simp; omega) ?_))
              · intro v' w2 hown' hgrow _
                rw [← insAt_lt M i hkp, ints_snoc] at hown'
                have HR2 := hidden hown'
                have HB2 := hidden ((HB.out.alloc hws _).grown hgrow (by simp; omega) (fun k hk => (HR.out.lt k hk).1))
                clear hown' hgrow HR HB
                go_wp2_with fail
                go_roundw
                case rel => exact ⟨k + 1, by omega, by go_num, HR2.out, HB2.out⟩
                case measure => simp [intOf]; omega
            · obtain rfl : k = p := by omega
              go_wp2_with (first | (at_builtin; refine wpList_append_own _ rfl _ _ 47 rfl w.heap.size 3 i0 (.int .i64 0) 1 8 Try.underlying47 HI.out.1 HI.out.2.1 HI.out.2.2.1 HI.out.2.2.2 rfl (by decide) _ _ _ rfl (HR.out.alloc _) ⟨wr.heap.size, 0, none⟩ 1 1 [.int .i64 (i : Int)] rfl rfl (cell_one_new _ _ _) (by intro v hv; simp at hv; subst hv; rfl) (by unfold maxLen; omega) (by omega) (by simp; omega) ?_))
              · intro v' w2 hown' hgrow _
                have hown2 : w2.ownsRow w.heap.size 3 1 v' (k + 1) (ints (insAt M k i) (k + 1)) := by
                  rw [← ints_snoc, insAt_at]; exact hown'
                have HR2 := hidden hown2
                have HB2 := hidden ((HB.out.alloc hws _).grown hgrow (by simp; omega) (fun k hk => (HR.out.lt k hk).1))
                clear hown' hown2 hgrow HR HB
                go_wp2_with fail
                go_loopw [9, 11] (fun vo vk wr => ∃ j : Nat, k ≤ j ∧ j ≤ c ∧ j + 1 ≤ 1000 ∧ vk = .int .i64 j ∧ Hid (wr.ownsRow w.heap.size 3 1 vo (j + 1) (ints (insAt M k i) (j + 1))) ∧ Hid (Below w.heap.size w wr)) (fun _ vk _ => c - (intOf vk).toNat)
                case atStart => exact ⟨k, Nat.le_refl _, hp, by omega, rfl, HR2.out, HB2.out⟩
                case round =>
                  clear HR2 HB2
                  obtain ⟨j, hj1, hj2, hj3, rfl, HR, HB⟩ := hrel
                  have hws2 := HB.out.size
                  obtain ⟨g, cp, rfl, hgB, hat⟩ := ints_shape HR.out (Nat.succ_pos _)
                  have HA := hidden hat
                  clear hat
                  by_cases hgo : j < c ∧ j + 1 < 1000
                  · obtain ⟨hjc, hj4⟩ := hgo
                    first
                    | (exfalso; omega)
                    | (have hmb : mb < w.heap.size := World.block_lt_of_cell? _ _ (HM.out j hjc)
                       have d0 := HM.out j hjc
                       rw [← HB.out.cell (by exact hmb)] at d0
                       have hz1 : (j : Int) + 1 < 1000 := by omega
                       go_wp2_with (first | (at_builtin; refine wpList_append_own _ rfl _ _ 47 rfl w.heap.size 3 i0 (.int .i64 0) 1 8 Try.underlying47 HI.out.1 HI.out.2.1 HI.out.2.2.1 HI.out.2.2.2 rfl (by decide) _ _ _ rfl (HR.out.alloc _) ⟨wr.heap.size, 0, none⟩ 1 1 [.int .i64 (M j : Int)] rfl rfl (cell_one_new _ _ _) (by intro v hv; simp at hv; subst hv; rfl) (by unfold maxLen; omega) (by omega) (by simp; omega) ?_))
                       · intro v' w2 hown' hgrow _
                         have hown2 : w2.ownsRow w.heap.size 3 1 v' (j + 1 + 1) (ints (insAt M k i) (j + 1 + 1)) := by
                           rw [← ints_snoc, insAt_gt M i (by omega : k < j + 1)]; exact hown'
                         have HR2 := hidden hown2
                         have HB2 := hidden ((HB.out.alloc hws2 _).grown hgrow (by simp; omega) (fun k hk => (HR.out.lt k hk).1))
                         clear hown' hown2 hgrow HR HB HA
                         go_wp2_with fail
                         go_roundw
                         case rel => exact ⟨j + 1, by omega, by omega, by omega, by go_num, HR2.out, HB2.out⟩
                         case measure => simp [intOf]; omega)
                  · have hend : j + 1 = min (c + 1) 1000 := by omega
                    have hfin : InsOut w L i c mb M (.returned (.slice (some ⟨g, 0, none⟩) (j + 1) cp)) wr :=
                      ⟨j + 1, insAt M k i, g, cp, rfl, ⟨k, HS.out, Or.inr ⟨by omega, hend, rfl⟩⟩, HA.out, HB.out, Or.inr hgB⟩
                    have HFin := hidden hfin
                    clear hfin HA HB HR hend
                    rcases Nat.lt_or_ge j c with hjc | hjc
                    · have hz1 : ¬ (j : Int) + 1 < 1000 := by omega
                      clear hgo
                      go_wp2_with fail
                      go_ret
                      exact HFin.out
                    · clear hgo
                      go_wp2_with fail
                      go_ret
                      exact HFin.out
end Go.Proofs.Qxb6603170a
