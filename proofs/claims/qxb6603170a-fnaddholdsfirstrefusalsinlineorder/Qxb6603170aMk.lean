/-
  makeRefusalsB1 (20): a row of pointers to fresh refusals; untouchedB1 (26): each still reads as it was made.
-/
import Derived.Test.Qxb6603170aRefs
import Derived.Deep.OwnRows
import Derived.Deep.RegionHeld3
namespace Go.Proofs.Qxb6603170a
open Go.RowKit
set_option linter.unusedSimpArgs false
set_option linter.unusedVariables false
set_option maxRecDepth 100000

theorem Try.info39 : (Try.prog.info? 39).map (fun i => (i.zero, i.size, i.bytes)) = some (some (.pointer none), 1, 8) := by kernel_rfl

theorem make37 (n : Nat) (hn : n ≤ 4096) (w : World) :
    (Instr.makeSlice 37 (.int .i64 (n : Int)) (.int .i64 (n : Int))).run Try.prog w = .ok (.slice (some ⟨w.heap.size, 0, none⟩) n n) (w.alloc (.cells (madeCells #[.pointer none] n) 39)) :=
  run_make_row' 37 39 (.pointer none) 8 Try.underlying37 Try.info39 rfl .i64 .i64 n (by omega) (by omega) w

/-- The refusal in block r. -/
structure RefB (w : World) (r : Nat) (f : ByteArray) (l : Int) (g q : ByteArray) : Prop where
  c0 : w.cell? ⟨r, 0, none⟩ = some (.string f)
  c1 : w.cell? ⟨r, 1, none⟩ = some (.int .i64 l)
  c2 : w.cell? ⟨r, 2, none⟩ = some (.string g)
  c3 : w.cell? ⟨r, 3, none⟩ = some (.string q)

theorem RefB.of_block {w w' : World} {r : Nat} {f g q : ByteArray} {l : Int} (h : RefB w r f l g q) (e : w'.heap[r]? = w.heap[r]?) : RefB w' r f l g q :=
  ⟨(World.cell?_of_block (w := w) e).trans h.c0, (World.cell?_of_block (w := w) e).trans h.c1, (World.cell?_of_block (w := w) e).trans h.c2, (World.cell?_of_block (w := w) e).trans h.c3⟩
theorem RefB.below {w w' : World} {r B : Nat} {f g q : ByteArray} {l : Int} (h : RefB w r f l g q) (hb : Below B w w') (hr : r < B) : RefB w' r f l g q := h.of_block (hb.block r hr)

/-- k refusals made, their pointers in the row P. -/
structure Made (w wr : World) (P n k : Nat) (F : Nat → ByteArray) (L : Nat → Int) (G Q : Nat → ByteArray) : Prop where
  row : wr.rowIs P 39 n (fun i => if i < k then .pointer (some ⟨P + 1 + i, 0, none⟩) else .pointer none)
  refs : ∀ i, i < k → RefB wr (P + 1 + i) (F i) (L i) (G i) (Q i)
  size : wr.heap.size = P + 1 + k
  below : Below P w wr

theorem Made.start (w : World) (n : Nat) (F : Nat → ByteArray) (L : Nat → Int) (G Q : Nat → ByteArray) : Made w (w.alloc (.cells (madeCells #[.pointer none] n) 39)) w.heap.size n 0 F L G Q where
  row := (World.rowIs_made w (.pointer none) n 39).congr fun i hi => by simp
  refs i hi := absurd hi (Nat.not_lt_zero _)
  size := by simp
  below := (Below.refl _ w).alloc (Nat.le_refl _) _

theorem Made.step {w wr : World} {P n k : Nat} {F : Nat → ByteArray} {L : Nat → Int} {G Q : Nat → ByteArray} (h : Made w wr P n k F L G Q) (hk : k < n) :
    Made w ((wr.setCell ⟨P, k, none⟩ (.pointer (some ⟨P + 1 + k, 0, none⟩))).alloc (.cells #[.string (F k), .int .i64 (L k), .string (G k), .string (Q k)] 51)).drew P n (k + 1) F L G Q where
  row := by
    refine ((h.row.set k _).alloc _).congr fun i hi => ?_
    by_cases e : i = k
    · subst e; rw [if_pos rfl, if_pos (by omega)]
    · rw [if_neg e]
      by_cases e2 : i < k
      · rw [if_pos e2, if_pos (by omega)]
      · rw [if_neg e2, if_neg (by omega)]
  refs i hi := by
    have hs : (wr.setCell ⟨P, k, none⟩ (.pointer (some ⟨P + 1 + k, 0, none⟩))).heap.size = P + 1 + k := by simp [h.size]
    rcases Nat.lt_succ_iff_lt_or_eq.1 hi with h1 | rfl
    · refine (h.refs i h1).of_block ?_
      show ((wr.setCell _ _).alloc _).heap[P + 1 + i]? = _
      rw [Below.heap_alloc _ _ _ (by rw [hs]; omega), Below.heap_setCell _ _ _ _ (by show _ ≠ P; omega)]
    · generalize wr.setCell ⟨P, i, none⟩ (.pointer (some ⟨P + 1 + i, 0, none⟩)) = w2 at hs ⊢
      rw [← hs]
      refine ⟨?_, ?_, ?_, ?_⟩
      all_goals
        show (w2.alloc _).cell? _ = _
        simp
  size := by show ((wr.setCell _ _).alloc _).heap.size = _; simp [h.size]; omega
  below := ((h.below.setCell (Nat.le_refl _) _).alloc (by simp [h.size]; omega) _).drew

set_option maxHeartbeats 2000000 in
theorem mk20 (w : World) (a : Option Addr) (n cap : Nat) (F : Nat → ByteArray) (L : Nat → Int) (G Q : Nat → ByteArray) (h : RefsAt w a n F L G Q) (hn : n ≤ 4096) :
    Calls Try.prog 20 #[.slice a n cap] w fun e w' => e = .returned (.slice (some ⟨w.heap.size, 0, none⟩) n n) ∧ Made w w' w.heap.size n n F L G Q := by
  have HH := hidden h
  clear h
  have hmk := make37 n hn
  have HM0 := hidden (Made.start w n F L G Q)
  go_enter Try.func20, Try.ntmps20
  go_wp2
  clear hmk
  generalize w.alloc (.cells (madeCells #[.pointer none] n) 39) = w1 at HM0 ⊢
  obtain ⟨P, hP⟩ : ∃ P, P = w.heap.size := ⟨_, rfl⟩
  rw [← hP] at HM0 ⊢
  have HP := hidden hP
  clear hP
  go_loopw [4] (fun i wr => ∃ k : Nat, k ≤ n ∧ i = .int .i64 k ∧ Hid (Made w wr P n k F L G Q)) (fun i _ => n - (intOf i).toNat)
  case atStart => exact ⟨0, Nat.zero_le _, rfl, HM0.out⟩
  case round =>
    clear HM0
    obtain ⟨k, hk, rfl, HM⟩ := hrel
    by_cases hlt : k < n
    · obtain ⟨b, off, rfl, hb, c0, c1, c2, c3⟩ := HH.out.get hlt
      rw [← HP.out] at hb
      rw [← HM.out.below.cell (by exact hb)] at c0 c1 c2 c3
      have hsz := HM.out.size
      have hcr := HM.out.row.cell hlt
      rw [if_neg (Nat.lt_irrefl _)] at hcr
      have hfr := HM.out.row.frozen k
      have HS := hidden (HM.out.step hlt)
      have HSZ := hidden hsz
      have hbs : b < wr.heap.size := by omega
      have hps : P < wr.heap.size := by omega
      have hbP : b ≠ P := by omega
      have hPb : P ≠ b := by omega
      have hkz : (k : Int) < (n : Int) := by omega
      have hk0 : (0 : Int) ≤ (k : Int) := by omega
      clear hsz HM
      go_wp2_with fail
      go_region_held3 (fun w' => w'.cell? ⟨b, off + k * 4, none⟩ = some (.string (F k)) ∧ w'.cell? ⟨b, off + k * 4 + 1, none⟩ = some (.int .i64 (L k)) ∧ w'.cell? ⟨b, off + k * 4 + 2, none⟩ = some (.string (G k)) ∧ w'.cell? ⟨b, off + k * 4 + 3, none⟩ = some (.string (Q k))) (go_keep) (fail)
      go_wp2
      go_roundw
      case rel => exact ⟨k + 1, by omega, by go_num, by rw [HSZ.out]; exact HS.out⟩
      case measure => simp [intOf]; omega
    · obtain rfl : k = n := by omega
      have e := HP.out
      subst e
      go_wp2
      go_ret
      exact ⟨rfl, HM.out⟩

/-! ### untouchedB1 -/
set_option maxHeartbeats 2000000 in
theorem un26 (w : World) (a : Option Addr) (n cap : Nat) (F : Nat → ByteArray) (L : Nat → Int) (G Q : Nat → ByteArray) (h : RefsAt w a n F L G Q) (hn : n ≤ 4096) (P cap1 : Nat) (R : Nat → Nat)
    (hp : ∀ i, i < n → w.cell? ⟨P, i, none⟩ = some (.pointer (some ⟨R i, 0, none⟩))) (hr : ∀ i, i < n → RefB w (R i) (F i) (L i) (G i) (Q i)) :
    Calls Try.prog 26 #[.slice (some ⟨P, 0, none⟩) n cap1, .slice a n cap] w fun e w' => e = .returned (.bool true) ∧ ∃ q, w' = w.drewN q := by
  have HH := hidden h
  have HP := hidden hp
  have HR := hidden hr
  clear h hp hr
  go_enter Try.func26, Try.ntmps26
  go_wp2
  go_loopw [5] (fun i wr => ∃ k : Nat, k ≤ n ∧ i = .int .i64 k ∧ ∃ q, wr = w.drewN q) (fun i _ => n - (intOf i).toNat)
  case atStart => exact ⟨0, Nat.zero_le _, rfl, 0, rfl⟩
  case round =>
    obtain ⟨k, hk, rfl, q, rfl⟩ := hrel
    by_cases hlt : k < n
    · obtain ⟨b, off, rfl, hb, c0, c1, c2, c3⟩ := HH.out.get hlt
      have p0 := HP.out k hlt
      obtain ⟨d0, d1, d2, d3⟩ := HR.out k hlt
      have hkz : (k : Int) < (n : Int) := by omega
      have hk0 : (0 : Int) ≤ (k : Int) := by omega
      clear HH HP HR hb
      generalize R k = rk at p0 d0 d1 d2 d3
      generalize F k = fk at c0 d0
      generalize L k = lk at c1 d1
      generalize G k = gk at c2 d2
      generalize Q k = qk at c3 d3
      go_wp2_with fail
      go_quiet (fail)
      go_wp2
      go_roundw
      case rel => exact ⟨k + 1, by omega, by go_num, _, rfl⟩
      case measure => simp [intOf]; omega
    · go_wp2
      go_ret
      exact ⟨rfl, q, rfl⟩
end Go.Proofs.Qxb6603170a
