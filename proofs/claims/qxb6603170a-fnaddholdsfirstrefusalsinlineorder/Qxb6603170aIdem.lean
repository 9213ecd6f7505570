/-
  FnTrimIsIdempotent (7): the walk.
-/
import Derived.Test.Qxb6603170aTrim
import Derived.Test.Qxb6603170aMk
import Derived.Lib.Builder
namespace Go.Proofs.Qxb6603170a
open Go.RowKit
set_option linter.unusedSimpArgs false
set_option linter.unusedVariables false
set_option maxRecDepth 100000

/-- A pointer is itself. -/
theorem neq_same (x : Nat) (w : World) : (binOp .neq 39 (.pointer (some ⟨x, 0, none⟩)) (.pointer (some ⟨x, 0, none⟩))).run Try.prog w = .ok (.bool false) w := by
  have h51 : (Try.prog.info? 51).isSome = true := by kernel_rfl
  obtain ⟨j, hj⟩ := Option.isSome_iff_exists.1 h51
  exact Lib.run_neq_ptr_same w ⟨x, 0, none⟩ Try.underlying39 hj

section
variable {w wr : World} {P n : Nat} {F : Nat → ByteArray} {L : Nat → Int} {G Q : Nat → ByteArray}
/-- The made row, all told. -/
theorem Made.full (h : Made w wr P n n F L G Q) : wr.rowIs P 39 n (fun i => .pointer (some ⟨P + 1 + i, 0, none⟩)) := h.row.congr fun i hi => by rw [if_pos hi]
/-- The pointers handed to a new firstRefusals. -/
theorem Made.lst (h : Made w wr P n n F L G Q) (u : Bool) : Lst (wr.alloc (.cells #[.slice (some ⟨P, 0, none⟩) n n, .bool u] 54)) wr.heap.size P n n (fun i => P + 1 + i) u (fun i => .pointer (some ⟨P + 1 + i, 0, none⟩)) where
  c0 := by simp
  c1 := by simp
  fz o := by simp
  row := h.full.alloc _
  val i hi := rfl
  ne := by have := h.size; omega
  le := Nat.le_refl _
/-- .. their lines are where the comparison looks for them. -/
theorem Made.keyed (h : Made w wr P n n F L G Q) {w2 : World} (hb : Below wr.heap.size wr w2) (hl : ∀ i, i < n → -4611686018427387903 ≤ L i ∧ L i ≤ 4611686018427387903) : Keyed w2 P n (fun i => P + 1 + i) L where
  ne p hp := by omega
  cell p hp := ((h.refs p hp).below hb (by rw [h.size]; omega)).c1
  lo p hp := (hl p hp).1
  hi p hp := (hl p hp).2
end

theorem Lst.below {w w' : World} {fb blk n cap B : Nat} {R : Nat → Nat} {u : Bool} {V : Nat → Value} (h : Lst w fb blk n cap R u V) (hb : Below B w w') (h1 : fb < B) (h2 : blk < B) : Lst w' fb blk n cap R u V :=
  ⟨(hb.cell (by exact h1)).trans h.c0, (hb.cell (by exact h1)).trans h.c1, fun o => (hb.frozen (by exact h1)).trans (h.fz o), h.row.of_block (hb.block _ h2), h.val, h.ne, h.le⟩
theorem Lst.at {w : World} {fb blk n cap : Nat} {R : Nat → Nat} {u : Bool} {V : Nat → Value} (h : Lst w fb blk n cap R u V) {k : Nat} (hk : k < n) : w.cell? ⟨blk, k, none⟩ = some (.pointer (some ⟨R k, 0, none⟩)) := by
  rw [h.row.cell (by have := h.le; omega), h.val k hk]

/-- 'dst[k] = src[k]' for k below m: the row so far. -/
theorem copy_step {wr : World} {O m k : Nat} {X : Nat → Value} (h : wr.rowIs O 39 m (fun i => if i < k then X i else .pointer none)) (hk : k < m) : (wr.setCell ⟨O, k, none⟩ (X k)).rowIs O 39 m (fun i => if i < k + 1 then X i else .pointer none) := by
  refine (h.set k (X k)).congr fun i hi => ?_
  by_cases e : i = k
  · subst e; rw [if_pos rfl, if_pos (by omega)]
  · rw [if_neg e]
    by_cases e2 : i < k
    · rw [if_pos e2, if_pos (by omega)]
    · rw [if_neg e2, if_neg (by omega)]

set_option maxHeartbeats 2000000 in
theorem idem_in (w : World) (a : Option Addr) (n cap : Nat) (u : Bool) (F : Nat → ByteArray) (L : Nat → Int) (G Q : Nat → ByteArray) (h : RefsAt w a n F L G Q) (hn : n ≤ 4096) :
    Calls Try.prog 7 #[.slice a n cap, .bool u] w fun e w' => e = .returned (.bool true) ∧ Below w.heap.size w w' := by
  have HH := hidden h
  clear h
  go_enter Try.func7, Try.ntmps7
  go_wp2_with fail
  refine (zz27 w a n cap u F L G Q HH.out).mono ?_
  rintro e w' ⟨⟨r, rfl⟩, rfl⟩
  cases r with
  | false =>
    go_wp2_with fail
    go_ret
    exact ⟨rfl, Below.refl _ _⟩
  | true =>
    go_wp2_with fail
    refine (bytes18 w' a n cap F L G Q HH.out).mono ?_
    rintro e w' ⟨⟨tx, rfl⟩, rfl⟩
    by_cases htx : 1048576 < tx
    · go_wp2_with fail
      go_ret
      exact ⟨rfl, Below.refl _ _⟩
    · go_wp2_with fail
      refine (fit19 w' a n cap F L G Q HH.out).mono ?_
      rintro e w' ⟨⟨r, rfl, hfit⟩, rfl⟩
      have HF := hidden hfit
      clear hfit
      cases r with
      | false =>
        go_wp2_with fail
        go_ret
        exact ⟨rfl, Below.refl _ _⟩
      | true =>
        go_wp2_with fail
        refine (mk20 w' a n cap F L G Q HH.out hn).mono ?_
        rintro e w1 ⟨rfl, hM⟩
        have hl := HF.out (by first | rfl | trivial)
        have hw1 : w1.heap.size = w'.heap.size + 1 + n := hM.size
        have HM := hidden hM
        have HLs := hidden (hM.lst u)
        have HK := hidden (hM.keyed (w2 := w1.alloc (.cells #[.slice (some ⟨w'.heap.size, 0, none⟩) n n, .bool u] 54)) ((Below.refl _ w1).alloc (Nat.le_refl _) _) hl)
        have HB1 := hidden (hM.below.alloc (B := w'.heap.size) (by rw [hw1]; omega) (.cells #[.slice (some ⟨w'.heap.size, 0, none⟩) n n, .bool u] 54))
        have hw1' : w'.heap.size < w1.heap.size := by omega
        clear hM hl HF hw1
        go_wp2_with fail
        refine (new21 w1 _ _ n n u rfl).mono ?_
        rintro e w2 ⟨rfl, rfl⟩
        generalize w1.alloc (.cells #[.slice (some ⟨w'.heap.size, 0, none⟩) n n, .bool u] 54) = w2 at HLs HK HB1 ⊢
        go_wp2_with fail
        refine (zztrim22 w2 w1.heap.size w'.heap.size n n _ L u _ HLs.out (by omega) (fun _ => HK.out)).mono ?_
        rintro e w3 ⟨rfl, g, hT⟩
        obtain ⟨V, hL3, _⟩ := hT.lst
        have HB3 := hidden (HB1.out.trans (hT.two.below (by omega) (Nat.le_refl _)))
        obtain ⟨m, hm⟩ : ∃ m, m = min n 1000 := ⟨_, rfl⟩
        have hm1 : m ≤ 1000 := by omega
        rw [← hm] at hL3
        generalize (fun i => (fun i => w'.heap.size + 1 + i) (g i)) = Rg at hL3
        have c0 := hL3.c0
        have HL3 := hidden hL3
        have hsz3 : w1.heap.size < w3.heap.size := by
          have := World.block_lt_of_cell? _ _ c0; exact this
        clear hT hL3 HLs HK HB1 hm
        go_wp2_with fail
        refine (list24 w3 w1.heap.size _ m n c0).mono ?_
        rintro e w3' ⟨rfl, rfl⟩
        have hmk := make37 m (by omega) w3'
        have HR0 := hidden ((World.rowIs_made w3' (.pointer none) m 39).congr (g := fun i => if i < 0 then .pointer (some ⟨Rg i, 0, none⟩) else .pointer none) fun i hi => by simp)
        have HB4 := hidden ((Below.refl w3'.heap.size w3').alloc (Nat.le_refl _) (.cells (madeCells #[.pointer none] m) 39))
        go_wp2_with fail
        clear hmk
        generalize w3'.alloc (.cells (madeCells #[.pointer none] m) 39) = w4 at HR0 HB4 ⊢
        go_loopw [9] (fun i wr => ∃ k : Nat, k ≤ m ∧ i = .int .i64 k ∧ Hid (wr.rowIs w3'.heap.size 39 m (fun i => if i < k then .pointer (some ⟨Rg i, 0, none⟩) else .pointer none)) ∧ Hid (Below w3'.heap.size w3' wr)) (fun i _ => m - (intOf i).toNat)
        case atStart => exact ⟨0, Nat.zero_le _, rfl, HR0.out, HB4.out⟩
        case round =>
          clear HR0 HB4
          obtain ⟨k, hk, rfl, HR, HB⟩ := hrel
          by_cases hlt : k < m
          · have d0 := HL3.out.at hlt
            rw [← HB.out.cell (by show w'.heap.size < w3'.heap.size; omega)] at d0
            have d1 := HR.out.cell hlt
            have d2 := HR.out.frozen k
            have HR2 := hidden (copy_step (X := fun i => .pointer (some ⟨Rg i, 0, none⟩)) HR.out hlt)
            have HB2 := hidden (HB.out.setCell (p := ⟨w3'.heap.size, k, none⟩) (Nat.le_refl _) (.pointer (some ⟨Rg k, 0, none⟩)))
            rw [if_neg (Nat.lt_irrefl _)] at d1
            clear HR HB
            go_wp2_with fail
            go_roundw
            case rel => exact ⟨k + 1, by omega, by go_num, HR2.out, HB2.out⟩
            case measure => simp [intOf]; omega
          · obtain rfl : k = m := by omega
            have HL5 := hidden (HL3.out.below HB.out hsz3 (by omega))
            go_wp2_with fail
            refine (zztrim22 wr w1.heap.size w'.heap.size k n Rg L false V HL5.out (by omega) (fun e => by cases e)).mono ?_
            rintro e w6 ⟨rfl, g2, hT⟩
            obtain ⟨V6, hL6, _⟩ := hT.lst
            have hg2 := hT.same rfl
            subst hg2
            rw [Nat.min_eq_left (by omega)] at hL6
            have hO : w6.rowIs w3'.heap.size 39 k (fun i => if i < k then .pointer (some ⟨Rg i, 0, none⟩) else .pointer none) := HR.out.of_block (hT.two.block _ (by omega) (by omega))
            have e0 := hL6.c0
            have e1 := hL6.c1
            have HL6 := hidden hL6
            have HO := hidden hO
            have HBF := hidden (HB3.out.trans ((HB.out.mono (by omega)).trans (hT.two.below (B := w'.heap.size) (by omega) (Nat.le_refl _))))
            clear hT hL6 hO HL5 HR HB HB3 HL3
            go_wp2_with fail
            refine (list24 w6 w1.heap.size _ k n e0).mono ?_
            rintro e w6' ⟨rfl, rfl⟩
            go_wp2_with fail
            go_loopw [11] (fun i wr => ∃ j : Nat, j ≤ k ∧ i = .int .i64 j ∧ ∃ q, wr = w6'.drewN q) (fun i _ => k - (intOf i).toNat)
            case atStart => exact ⟨0, Nat.zero_le _, rfl, 0, rfl⟩
            case round =>
              obtain ⟨j, hj, rfl, q, rfl⟩ := hrel
              by_cases hlt2 : j < k
              · have d0 := HL6.out.at hlt2
                have d1 := HO.out.cell hlt2
                rw [if_pos hlt2] at d1
                have hjz : (j : Int) < (k : Int) := by omega
                have hj0 : (0 : Int) ≤ (j : Int) := by omega
                generalize Rg j = x at d0 d1
                have hpn := neq_same x
                go_wp2_with fail
                go_quiet (fail)
                go_wp2_with fail
                go_roundw
                case rel => exact ⟨j + 1, by omega, by go_num, _, rfl⟩
                case measure => simp [intOf]; omega
              · go_wp2_with fail
                refine (unord25 _ w1.heap.size false (by exact e1)).mono ?_
                rintro e w7 ⟨rfl, rfl⟩
                go_wp2_with fail
                go_ret
                exact ⟨rfl, ⟨HBF.out.os, HBF.out.tape, HBF.out.output, HBF.out.size, HBF.out.block⟩⟩

set_option maxHeartbeats 1000000 in
theorem idem7 (w : World) (a : Option Addr) (n cap : Nat) (u : Bool) (F : Nat → ByteArray) (L : Nat → Int) (G Q : Nat → ByteArray) (h : RefsAt w a n F L G Q) :
    Calls Try.prog 7 #[.slice a n cap, .bool u] w fun e w' => e = .returned (.bool true) ∧ Below w.heap.size w w' := by
  by_cases hn : n ≤ 4096
  · exact idem_in w a n cap u F L G Q h hn
  · have HH := hidden h
    have hn' : 4096 < n := by omega
    clear h
    go_enter Try.func7, Try.ntmps7
    go_wp2_with fail
    refine (zz27 w a n cap u F L G Q HH.out).mono ?_
    rintro e w' ⟨⟨r, rfl⟩, rfl⟩
    cases r with
    | false =>
      go_wp2_with fail
      go_ret
      exact ⟨rfl, Below.refl _ _⟩
    | true =>
      go_wp2_with fail
      go_ret
      exact ⟨rfl, Below.refl _ _⟩
end Go.Proofs.Qxb6603170a
