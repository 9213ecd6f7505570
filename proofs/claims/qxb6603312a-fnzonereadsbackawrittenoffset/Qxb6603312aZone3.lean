/-
  zzBytes (7), digitByte (8), and the law's own walk (3), as far as it goes.
-/
import Derived.Test.Qxb6603312aZone2
namespace Go.Proofs.Qxb6603312a
open Go.RowKit
set_option linter.unusedSimpArgs false
set_option linter.unusedVariables false
set_option maxRecDepth 100000

set_option maxHeartbeats 400000 in
theorem zz7 (a0 a1 : ByteArray) (a2 a3 : Bool) (a4 a5 : Int) (w : World) (h0 : a0.size ≤ maxLen) (h1 : a1.size ≤ maxLen) :
    Calls Try.prog 7 #[.string a0, .string a1, .bool a2, .bool a3, .int .i64 a4, .int .i64 a5] w fun e w' => ∃ r, e = .returned (.bool r) ∧ w' = w := by
  unfold maxLen at h0 h1
  go_enter Try.func7, Try.ntmps7
  go_wp2
  all_goals (go_ret; exact ⟨_, rfl, rfl⟩)

set_option maxHeartbeats 400000 in
theorem digit8 (n : Int) (x : UInt8) (w : World) (h0 : 0 ≤ n) (h1 : n ≤ 9) (hx : (x.toNat : Int) = 48 + n) :
    Calls Try.prog 8 #[.int .i64 n] w fun e w' => e = .returned (.int .u8 (x.toNat : Int)) ∧ w' = w := by
  have HX := hidden hx
  clear hx
  go_enter Try.func8, Try.ntmps8
  go_wp2
  go_ret
  exact ⟨ret_int HX.out.symm, rfl⟩

theorem byte_of (n : Int) (h0 : 0 ≤ n) (h1 : n ≤ 9) : ∃ x : UInt8, (x.toNat : Int) = 48 + n := by
  refine ⟨UInt8.ofNat (48 + n).toNat, ?_⟩
  rw [UInt8.toNat_ofNat_of_lt' (by show _ < 256; omega)]
  omega

theorem get_mid (a m c : ByteArray) (k : Nat) (hk : k < m.size) (h : a.size + k < (a ++ m ++ c).size) : (a ++ m ++ c)[a.size + k] = m[k] := by
  have h1 : a.size + k < (a ++ m).size := by rw [ByteArray.size_append]; omega
  rw [ByteArray.getElem_append_left h1, ByteArray.getElem_append_right (by omega)]
  congr 1
  omega

theorem size_mid (a m c : ByteArray) : (a ++ m ++ c).size = a.size + m.size + c.size := by rw [ByteArray.size_append, ByteArray.size_append]

theorem Grown.after {a b c : World} (h : Grown a b) (k : Grown b c) : Grown a c :=
  ⟨World.keptBut_trans h.1 (World.keptBut_mono (fun _ f => f.elim) k.1), fun x => (k.2.1 x).trans (h.2.1 x), Nat.le_trans h.2.2 k.2.2⟩
theorem neq25 (w : World) : (binOp .neq 25 (.agg #[.int .i64 0, .int .i64 0, .int .i64 0, .int .i64 0, .int .i64 0, .int .i64 0, .int .i64 0]) (.agg #[.int .i64 0, .int .i64 0, .int .i64 0, .int .i64 0, .int .i64 0, .int .i64 0, .int .i64 0])).run Try.prog w = .ok (.bool false) w := by kernel_rfl
theorem grd25 (x y : Operand) (w : World) : (eqGuard .neq 25 x y (.agg #[.int .i64 0, .int .i64 0, .int .i64 0, .int .i64 0, .int .i64 0, .int .i64 0, .int .i64 0]) (.agg #[.int .i64 0, .int .i64 0, .int .i64 0, .int .i64 0, .int .i64 0, .int .i64 0, .int .i64 0])).run Try.prog w = .ok () w := by kernel_rfl
theorem old_cells {w w2 : World} (h : Below (w.alloc (.cells #[.int .i64 0, .int .i64 0, .int .i64 0, .int .i64 0, .int .i64 0, .int .i64 0, .int .i64 0] 25)).heap.size (w.alloc (.cells #[.int .i64 0, .int .i64 0, .int .i64 0, .int .i64 0, .int .i64 0, .int .i64 0, .int .i64 0] 25)) w2) :
    w2.cell? ⟨w.heap.size, 0, none⟩ = some (.int .i64 0) ∧ w2.cell? ⟨w.heap.size, 1, none⟩ = some (.int .i64 0) ∧ w2.cell? ⟨w.heap.size, 2, none⟩ = some (.int .i64 0) ∧ w2.cell? ⟨w.heap.size, 3, none⟩ = some (.int .i64 0) ∧
      w2.cell? ⟨w.heap.size, 4, none⟩ = some (.int .i64 0) ∧ w2.cell? ⟨w.heap.size, 5, none⟩ = some (.int .i64 0) ∧ w2.cell? ⟨w.heap.size, 6, none⟩ = some (.int .i64 0) ∧ w.heap.size < w2.heap.size := by
  have hs := h.size
  rw [World.size_alloc] at hs
  refine ⟨?_, ?_, ?_, ?_, ?_, ?_, ?_, by omega⟩
  all_goals (rw [h.cell (by show w.heap.size < _; rw [World.size_alloc]; omega)]; simp)

set_option maxHeartbeats 400000 in
theorem law_z (a0 a1 : ByteArray) (a3 : Bool) (a4 a5 : Int) (w : World) (h0 : a0.size ≤ 524288) (h1 : a1.size ≤ 524288) (b1 : 0 ≤ a4) (b2 : a4 ≤ 99) (b3 : 0 ≤ a5) (b4 : a5 ≤ 99) :
    Calls Try.prog 3 #[.string a0, .string a1, .bool true, .bool a3, .int .i64 a4, .int .i64 a5] w fun e w' => e = .returned (.bool true) ∧ Grown w w' := by
  have hsz := size_mid a0 ⟨#[90]⟩ a1
  have hone : (ByteArray.mk #[90]).size = 1 := rfl
  have hin : a0.size + 0 < (a0 ++ ⟨#[90]⟩ ++ a1).size := by omega
  have hin' : a0.size < (a0 ++ ⟨#[90]⟩ ++ a1).size := by omega
  have hle : (a0 ++ ⟨#[90]⟩ ++ a1).size ≤ 2000000 := by omega
  have hg := get_mid a0 ⟨#[90]⟩ a1 0 (by rw [hone]; omega) hin
  have hz : (((a0 ++ ⟨#[90]⟩ ++ a1)[a0.size].toNat : Int) == 90) = true := by
    have e : (a0 ++ ⟨#[90]⟩ ++ a1)[a0.size] = 90 := hg
    rw [e]; rfl
  have HZ := hidden hz
  have HL := hidden hle
  clear hz hg hin hone hsz hle
  have hn := neq25
  have hgd := grd25
  go_enter Try.func3, Try.ntmps3
  go_wp2_with fail
  refine (zz7 _ _ _ _ _ _ _ (by unfold maxLen; omega) (by unfold maxLen; omega)).mono ?_
  rintro e w' ⟨r, rfl, rfl⟩
  cases r with
  | false =>
    go_wp2_with fail
    go_ret
    exact ⟨rfl, Grown.refl _⟩
  | true =>
    go_wp2_with fail
    generalize hs : a0 ++ ⟨#[90]⟩ ++ a1 = s at hin' HZ HL ⊢
    clear hs
    refine (zz9 a0.size (a0.size + 1) 1 0 0 0 s _ (fun w1 hr => zone13_z _ _ s w1 hr hin' HL.out HZ.out)).mono ?_
    rintro e w2 ⟨rfl, hgr, hbl⟩
    obtain ⟨k0, k1, k2, k3, k4, k5, k6, hlt⟩ := old_cells hbl
    have HG := hidden (Grown.after ((Grown.refl w').alloc _ _) hgr)
    clear hbl hgr
    go_wp2_with fail
    go_ret
    exact ⟨rfl, HG.out.alloc _ _⟩

theorem mid_six (a0 a1 : ByteArray) (c x1 x2 x3 x4 : UInt8) (h0 : a0.size ≤ 524288) (h1 : a1.size ≤ 524288) :
    ∃ s : ByteArray, a0 ++ ⟨#[c, x1, x2, 58, x3, x4]⟩ ++ a1 = s ∧ ∃ hin : a0.size + 6 ≤ s.size, s.size ≤ 2000000 ∧ s[a0.size] = c ∧ s[a0.size + 1] = x1 ∧ s[a0.size + 2] = x2 ∧ s[a0.size + 3] = 58 ∧ s[a0.size + 4] = x3 ∧ s[a0.size + 5] = x4 := by
  have hsz := size_mid a0 ⟨#[c, x1, x2, 58, x3, x4]⟩ a1
  have hone : (ByteArray.mk #[c, x1, x2, 58, x3, x4]).size = 6 := rfl
  have hin : a0.size + 6 ≤ (a0 ++ ⟨#[c, x1, x2, 58, x3, x4]⟩ ++ a1).size := by omega
  exact ⟨_, rfl, hin, by omega, get_mid a0 ⟨#[c, x1, x2, 58, x3, x4]⟩ a1 0 (by rw [hone]; omega) (by omega), get_mid a0 ⟨#[c, x1, x2, 58, x3, x4]⟩ a1 1 (by rw [hone]; omega) (by omega), get_mid a0 ⟨#[c, x1, x2, 58, x3, x4]⟩ a1 2 (by rw [hone]; omega) (by omega),
    get_mid a0 ⟨#[c, x1, x2, 58, x3, x4]⟩ a1 3 (by rw [hone]; omega) (by omega), get_mid a0 ⟨#[c, x1, x2, 58, x3, x4]⟩ a1 4 (by rw [hone]; omega) (by omega), get_mid a0 ⟨#[c, x1, x2, 58, x3, x4]⟩ a1 5 (by rw [hone]; omega) (by omega)⟩

set_option maxHeartbeats 1000000 in
theorem law_n (a0 a1 : ByteArray) (a3 : Bool) (a4 a5 : Int) (w : World) (h0 : a0.size ≤ 524288) (h1 : a1.size ≤ 524288) (b1 : 0 ≤ a4) (b2 : a4 ≤ 99) (b3 : 0 ≤ a5) (b4 : a5 ≤ 99) :
    Calls Try.prog 3 #[.string a0, .string a1, .bool false, .bool a3, .int .i64 a4, .int .i64 a5] w fun e w' => e = .returned (.bool true) ∧ Grown w w' := by
  obtain ⟨x1, hx1⟩ := byte_of (a4 / 10) (by omega) (by omega)
  obtain ⟨x2, hx2⟩ := byte_of (a4 % 10) (by omega) (by omega)
  obtain ⟨x3, hx3⟩ := byte_of (a5 / 10) (by omega) (by omega)
  obtain ⟨x4, hx4⟩ := byte_of (a5 % 10) (by omega) (by omega)
  obtain ⟨c, hc⟩ : ∃ c : UInt8, c = if a3 then 45 else 43 := ⟨_, rfl⟩
  have hcv : ∀ (W : World), (convert 24 9 (.slice (some ⟨W.heap.size, 0, none⟩) 6 6)).run Try.prog (W.alloc (.cells #[.int .u8 (c.toNat : Int), .int .u8 (x1.toNat : Int), .int .u8 (x2.toNat : Int), .int .u8 58, .int .u8 (x3.toNat : Int), .int .u8 (x4.toNat : Int)] 5))
      = .ok (.string ⟨#[c, x1, x2, 58, x3, x4]⟩) (W.alloc (.cells #[.int .u8 (c.toNat : Int), .int .u8 (x1.toNat : Int), .int .u8 (x2.toNat : Int), .int .u8 58, .int .u8 (x3.toNat : Int), .int .u8 (x4.toNat : Int)] 5)) := fun W =>
    run_convert_bytes_back _ 24 9 5 ⟨W.heap.size, 0, none⟩ 6 [c, x1, x2, 58, x3, x4] Try.underlying24 Try.underlying5 Try.underlying9 (fun j hj => by
      have hj6 : j < 6 := hj
      rcases (show j = 0 ∨ j = 1 ∨ j = 2 ∨ j = 3 ∨ j = 4 ∨ j = 5 by omega) with rfl | rfl | rfl | rfl | rfl | rfl <;> simp [Addr.add])
  obtain ⟨s, hs, hin, hle, g0, g1, g2, g3, g4, g5⟩ := mid_six a0 a1 c x1 x2 x3 x4 h0 h1
  cases a3 with
  | false =>
    obtain rfl : c = 43 := by simpa using hc
    have ec : ((43 : UInt8).toNat : Int) = 43 := rfl
    rw [ec] at hcv
    have hzone : ∀ b w1, Rd b s a0.size 0 0 0 0 w1 → Calls Try.prog 13 #[.pointer (some ⟨b, 0, none⟩)] w1 fun e w' => e = .returned (.tuple #[]) ∧ Rd b s (a0.size + 6) 2 (1) a4 a5 w' ∧ Hold b w1 w' := fun b w1 hr => by
      have h := zone13_n b a0.size s w1 false hr hin hle (by rw [g0]; rfl) (by rw [g0]; rfl) (by rw [g0]; rfl) (by rw [g3]; rfl) (by rw [g1, hx1]; omega) (by rw [g1, hx1]; omega) (by rw [g2, hx2]; omega) (by rw [g2, hx2]; omega)
        (by rw [g4, hx3]; omega) (by rw [g4, hx3]; omega) (by rw [g5, hx4]; omega) (by rw [g5, hx4]; omega)
      rw [g1, g2, g4, g5, hx1, hx2, hx3, hx4, show 10 * (48 + a4 / 10 - 48) + (48 + a4 % 10 - 48) = a4 by omega, show 10 * (48 + a5 / 10 - 48) + (48 + a5 % 10 - 48) = a5 by omega] at h
      exact h
    have HZ := hidden hzone
    have HX1 := hidden hx1
    have HX2 := hidden hx2
    have HX3 := hidden hx3
    have HX4 := hidden hx4
    have HS := hidden hs
    clear hzone hx1 hx2 hx3 hx4 hc g0 g1 g2 g3 g4 g5 hle hs hin ec
    have hn := neq25
    have hgd := grd25
    go_enter Try.func3, Try.ntmps3
    go_wp2_with fail
    refine (zz7 _ _ _ _ _ _ _ (by unfold maxLen; omega) (by unfold maxLen; omega)).mono ?_
    rintro e w' ⟨r, rfl, rfl⟩
    cases r with
    | false =>
      go_wp2_with fail
      go_ret
      exact ⟨rfl, Grown.refl _⟩
    | true =>
      go_wp2_with fail
      refine (digit8 _ x1 _ (by omega) (by omega) HX1.out).mono ?_
      rintro e w' ⟨rfl, rfl⟩
      go_wp2_with fail
      refine (digit8 _ x2 _ (by omega) (by omega) HX2.out).mono ?_
      rintro e w' ⟨rfl, rfl⟩
      go_wp2_with fail
      refine (digit8 _ x3 _ (by omega) (by omega) HX3.out).mono ?_
      rintro e w' ⟨rfl, rfl⟩
      go_wp2_with fail
      refine (digit8 _ x4 _ (by omega) (by omega) HX4.out).mono ?_
      rintro e w' ⟨rfl, rfl⟩
      go_wp2_with fail
      rw [HS.out]
      clear hcv HS
      refine (zz9 a0.size (a0.size + 6) 2 (1) a4 a5 s _ (fun w1 hr => HZ.out _ w1 hr)).mono ?_
      rintro e w2 ⟨rfl, hgr, hbl⟩
      have hb2 : w'.heap.size + 1 < w2.heap.size := by have := hbl.size; simp at this; omega
      obtain ⟨k0, k1, k2, k3, k4, k5, k6, hlt⟩ := old_cells hbl
      rw [World.size_alloc] at k0 k1 k2 k3 k4 k5 k6
      have HG := hidden (Grown.after (((Grown.refl w').alloc _ _).alloc _ _) hgr)
      clear hbl hgr HZ
      go_wp2_with fail
      go_ret
      exact ⟨rfl, HG.out.alloc _ _⟩
  | true =>
    obtain rfl : c = 45 := by simpa using hc
    have ec : ((45 : UInt8).toNat : Int) = 45 := rfl
    rw [ec] at hcv
    have hzone : ∀ b w1, Rd b s a0.size 0 0 0 0 w1 → Calls Try.prog 13 #[.pointer (some ⟨b, 0, none⟩)] w1 fun e w' => e = .returned (.tuple #[]) ∧ Rd b s (a0.size + 6) 2 (-1) a4 a5 w' ∧ Hold b w1 w' := fun b w1 hr => by
      have h := zone13_n b a0.size s w1 true hr hin hle (by rw [g0]; rfl) (by rw [g0]; rfl) (by rw [g0]; rfl) (by rw [g3]; rfl) (by rw [g1, hx1]; omega) (by rw [g1, hx1]; omega) (by rw [g2, hx2]; omega) (by rw [g2, hx2]; omega)
        (by rw [g4, hx3]; omega) (by rw [g4, hx3]; omega) (by rw [g5, hx4]; omega) (by rw [g5, hx4]; omega)
      rw [g1, g2, g4, g5, hx1, hx2, hx3, hx4, show 10 * (48 + a4 / 10 - 48) + (48 + a4 % 10 - 48) = a4 by omega, show 10 * (48 + a5 / 10 - 48) + (48 + a5 % 10 - 48) = a5 by omega] at h
      exact h
    have HZ := hidden hzone
    have HX1 := hidden hx1
    have HX2 := hidden hx2
    have HX3 := hidden hx3
    have HX4 := hidden hx4
    have HS := hidden hs
    clear hzone hx1 hx2 hx3 hx4 hc g0 g1 g2 g3 g4 g5 hle hs hin ec
    have hn := neq25
    have hgd := grd25
    go_enter Try.func3, Try.ntmps3
    go_wp2_with fail
    refine (zz7 _ _ _ _ _ _ _ (by unfold maxLen; omega) (by unfold maxLen; omega)).mono ?_
    rintro e w' ⟨r, rfl, rfl⟩
    cases r with
    | false =>
      go_wp2_with fail
      go_ret
      exact ⟨rfl, Grown.refl _⟩
    | true =>
      go_wp2_with fail
      refine (digit8 _ x1 _ (by omega) (by omega) HX1.out).mono ?_
      rintro e w' ⟨rfl, rfl⟩
      go_wp2_with fail
      refine (digit8 _ x2 _ (by omega) (by omega) HX2.out).mono ?_
      rintro e w' ⟨rfl, rfl⟩
      go_wp2_with fail
      refine (digit8 _ x3 _ (by omega) (by omega) HX3.out).mono ?_
      rintro e w' ⟨rfl, rfl⟩
      go_wp2_with fail
      refine (digit8 _ x4 _ (by omega) (by omega) HX4.out).mono ?_
      rintro e w' ⟨rfl, rfl⟩
      go_wp2_with fail
      rw [HS.out]
      clear hcv HS
      refine (zz9 a0.size (a0.size + 6) 2 (-1) a4 a5 s _ (fun w1 hr => HZ.out _ w1 hr)).mono ?_
      rintro e w2 ⟨rfl, hgr, hbl⟩
      have hb2 : w'.heap.size + 1 < w2.heap.size := by have := hbl.size; simp at this; omega
      obtain ⟨k0, k1, k2, k3, k4, k5, k6, hlt⟩ := old_cells hbl
      rw [World.size_alloc] at k0 k1 k2 k3 k4 k5 k6
      have HG := hidden (Grown.after (((Grown.refl w').alloc _ _).alloc _ _) hgr)
      clear hbl hgr HZ
      go_wp2_with fail
      go_ret
      exact ⟨rfl, HG.out.alloc _ _⟩

end Go.Proofs.Qxb6603312a
