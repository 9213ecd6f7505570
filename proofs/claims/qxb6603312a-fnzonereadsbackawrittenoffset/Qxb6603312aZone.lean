/-
  The temporalReader's at (18), isDigit (21), number (19) and zone (13): what they do to the reader's cells.
-/
import Derived.Test.Qxb6603312aDays
import Derived.Deep.QuietTactic
import Derived.BigQuiet
namespace Go.Proofs.Qxb6603312a
open Go.RowKit

set_option maxHeartbeats 400000 in
theorem at18 (b p : Nat) (s : ByteArray) (c : Int) (w : World) (h0 : w.cell? ⟨b, 0, none⟩ = some (.string s)) (h1 : w.cell? ⟨b, 1, none⟩ = some (.int .i64 p)) (hp : p < s.size) (_hs : s.size ≤ 2000000) :
    Calls Try.prog 18 #[.pointer (some ⟨b, 0, none⟩), .int .u8 c] w fun e w' => e = .returned (.bool ((s[p].toNat : Int) == c)) ∧ ∃ n, w' = w.drewN n := by
  have hpz : (p : Int) < (s.size : Int) := by omega
  have hpz0 : (0 : Int) ≤ (p : Int) := by omega
  go_enter Try.func18, Try.ntmps18
  go_wp2
  go_quiet (fail)
  go_wp2
  go_ret
  exact ⟨rfl, _, rfl⟩

set_option maxHeartbeats 400000 in
theorem digit21 (c : Int) (w : World) (h1 : 48 ≤ c) (h2 : c ≤ 57) :
    Calls Try.prog 21 #[.int .u8 c] w fun e w' => e = .returned (.bool true) ∧ w' = w := by
  go_enter Try.func21, Try.ntmps21
  go_wp2
  go_ret
  exact ⟨rfl, rfl⟩

theorem set_drewN (w : World) (n : Nat) (a : Addr) {u v : Value} (h : u = v) : (w.drewN n).setCell a u = (w.setCell a v).drewN n := by rw [h]; rfl
theorem hidden {p : Prop} (h : p) : Hid p := h
theorem ret_two {k : IntKind} {a b : Int} {c : Value} (h : a = b) : Ending.returned (.tuple #[.int k a, c]) = .returned (.tuple #[.int k b, c]) := by rw [h]

set_option maxHeartbeats 1000000 in
theorem number19 (b p : Nat) (s : ByteArray) (w : World) (h0 : w.cell? ⟨b, 0, none⟩ = some (.string s)) (h1 : w.cell? ⟨b, 1, none⟩ = some (.int .i64 p)) (hf : w.frozen? ⟨b, 1, none⟩ = false) (hp : p + 2 ≤ s.size) (hs : s.size ≤ 2000000)
    (x0 : 48 ≤ (s[p].toNat : Int)) (x9 : (s[p].toNat : Int) ≤ 57) (y0 : 48 ≤ (s[p + 1].toNat : Int)) (y9 : (s[p + 1].toNat : Int) ≤ 57) :
    Calls Try.prog 19 #[.pointer (some ⟨b, 0, none⟩), .int .i64 2] w fun e w' => e = .returned (.tuple #[.int .i64 (10 * ((s[p].toNat : Int) - 48) + ((s[p + 1].toNat : Int) - 48)), .bool true]) ∧ ∃ n, w' = (w.setCell ⟨b, 1, none⟩ (.int .i64 ((p + 2 : Nat) : Int))).drewN n := by
  have hpz0 : (0 : Int) ≤ (p : Int) := by omega
  have hp1 : p < s.size := by omega
  have hp2 : p + 1 < s.size := by omega
  go_enter Try.func19, Try.ntmps19
  go_wp2
  go_quiet (fail)
  go_wp2
  refine wp_loop_rounds 3 ?_
  rw [rounds_succ]
  go_wp2_with fail
  refine (digit21 _ _ (by omega) (by omega)).mono ?_
  rintro e w' ⟨rfl, rfl⟩
  go_wp2_with fail
  rw [rounds_succ]
  go_wp2_with fail
  refine (digit21 _ _ (by omega) (by omega)).mono ?_
  rintro e w' ⟨rfl, rfl⟩
  go_wp2_with fail
  rw [rounds_succ]
  go_wp2_with fail
  go_ret2
  exact ⟨rfl, nq, set_drewN _ _ _ (by go_num)⟩

/-- THE READER'S BLOCK: its fifteen cells. -/
structure Rd (b : Nat) (s : ByteArray) (p : Nat) (o sg hh mm : Int) (w : World) : Prop where
  c0 : w.cell? ⟨b, 0, none⟩ = some (.string s)
  c1 : w.cell? ⟨b, 1, none⟩ = some (.int .i64 p)
  cf : ∀ k, 2 ≤ k → k ≤ 8 → w.cell? ⟨b, k, none⟩ = some (.int .i64 0)
  c9 : w.cell? ⟨b, 9, none⟩ = some (.string ⟨#[]⟩)
  c10 : w.cell? ⟨b, 10, none⟩ = some (.int .u8 0)
  c11 : w.cell? ⟨b, 11, none⟩ = some (.int .u8 o)
  c12 : w.cell? ⟨b, 12, none⟩ = some (.int .i64 sg)
  c13 : w.cell? ⟨b, 13, none⟩ = some (.int .i64 hh)
  c14 : w.cell? ⟨b, 14, none⟩ = some (.int .i64 mm)
  fz : ∀ k, w.frozen? ⟨b, k, none⟩ = false

theorem cell_other (w : World) {b i j : Nat} (v : Value) (h : i ≠ j) : (w.setCell ⟨b, i, none⟩ v).cell? ⟨b, j, none⟩ = w.cell? ⟨b, j, none⟩ :=
  World.cell?_setCell_other _ _ _ _ (by intro e; simp only [Addr.mk.injEq] at e; omega)
theorem cell_same (w : World) {b i : Nat} {u : Value} (v : Value) (h : w.cell? ⟨b, i, none⟩ = some u) : (w.setCell ⟨b, i, none⟩ v).cell? ⟨b, i, none⟩ = some v :=
  World.cell?_setCell_same _ _ _ h

section
variable {b p : Nat} {s : ByteArray} {o sg hh mm : Int} {w : World}
theorem Rd.drewN (h : Rd b s p o sg hh mm w) (n : Nat) : Rd b s p o sg hh mm (w.drewN n) := ⟨h.c0, h.c1, h.cf, h.c9, h.c10, h.c11, h.c12, h.c13, h.c14, h.fz⟩
theorem Rd.pos (h : Rd b s p o sg hh mm w) (q : Nat) : Rd b s q o sg hh mm (w.setCell ⟨b, 1, none⟩ (.int .i64 q)) where
  c0 := by rw [cell_other _ _ (by omega)]; exact h.c0
  c1 := cell_same _ _ h.c1
  cf k h1 h2 := by rw [cell_other _ _ (by omega)]; exact h.cf k h1 h2
  c9 := by rw [cell_other _ _ (by omega)]; exact h.c9
  c10 := by rw [cell_other _ _ (by omega)]; exact h.c10
  c11 := by rw [cell_other _ _ (by omega)]; exact h.c11
  c12 := by rw [cell_other _ _ (by omega)]; exact h.c12
  c13 := by rw [cell_other _ _ (by omega)]; exact h.c13
  c14 := by rw [cell_other _ _ (by omega)]; exact h.c14
  fz k := by rw [World.frozen?_setCell]; exact h.fz k
theorem Rd.form (h : Rd b s p o sg hh mm w) (x : Int) : Rd b s p x sg hh mm (w.setCell ⟨b, 11, none⟩ (.int .u8 x)) where
  c0 := by rw [cell_other _ _ (by omega)]; exact h.c0
  c1 := by rw [cell_other _ _ (by omega)]; exact h.c1
  cf k h1 h2 := by rw [cell_other _ _ (by omega)]; exact h.cf k h1 h2
  c9 := by rw [cell_other _ _ (by omega)]; exact h.c9
  c10 := by rw [cell_other _ _ (by omega)]; exact h.c10
  c11 := cell_same _ _ h.c11
  c12 := by rw [cell_other _ _ (by omega)]; exact h.c12
  c13 := by rw [cell_other _ _ (by omega)]; exact h.c13
  c14 := by rw [cell_other _ _ (by omega)]; exact h.c14
  fz k := by rw [World.frozen?_setCell]; exact h.fz k
theorem Rd.sign (h : Rd b s p o sg hh mm w) (x : Int) : Rd b s p o x hh mm (w.setCell ⟨b, 12, none⟩ (.int .i64 x)) where
  c0 := by rw [cell_other _ _ (by omega)]; exact h.c0
  c1 := by rw [cell_other _ _ (by omega)]; exact h.c1
  cf k h1 h2 := by rw [cell_other _ _ (by omega)]; exact h.cf k h1 h2
  c9 := by rw [cell_other _ _ (by omega)]; exact h.c9
  c10 := by rw [cell_other _ _ (by omega)]; exact h.c10
  c11 := by rw [cell_other _ _ (by omega)]; exact h.c11
  c12 := cell_same _ _ h.c12
  c13 := by rw [cell_other _ _ (by omega)]; exact h.c13
  c14 := by rw [cell_other _ _ (by omega)]; exact h.c14
  fz k := by rw [World.frozen?_setCell]; exact h.fz k
theorem Rd.hours (h : Rd b s p o sg hh mm w) (x : Int) : Rd b s p o sg x mm (w.setCell ⟨b, 13, none⟩ (.int .i64 x)) where
  c0 := by rw [cell_other _ _ (by omega)]; exact h.c0
  c1 := by rw [cell_other _ _ (by omega)]; exact h.c1
  cf k h1 h2 := by rw [cell_other _ _ (by omega)]; exact h.cf k h1 h2
  c9 := by rw [cell_other _ _ (by omega)]; exact h.c9
  c10 := by rw [cell_other _ _ (by omega)]; exact h.c10
  c11 := by rw [cell_other _ _ (by omega)]; exact h.c11
  c12 := by rw [cell_other _ _ (by omega)]; exact h.c12
  c13 := cell_same _ _ h.c13
  c14 := by rw [cell_other _ _ (by omega)]; exact h.c14
  fz k := by rw [World.frozen?_setCell]; exact h.fz k
theorem Rd.minutes (h : Rd b s p o sg hh mm w) (x : Int) : Rd b s p o sg hh x (w.setCell ⟨b, 14, none⟩ (.int .i64 x)) where
  c0 := by rw [cell_other _ _ (by omega)]; exact h.c0
  c1 := by rw [cell_other _ _ (by omega)]; exact h.c1
  cf k h1 h2 := by rw [cell_other _ _ (by omega)]; exact h.cf k h1 h2
  c9 := by rw [cell_other _ _ (by omega)]; exact h.c9
  c10 := by rw [cell_other _ _ (by omega)]; exact h.c10
  c11 := by rw [cell_other _ _ (by omega)]; exact h.c11
  c12 := by rw [cell_other _ _ (by omega)]; exact h.c12
  c13 := by rw [cell_other _ _ (by omega)]; exact h.c13
  c14 := cell_same _ _ h.c14
  fz k := by rw [World.frozen?_setCell]; exact h.fz k
end

/-- The world has turned in block b at most. -/
structure Hold (b : Nat) (w w' : World) : Prop where
  size : w'.heap.size = w.heap.size
  grown : ∀ W, W.heap.size ≤ b → Grown W w → Grown W w'
  below : Below b w w'
theorem Hold.refl (b : Nat) (w : World) : Hold b w w := ⟨rfl, fun _ _ h => h, Below.refl _ _⟩
theorem Hold.drewN {b : Nat} {w w' : World} (h : Hold b w w') (n : Nat) : Hold b w (w'.drewN n) :=
  ⟨h.size, fun W hW hg => h.grown W hW hg, ⟨h.below.os, h.below.tape, h.below.output, h.below.size, h.below.block⟩⟩
theorem Hold.set {b : Nat} {w w' : World} (h : Hold b w w') (o : Nat) (v : Value) : Hold b w (w'.setCell ⟨b, o, none⟩ v) :=
  ⟨by simpa using h.size, fun W hW hg => (h.grown W hW hg).setCell (by exact hW) v, h.below.setCell (Nat.le_refl _) v⟩
theorem Hold.trans {b : Nat} {w w1 w2 : World} (h : Hold b w w1) (k : Hold b w1 w2) : Hold b w w2 :=
  ⟨k.size.trans h.size, fun W hW hg => k.grown W hW (h.grown W hW hg), h.below.trans k.below⟩

theorem at18r (b p : Nat) (s : ByteArray) (c o sg hh mm : Int) (w : World) (hr : Rd b s p o sg hh mm w) (hp : p < s.size) (hs : s.size ≤ 2000000) :
    Calls Try.prog 18 #[.pointer (some ⟨b, 0, none⟩), .int .u8 c] w fun e w' => e = .returned (.bool ((s[p].toNat : Int) == c)) ∧ Rd b s p o sg hh mm w' ∧ Hold b w w' :=
  (at18 b p s c w hr.c0 hr.c1 hp hs).mono fun _ _ ⟨he, n, hw⟩ => ⟨he, by rw [hw]; exact hr.drewN n, by rw [hw]; exact (Hold.refl b w).drewN n⟩

theorem number19r (b p : Nat) (s : ByteArray) (o sg hh mm : Int) (w : World) (hr : Rd b s p o sg hh mm w) (hp : p + 2 ≤ s.size) (hs : s.size ≤ 2000000)
    (x0 : 48 ≤ (s[p].toNat : Int)) (x9 : (s[p].toNat : Int) ≤ 57) (y0 : 48 ≤ (s[p + 1].toNat : Int)) (y9 : (s[p + 1].toNat : Int) ≤ 57) :
    Calls Try.prog 19 #[.pointer (some ⟨b, 0, none⟩), .int .i64 2] w fun e w' => e = .returned (.tuple #[.int .i64 (10 * ((s[p].toNat : Int) - 48) + ((s[p + 1].toNat : Int) - 48)), .bool true]) ∧ Rd b s (p + 2) o sg hh mm w' ∧ Hold b w w' :=
  (number19 b p s w hr.c0 hr.c1 (hr.fz 1) hp hs x0 x9 y0 y9).mono fun _ _ ⟨he, n, hw⟩ => ⟨he, by rw [hw]; exact (hr.pos (p + 2)).drewN n, by rw [hw]; exact ((Hold.refl b w).set 1 _).drewN n⟩

set_option maxHeartbeats 400000 in
/-- zone at a 'Z': the reader is one on, its offset form 1. -/
theorem zone13_z (b p : Nat) (s : ByteArray) (w : World) (hr : Rd b s p 0 0 0 0 w) (hp : p < s.size) (hs : s.size ≤ 2000000) (hz : ((s[p].toNat : Int) == 90) = true) :
    Calls Try.prog 13 #[.pointer (some ⟨b, 0, none⟩)] w fun e w' => e = .returned (.tuple #[]) ∧ Rd b s (p + 1) 1 0 0 0 w' ∧ Hold b w w' := by
  have HZ : Hid (((s[p].toNat : Int) == 90) = true) := hz
  clear hz
  have h0 := hr.c0
  have h1 := hr.c1
  have h11 := hr.c11
  have hf1 := hr.fz 1
  have hf11 := hr.fz 11
  have HR := hidden (hr)
  clear hr
  go_enter Try.func13, Try.ntmps13
  go_wp2_with fail
  refine (at18 b p s _ _ h0 h1 hp hs).mono ?_
  rintro e w' ⟨rfl, n, rfl⟩
  rw [HZ.out]
  go_wp2_with fail
  go_end0
  exact ⟨rfl, ((HR.out.drewN n).pos (p + 1)).form 1, (((Hold.refl b w).drewN n).set 1 _).set 11 _⟩

set_option maxHeartbeats 1000000 in
/-- zone at a sign: the reader is six on, its offset form 2. -/
theorem zone13_n (b p : Nat) (s : ByteArray) (w : World) (neg : Bool) (hr : Rd b s p 0 0 0 0 w) (hp : p + 6 ≤ s.size) (hs : s.size ≤ 2000000) (hz : ((s[p].toNat : Int) == 90) = false)
    (h43 : ((s[p].toNat : Int) == 43) = !neg) (h45 : ((s[p].toNat : Int) == 45) = neg) (h58 : ((s[p + 3].toNat : Int) == 58) = true)
    (a0 : 48 ≤ (s[p + 1].toNat : Int)) (a9 : (s[p + 1].toNat : Int) ≤ 57) (b0 : 48 ≤ (s[p + 2].toNat : Int)) (b9 : (s[p + 2].toNat : Int) ≤ 57)
    (c0 : 48 ≤ (s[p + 4].toNat : Int)) (c9 : (s[p + 4].toNat : Int) ≤ 57) (d0 : 48 ≤ (s[p + 5].toNat : Int)) (d9 : (s[p + 5].toNat : Int) ≤ 57) :
    Calls Try.prog 13 #[.pointer (some ⟨b, 0, none⟩)] w fun e w' => e = .returned (.tuple #[]) ∧
      Rd b s (p + 6) 2 (if neg then -1 else 1) (10 * ((s[p + 1].toNat : Int) - 48) + ((s[p + 2].toNat : Int) - 48)) (10 * ((s[p + 4].toNat : Int) - 48) + ((s[p + 5].toNat : Int) - 48)) w' ∧ Hold b w w' := by
  have HZ := hidden (hz)
  have H43 := hidden (h43)
  have H45 := hidden (h45)
  have H58 := hidden (h58)
  clear hz h43 h45 h58
  have HA := hidden (And.intro a0 a9)
  have HB := hidden (And.intro b0 b9)
  have HC := hidden (And.intro c0 c9)
  have HD := hidden (And.intro d0 d9)
  clear a0 a9 b0 b9 c0 c9 d0 d9
  have HR := hidden (hr)
  clear hr
  cases neg with
  | false =>
    go_enter Try.func13, Try.ntmps13
    go_wp2_with fail
    refine (at18r b p s _ _ _ _ _ _ HR.out (by omega) hs).mono ?_
    rintro e w1 ⟨rfl, hr1, hd1⟩
    rw [HZ.out]
    have HR1 := hidden (hr1)
    have HD1 := hidden (hd1)
    clear hr1 hd1
    go_wp2_with fail
    refine (at18r b p s _ _ _ _ _ _ HR1.out (by omega) hs).mono ?_
    rintro e w2 ⟨rfl, hr2, hd2⟩
    rw [H43.out]
    have HR2 := hidden (hr2)
    have HD2 := hidden (HD1.out.trans hd2)
    clear hr2 hd2 HR1 HD1
    have a1 := HR2.out.c1
    have f1 := HR2.out.fz 1
    go_wp2_with fail
    refine (at18r b p s _ _ _ _ _ _ HR2.out (by omega) hs).mono ?_
    rintro e w3 ⟨rfl, hr3, hd3⟩
    rw [H45.out]
    have HD3 := hidden (HD2.out.trans hd3)
    have hr4 : Rd b s (p + 1) 0 0 0 0 (w3.setCell ⟨b, 1, none⟩ (.int .i64 ((p : Int) + 1))) := by simpa using hr3.pos (p + 1)
    have HR4 := hidden (hr4)
    have a2 := hr3.c1
    have f2 := hr3.fz 1
    clear HR2 HD2 a1 f1 hr3 hd3 hr4
    go_wp2_with fail
    have HD4 := hidden (HD3.out.set 1 (.int .i64 ((p : Int) + 1)))
    clear HD3 a2 f2
    generalize w3.setCell ⟨b, 1, none⟩ (.int .i64 ((p : Int) + 1)) = w4 at HR4 HD4 ⊢
    refine (number19r b (p + 1) s _ _ _ _ _ HR4.out (by omega) hs HA.out.1 HA.out.2 HB.out.1 HB.out.2).mono ?_
    rintro e w5 ⟨rfl, hr5, hd5⟩
    have HR5 := hidden (hr5)
    have HD5 := hidden (HD4.out.trans hd5)
    clear HR4 HD4 hr5 hd5
    have vb : 0 ≤ 10 * ((s[p + 1].toNat : Int) - 48) + ((s[p + 1 + 1].toNat : Int) - 48) ∧ 10 * ((s[p + 1].toNat : Int) - 48) + ((s[p + 1 + 1].toNat : Int) - 48) ≤ 99 := by
      have h1 := HA.out; have h2 : 48 ≤ (s[p + 1 + 1].toNat : Int) ∧ (s[p + 1 + 1].toNat : Int) ≤ 57 := HB.out; omega
    generalize hV : 10 * ((s[p + 1].toNat : Int) - 48) + ((s[p + 1 + 1].toNat : Int) - 48) = V at vb ⊢
    have HV := hidden (hV)
    clear hV
    go_wp2_with fail
    refine (at18r b (p + 1 + 2) s _ _ _ _ _ _ HR5.out (by omega) hs).mono ?_
    rintro e w6 ⟨rfl, hr6, hd6⟩
    rw [H58.out]
    have HD6 := hidden (HD5.out.trans hd6)
    have hr7 : Rd b s (p + 4) 0 0 0 0 (w6.setCell ⟨b, 1, none⟩ (.int .i64 ((p : Int) + 3 + 1))) := hr6.pos (p + 4)
    have HR7 := hidden (hr7)
    have a3 : w6.cell? ⟨b, 1, none⟩ = some (.int .i64 ((p : Int) + 3)) := hr6.c1
    have f3 := hr6.fz 1
    clear HR5 HD5 hr6 hd6 hr7
    go_wp2_with fail
    have HD7 := hidden (HD6.out.set 1 (.int .i64 ((p : Int) + 3 + 1)))
    clear HD6 a3 f3
    generalize w6.setCell ⟨b, 1, none⟩ (.int .i64 ((p : Int) + 3 + 1)) = w7 at HR7 HD7 ⊢
    refine (number19r b (p + 4) s _ _ _ _ _ HR7.out (by omega) hs HC.out.1 HC.out.2 HD.out.1 HD.out.2).mono ?_
    rintro e w8 ⟨rfl, hr8, hd8⟩
    have ub : 0 ≤ 10 * ((s[p + 4].toNat : Int) - 48) + ((s[p + 4 + 1].toNat : Int) - 48) ∧ 10 * ((s[p + 4].toNat : Int) - 48) + ((s[p + 4 + 1].toNat : Int) - 48) ≤ 99 := by
      have h1 := HC.out; have h2 : 48 ≤ (s[p + 4 + 1].toNat : Int) ∧ (s[p + 4 + 1].toNat : Int) ≤ 57 := HD.out; omega
    generalize hU : 10 * ((s[p + 4].toNat : Int) - 48) + ((s[p + 4 + 1].toNat : Int) - 48) = U at ub ⊢
    have HU := hidden (hU)
    have g11 := hr8.c11
    have g12 := hr8.c12
    have g13 := hr8.c13
    have g14 := hr8.c14
    have e11 := hr8.fz 11
    have e12 := hr8.fz 12
    have e13 := hr8.fz 13
    have e14 := hr8.fz 14
    have HR8 := hidden (hr8)
    have HD8 := hidden (HD7.out.trans hd8)
    clear HR7 HD7 hr8 hd8 hU
    go_wp2_with fail
    refine bodyPost_ret (results_none rfl _ _ _) rfl ?_
    refine ⟨rfl, ?_, ((((HD8.out).set 11 _).set 12 _).set 13 _).set 14 _⟩
    have hfin := (((HR8.out.form 2).sign (1)).hours V).minutes U
    rw [← HV.out, ← HU.out] at hfin ⊢
    exact hfin
  | true =>
    go_enter Try.func13, Try.ntmps13
    go_wp2_with fail
    refine (at18r b p s _ _ _ _ _ _ HR.out (by omega) hs).mono ?_
    rintro e w1 ⟨rfl, hr1, hd1⟩
    rw [HZ.out]
    have HR1 := hidden (hr1)
    have HD1 := hidden (hd1)
    clear hr1 hd1
    go_wp2_with fail
    refine (at18r b p s _ _ _ _ _ _ HR1.out (by omega) hs).mono ?_
    rintro e w2 ⟨rfl, hr2, hd2⟩
    rw [H43.out]
    have HR2 := hidden (hr2)
    have HD2 := hidden (HD1.out.trans hd2)
    clear hr2 hd2 HR1 HD1
    go_wp2_with fail
    refine (at18r b p s _ _ _ _ _ _ HR2.out (by omega) hs).mono ?_
    rintro e w22 ⟨rfl, hr22, hd22⟩
    rw [H45.out]
    have HR22 := hidden (hr22)
    have HD22 := hidden (HD2.out.trans hd22)
    clear hr22 hd22 HR2 HD2
    have HR2 := hidden (HR22.out)
    have HD2 := hidden (HD22.out)
    clear HR22 HD22
    have a1 := HR2.out.c1
    have f1 := HR2.out.fz 1
    go_wp2_with fail
    refine (at18r b p s _ _ _ _ _ _ HR2.out (by omega) hs).mono ?_
    rintro e w3 ⟨rfl, hr3, hd3⟩
    rw [H45.out]
    have HD3 := hidden (HD2.out.trans hd3)
    have hr4 : Rd b s (p + 1) 0 0 0 0 (w3.setCell ⟨b, 1, none⟩ (.int .i64 ((p : Int) + 1))) := by simpa using hr3.pos (p + 1)
    have HR4 := hidden (hr4)
    have a2 := hr3.c1
    have f2 := hr3.fz 1
    clear HR2 HD2 a1 f1 hr3 hd3 hr4
    go_wp2_with fail
    have HD4 := hidden (HD3.out.set 1 (.int .i64 ((p : Int) + 1)))
    clear HD3 a2 f2
    generalize w3.setCell ⟨b, 1, none⟩ (.int .i64 ((p : Int) + 1)) = w4 at HR4 HD4 ⊢
    refine (number19r b (p + 1) s _ _ _ _ _ HR4.out (by omega) hs HA.out.1 HA.out.2 HB.out.1 HB.out.2).mono ?_
    rintro e w5 ⟨rfl, hr5, hd5⟩
    have HR5 := hidden (hr5)
    have HD5 := hidden (HD4.out.trans hd5)
    clear HR4 HD4 hr5 hd5
    have vb : 0 ≤ 10 * ((s[p + 1].toNat : Int) - 48) + ((s[p + 1 + 1].toNat : Int) - 48) ∧ 10 * ((s[p + 1].toNat : Int) - 48) + ((s[p + 1 + 1].toNat : Int) - 48) ≤ 99 := by
      have h1 := HA.out; have h2 : 48 ≤ (s[p + 1 + 1].toNat : Int) ∧ (s[p + 1 + 1].toNat : Int) ≤ 57 := HB.out; omega
    generalize hV : 10 * ((s[p + 1].toNat : Int) - 48) + ((s[p + 1 + 1].toNat : Int) - 48) = V at vb ⊢
    have HV := hidden (hV)
    clear hV
    go_wp2_with fail
    refine (at18r b (p + 1 + 2) s _ _ _ _ _ _ HR5.out (by omega) hs).mono ?_
    rintro e w6 ⟨rfl, hr6, hd6⟩
    rw [H58.out]
    have HD6 := hidden (HD5.out.trans hd6)
    have hr7 : Rd b s (p + 4) 0 0 0 0 (w6.setCell ⟨b, 1, none⟩ (.int .i64 ((p : Int) + 3 + 1))) := hr6.pos (p + 4)
    have HR7 := hidden (hr7)
    have a3 : w6.cell? ⟨b, 1, none⟩ = some (.int .i64 ((p : Int) + 3)) := hr6.c1
    have f3 := hr6.fz 1
    clear HR5 HD5 hr6 hd6 hr7
    go_wp2_with fail
    have HD7 := hidden (HD6.out.set 1 (.int .i64 ((p : Int) + 3 + 1)))
    clear HD6 a3 f3
    generalize w6.setCell ⟨b, 1, none⟩ (.int .i64 ((p : Int) + 3 + 1)) = w7 at HR7 HD7 ⊢
    refine (number19r b (p + 4) s _ _ _ _ _ HR7.out (by omega) hs HC.out.1 HC.out.2 HD.out.1 HD.out.2).mono ?_
    rintro e w8 ⟨rfl, hr8, hd8⟩
    have ub : 0 ≤ 10 * ((s[p + 4].toNat : Int) - 48) + ((s[p + 4 + 1].toNat : Int) - 48) ∧ 10 * ((s[p + 4].toNat : Int) - 48) + ((s[p + 4 + 1].toNat : Int) - 48) ≤ 99 := by
      have h1 := HC.out; have h2 : 48 ≤ (s[p + 4 + 1].toNat : Int) ∧ (s[p + 4 + 1].toNat : Int) ≤ 57 := HD.out; omega
    generalize hU : 10 * ((s[p + 4].toNat : Int) - 48) + ((s[p + 4 + 1].toNat : Int) - 48) = U at ub ⊢
    have HU := hidden (hU)
    have g11 := hr8.c11
    have g12 := hr8.c12
    have g13 := hr8.c13
    have g14 := hr8.c14
    have e11 := hr8.fz 11
    have e12 := hr8.fz 12
    have e13 := hr8.fz 13
    have e14 := hr8.fz 14
    have HR8 := hidden (hr8)
    have HD8 := hidden (HD7.out.trans hd8)
    clear HR7 HD7 hr8 hd8 hU
    go_wp2_with fail
    refine bodyPost_ret (results_none rfl _ _ _) rfl ?_
    refine ⟨rfl, ?_, ((((HD8.out).set 11 _).set 12 _).set 13 _).set 14 _⟩
    have hfin := (((HR8.out.form 2).sign (-1)).hours V).minutes U
    rw [← HV.out, ← HU.out] at hfin ⊢
    exact hfin

end Go.Proofs.Qxb6603312a
