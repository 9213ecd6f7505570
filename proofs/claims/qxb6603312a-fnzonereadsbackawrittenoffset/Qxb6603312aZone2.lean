/-
  ZZZone (9): the reader built, zone run on it, every field handed back.
-/
import Derived.Test.Qxb6603312aZone
import Derived.Deep.RegionHeld3
namespace Go.Proofs.Qxb6603312a
open Go.RowKit
set_option linter.unusedSimpArgs false

theorem rd_start (W : World) (b : Nat) (s : ByteArray) (p : Nat) (hb : b = W.heap.size) :
    Rd b s p 0 0 0 0 (W.alloc (.cells #[.string s, .int .i64 p, .int .i64 0, .int .i64 0, .int .i64 0, .int .i64 0, .int .i64 0, .int .i64 0, .int .i64 0, .string ⟨#[]⟩, .int .u8 0, .int .u8 0, .int .i64 0, .int .i64 0, .int .i64 0] 36)) := by
  subst hb
  exact {
    c0 := by simp
    c1 := by simp
    cf := fun k h1 h2 => by
      rcases (show k = 2 ∨ k = 3 ∨ k = 4 ∨ k = 5 ∨ k = 6 ∨ k = 7 ∨ k = 8 by omega) with rfl | rfl | rfl | rfl | rfl | rfl | rfl <;> simp
    c9 := by simp
    c10 := by simp
    c11 := by simp
    c12 := by simp
    c13 := by simp
    c14 := by simp
    fz := fun k => by simp }

set_option maxHeartbeats 2000000 in
theorem zz9 (p q : Nat) (o sg hh mm : Int) (s : ByteArray) (w : World)
    (hzone : ∀ w1, Rd (w.heap.size + 1 + 1) s p 0 0 0 0 w1 → Calls Try.prog 13 #[.pointer (some ⟨w.heap.size + 1 + 1, 0, none⟩)] w1 fun e w' => e = .returned (.tuple #[]) ∧ Rd (w.heap.size + 1 + 1) s q o sg hh mm w' ∧ Hold (w.heap.size + 1 + 1) w1 w') :
    Calls Try.prog 9 #[.string s, .int .i64 p, .agg #[.int .i64 0, .int .i64 0, .int .i64 0, .int .i64 0, .int .i64 0, .int .i64 0, .int .i64 0], .string ⟨#[]⟩, .int .u8 0, .int .u8 0, .int .i64 0, .int .i64 0, .int .i64 0] w
      fun e w' => e = .returned (.tuple #[.string s, .int .i64 q, .agg #[.int .i64 0, .int .i64 0, .int .i64 0, .int .i64 0, .int .i64 0, .int .i64 0, .int .i64 0], .string ⟨#[]⟩, .int .u8 0, .int .u8 o, .int .i64 sg, .int .i64 hh, .int .i64 mm]) ∧ Grown w w' ∧ Below w.heap.size w w' := by
  have HZ := hidden hzone
  clear hzone
  go_enter Try.func9, Try.ntmps9
  go_wp2_with fail
  refine (HZ.out _ (rd_start _ _ s p (by simp))).mono ?_
  rintro e w3 ⟨rfl, hr, hd⟩
  have g : Grown w w3 := hd.grown w (by omega) (((Grown.refl w).alloc _ _ |>.alloc _ _).alloc _ _)
  have r0 : w3.cell? ⟨w.heap.size + 1, 0, none⟩ = some (.int .i64 0) := by rw [hd.below.cell (by show w.heap.size + 1 < w.heap.size + 1 + 1; omega)]; simp [World.cell?_alloc_past, World.cell?_alloc_at, World.frozen?_alloc_past, World.frozen?_alloc_at]
  have r1 : w3.cell? ⟨w.heap.size + 1, 1, none⟩ = some (.int .i64 0) := by rw [hd.below.cell (by show w.heap.size + 1 < w.heap.size + 1 + 1; omega)]; simp [World.cell?_alloc_past, World.cell?_alloc_at, World.frozen?_alloc_past, World.frozen?_alloc_at]
  have r2 : w3.cell? ⟨w.heap.size + 1, 2, none⟩ = some (.int .i64 0) := by rw [hd.below.cell (by show w.heap.size + 1 < w.heap.size + 1 + 1; omega)]; simp [World.cell?_alloc_past, World.cell?_alloc_at, World.frozen?_alloc_past, World.frozen?_alloc_at]
  have r3 : w3.cell? ⟨w.heap.size + 1, 3, none⟩ = some (.int .i64 0) := by rw [hd.below.cell (by show w.heap.size + 1 < w.heap.size + 1 + 1; omega)]; simp [World.cell?_alloc_past, World.cell?_alloc_at, World.frozen?_alloc_past, World.frozen?_alloc_at]
  have r4 : w3.cell? ⟨w.heap.size + 1, 4, none⟩ = some (.int .i64 0) := by rw [hd.below.cell (by show w.heap.size + 1 < w.heap.size + 1 + 1; omega)]; simp [World.cell?_alloc_past, World.cell?_alloc_at, World.frozen?_alloc_past, World.frozen?_alloc_at]
  have r5 : w3.cell? ⟨w.heap.size + 1, 5, none⟩ = some (.int .i64 0) := by rw [hd.below.cell (by show w.heap.size + 1 < w.heap.size + 1 + 1; omega)]; simp [World.cell?_alloc_past, World.cell?_alloc_at, World.frozen?_alloc_past, World.frozen?_alloc_at]
  have r6 : w3.cell? ⟨w.heap.size + 1, 6, none⟩ = some (.int .i64 0) := by rw [hd.below.cell (by show w.heap.size + 1 < w.heap.size + 1 + 1; omega)]; simp [World.cell?_alloc_past, World.cell?_alloc_at, World.frozen?_alloc_past, World.frozen?_alloc_at]
  have rf : ∀ k, w3.frozen? ⟨w.heap.size + 1, k, none⟩ = false := fun k => by rw [hd.below.frozen (by show w.heap.size + 1 < w.heap.size + 1 + 1; omega)]; simp [World.cell?_alloc_past, World.cell?_alloc_at, World.frozen?_alloc_past, World.frozen?_alloc_at]
  have gb : Below w.heap.size w w3 := (((Below.refl _ w).alloc (Nat.le_refl _) _ |>.alloc (by simp) _).alloc (by simp; omega) _).trans (hd.below.mono (by omega))
  have G := hidden g
  have GB := hidden gb
  clear hd HZ g gb
  have c0 := hr.c0
  have c1 := hr.c1
  have c2 := hr.cf 2 (by omega) (by omega)
  have c3 := hr.cf 3 (by omega) (by omega)
  have c4 := hr.cf 4 (by omega) (by omega)
  have c5 := hr.cf 5 (by omega) (by omega)
  have c6 := hr.cf 6 (by omega) (by omega)
  have c7 := hr.cf 7 (by omega) (by omega)
  have c8 := hr.cf 8 (by omega) (by omega)
  have c9 := hr.c9
  have c10 := hr.c10
  have c11 := hr.c11
  have c12 := hr.c12
  have c13 := hr.c13
  have c14 := hr.c14
  clear hr
  go_wp2_with fail
  go_region_held3 (fun w' => w'.cell? ⟨w.heap.size + 1 + 1, 0, none⟩ = some (.string s) ∧ w'.cell? ⟨w.heap.size + 1 + 1, 1, none⟩ = some (.int .i64 q) ∧ w'.cell? ⟨w.heap.size + 1 + 1, 2, none⟩ = some (.int .i64 0) ∧ w'.cell? ⟨w.heap.size + 1 + 1, 3, none⟩ = some (.int .i64 0) ∧ w'.cell? ⟨w.heap.size + 1 + 1, 4, none⟩ = some (.int .i64 0) ∧ w'.cell? ⟨w.heap.size + 1 + 1, 5, none⟩ = some (.int .i64 0) ∧ w'.cell? ⟨w.heap.size + 1 + 1, 6, none⟩ = some (.int .i64 0) ∧ w'.cell? ⟨w.heap.size + 1 + 1, 7, none⟩ = some (.int .i64 0) ∧ w'.cell? ⟨w.heap.size + 1 + 1, 8, none⟩ = some (.int .i64 0) ∧ w'.cell? ⟨w.heap.size + 1 + 1, 9, none⟩ = some (.string ⟨#[]⟩) ∧ w'.cell? ⟨w.heap.size + 1 + 1, 10, none⟩ = some (.int .u8 0) ∧ w'.cell? ⟨w.heap.size + 1 + 1, 11, none⟩ = some (.int .u8 o) ∧ w'.cell? ⟨w.heap.size + 1 + 1, 12, none⟩ = some (.int .i64 sg) ∧ w'.cell? ⟨w.heap.size + 1 + 1, 13, none⟩ = some (.int .i64 hh) ∧ w'.cell? ⟨w.heap.size + 1 + 1, 14, none⟩ = some (.int .i64 mm)) (go_keep) (fail)
  go_wp2
  refine bodyPost_ret (v := .tuple #[.string s, .int .i64 q, .agg #[.int .i64 0, .int .i64 0, .int .i64 0, .int .i64 0, .int .i64 0, .int .i64 0, .int .i64 0], .string ⟨#[]⟩, .int .u8 0, .int .u8 o, .int .i64 sg, .int .i64 hh, .int .i64 mm]) ?_ rfl ⟨rfl, ?_, ?_⟩
  · simp [results, Try.results9, go_sem, r0, r1, r2, r3, r4, r5, r6]
  · have hB : w.heap.size ≤ w.heap.size + 1 := by omega
    exact (((((((G.out.setCell (a := ⟨w.heap.size + 1, 0, none⟩) hB _).setCell (a := ⟨w.heap.size + 1, 1, none⟩) hB _).setCell (a := ⟨w.heap.size + 1, 2, none⟩) hB _).setCell (a := ⟨w.heap.size + 1, 3, none⟩) hB _).setCell (a := ⟨w.heap.size + 1, 4, none⟩) hB _).setCell (a := ⟨w.heap.size + 1, 5, none⟩) hB _).setCell (a := ⟨w.heap.size + 1, 6, none⟩) hB _).drew
  · have hB : w.heap.size ≤ w.heap.size + 1 := by omega
    exact (((((((GB.out.setCell (p := ⟨w.heap.size + 1, 0, none⟩) hB _).setCell (p := ⟨w.heap.size + 1, 1, none⟩) hB _).setCell (p := ⟨w.heap.size + 1, 2, none⟩) hB _).setCell (p := ⟨w.heap.size + 1, 3, none⟩) hB _).setCell (p := ⟨w.heap.size + 1, 4, none⟩) hB _).setCell (p := ⟨w.heap.size + 1, 5, none⟩) hB _).setCell (p := ⟨w.heap.size + 1, 6, none⟩) hB _).drew

end Go.Proofs.Qxb6603312a
