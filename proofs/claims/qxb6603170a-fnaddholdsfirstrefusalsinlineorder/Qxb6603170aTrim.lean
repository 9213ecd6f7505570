/-
  (*firstRefusals).trim (33), ZZTrim (22), the small doors (21, 24, 25).
-/
import Derived.Test.Qxb6603170aStable
import Derived.Lib.SliceRun
namespace Go.Proofs.Qxb6603170a
open Go.RowKit
set_option linter.unusedSimpArgs false
set_option linter.unusedVariables false
set_option maxRecDepth 100000

/-- firstRefusals in block fb: its list lies in the block blk, of cap places, the first n of which hold the pointers to the blocks R i. -/
structure Lst (w : World) (fb blk n cap : Nat) (R : Nat → Nat) (u : Bool) (V : Nat → Value) : Prop where
  c0 : w.cell? ⟨fb, 0, none⟩ = some (.slice (some ⟨blk, 0, none⟩) n cap)
  c1 : w.cell? ⟨fb, 1, none⟩ = some (.bool u)
  fz : ∀ o, w.frozen? ⟨fb, o, none⟩ = false
  row : w.rowIs blk 39 cap V
  val : ∀ i, i < n → V i = .pointer (some ⟨R i, 0, none⟩)
  ne : fb ≠ blk
  le : n ≤ cap

/-- w' parts from w in the blocks fb and blk at most. -/
structure Two (fb blk : Nat) (w w' : World) : Prop where
  os : w'.os = w.os
  tape : w'.tape = w.tape
  output : w'.output = w.output
  size : w'.heap.size = w.heap.size
  block : ∀ k, k ≠ fb → k ≠ blk → w'.heap[k]? = w.heap[k]?
theorem Two.refl (fb blk : Nat) (w : World) : Two fb blk w w := ⟨rfl, rfl, rfl, rfl, fun _ _ _ => rfl⟩
theorem Two.trans {fb blk : Nat} {a b c : World} (h : Two fb blk a b) (k : Two fb blk b c) : Two fb blk a c :=
  ⟨k.os.trans h.os, k.tape.trans h.tape, k.output.trans h.output, k.size.trans h.size, fun i h1 h2 => (k.block i h1 h2).trans (h.block i h1 h2)⟩
theorem Two.drewN {fb blk : Nat} {a b : World} (h : Two fb blk a b) (q : Nat) : Two fb blk a (b.drewN q) := ⟨h.os, h.tape, h.output, h.size, h.block⟩
theorem Two.set {fb blk : Nat} {a b : World} (h : Two fb blk a b) {p : Addr} (hp : p.block = fb ∨ p.block = blk) (v : Value) : Two fb blk a (b.setCell p v) :=
  ⟨h.os, h.tape, h.output, by simpa using h.size, fun k h1 h2 => (Below.heap_setCell _ _ _ _ (by omega)).trans (h.block k h1 h2)⟩
theorem Two.below {fb blk B : Nat} {a b : World} (h : Two fb blk a b) (h1 : B ≤ fb) (h2 : B ≤ blk) : Below B a b := ⟨h.os, h.tape, h.output, Nat.le_of_eq h.size.symm, fun k hk => h.block k (by omega) (by omega)⟩

theorem setCells_two {fb blk : Nat} {a : World} : ∀ (vs : List Value) (o : Nat) (b : World), Two fb blk a b → Two fb blk a (b.setCells blk o vs)
  | [], _, _, h => h
  | v :: vs, o, b, h => setCells_two vs (o + 1) _ (h.set (p := ⟨blk, o, none⟩) (Or.inr rfl) v)
theorem setCells_row {blk c : Nat} {t : TypeId} : ∀ (vs : List Value) (o : Nat) (b : World) (V : Nat → Value), b.rowIs blk t c V → ∃ V', (b.setCells blk o vs).rowIs blk t c V'
  | [], _, _, V, h => ⟨V, h⟩
  | v :: vs, o, b, V, h => setCells_row vs (o + 1) _ _ (h.set o v)

/-- From the list in memory to the sort's row. -/
theorem Lst.sw {w : World} {fb blk n cap : Nat} {R : Nat → Nat} {u : Bool} {V : Nat → Value} (h : Lst w fb blk n cap R u V) : Sw w blk 0 n R (fun k => k) w where
  cell i hi := by rw [Nat.zero_add, h.row.cell (by have := h.le; omega), h.val i hi]
  frz i hi := h.row.frozen _
  out o ho := rfl
  frozen a := rfl
  block k hk := rfl
  size := rfl
  os := rfl
  tape := rfl
  output := rfl
  shape t c V hV := ⟨V, hV⟩
/-- And back. -/
theorem Lst.sorted {w w' : World} {fb blk n cap : Nat} {R : Nat → Nat} {u : Bool} {V : Nat → Value} {g : Nat → Nat} (h : Lst w fb blk n cap R u V) (S : Sw w blk 0 n R g w') : ∃ V', Lst w' fb blk n cap (fun i => R (g i)) u V' := by
  obtain ⟨V', hV'⟩ := S.shape 39 cap V h.row
  refine ⟨V', (S.other h.ne 0).trans h.c0, (S.other h.ne 1).trans h.c1, fun o => (S.frozen _).trans (h.fz o), hV', fun i hi => ?_, h.ne, h.le⟩
  have e1 := hV'.cell (i := i) (by have := h.le; omega)
  have e2 := S.cell i hi
  rw [Nat.zero_add, e1] at e2
  exact Option.some.inj e2
theorem Sw.two {w0 W : World} {blk off n : Nat} {R f : Nat → Nat} (h : Sw w0 blk off n R f W) (fb : Nat) : Two fb blk w0 W := ⟨h.os, h.tape, h.output, h.size, fun k _ h2 => h.block k h2⟩

theorem zero39 : ∀ w, (zeroValue 39).run Try.prog w = .ok (.pointer none) w := fun w => by kernel_rfl

/-- WHAT trim LEAVES. -/
structure Trimmed (w w' : World) (fb blk n cap : Nat) (R : Nat → Nat) (key : Nat → Int) (u : Bool) (g : Nat → Nat) : Prop where
  dom : Dom n g
  srt : u = true → Srt key g 0 n
  same : u = false → g = fun k => k
  lst : ∃ V, Lst w' fb blk (min n 1000) cap (fun i => R (g i)) false V ∧ ∀ i, 1000 ≤ i → i < n → V i = .pointer none
  two : Two fb blk w w'

theorem Lst.setU {w : World} {fb blk n cap : Nat} {R : Nat → Nat} {u : Bool} {V : Nat → Value} (h : Lst w fb blk n cap R u V) (x : Bool) : Lst (w.setCell ⟨fb, 1, none⟩ (.bool x)) fb blk n cap R x V where
  c0 := (cell_ne _ _ (by omega)).trans h.c0
  c1 := World.cell?_setCell_same _ _ _ h.c1
  fz o := by rw [World.frozen?_setCell]; exact h.fz o
  row := h.row.setOther (by exact fun e => h.ne e.symm) _
  val := h.val
  ne := h.ne
  le := h.le

/-- Behind the clearing and the cut. -/
theorem Lst.cut {w : World} {fb blk n cap : Nat} {R : Nat → Nat} {u : Bool} {V : Nat → Value} (h : Lst w fb blk n cap R u V) (hn : 1000 < n) :
    ∃ V', Lst ((w.setCells blk 1000 (List.replicate (n - 1000) (.pointer none))).setCell ⟨fb, 0, none⟩ (.slice (some ⟨blk, 0, none⟩) 1000 cap)) fb blk 1000 cap R u V' ∧ ∀ i, 1000 ≤ i → i < n → V' i = .pointer none := by
  have hle := h.le
  obtain ⟨V', hV'⟩ := setCells_row (List.replicate (n - 1000) (.pointer none)) 1000 w V h.row
  have e0 : (w.setCells blk 1000 (List.replicate (n - 1000) (.pointer none))).cell? ⟨fb, 0, none⟩ = some (.slice (some ⟨blk, 0, none⟩) n cap) := by
    rw [World.cell?_setCells_out _ _ _ _ _ (fun e => absurd e h.ne)]; exact h.c0
  have e1 : (w.setCells blk 1000 (List.replicate (n - 1000) (.pointer none))).cell? ⟨fb, 1, none⟩ = some (.bool u) := by
    rw [World.cell?_setCells_out _ _ _ _ _ (fun e => absurd e h.ne)]; exact h.c1
  have ef : ∀ o, (w.setCells blk 1000 (List.replicate (n - 1000) (.pointer none))).frozen? ⟨fb, o, none⟩ = false := fun o => by rw [World.frozen?_setCells]; exact h.fz o
  have elo : ∀ i, i < 1000 → V' i = V i := fun i hi => by
    have h1 := hV'.cell (i := i) (by omega)
    rw [World.cell?_setCells_out _ _ _ _ _ (fun _ _ => Or.inl hi), h.row.cell (by omega)] at h1
    exact (Option.some.inj h1).symm
  have ehi : ∀ i, 1000 ≤ i → i < n → V' i = .pointer none := fun i h1 h2 => by
    have h3 := hV'.cell (i := i) (by omega)
    have h4 := World.cell?_setCells_in blk (List.replicate (n - 1000) (.pointer none)) 1000 w (fun j hj => by simp at hj; rw [h.row.cell (by omega)]; rfl) (i - 1000) (by simp; omega)
    rw [show 1000 + (i - 1000) = i by omega, h3] at h4
    have h5 := Option.some.inj h4
    rw [h5]; simp
  generalize w.setCells blk 1000 (List.replicate (n - 1000) (.pointer none)) = w2 at *
  exact ⟨V', ⟨World.cell?_setCell_same _ _ _ e0, (cell_ne _ _ (by omega)).trans e1, fun o => by rw [World.frozen?_setCell]; exact ef o, hV'.setOther (by exact fun e => h.ne e.symm) _, fun i hi => by rw [elo i hi]; exact h.val i (by omega), h.ne, by omega⟩, ehi⟩

set_option maxHeartbeats 2000000 in
theorem trim33 (w : World) (fb blk n cap : Nat) (R : Nat → Nat) (key : Nat → Int) (u : Bool) (V : Nat → Value) (h : Lst w fb blk n cap R u V) (hn : n ≤ 1000000) (hK : u = true → Keyed w blk n R key) :
    Calls Try.prog 33 #[.pointer (some ⟨fb, 0, none⟩)] w fun e w' => e = .returned (.tuple #[]) ∧ ∃ g, Trimmed w w' fb blk n cap R key u g := by
  have HL := hidden h
  have HK := hidden hK
  have c0 := h.c0
  have c1 := h.c1
  have f0 := h.fz 0
  have f1 := h.fz 1
  clear h hK
  go_enter Try.func33, Try.ntmps33
  go_upto_if 5 with (fail)
  go_cut [5] (fun _ wr => Hid (∃ g V', Dom n g ∧ (u = true → Srt key g 0 n) ∧ (u = false → g = fun k => k) ∧ Lst wr fb blk n cap (fun i => R (g i)) false V' ∧ Two fb blk w wr))
  case first =>
    cases u with
    | false =>
      go_wp2_with fail
      go_meet
      case rel => exact ⟨fun k => k, V, fun k hk => hk, (fun e => by cases e), (fun _ => rfl), HL.out, Two.refl _ _ _⟩
    | true =>
      go_wp2_with fail
      refine (sortStable36 w blk 0 n cap R key (HK.out (by first | rfl | trivial)) hn w HL.out.sw).mono ?_
      rintro e w1 ⟨rfl, g, hS, hD, hT⟩
      obtain ⟨V', hL'⟩ := HL.out.sorted hS
      have HN := hidden (And.intro (hL'.setU false) (And.intro hD (And.intro hT ((hS.two fb).set (p := ⟨fb, 1, none⟩) (Or.inl rfl) (.bool false)))))
      have d1 := hL'.c1
      have g1 := hL'.fz 1
      clear hS hD hT hL' c0 c1 f0 f1
      go_wp2_with fail
      go_meet
      case rel => exact ⟨g, V', HN.out.2.1, (fun _ => HN.out.2.2.1), (fun e => by cases e), HN.out.1, HN.out.2.2.2⟩
  case rest =>
    clear c0 c1 f0 f1 HL HK
    obtain ⟨g, V', hD, hT, hE, hL, hW⟩ := hcut
    have c0 := hL.c0
    have f0 := hL.fz 0
    by_cases hbig : 1000 < n
    · obtain ⟨V2, hL2, hz⟩ := hL.cut hbig
      have hle := hL.le
      have hcl : ∀ ty, (Builtin.clear_ #[37] ty #[.slice (some ⟨blk, 1000, none⟩) (n - 1000) (cap - 1000)]).run Try.prog wc = .ok (.tuple #[]) (wc.setCells blk 1000 (List.replicate (n - 1000) (.pointer none))) :=
        fun ty => Lib.run_clear_slice wc 37 39 ty (.pointer none) Try.underlying37 zero39 rfl rfl blk 1000 (n - 1000) (cap - 1000) (by omega) (fun j hj => by rw [hL.row.cell (by omega)]; rfl) (fun j hj => hL.row.frozen _)
      have e0 : (wc.setCells blk 1000 (List.replicate (n - 1000) (.pointer none))).cell? ⟨fb, 0, none⟩ = some (.slice (some ⟨blk, 0, none⟩) n cap) := by
        rw [World.cell?_setCells_out _ _ _ _ _ (fun e => absurd e hL.ne)]; exact hL.c0
      have ef : (wc.setCells blk 1000 (List.replicate (n - 1000) (.pointer none))).frozen? ⟨fb, 0, none⟩ = false := by rw [World.frozen?_setCells]; exact hL.fz 0
      have hw2 := setCells_two (List.replicate (n - 1000) (.pointer none)) 1000 wc hW
      generalize wc.setCells blk 1000 (List.replicate (n - 1000) (.pointer none)) = w2 at *
      have HN := hidden (And.intro hL2 (And.intro hz (hw2.set (p := ⟨fb, 0, none⟩) (Or.inl rfl) (.slice (some ⟨blk, 0, none⟩) 1000 cap))))
      have HT := hidden (And.intro hD (And.intro hT hE))
      clear hL2 hz hw2 hL hW hD hT hE
      have hcap : ¬ cap = 1000 := by omega
      go_wp2_with fail
      go_end0
      refine ⟨rfl, g, HT.out.1, HT.out.2.1, HT.out.2.2, ⟨V2, ?_, HN.out.2.1⟩, HN.out.2.2⟩
      rw [Nat.min_eq_right (by omega)]; exact HN.out.1
    · have HT := hidden (And.intro hD (And.intro hT hE))
      have HN := hidden (And.intro hL hW)
      clear hL hW hD hT hE
      go_wp2_with fail
      go_end0
      refine ⟨rfl, g, HT.out.1, HT.out.2.1, HT.out.2.2, ⟨V', ?_, fun i h1 h2 => by omega⟩, HN.out.2⟩
      rw [Nat.min_eq_left (by omega)]; exact HN.out.1

theorem zztrim22 (w : World) (fb blk n cap : Nat) (R : Nat → Nat) (key : Nat → Int) (u : Bool) (V : Nat → Value) (h : Lst w fb blk n cap R u V) (hn : n ≤ 1000000) (hK : u = true → Keyed w blk n R key) :
    Calls Try.prog 22 #[.pointer (some ⟨fb, 0, none⟩)] w fun e w' => e = .returned (.tuple #[]) ∧ ∃ g, Trimmed w w' fb blk n cap R key u g := by
  have HL := hidden h
  have HK := hidden hK
  clear h hK
  go_enter Try.func22, Try.ntmps22
  go_wp2_with fail
  refine (trim33 w fb blk n cap R key u V HL.out hn HK.out).mono ?_
  rintro e w1 ⟨rfl, hg⟩
  have HG := hidden hg
  clear hg
  go_wp2_with fail
  go_end0
  exact ⟨rfl, HG.out⟩

/-! ### the small doors -/
theorem new21 (w : World) (v : Value) (a : Option Addr) (n cap : Nat) (u : Bool) (hv : v = .slice a n cap) :
    Calls Try.prog 21 #[v, .bool u] w fun e w' => e = .returned (.pointer (some ⟨w.heap.size, 0, none⟩)) ∧ w' = w.alloc (.cells #[v, .bool u] 54) := by
  subst hv
  go_enter Try.func21, Try.ntmps21
  go_wp2
  go_ret
  exact ⟨rfl, rfl⟩
theorem list24 (w : World) (fb : Nat) (a : Option Addr) (n cap : Nat) (h : w.cell? ⟨fb, 0, none⟩ = some (.slice a n cap)) :
    Calls Try.prog 24 #[.pointer (some ⟨fb, 0, none⟩)] w fun e w' => e = .returned (.slice a n cap) ∧ w' = w := by
  go_enter Try.func24, Try.ntmps24
  go_wp2
  go_ret
  exact ⟨rfl, rfl⟩
theorem unord25 (w : World) (fb : Nat) (u : Bool) (h : w.cell? ⟨fb, 1, none⟩ = some (.bool u)) :
    Calls Try.prog 25 #[.pointer (some ⟨fb, 0, none⟩)] w fun e w' => e = .returned (.bool u) ∧ w' = w := by
  go_enter Try.func25, Try.ntmps25
  go_wp2
  go_ret
  exact ⟨rfl, rfl⟩
end Go.Proofs.Qxb6603170a
