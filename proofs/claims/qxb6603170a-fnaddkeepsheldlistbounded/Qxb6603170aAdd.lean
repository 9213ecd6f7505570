/-
  (*firstRefusals).add (34), ZZAdd (29).
-/
import Derived.Test.Qxb6603170aTrim
import Derived.Deep.DeepCutAuto
import Derived.Deep.CutBlock
import Derived.Maps.AppendAt
namespace Go.Proofs.Qxb6603170a
open Go.RowKit
set_option linter.unusedSimpArgs false
set_option linter.unusedVariables false
set_option maxRecDepth 100000

theorem Try.info39' : (Try.prog.info? 39).map (fun i => (i.zero, i.size, i.bytes)) = some (some (.pointer none), 1, 8) := by kernel_rfl

/-- The pointers to the blocks R 0 .. R (n - 1). -/
def ptrs (R : Nat → Nat) (n : Nat) : List Value := (List.range n).map fun i => .pointer (some ⟨R i, 0, none⟩)
theorem ptrs_len (R : Nat → Nat) (n : Nat) : (ptrs R n).length = n := by simp [ptrs]
theorem ptrs_get (R : Nat → Nat) {n i : Nat} (h : i < n) : (ptrs R n)[i]? = some (.pointer (some ⟨R i, 0, none⟩)) := by simp [ptrs, h]

/-- firstRefusals in block fb, its list the call's own, behind fb. -/
structure Own (w : World) (fb n : Nat) (R : Nat → Nat) (u : Bool) : Prop where
  list : ∃ v, w.cell? ⟨fb, 0, none⟩ = some v ∧ w.ownsRow (fb + 1) 39 1 v n (ptrs R n)
  c1 : w.cell? ⟨fb, 1, none⟩ = some (.bool u)
  fz : ∀ o, w.frozen? ⟨fb, o, none⟩ = false

theorem Own.lt {w : World} {fb n : Nat} {R : Nat → Nat} {u : Bool} (h : Own w fb n R u) : fb < w.heap.size := World.block_lt_of_cell? _ _ h.c1

theorem Own.shape {w : World} {fb n : Nat} {R : Nat → Nat} {u : Bool} (h : Own w fb n R u) : ∃ a cap, w.cell? ⟨fb, 0, none⟩ = some (.slice a n cap) ∧ w.ownsRow (fb + 1) 39 1 (.slice a n cap) n (ptrs R n) ∧ (0 < n → ∃ g, a = some ⟨g, 0, none⟩) := by
  obtain ⟨v, hc, ho⟩ := h.list
  have ho' := ho
  obtain ⟨_, hr⟩ := ho
  rcases hr with ⟨rfl, rfl⟩ | ⟨g, cap, cur, rfl, _⟩
  · exact ⟨none, 0, hc, ho', fun q => absurd q (Nat.lt_irrefl _)⟩
  · exact ⟨some ⟨g, 0, none⟩, cap, hc, ho', fun _ => ⟨g, rfl⟩⟩

/-- From what is owned to the list in memory. -/
theorem Own.lst {w : World} {fb n : Nat} {R : Nat → Nat} {u : Bool} (h : Own w fb n R u) (hn : 0 < n) : ∃ blk cap V, fb < blk ∧ cap ≤ maxLen ∧ Lst w fb blk n cap R u V := by
  obtain ⟨v, hc, hl, hr⟩ := h.list
  rcases hr with ⟨_, h0⟩ | ⟨g, cap, cur, rfl, hg, hh, hle, hm, hsz, ht⟩
  · omega
  · rw [Nat.mul_one] at hsz ht
    refine ⟨g, cap, fun i => cur.getD i .nilIface, hg, hm, hc, h.c1, h.fz, ⟨cur, hh, hsz, fun i hi => ?_⟩, fun i hi => ?_, by omega, hle⟩
    · rw [Array.getElem?_eq_getElem (by omega)]
      simp [Array.getD, show i < cur.size by omega]
    · have e := ptrs_get R hi
      rw [← ht, List.getElem?_take_of_lt hi, Array.getElem?_toList] at e
      simp [Array.getD_eq_getD_getElem?, e]
/-- And back. -/
theorem Lst.own {w : World} {fb blk n cap : Nat} {R : Nat → Nat} {u : Bool} {V : Nat → Value} (h : Lst w fb blk n cap R u V) (hb : fb < blk) (hm : cap ≤ maxLen) : Own w fb n R u := by
  refine ⟨⟨_, h.c0, ?_⟩, h.c1, h.fz⟩
  obtain ⟨cur, hh, hsz, hc⟩ := h.row
  refine ⟨by rw [ptrs_len, Nat.mul_one], Or.inr ⟨blk, cap, cur, rfl, hb, hh, h.le, hm, by rw [Nat.mul_one]; exact hsz, ?_⟩⟩
  rw [Nat.mul_one]
  apply List.ext_getElem?
  intro i
  by_cases hi : i < n
  · rw [List.getElem?_take_of_lt hi, Array.getElem?_toList, hc i (by have := h.le; omega), h.val i hi, ptrs_get R hi]
  · rw [List.getElem?_eq_none (by simp; omega), List.getElem?_eq_none (by rw [ptrs_len]; omega)]

/-- One more at the end. -/
def snoc {α : Type} (f : Nat → α) (n : Nat) (x : α) : Nat → α := fun k => if k = n then x else f k
theorem ptrs_snoc (R : Nat → Nat) (n x : Nat) : ptrs R n ++ [.pointer (some ⟨x, 0, none⟩)] = ptrs (snoc R n x) (n + 1) := by
  unfold ptrs
  rw [List.range_succ, List.map_append]
  congr 1
  · refine List.map_congr_left fun i hi => ?_
    have := List.mem_range.1 hi
    unfold snoc; rw [if_neg (by omega)]
  · simp [snoc]

/-- What the list's refusals say: their blocks lie below fb, their lines where they are looked for. -/
structure Lines (w : World) (fb n : Nat) (R : Nat → Nat) (key : Nat → Int) : Prop where
  lt : ∀ k, k < n → R k < fb
  cell : ∀ k, k < n → w.cell? ⟨R k, 1, none⟩ = some (.int .i64 (key k))
  lo : ∀ k, k < n → -4611686018427387903 ≤ key k
  hi : ∀ k, k < n → key k ≤ 4611686018427387903
theorem Lines.below {w w' : World} {fb n : Nat} {R : Nat → Nat} {key : Nat → Int} (h : Lines w fb n R key) (hb : Below fb w w') : Lines w' fb n R key :=
  ⟨h.lt, fun k hk => (hb.cell (by exact h.lt k hk)).trans (h.cell k hk), h.lo, h.hi⟩
theorem Lines.snoc {w : World} {fb n x : Nat} {R : Nat → Nat} {key : Nat → Int} {l : Int} (h : Lines w fb n R key) (hx : x < fb) (hc : w.cell? ⟨x, 1, none⟩ = some (.int .i64 l)) (h1 : -4611686018427387903 ≤ l) (h2 : l ≤ 4611686018427387903) :
    Lines w fb (n + 1) (snoc R n x) (snoc key n l) := by
  refine ⟨fun k hk => ?_, fun k hk => ?_, fun k hk => ?_, fun k hk => ?_⟩
  all_goals
    unfold Qxb6603170a.snoc
    by_cases e : k = n
    · simp only [if_pos e]; assumption
    · simp only [if_neg e]
      first | exact h.lt k (by omega) | exact h.cell k (by omega) | exact h.lo k (by omega) | exact h.hi k (by omega)

/-- Is it out of line? -/
def outOf (n : Nat) (key : Nat → Int) (l : Int) : Bool := decide (0 < n) && decide (l < key (n - 1))
/-- WHAT add LEAVES. -/
def AddOut (w' : World) (fb n : Nat) (R : Nat → Nat) (key : Nat → Int) (u : Bool) (x : Nat) (l : Int) : Prop :=
  (outOf n key l = false ∧ 1000 ≤ n ∧ u = false ∧ Own w' fb n R u) ∨
  (¬ (outOf n key l = false ∧ 1000 ≤ n ∧ u = false) ∧ n + 1 < 2000 ∧ Own w' fb (n + 1) (snoc R n x) (u || outOf n key l)) ∨
  (¬ (outOf n key l = false ∧ 1000 ≤ n ∧ u = false) ∧ 2000 ≤ n + 1 ∧ ∃ g, Dom (n + 1) g ∧ ((u || outOf n key l) = true → Srt (snoc key n l) g 0 (n + 1)) ∧ ((u || outOf n key l) = false → g = fun k => k) ∧
    Own w' fb (min (n + 1) 1000) (fun i => snoc R n x (g i)) false)

theorem Own.setU {w : World} {fb n : Nat} {R : Nat → Nat} {u : Bool} (h : Own w fb n R u) (b : Bool) : Own (w.setCell ⟨fb, 1, none⟩ (.bool b)) fb n R b := by
  obtain ⟨v, hc, ho⟩ := h.list
  exact ⟨⟨v, (cell_ne _ _ (by omega)).trans hc, ownsRow_setCell_below ho (by show fb < fb + 1; omega) _⟩, World.cell?_setCell_same _ _ _ h.c1, fun o => by rw [World.frozen?_setCell]; exact h.fz o⟩
theorem Own.drewN {w : World} {fb n : Nat} {R : Nat → Nat} {u : Bool} (h : Own w fb n R u) (q : Nat) : Own (w.drewN q) fb n R u := ⟨h.list, h.c1, h.fz⟩

/-- The list of fb does not lie in block mb. -/
def Apart (w : World) (fb mb : Nat) : Prop := ∀ v, w.cell? ⟨fb, 0, none⟩ = some v → v.ownBlock ≠ some mb
/-- What is neither fb nor her list's block stands, and stays apart from the list. -/
def Spares (fb : Nat) (w w' : World) : Prop := ∀ mb, mb < w.heap.size → mb ≠ fb → Apart w fb mb → w'.heap[mb]? = w.heap[mb]? ∧ Apart w' fb mb
theorem Spares.refl (fb : Nat) (w : World) : Spares fb w w := fun _ _ _ h => ⟨rfl, h⟩
theorem Spares.trans {fb : Nat} {a b c : World} (h : Spares fb a b) (h' : Spares fb b c) (hs : a.heap.size ≤ b.heap.size) : Spares fb a c := fun mb h1 h2 h3 => by
  obtain ⟨e1, e2⟩ := h mb h1 h2 h3
  obtain ⟨e3, e4⟩ := h' mb (Nat.lt_of_lt_of_le h1 hs) h2 e2
  exact ⟨e3.trans e1, e4⟩
theorem Spares.drewN {fb : Nat} {a b : World} (h : Spares fb a b) (q : Nat) : Spares fb a (b.drewN q) := h
theorem Spares.setU {fb : Nat} {a b : World} (h : Spares fb a b) (v : Value) : Spares fb a (b.setCell ⟨fb, 1, none⟩ v) := fun mb h1 h2 h3 => by
  obtain ⟨e1, e2⟩ := h mb h1 h2 h3
  refine ⟨(Below.heap_setCell _ _ _ _ (by exact h2)).trans e1, fun v' hv => e2 v' ?_⟩
  rw [cell_ne _ _ (by omega)] at hv
  exact hv
theorem spares_append {fb : Nat} {w w1 : World} {o : Obj} {v v' : Value} (c0 : w.cell? ⟨fb, 0, none⟩ = some v) (hg : (w.alloc o).grownBy w1 v.ownBlock) (hl : v'.ownBlock = v.ownBlock ∨ v'.ownBlock = some (w.heap.size + 1)) (c1 : w1.cell? ⟨fb, 0, none⟩ = some v) :
    Spares fb w (w1.setCell ⟨fb, 0, none⟩ v') := fun mb h1 h2 h3 => by
  have hs : (w.alloc o).heap.size = w.heap.size + 1 := by simp
  have hne := h3 v c0
  refine ⟨(Below.heap_setCell _ _ _ _ (by exact h2)).trans ((hg.block mb (by omega) (fun e => hne e.symm)).trans (Below.heap_alloc _ _ _ h1)), fun x hx => ?_⟩
  rw [World.cell?_setCell_same _ _ _ c1] at hx
  obtain rfl := Option.some.inj hx
  rcases hl with e | e
  · rw [e]; exact hne
  · rw [e]; intro q; have := Option.some.inj q; omega
theorem spares_two {fb blk n cap n' cap' : Nat} {w w' : World} (c0 : w.cell? ⟨fb, 0, none⟩ = some (.slice (some ⟨blk, 0, none⟩) n cap)) (c1 : w'.cell? ⟨fb, 0, none⟩ = some (.slice (some ⟨blk, 0, none⟩) n' cap')) (h : Two fb blk w w') : Spares fb w w' := fun mb h1 h2 h3 => by
  have hne : mb ≠ blk := fun e => h3 _ c0 (by rw [e]; rfl)
  refine ⟨h.block mb h2 hne, fun x hx => ?_⟩
  rw [c1] at hx
  obtain rfl := Option.some.inj hx
  intro q; exact hne (Option.some.inj q).symm

set_option maxHeartbeats 2000000 in
theorem add34 (w : World) (fb n : Nat) (R : Nat → Nat) (key : Nat → Int) (u : Bool) (x : Nat) (l : Int) (h : Own w fb n R u) (hL : Lines w fb n R key) (hn : n < 2000) (hx : x < fb) (hc : w.cell? ⟨x, 1, none⟩ = some (.int .i64 l))
    (h1 : -4611686018427387903 ≤ l) (h2 : l ≤ 4611686018427387903) :
    Calls Try.prog 34 #[.pointer (some ⟨fb, 0, none⟩), .pointer (some ⟨x, 0, none⟩)] w fun e w' => e = .returned (.tuple #[]) ∧ AddOut w' fb n R key u x l ∧ Below fb w w' ∧ Spares fb w w' := by
  obtain ⟨a, cap, c0, hown, hg⟩ := h.shape
  have c1 := h.c1
  have f0 := h.fz 0
  have f1 := h.fz 1
  have HO := hidden h
  have HL := hidden hL
  have HW := hidden hown
  clear h hL hown
  go_enter Try.func34, Try.ntmps34
  go_upto_block 0 with (fail)
  go_cut [34] (fun _ wr => Hid (Own wr fb n R (u || outOf n key l)) ∧ Hid (Below fb w wr ∧ Spares fb w wr) ∧ Hid (¬ (outOf n key l = false ∧ 1000 ≤ n ∧ u = false)))
  case first =>
    by_cases hn0 : n = 0
    · subst hn0
      have eo : outOf 0 key l = false := rfl
      have hd0 : decide ((0 : Int) < ((0 : Nat) : Int)) = false := by decide
      have hor : Hid (Own w fb 0 R (u || outOf 0 key l)) := by rw [eo, Bool.or_false]; exact HO.out
      clear eo
      go_wp2_with fail
      go_quiet (fail)
      have HO2 := hidden (hor.out.drewN nq)
      have HB2 : Hid (Below fb w (w.drewN nq) ∧ Spares fb w (w.drewN nq)) := ⟨⟨rfl, rfl, rfl, Nat.le_refl _, fun _ _ => rfl⟩, Spares.refl fb w⟩
      go_wp2_with fail
      go_meet
      case rel => exact ⟨HO2.out, HB2.out, fun q => by omega⟩
    · obtain ⟨g, rfl⟩ := hg (by omega)
      obtain ⟨p, rfl⟩ : ∃ p, n = p + 1 := ⟨n - 1, by omega⟩
      have d0 := HW.out.cellAt p (by omega)
      rw [ptrs_get R (Nat.lt_succ_self p)] at d0
      have d1 := HL.out.cell p (Nat.lt_succ_self p)
      have hz1 : (0 : Int) < (p : Int) + 1 := by omega
      have hd1 : decide ((0 : Int) < (p : Int) + 1) = true := decide_eq_true hz1
      have hz2 : (p : Int) < (p : Int) + 1 := by omega
      have hz3 : (0 : Int) ≤ (p : Int) := by omega
      have eo : outOf (p + 1) key l = decide (l < key p) := by simp [outOf]
      have hB0 : ∀ q, Below fb w (w.drewN q) ∧ Spares fb w (w.drewN q) := fun q => ⟨⟨rfl, rfl, rfl, Nat.le_refl _, fun _ _ => rfl⟩, Spares.refl fb w⟩
      have HB0 := hidden hB0
      clear hB0
      by_cases hlt : l < key p
      · have hd2 : decide (l < key p) = true := decide_eq_true hlt
        rw [hd2] at eo
        have EO := hidden eo
        clear eo
        go_wp2_with fail
        try rw [show ((p + 1 : Nat) : Int) = (p : Int) + 1 from rfl]
        go_quiet (fail)
        have HO2 := hidden ((HO.out.drewN nq).setU true)
        have HB2 := hidden (And.intro ((HB0.out nq).1.setCell (p := ⟨fb, 1, none⟩) (Nat.le_refl _) (.bool true)) ((HB0.out nq).2.setU (.bool true)))
        go_wp2_with fail
        go_meet
        case rel => exact ⟨by rw [EO.out, Bool.or_true]; exact HO2.out, HB2.out, fun q => by rw [EO.out] at q; cases q.1⟩
      · have hd2 : decide (l < key p) = false := decide_eq_false hlt
        rw [hd2] at eo
        have EO := hidden eo
        clear eo
        by_cases hbig : 1000 ≤ p + 1
        · have hz4 : (1000 : Int) ≤ (p : Int) + 1 := by omega
          cases u with
          | false =>
            go_wp2_with fail
            try rw [show ((p + 1 : Nat) : Int) = (p : Int) + 1 from rfl]
            go_quiet (fail)
            have HO2 := hidden (HO.out.drewN nq)
            have HB2 := hidden (HB0.out nq)
            go_wp2_with fail
            refine bodyPost_ret (results_none rfl _ _ _) rfl ?_
            exact ⟨rfl, Or.inl ⟨EO.out, hbig, rfl, HO2.out⟩, HB2.out⟩
          | true =>
            go_wp2_with fail
            try rw [show ((p + 1 : Nat) : Int) = (p : Int) + 1 from rfl]
            go_quiet (fail)
            have HO2 := hidden (HO.out.drewN nq)
            have HB2 := hidden (HB0.out nq)
            go_wp2_with fail
            go_meet
            case rel => exact ⟨by rw [EO.out, Bool.or_false]; exact HO2.out, HB2.out, fun q => by cases q.2.2⟩
        · have hz4 : ¬ (1000 : Int) ≤ (p : Int) + 1 := by omega
          go_wp2_with fail
          try rw [show ((p + 1 : Nat) : Int) = (p : Int) + 1 from rfl]
          go_quiet (fail)
          have HO2 := hidden (HO.out.drewN nq)
          have HB2 := hidden (HB0.out nq)
          go_wp2_with fail
          go_meet
          case rel => exact ⟨by rw [EO.out, Bool.or_false]; exact HO2.out, HB2.out, fun q => hbig q.2.1⟩
  case rest =>
    obtain ⟨HO1, HB1, HC⟩ := hcut
    clear c0 c1 f0 f1 hg HO HW
    obtain ⟨u1, hu1⟩ : ∃ b, b = (u || outOf n key l) := ⟨_, rfl⟩
    rw [← hu1] at HO1
    have HU := hidden hu1
    clear hu1
    obtain ⟨a', cap', c0, hown, _⟩ := HO1.out.shape
    have c1 := HO1.out.c1
    have f0 := HO1.out.fz 0
    have f1 := HO1.out.fz 1
    have hlt := HO1.out.lt
    obtain ⟨i0, hi, hz0, hz1, hz2⟩ := info_parts Try.info39'
    go_wp2_with (first | (at_builtin; refine wpList_append_own_at _ rfl _ _ 37 rfl (fb + 1) 39 i0 (.pointer none) 1 8 Try.underlying37 hi hz0 hz1 hz2 rfl (by decide) _ _ _ rfl (hown.alloc _) ⟨wc.heap.size, 0, none⟩ 1 1 [.pointer (some ⟨x, 0, none⟩)] rfl rfl ?c1 ?c2 ?c3 ?c4 ?c5 ?_))
    case c1 =>
      intro j v hj
      match j, hj with
      | 0, hj => simp at hj; subst hj; simp [Addr.add]
    case c2 => intro v hv; simp at hv; subst hv; rfl
    case c3 => unfold maxLen; omega
    case c4 => omega
    case c5 => simp; omega
    · intro v' w1 hown' hgrow _ hloc
      rw [ptrs_snoc] at hown'
      have hb1 : Below (fb + 1) wc w1 := ((Below.refl (fb + 1) wc).alloc (by omega) _).grown hgrow (by simp; omega) (fun k hk => (hown.lt k hk).1)
      have hsh : ∃ g' cp, v' = .slice (some ⟨g', 0, none⟩) (n + 1) cp := by
        obtain ⟨_, hr⟩ := hown'
        rcases hr with ⟨_, h0⟩ | ⟨g', cp, cur, rfl, _⟩
        · omega
        · exact ⟨g', cp, rfl⟩
      obtain ⟨g', cp, rfl⟩ := hsh
      have e0 := (hb1.cell (p := ⟨fb, 0, none⟩) (by show fb < fb + 1; omega)).trans c0
      have e1 := (hb1.cell (p := ⟨fb, 1, none⟩) (by show fb < fb + 1; omega)).trans c1
      have ef : ∀ o, w1.frozen? ⟨fb, o, none⟩ = false := fun o => (hb1.frozen (p := ⟨fb, o, none⟩) (by show fb < fb + 1; omega)).trans (HO1.out.fz o)
      have ef0 := ef 0
      have hO2 : Own (w1.setCell ⟨fb, 0, none⟩ (.slice (some ⟨g', 0, none⟩) (n + 1) cp)) fb (n + 1) (snoc R n x) u1 :=
        ⟨⟨_, World.cell?_setCell_same _ _ _ e0, ownsRow_setCell_below hown' (by show fb < fb + 1; omega) _⟩, (cell_ne _ _ (by omega)).trans e1, fun o => by rw [World.frozen?_setCell]; exact ef o⟩
      have hB2 : Below fb w (w1.setCell ⟨fb, 0, none⟩ (.slice (some ⟨g', 0, none⟩) (n + 1) cp)) := (HB1.out.1.trans (hb1.mono (by omega))).setCell (Nat.le_refl _) _
      have hSp := HB1.out.2.trans (spares_append c0 hgrow hloc e0) HB1.out.1.size
      have HO2 := hidden hO2
      have HB2 := hidden hB2
      have HSp := hidden hSp
      have hcc : (w1.setCell ⟨fb, 0, none⟩ (.slice (some ⟨g', 0, none⟩) (n + 1) cp)).cell? ⟨fb, 0, none⟩ = some (.slice (some ⟨g', 0, none⟩) (n + 1) cp) := World.cell?_setCell_same _ _ _ e0
      have HCC := hidden hcc
      clear hown' hgrow hloc hSp hown hb1 hO2 hB2 HO1 HB1 c0 c1 f0 f1 ef hcc e1
      by_cases hfull : 2000 ≤ n + 1
      · have hzf : (2000 : Int) ≤ (n : Int) + 1 := by omega
        have hKs := (HL.out.snoc hx hc h1 h2).below HB2.out
        obtain ⟨blk, cpp, V, hbk, hmx, hLs⟩ := HO2.out.lst (by omega)
        have hKd : Keyed (w1.setCell ⟨fb, 0, none⟩ (.slice (some ⟨g', 0, none⟩) (n + 1) cp)) blk (n + 1) (snoc R n x) (snoc key n l) := ⟨fun p hp => by have := hKs.lt p hp; omega, hKs.cell, hKs.lo, hKs.hi⟩
        have HLs := hidden hLs
        have HKd := hidden hKd
        clear hKs hLs hKd
        go_wp2_with fail
        generalize w1.setCell ⟨fb, 0, none⟩ (.slice (some ⟨g', 0, none⟩) (n + 1) cp) = w2 at HO2 HB2 HCC HLs HKd HSp ⊢
        refine (trim33 w2 fb blk (n + 1) cpp (snoc R n x) (snoc key n l) u1 V HLs.out (by omega) (fun _ => HKd.out)).mono ?_
        rintro e w3 ⟨rfl, g, hT⟩
        obtain ⟨V3, hL3, _⟩ := hT.lst
        have HF := hidden (And.intro (hL3.own hbk hmx) (And.intro hT.dom (And.intro hT.srt (And.intro hT.same (And.intro (HB2.out.trans (hT.two.below (Nat.le_refl _) (by omega))) (HSp.out.trans (spares_two HLs.out.c0 hL3.c0 hT.two) HB2.out.size))))))
        clear hT hL3
        go_wp2_with fail
        go_end0
        refine ⟨rfl, Or.inr (Or.inr ⟨HC.out, hfull, g, HF.out.2.1, ?_, ?_, HF.out.1⟩), HF.out.2.2.2.2⟩
        · rw [← HU.out]; exact HF.out.2.2.1
        · rw [← HU.out]; exact HF.out.2.2.2.1
      · have hzf : ¬ (2000 : Int) ≤ (n : Int) + 1 := by omega
        go_wp2_with fail
        go_end0
        exact ⟨rfl, Or.inr (Or.inl ⟨HC.out, by omega, by rw [← HU.out]; exact HO2.out⟩), HB2.out, HSp.out⟩

theorem zzadd29 (w : World) (fb n : Nat) (R : Nat → Nat) (key : Nat → Int) (u : Bool) (x : Nat) (l : Int) (h : Own w fb n R u) (hL : Lines w fb n R key) (hn : n < 2000) (hx : x < fb) (hc : w.cell? ⟨x, 1, none⟩ = some (.int .i64 l))
    (h1 : -4611686018427387903 ≤ l) (h2 : l ≤ 4611686018427387903) :
    Calls Try.prog 29 #[.pointer (some ⟨fb, 0, none⟩), .pointer (some ⟨x, 0, none⟩)] w fun e w' => e = .returned (.tuple #[]) ∧ AddOut w' fb n R key u x l ∧ Below fb w w' ∧ Spares fb w w' := by
  have HO := hidden h
  have HL := hidden hL
  have HC := hidden hc
  clear h hL hc
  go_enter Try.func29, Try.ntmps29
  go_wp2_with fail
  refine (add34 w fb n R key u x l HO.out HL.out hn hx HC.out h1 h2).mono ?_
  rintro e w1 ⟨rfl, hr⟩
  have HR := hidden hr
  clear hr
  go_wp2_with fail
  go_end0
  exact ⟨rfl, HR.out⟩
end Go.Proofs.Qxb6603170a
