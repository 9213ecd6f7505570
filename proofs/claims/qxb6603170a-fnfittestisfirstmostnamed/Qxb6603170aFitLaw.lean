/-
  FnFittestIsFirstMostNamed (3): the walk.
-/
import Derived.Test.Qxb6603170aFit
import Derived.Laws.IdiomCopy
namespace Go.Proofs.Qxb6603170a
open Go.RowKit
set_option linter.unusedSimpArgs false
set_option linter.unusedVariables false

theorem Try.info9 : (Try.prog.info? 9).map (fun i => (i.zero, i.size, i.bytes)) = some (some (.string ⟨#[]⟩), 1, 16) := by kernel_rfl
theorem Try.size9 : (Try.prog.info? 9).map (·.size) = some 1 := by kernel_rfl

theorem plus (b off j : Nat) : (Addr.mk b off none).add j = ⟨b, off + j, none⟩ := by
  unfold Addr.add
  by_cases h : j = 0 <;> simp [h]

theorem copied (W : World) (a : Option Addr) (n cap : Nat) (H : Nat → ByteArray) (h : StrsAt W a n H) :
    ∃ W2, (∀ ty, (Builtin.copy_ #[22, 22] ty #[.slice (some ⟨W.heap.size, 0, none⟩) n n, .slice a n cap]).run Try.prog (W.alloc (.cells (madeCells #[.string ⟨#[]⟩] n) 9)) = .ok (.int .i64 (n : Int)) W2) ∧
      StrsAt W2 (some ⟨W.heap.size, 0, none⟩) n H ∧ Below W.heap.size W W2 := by
  have hrow := World.rowIs_made W (.string ⟨#[]⟩) n 9
  have hbel := (Below.refl W.heap.size W).alloc (Nat.le_refl _) (.cells (madeCells #[.string ⟨#[]⟩] n) 9)
  rcases h.at' with h0 | ⟨b, off, rfl, hc⟩
  · subst h0
    refine ⟨_, fun ty => run_copy_none (P := Try.prog) _ 22 22 ty 9 _ _ 0 0 0 cap Try.underlying22 Try.size9 rfl, ⟨by omega, Or.inl rfl⟩, hbel⟩
  · generalize W.alloc (.cells (madeCells #[.string ⟨#[]⟩] n) 9) = W1 at hrow hbel
    let cs : List Value := (List.range n).map fun i => .string (H i)
    have hl : cs.length = n := by simp [cs]
    have hget : ∀ j, j < n → cs[j]? = some (.string (H j)) := fun j hj => by simp [cs, hj]
    have hcell : ∀ j, j < n → W1.cell? ⟨W.heap.size, 0 + j, none⟩ = some (.string ⟨#[]⟩) := fun j hj => by rw [Nat.zero_add]; exact hrow.cell hj
    refine ⟨W1.setCells W.heap.size 0 cs, fun ty => ?_, ⟨h.big, Or.inr ⟨W.heap.size, 0, rfl, fun i hi => ?_⟩⟩, ?_⟩
    · have hr := run_copy_cells (P := Try.prog) W1 22 22 ty 9 W.heap.size 0 n n ⟨b, off, none⟩ n cap cs Try.underlying22 Try.size9 (by rw [hl]; exact (Nat.min_self n).symm) (fun j v hj => by
        have hjn : j < n := by have := (List.getElem?_eq_some_iff.1 hj).1; omega
        rw [hget j hjn] at hj
        rw [plus, ← hj]
        have hb := World.block_lt_of_cell? _ _ (hc j hjn)
        rw [hbel.cell (by exact hb)]
        exact hc j hjn) (fun j hj => by rw [hcell j (by omega)]; rfl) (fun j hj => hrow.frozen _) (fun v hv => by
        simp only [cs, List.mem_map] at hv
        obtain ⟨i, _, rfl⟩ := hv
        rfl)
      rw [hl] at hr
      exact hr
    · have h2 := World.cell?_setCells_in W.heap.size cs 0 W1 (fun j hj => by rw [hcell j (by omega)]; rfl) i (by omega)
      rw [h2]
      simp [cs]
    · have key : ∀ (vs : List Value) (o : Nat) (V : World), Below W.heap.size W V → Below W.heap.size W (V.setCells W.heap.size o vs) := by
        intro vs
        induction vs with
        | nil => intro o V hV; exact hV
        | cons v vs ih => intro o V hV; exact ih _ _ (hV.setCell (Nat.le_refl _) v)
      exact key cs 0 W1 hbel

theorem make22 (n : Nat) (hn : n ≤ 4096) (w : World) :
    (Instr.makeSlice 22 (.int .i64 (n : Int)) (.int .i64 (n : Int))).run Try.prog w = .ok (.slice (some ⟨w.heap.size, 0, none⟩) n n) (w.alloc (.cells (madeCells #[.string ⟨#[]⟩] n) 9)) :=
  run_make_row' 22 9 (.string ⟨#[]⟩) 16 Try.underlying22 Try.info9 rfl .i64 .i64 n (by omega) (by omega) w

set_option maxHeartbeats 1000000 in
theorem law3_some (w : World) (ad : Addr) (n cap : Nat) (H : Nat → ByteArray) (a1 : Option Addr) (m cap1 : Nat) (A : Nat → Option Addr) (L Cp : Nat → Nat) (S : Nat → Nat → ByteArray) (h : StrsAt w (some ad) n H) (h1 : ColsAt w a1 m A L Cp S) (hn : n ≤ 4096) (hm : m ≤ 4096) :
    Calls Try.prog 3 #[.slice (some ad) n cap, .slice a1 m cap1] w fun e w' => e = .returned (.bool true) ∧ Below w.heap.size w w' := by
  have hneq := run_neq_slice_nil_any (P := Try.prog) w 22 9 (some ad) n cap 0 0 Try.underlying22
  have hmk := make22 n hn w
  obtain ⟨W2, hcp, hs2, hb2⟩ := copied w (some ad) n cap H h
  have HH := hidden h
  have HK := hidden h1
  have HS2 := hidden hs2
  have HB2 := hidden hb2
  clear h h1 hs2 hb2
  go_enter Try.func3, Try.ntmps3
  go_wp2_with fail
  refine (zz10 w _ n cap H a1 m cap1 A L Cp S HH.out HK.out).mono ?_
  rintro e w' ⟨⟨r, rfl⟩, rfl⟩
  cases r with
  | false =>
    go_wp2_with fail
    go_ret
    exact ⟨rfl, Below.refl _ _⟩
  | true =>
    go_wp2_with fail
    refine (text11 w' _ n cap H a1 m cap1 A L Cp S HH.out HK.out).mono ?_
    rintro e w' ⟨⟨tx, rfl⟩, rfl⟩
    by_cases htx : 1048576 < tx
    · go_wp2_with fail
      go_ret
      exact ⟨rfl, Below.refl _ _⟩
    · go_wp2_with fail
      have HK2 := hidden (HK.out.below HB2.out (Nat.le_refl _))
      refine (kinds12 W2 a1 m cap1 A L Cp S HK2.out hm).mono ?_
      rintro e W3 ⟨rfl, hb3, f, hrow, hf⟩
      have HB3 := hidden hb3
      have HS3 := hidden (HS2.out.below hb3 (Nat.le_refl _))
      have HK3 := hidden (HK2.out.below hb3 (Nat.le_refl _))
      have HC3 := hidden (fun i (hi : i < m) => (⟨by rw [hrow.cell (by omega), (hf i hi).1], by rw [hrow.cell (by omega), (hf i hi).2.1], by rw [hrow.cell (by omega), (hf i hi).2.2]⟩ :
        W3.cell? ⟨W2.heap.size, i * 3, none⟩ = some (.string ⟨#[]⟩) ∧ W3.cell? ⟨W2.heap.size, i * 3 + 1, none⟩ = some (.slice (A i) (L i) (Cp i)) ∧ W3.cell? ⟨W2.heap.size, i * 3 + 2, none⟩ = some (.map none)))
      clear hb3 hrow hf
      go_wp2_with fail
      refine (zzfit13 W3 _ n _ H W2.heap.size m A L Cp S HS3.out HC3.out (fun i hi => HK3.out.row i hi) hn hm).mono ?_
      rintro e W4 ⟨g, bb, rfl, hfit, hb4⟩
      have HFIT := hidden hfit
      have HS4 := hidden (HS3.out.below hb4 (Nat.le_refl _))
      have HK4 := hidden (HK3.out.below hb4 (Nat.le_refl _))
      have HB := hidden ((HB2.out.trans (HB3.out.mono HB2.out.size)).trans (hb4.mono (Nat.le_trans HB2.out.size HB3.out.size)))
      clear hfit hb4 HC3 HS3 HK3 HS2 HK2 HB3 HB2 HH HK
      by_cases hm0 : m = 0
      · subst hm0
        have hg0 : g = 0 := by rcases HFIT.out with ⟨_, h, _⟩ | ⟨h, _⟩ <;> omega
        subst hg0
        go_wp2_with fail
        go_ret
        exact ⟨rfl, HB.out⟩
      · obtain ⟨hg, hmax, hfirst⟩ : g < m ∧ Hid (∀ i, i < m → named n H (L i) (S i) ≤ named n H (L g) (S g)) ∧ Hid (∀ i, i < g → named n H (L i) (S i) < named n H (L g) (S g)) := by
          rcases HFIT.out with ⟨h, _⟩ | ⟨h1, h2, h3, h4⟩
          · exact absurd h hm0
          · exact ⟨h1, h3, h4⟩
        have hmne : ((m : Int) == 0) = false := by rw [beq_eq_false_iff_ne]; omega
        obtain ⟨b1, off1, rfl, hcell⟩ := HK4.out.get hg
        clear HFIT
        go_wp2_with fail
        refine (named14 W4 _ n _ H (A g) (L g) (Cp g) (S g) HS4.out (HK4.out.row g hg)).mono ?_
        rintro e w5 ⟨rfl, q, rfl⟩
        obtain ⟨best, hbest⟩ : ∃ x, x = named n H (L g) (S g) := ⟨_, rfl⟩
        have hbl := named_le n H (L g) (S g)
        rw [← hbest] at hbl hmax hfirst ⊢
        clear hbest hcell
        go_wp2_with fail
        go_loopw [9, 10] (fun vi _ wr => ∃ k : Nat, k ≤ m ∧ vi = .int .i64 k ∧ ∃ q, wr = W4.drewN q) (fun i _ _ => m - (intOf i).toNat)
        case atStart => exact ⟨0, Nat.zero_le _, rfl, q, rfl⟩
        case round =>
          obtain ⟨k, hk, rfl, q2, rfl⟩ := hrel
          by_cases hlt : k < m
          · have hcell : W4.cell? ⟨b1, off1 + k, none⟩ = some (.slice (A k) (L k) (Cp k)) := by
              obtain ⟨b', off', he, hc⟩ := HK4.out.get hlt
              simp only [Option.some.injEq, Addr.mk.injEq, and_true] at he
              rw [he.1, he.2]; exact hc
            go_wp2_with fail
            refine (named14 _ _ n _ H (A k) (L k) (Cp k) (S k) (HS4.out.drewN q2) ((HK4.out.row k hlt).drewN q2)).mono ?_
            rintro e w6 ⟨rfl, q3, rfl⟩
            have hle : (named n H (L k) (S k) : Int) ≤ (best : Int) := by have := hmax.out k hlt; omega
            by_cases hkg : k < g
            · have hls : (named n H (L k) (S k) : Int) < (best : Int) := by have := hfirst.out k hkg; omega
              have hne : ((named n H (L k) (S k) : Int) == (best : Int)) = false := by rw [beq_eq_false_iff_ne]; omega
              have hkgz : (k : Int) < (g : Int) := by omega
              go_wp2_with fail
              go_roundw
              case rel => exact ⟨k + 1, by omega, by go_num, _, rfl⟩
              case measure => simp [intOf]; omega
            · have hkgz : ¬ (k : Int) < (g : Int) := by omega
              go_wp2_with fail
              go_roundw
              case rel => exact ⟨k + 1, by omega, by go_num, _, rfl⟩
              case measure => simp [intOf]; omega
          · go_wp2_with fail
            go_ret
            exact ⟨rfl, ⟨HB.out.os, HB.out.tape, HB.out.output, HB.out.size, HB.out.block⟩⟩
set_option maxHeartbeats 1000000 in
theorem law3_none (w : World) (n cap : Nat) (H : Nat → ByteArray) (a1 : Option Addr) (m cap1 : Nat) (A : Nat → Option Addr) (L Cp : Nat → Nat) (S : Nat → Nat → ByteArray) (h : StrsAt w none n H) (h1 : ColsAt w a1 m A L Cp S) (hn : n ≤ 4096) (hm : m ≤ 4096) :
    Calls Try.prog 3 #[.slice none n cap, .slice a1 m cap1] w fun e w' => e = .returned (.bool true) ∧ Below w.heap.size w w' := by
  have hneq := run_neq_slice_nil_any (P := Try.prog) w 22 9 none n cap 0 0 Try.underlying22
  have HH := hidden h
  have HK := hidden h1
  clear h h1
  go_enter Try.func3, Try.ntmps3
  go_wp2_with fail
  refine (zz10 w _ n cap H a1 m cap1 A L Cp S HH.out HK.out).mono ?_
  rintro e w' ⟨⟨r, rfl⟩, rfl⟩
  cases r with
  | false =>
    go_wp2_with fail
    go_ret
    exact ⟨rfl, Below.refl _ _⟩
  | true =>
    go_wp2_with fail
    refine (text11 w' _ n cap H a1 m cap1 A L Cp S HH.out HK.out).mono ?_
    rintro e w' ⟨⟨tx, rfl⟩, rfl⟩
    by_cases htx : 1048576 < tx
    · go_wp2_with fail
      go_ret
      exact ⟨rfl, Below.refl _ _⟩
    · go_wp2_with fail
      have HS2 := HH
      have HK2 := HK
      have HB2 := hidden (Below.refl w'.heap.size w')
      refine (kinds12 w' a1 m cap1 A L Cp S HK2.out hm).mono ?_
      rintro e W3 ⟨rfl, hb3, f, hrow, hf⟩
      have HB3 := hidden hb3
      have HS3 := hidden (HS2.out.below hb3 (Nat.le_refl _))
      have HK3 := hidden (HK2.out.below hb3 (Nat.le_refl _))
      have HC3 := hidden (fun i (hi : i < m) => (⟨by rw [hrow.cell (by omega), (hf i hi).1], by rw [hrow.cell (by omega), (hf i hi).2.1], by rw [hrow.cell (by omega), (hf i hi).2.2]⟩ :
        W3.cell? ⟨w'.heap.size, i * 3, none⟩ = some (.string ⟨#[]⟩) ∧ W3.cell? ⟨w'.heap.size, i * 3 + 1, none⟩ = some (.slice (A i) (L i) (Cp i)) ∧ W3.cell? ⟨w'.heap.size, i * 3 + 2, none⟩ = some (.map none)))
      clear hb3 hrow hf
      go_wp2_with fail
      refine (zzfit13 W3 _ n _ H w'.heap.size m A L Cp S HS3.out HC3.out (fun i hi => HK3.out.row i hi) hn hm).mono ?_
      rintro e W4 ⟨g, bb, rfl, hfit, hb4⟩
      have HFIT := hidden hfit
      have HS4 := hidden (HS3.out.below hb4 (Nat.le_refl _))
      have HK4 := hidden (HK3.out.below hb4 (Nat.le_refl _))
      have HB := hidden ((HB2.out.trans (HB3.out.mono HB2.out.size)).trans (hb4.mono (Nat.le_trans HB2.out.size HB3.out.size)))
      clear hfit hb4 HC3 HS3 HK3 HS2 HK2 HB3 HB2 HH HK
      by_cases hm0 : m = 0
      · subst hm0
        have hg0 : g = 0 := by rcases HFIT.out with ⟨_, h, _⟩ | ⟨h, _⟩ <;> omega
        subst hg0
        go_wp2_with fail
        go_ret
        exact ⟨rfl, HB.out⟩
      · obtain ⟨hg, hmax, hfirst⟩ : g < m ∧ Hid (∀ i, i < m → named n H (L i) (S i) ≤ named n H (L g) (S g)) ∧ Hid (∀ i, i < g → named n H (L i) (S i) < named n H (L g) (S g)) := by
          rcases HFIT.out with ⟨h, _⟩ | ⟨h1, h2, h3, h4⟩
          · exact absurd h hm0
          · exact ⟨h1, h3, h4⟩
        have hmne : ((m : Int) == 0) = false := by rw [beq_eq_false_iff_ne]; omega
        obtain ⟨b1, off1, rfl, hcell⟩ := HK4.out.get hg
        clear HFIT
        go_wp2_with fail
        refine (named14 W4 _ n _ H (A g) (L g) (Cp g) (S g) HS4.out (HK4.out.row g hg)).mono ?_
        rintro e w5 ⟨rfl, q, rfl⟩
        obtain ⟨best, hbest⟩ : ∃ x, x = named n H (L g) (S g) := ⟨_, rfl⟩
        have hbl := named_le n H (L g) (S g)
        rw [← hbest] at hbl hmax hfirst ⊢
        clear hbest hcell
        go_wp2_with fail
        go_loopw [9, 10] (fun vi _ wr => ∃ k : Nat, k ≤ m ∧ vi = .int .i64 k ∧ ∃ q, wr = W4.drewN q) (fun i _ _ => m - (intOf i).toNat)
        case atStart => exact ⟨0, Nat.zero_le _, rfl, q, rfl⟩
        case round =>
          obtain ⟨k, hk, rfl, q2, rfl⟩ := hrel
          by_cases hlt : k < m
          · have hcell : W4.cell? ⟨b1, off1 + k, none⟩ = some (.slice (A k) (L k) (Cp k)) := by
              obtain ⟨b', off', he, hc⟩ := HK4.out.get hlt
              simp only [Option.some.injEq, Addr.mk.injEq, and_true] at he
              rw [he.1, he.2]; exact hc
            go_wp2_with fail
            refine (named14 _ _ n _ H (A k) (L k) (Cp k) (S k) (HS4.out.drewN q2) ((HK4.out.row k hlt).drewN q2)).mono ?_
            rintro e w6 ⟨rfl, q3, rfl⟩
            have hle : (named n H (L k) (S k) : Int) ≤ (best : Int) := by have := hmax.out k hlt; omega
            by_cases hkg : k < g
            · have hls : (named n H (L k) (S k) : Int) < (best : Int) := by have := hfirst.out k hkg; omega
              have hne : ((named n H (L k) (S k) : Int) == (best : Int)) = false := by rw [beq_eq_false_iff_ne]; omega
              have hkgz : (k : Int) < (g : Int) := by omega
              go_wp2_with fail
              go_roundw
              case rel => exact ⟨k + 1, by omega, by go_num, _, rfl⟩
              case measure => simp [intOf]; omega
            · have hkgz : ¬ (k : Int) < (g : Int) := by omega
              go_wp2_with fail
              go_roundw
              case rel => exact ⟨k + 1, by omega, by go_num, _, rfl⟩
              case measure => simp [intOf]; omega
          · go_wp2_with fail
            go_ret
            exact ⟨rfl, ⟨HB.out.os, HB.out.tape, HB.out.output, HB.out.size, HB.out.block⟩⟩

set_option maxHeartbeats 1000000 in
theorem law3_far (w : World) (a : Option Addr) (n cap : Nat) (H : Nat → ByteArray) (a1 : Option Addr) (m cap1 : Nat) (A : Nat → Option Addr) (L Cp : Nat → Nat) (S : Nat → Nat → ByteArray) (h : StrsAt w a n H) (h1 : ColsAt w a1 m A L Cp S) (hf : 4096 < n ∨ 4096 < m) :
    Calls Try.prog 3 #[.slice a n cap, .slice a1 m cap1] w fun e w' => e = .returned (.bool true) ∧ Below w.heap.size w w' := by
  have HH := hidden h
  have HK := hidden h1
  clear h h1
  by_cases hn : 4096 < n
  · clear hf
    go_enter Try.func3, Try.ntmps3
    go_wp2_with fail
    refine (zz10 w _ n cap H a1 m cap1 A L Cp S HH.out HK.out).mono ?_
    rintro e w' ⟨⟨r, rfl⟩, rfl⟩
    cases r with
    | false =>
      go_wp2_with fail
      go_ret
      exact ⟨rfl, Below.refl _ _⟩
    | true =>
      go_wp2_with fail
      go_ret
      exact ⟨rfl, Below.refl _ _⟩
  · have hm : 4096 < m := by omega
    clear hf
    go_enter Try.func3, Try.ntmps3
    go_wp2_with fail
    refine (zz10 w _ n cap H a1 m cap1 A L Cp S HH.out HK.out).mono ?_
    rintro e w' ⟨⟨r, rfl⟩, rfl⟩
    cases r with
    | false =>
      go_wp2_with fail
      go_ret
      exact ⟨rfl, Below.refl _ _⟩
    | true =>
      go_wp2_with fail
      go_ret
      exact ⟨rfl, Below.refl _ _⟩

theorem law3 (w : World) (a : Option Addr) (n cap : Nat) (H : Nat → ByteArray) (a1 : Option Addr) (m cap1 : Nat) (A : Nat → Option Addr) (L Cp : Nat → Nat) (S : Nat → Nat → ByteArray) (h : StrsAt w a n H) (h1 : ColsAt w a1 m A L Cp S) :
    Calls Try.prog 3 #[.slice a n cap, .slice a1 m cap1] w fun e w' => e = .returned (.bool true) ∧ Below w.heap.size w w' := by
  by_cases hf : 4096 < n ∨ 4096 < m
  · exact law3_far w a n cap H a1 m cap1 A L Cp S h h1 hf
  · cases a with
    | none => exact law3_none w n cap H a1 m cap1 A L Cp S h h1 (by omega) (by omega)
    | some ad => exact law3_some w ad n cap H a1 m cap1 A L Cp S h h1 (by omega) (by omega)
end Go.Proofs.Qxb6603170a
