/-
  FnAddHoldsFirstRefusalsInLineOrder (8): the walk.
-/
import Derived.Test.Qxb6603170aInsB
import Derived.Test.Qxb6603170aAddK
namespace Go.Proofs.Qxb6603170a
open Go.RowKit
set_option linter.unusedSimpArgs false
set_option linter.unusedVariables false
set_option maxRecDepth 100000

theorem make47z (w : World) :
    (Instr.makeSlice 47 (.int .i64 0) (.int .i64 0)).run Try.prog w = .ok (.slice (some ⟨w.heap.size, 0, none⟩) 0 0) (w.alloc (.cells (madeCells #[.int .i64 0] 0) 3)) := by
  obtain ⟨i0, hi, hz0, hz1, hz2⟩ := info_parts Try.info3'
  have h := run_make (P := Try.prog) w 47 3 i0 (.int .i64 0) Try.underlying47 hi hz0 .i64 .i64 0 0 (by omega) (by omega) (by omega) (by omega)
  rw [hz1] at h
  exact h

theorem ownsRow_keep {w w' : World} {base e size n : Nat} {v : Value} {xs : List Value} (h : w.ownsRow base e size v n xs) (hb : Below w.heap.size w w') : w'.ownsRow base e size v n xs := by
  obtain ⟨h1, hr⟩ := h
  refine ⟨h1, ?_⟩
  rcases hr with q | ⟨g, cap, cur, rfl, hg, hh, hrest⟩
  · exact Or.inl q
  · have hlt : g < w.heap.size := by
      rcases Nat.lt_or_ge g w.heap.size with q | q
      · exact q
      · rw [Array.getElem?_eq_none q] at hh; cases hh
    exact Or.inr ⟨g, cap, cur, rfl, hg, (hb.block g hlt).trans hh, hrest⟩
theorem Own.keep {w w' : World} {fb n : Nat} {R : Nat → Nat} {u : Bool} (h : Own w fb n R u) (hb : Below w.heap.size w w') : Own w' fb n R u := by
  have hl := h.lt
  obtain ⟨v, hc, ho⟩ := h.list
  exact ⟨⟨v, (hb.cell (by exact hl)).trans hc, ownsRow_keep ho hb⟩, (hb.cell (by exact hl)).trans h.c1, fun o => (hb.frozen (by exact hl)).trans (h.fz o)⟩
theorem Apart.keep {w w' : World} {fb mb : Nat} (h : Apart w fb mb) (hl : fb < w.heap.size) (hb : Below w.heap.size w w') : Apart w' fb mb := fun v hv => h v (by rw [← hv]; exact (hb.cell (by exact hl)).symm)
theorem Own.apart {w : World} {fb n mb : Nat} {R : Nat → Nat} {u : Bool} (h : Own w fb n R u) (hm : w.heap.size ≤ mb) : Apart w fb mb := fun v hv e => by
  obtain ⟨v', hc, ho⟩ := h.list
  rw [hc] at hv
  obtain rfl := Option.some.inj hv
  have := (ho.lt mb e).2
  omega
theorem IntsAt.keep {w w' : World} {mb c : Nat} {M : Nat → Nat} (h : IntsAt w mb c M) (hb : w'.heap[mb]? = w.heap[mb]?) : IntsAt w' mb c M := fun k hk => (World.cell?_of_block (w := w) (by exact hb)).trans (h k hk)
theorem MStep.pos {L : Nat → Int} {i c c' : Nat} {M M' : Nat → Nat} (s : MStep L i c M c' M') : 0 < c' := by
  obtain ⟨p, hs, ⟨h1, rfl, rfl⟩ | ⟨h1, rfl, rfl⟩⟩ := s
  · have := hs.le; omega
  · omega

/-- Where the model lies. -/
structure Kept (w : World) (fb mb c : Nat) (M : Nat → Nat) : Prop where
  lt : mb < w.heap.size
  gt : fb < mb
  apart : Apart w fb mb
  ints : IntsAt w mb c M
theorem Kept.keep {w w' : World} {fb mb c : Nat} {M : Nat → Nat} (h : Kept w fb mb c M) (hb : Below w.heap.size w w') : Kept w' fb mb c M :=
  ⟨Nat.lt_of_lt_of_le h.lt hb.size, h.gt, h.apart.keep (Nat.lt_trans h.gt h.lt) hb, h.ints.keep (hb.block mb h.lt)⟩
theorem Kept.spared {w w' : World} {fb mb c : Nat} {M : Nat → Nat} (h : Kept w fb mb c M) (hs : Spares fb w w') (hb : Below fb w w') : Kept w' fb mb c M := by
  obtain ⟨e1, e2⟩ := hs mb h.lt (by have := h.gt; omega) h.apart
  exact ⟨Nat.lt_of_lt_of_le h.lt hb.size, h.gt, e2, h.ints.keep e1⟩

set_option maxHeartbeats 4000000 in
theorem addh_in (w : World) (a : Option Addr) (n cap : Nat) (F : Nat → ByteArray) (L : Nat → Int) (G Q : Nat → ByteArray) (h : RefsAt w a n F L G Q) (hn : n ≤ 4096) :
    Calls Try.prog 8 #[.slice a n cap] w fun e w' => e = .returned (.bool true) ∧ Below w.heap.size w w' := by
  have HH := hidden h
  clear h
  go_enter Try.func8, Try.ntmps8
  go_wp2_with fail
  refine (zz28 w a n cap F L G Q HH.out).mono ?_
  rintro e w' ⟨⟨r, rfl⟩, rfl⟩
  cases r with
  | false =>
    go_wp2_with fail
    go_ret
    exact ⟨rfl, Below.refl _ _⟩
  | true =>
    go_wp2_with fail
    refine (bytes18 w' a n cap F L G Q HH.out).mono ?_
    rintro e w' ⟨⟨tx, rfl⟩, rfl⟩
    by_cases htx : 1048576 < tx
    · go_wp2_with fail
      go_ret
      exact ⟨rfl, Below.refl _ _⟩
    · go_wp2_with fail
      refine (fit19 w' a n cap F L G Q HH.out).mono ?_
      rintro e w' ⟨⟨r, rfl, hfit⟩, rfl⟩
      have HF := hidden hfit
      clear hfit
      cases r with
      | false =>
        go_wp2_with fail
        go_ret
        exact ⟨rfl, Below.refl _ _⟩
      | true =>
        go_wp2_with fail
        refine (mk20 w' a n cap F L G Q HH.out hn).mono ?_
        rintro e w1 ⟨rfl, hM⟩
        have hl := HF.out (by first | rfl | trivial)
        obtain ⟨P, hP⟩ : ∃ P, P = w'.heap.size := ⟨_, rfl⟩
        rw [← hP] at hM ⊢
        have HM := hidden hM
        have HLn := hidden hl
        have HPe := hidden hP
        clear hM hl HF hP
        go_wp2_with fail
        refine (new21 w1 _ none 0 0 false rfl).mono ?_
        rintro e w2 ⟨rfl, rfl⟩
        have hO0 := Own.start w1 (fun k => P + 1 + k)
        have hB0 := (Below.refl w1.heap.size w1).alloc (Nat.le_refl _) (.cells #[.slice none 0 0, .bool false] 54)
        generalize w1.alloc (.cells #[.slice none 0 0, .bool false] 54) = w2 at hO0 hB0 ⊢
        obtain ⟨fb, hfb⟩ : ∃ x, x = w1.heap.size := ⟨_, rfl⟩
        have HFB := hidden hfb
        have hPf : P < fb := by rw [hfb, HM.out.size]; omega
        rw [← hfb] at hO0 hB0 ⊢
        have hfl := hO0.lt
        have hk2 := (Below.refl w2.heap.size w2).alloc (Nat.le_refl _) (.cells (madeCells #[.int .i64 0] 0) 3)
        have HO0 := hidden (hO0.keep hk2)
        have HB0 := hidden (hB0.trans (hk2.mono (Nat.le_of_lt hfl)))
        have HK0 : Hid (Kept (w2.alloc (.cells (madeCells #[.int .i64 0] 0) 3)) fb w2.heap.size 0 (fun k => k)) := ⟨by simp, hfl, (hO0.apart (Nat.le_refl _)).keep hfl hk2, fun k hk => absurd hk (Nat.not_lt_zero _)⟩
        have hmk := make47z w2
        clear hfb hO0 hB0 hk2
        go_wp2_with fail
        clear hmk
        generalize w2.alloc (.cells (madeCells #[.int .i64 0] 0) 3) = w3 at HO0 HB0 HK0 ⊢
        generalize w2.heap.size = mb0 at HK0 ⊢
        clear hfl
        go_loopw [5, 6] (fun vm v wr => ∃ i : Nat, i ≤ n ∧ v = .int .i64 i ∧ ∃ m I u c M mb cm, vm = .slice (some ⟨mb, 0, none⟩) c cm ∧ Hid (Held L i m I u ∧ Model L i c M ∧ Has c M m I) ∧ Hid (Own wr fb m (fun k => P + 1 + I k) u) ∧ Hid (Below fb w1 wr) ∧ Hid (Kept wr fb mb c M)) (fun _ v _ => n - (intOf v).toNat)
        case atStart => exact ⟨0, Nat.zero_le _, rfl, 0, fun k => k, false, 0, fun k => k, mb0, 0, rfl, ⟨Held.start _ _, Model.start _ _, fun k hk => absurd hk (Nat.not_lt_zero _)⟩, HO0.out, HB0.out, HK0.out⟩
        case round =>
          clear HO0 HB0 HK0
          obtain ⟨i, hi, rfl, m, I, u, c, M, mb, cm, rfl, HD, HO, HB, HK⟩ := hrel
          by_cases hlt : i < n
          · have d0 := HM.out.full.cell hlt
            rw [← HB.out.cell (by exact hPf)] at d0
            have hiz : (i : Int) < (n : Int) := by omega
            have hi0 : (0 : Int) ≤ (i : Int) := by omega
            go_wp2_with fail
            refine (zzadd29 wr fb m (fun k => P + 1 + I k) (fun k => L (I k)) u (P + 1 + i) (L i) HO.out (by rw [HFB.out]; exact HM.out.lines HLn.out (by rw [← HFB.out]; exact HB.out) (fun k hk => by have := HD.out.1.lt k hk; omega)) HD.out.1.cnt (by rw [HFB.out, HM.out.size]; omega)
              ((HM.out.refs i hlt).below HB.out (by rw [HFB.out, HM.out.size]; omega)).c1 (HLn.out i hlt).1 (HLn.out i hlt).2).mono ?_
            rintro e w4 ⟨rfl, hA, hB4, hS4⟩
            obtain ⟨m', I', u', hS, hO4⟩ := AddOut.step hA
            have hK4 := HK.out.spared hS4 hB4
            have hD' := HD.out.1.step hS
            have hm0 := hD'.pos (Nat.succ_pos _)
            have hm2 := hD'.cnt
            have hB14 := HB.out.trans hB4
            have hR4 := HH.out.below (HM.out.below.trans (hB14.mono (Nat.le_of_lt hPf))) (Nat.le_of_eq HPe.out.symm)
            have HD' := hidden hD'
            have HO4 := hidden hO4
            have HB4 := hidden hB14
            have HK4 := hidden hK4
            have HR4 := hidden hR4
            have HS := hidden hS
            clear hA hB4 hS4 hS hO4 hK4 hD' hB14 hR4 HO HB HK d0
            go_wp2_with fail
            refine (insb30 w4 a n cap F L G Q HR4.out hn mb c cm M HK4.out.ints HD.out.2.1.cap (fun k hk => by have := HD.out.2.1.lt k hk; omega) i hlt).mono ?_
            rintro e w5 ⟨c', M', mb', cm', rfl, hMS, hI5, hB5, hmb⟩
            have hMd := HD.out.2.1.step hMS
            have hHs := Has.step HD.out.1 HD.out.2.1 HD.out.2.2 hMS HS.out
            have hO5 := HO4.out.keep hB5
            have hb5 : Below fb w4 w5 := hB5.mono (Nat.le_of_lt HO4.out.lt)
            have hK5 : Kept w5 fb mb' c' M' := by
              have hl5 : mb' < w5.heap.size := World.block_lt_of_cell? _ _ (hI5 0 hMS.pos)
              rcases hmb with rfl | hge
              · exact ⟨hl5, HK4.out.gt, HK4.out.apart.keep HO4.out.lt hB5, hI5⟩
              · exact ⟨hl5, Nat.lt_of_lt_of_le HO4.out.lt hge, (HO4.out.apart hge).keep HO4.out.lt hB5, hI5⟩
            have HMd := hidden hMd
            have HHs := hidden hHs
            have HO5 := hidden hO5
            have HB5 := hidden (HB4.out.trans hb5)
            have HK5 := hidden hK5
            clear hMS hI5 hB5 hmb hMd hHs hO5 hb5 hK5 HO4 HB4 HK4 HR4 HS HD
            obtain ⟨blk, cp, V, hbk, _, hLs⟩ := HO5.out.lst hm0
            have e0 := hLs.c0
            have e1 := hLs.c1
            have HLs := hidden hLs
            clear hLs
            go_wp2_with fail
            refine (list24 w5 fb _ m' cp e0).mono ?_
            rintro e w5' ⟨rfl, rfl⟩
            obtain ⟨O, hOe⟩ : ∃ x, x = w5'.heap.size := ⟨_, rfl⟩
            have hmk := make37 m' (by omega) w5'
            rw [← hOe] at hmk
            have hR0 := (World.rowIs_made w5' (.pointer none) m' 39).congr (g := fun k => if k < 0 then .pointer (some ⟨P + 1 + I' k, 0, none⟩) else .pointer none) fun k hk => by simp
            have hB0 := (Below.refl w5'.heap.size w5').alloc (Nat.le_refl _) (.cells (madeCells #[.pointer none] m') 39)
            have hZ0 : (w5'.alloc (.cells (madeCells #[.pointer none] m') 39)).heap.size = O + 1 := by simp [hOe]
            have hbO : blk < O := by rw [hOe]; exact World.block_lt_of_cell? _ _ (HLs.out.at hm0)
            rw [← hOe] at hR0 hB0
            have hfO : fb < O := by omega
            have HR0 := hidden hR0
            have HB0 := hidden hB0
            have HZ0 := hidden hZ0
            have HOe := hidden hOe
            clear hR0 hB0 hZ0 hOe
            go_wp2_with fail
            clear hmk
            generalize w5'.alloc (.cells (madeCells #[.pointer none] m') 39) = w6 at HR0 HB0 HZ0 ⊢
            go_loopw [9] (fun v wr => ∃ k : Nat, k ≤ m' ∧ v = .int .i64 k ∧ Hid (wr.rowIs O 39 m' (fun t => if t < k then .pointer (some ⟨P + 1 + I' t, 0, none⟩) else .pointer none)) ∧ Hid (Below O w5' wr) ∧ Hid (wr.heap.size = O + 1)) (fun v _ => m' - (intOf v).toNat)
            case atStart => exact ⟨0, Nat.zero_le _, rfl, HR0.out, HB0.out, HZ0.out⟩
            case round =>
              clear HR0 HB0 HZ0
              obtain ⟨k, hk, rfl, HR, HB, HZ⟩ := hrel
              by_cases hlt2 : k < m'
              · have d0 := HLs.out.at hlt2
                rw [← HB.out.cell (by exact hbO)] at d0
                have d1 := HR.out.cell hlt2
                have d2 := HR.out.frozen k
                have HR2 := hidden (copy_step (X := fun t => .pointer (some ⟨P + 1 + I' t, 0, none⟩)) HR.out hlt2)
                have HB2 := hidden (HB.out.setCell (p := ⟨O, k, none⟩) (Nat.le_refl _) (.pointer (some ⟨P + 1 + I' k, 0, none⟩)))
                have HZ2 : Hid ((wr.setCell ⟨O, k, none⟩ (.pointer (some ⟨P + 1 + I' k, 0, none⟩))).heap.size = O + 1) := by show _ = _; simpa using HZ.out
                rw [if_neg (Nat.lt_irrefl _)] at d1
                clear HR HB HZ
                go_wp2_with fail
                go_roundw
                case rel => exact ⟨k + 1, by omega, by go_num, HR2.out, HB2.out, HZ2.out⟩
                case measure => simp [intOf]; omega
              · obtain rfl : k = m' := by omega
                have e1' := e1
                rw [← HB.out.cell (by exact hfO)] at e1'
                go_wp2_with fail
                refine (unord25 wr fb u' e1').mono ?_
                rintro e wr' ⟨rfl, rfl⟩
                go_wp2_with fail
                refine (new21 wr' _ _ k k u' rfl).mono ?_
                rintro e w7 ⟨rfl, rfl⟩
                rw [HZ.out]
                have hrow : wr'.rowIs O 39 k (fun t => .pointer (some ⟨P + 1 + I' t, 0, none⟩)) := HR.out.congr fun t ht => by rw [if_pos ht]
                have hL7 : Lst (wr'.alloc (.cells #[.slice (some ⟨O, 0, none⟩) k k, .bool u'] 54)) (O + 1) O k k (fun t => P + 1 + I' t) u' (fun t => .pointer (some ⟨P + 1 + I' t, 0, none⟩)) := by
                  have e := HZ.out
                  exact ⟨by rw [← e]; simp, by rw [← e]; simp, fun o => by rw [← e]; simp, hrow.alloc _, fun t ht => rfl, by omega, Nat.le_refl _⟩
                have hB7 : Below O w5' (wr'.alloc (.cells #[.slice (some ⟨O, 0, none⟩) k k, .bool u'] 54)) := HB.out.alloc (by rw [HZ.out]; omega) _
                clear HR HB HZ hrow
                generalize wr'.alloc (.cells #[.slice (some ⟨O, 0, none⟩) k k, .bool u'] 54) = w7 at hL7 hB7 ⊢
                have hLn := HM.out.lines (m := k) (I := I') HLn.out (by rw [← HFB.out]; exact HB5.out.trans (hB7.mono (Nat.le_of_lt hfO))) (fun t ht => by have := HD'.out.lt t ht; omega)
                have hK7 : Keyed w7 O k (fun t => P + 1 + I' t) (fun t => L (I' t)) := ⟨fun t ht => by have := hLn.lt t ht; have := HFB.out; omega, hLn.cell, hLn.lo, hLn.hi⟩
                have HL7 := hidden hL7
                have HB7 := hidden hB7
                have HK7 := hidden hK7
                clear hL7 hB7 hK7 hLn
                go_wp2_with fail
                refine (zztrim22 w7 (O + 1) O k k _ (fun t => L (I' t)) u' _ HL7.out (by omega) (fun _ => HK7.out)).mono ?_
                rintro e w8 ⟨rfl, g, hT⟩
                obtain ⟨V8, hL8, _⟩ := hT.lst
                obtain ⟨hop, hmin⟩ := HD'.out.opens HMd.out HHs.out hT.dom hT.srt hT.same
                rw [hmin] at hL8
                have hB8 : Below O w5' w8 := HB7.out.trans (hT.two.below (by omega) (Nat.le_refl _))
                have hgot : ∀ t, t < c' → w8.cell? ⟨O, t, none⟩ = some (.pointer (some ⟨P + 1 + M' t, 0, none⟩)) := fun t ht => by
                  rw [← (hop t ht).2]; exact hL8.at ht
                have hptr : ∀ t, t < n → w8.cell? ⟨P, t, none⟩ = some (.pointer (some ⟨P + 1 + t, 0, none⟩)) := fun t ht => by
                  rw [hB8.cell (by show P < O; omega), HB5.out.cell (by exact hPf)]; exact HM.out.full.cell ht
                have hc0 := hL8.c0
                have hk8 : Below w5'.heap.size w5' w8 := by rw [← HOe.out]; exact hB8
                have hc1 : c' ≤ 1000 := HMd.out.cap
                have HG := hidden hgot
                have HPt := hidden hptr
                have HMn := hidden (fun t (ht : t < c') => (show M' t < n by have := HMd.out.lt t ht; omega))
                have HO8 := hidden (HO5.out.keep hk8)
                have HK8 := hidden (HK5.out.keep hk8)
                have HB8 := hidden (HB5.out.trans (hB8.mono (Nat.le_of_lt hfO)))
                clear hT hL8 hop hmin hB8 hgot hptr hk8 HL7 HB7 HK7 HO5 HK5 HB5 HLs e0 e1 e1' HOe
                go_wp2_with fail
                refine (list24 w8 (O + 1) _ c' k hc0).mono ?_
                rintro e w8' ⟨rfl, rfl⟩
                have hnn : ((c' : Int) != (c' : Int)) = false := by simp
                go_wp2_with fail
                go_loopw [12] (fun v wr => ∃ t : Nat, t ≤ c' ∧ v = .int .i64 t ∧ ∃ q, wr = w8'.drewN q) (fun v _ => c' - (intOf v).toNat)
                case atStart => exact ⟨0, Nat.zero_le _, rfl, 0, rfl⟩
                case round =>
                  obtain ⟨t, ht, rfl, q, rfl⟩ := hrel
                  by_cases hlt3 : t < c'
                  · have d0 := HG.out t hlt3
                    have d1 := HK8.out.ints t hlt3
                    have hMn := HMn.out t hlt3
                    have d2 := HPt.out (M' t) hMn
                    have hpn := neq_same (P + 1 + M' t)
                    have hz0 : (0 : Int) ≤ (t : Int) := by omega
                    have hz1 : (t : Int) < (c' : Int) := by omega
                    have hz2 : (0 : Int) ≤ (M' t : Int) := by omega
                    have hz3 : (M' t : Int) < (n : Int) := by omega
                    go_wp2_with fail
                    go_quiet (fail)
                    go_wp2_with fail
                    go_roundw
                    case rel => exact ⟨t + 1, by omega, by go_num, _, rfl⟩
                    case measure => simp [intOf]; omega
                  · go_wp2_with fail
                    go_roundw
                    case rel => exact ⟨i + 1, by omega, by go_num, k, I', u', c', M', mb', cm', rfl, ⟨HD'.out, HMd.out, HHs.out⟩, HO8.out.drewN q, ⟨HB8.out.os, HB8.out.tape, HB8.out.output, HB8.out.size, HB8.out.block⟩, ⟨HK8.out.lt, HK8.out.gt, HK8.out.apart, HK8.out.ints⟩⟩
                    case measure => simp [intOf]; omega
          · obtain rfl : i = n := by omega
            have HPr : Hid (∀ t, t < i → wr.cell? ⟨P, t, none⟩ = some (.pointer (some ⟨P + 1 + t, 0, none⟩))) := fun t ht => by
              rw [HB.out.cell (by exact hPf)]; exact HM.out.full.cell ht
            have HRr : Hid (∀ t, t < i → RefB wr (P + 1 + t) (F t) (L t) (G t) (Q t)) := fun t ht => (HM.out.refs t ht).below HB.out (by rw [HFB.out, HM.out.size]; omega)
            have HBw := hidden (HM.out.below.trans (HB.out.mono (Nat.le_of_lt hPf)))
            have HHr := hidden (HH.out.below HBw.out (Nat.le_of_eq HPe.out.symm))
            clear HD HO HB HM HLn HK
            go_wp2_with fail
            refine (un26 _ a i cap F L G Q HHr.out hn P i (fun t => P + 1 + t) HPr.out HRr.out).mono ?_
            rintro e w8 ⟨rfl, q3, rfl⟩
            go_wp2_with fail
            go_ret
            exact ⟨rfl, by have := HPe.out; subst this; exact ⟨HBw.out.os, HBw.out.tape, HBw.out.output, HBw.out.size, HBw.out.block⟩⟩

set_option maxHeartbeats 1000000 in
theorem addh8 (w : World) (a : Option Addr) (n cap : Nat) (F : Nat → ByteArray) (L : Nat → Int) (G Q : Nat → ByteArray) (h : RefsAt w a n F L G Q) :
    Calls Try.prog 8 #[.slice a n cap] w fun e w' => e = .returned (.bool true) ∧ Below w.heap.size w w' := by
  by_cases hn : n ≤ 4096
  · exact addh_in w a n cap F L G Q h hn
  · have HH := hidden h
    have hn' : 4096 < n := by omega
    clear h
    go_enter Try.func8, Try.ntmps8
    go_wp2_with fail
    refine (zz28 w a n cap F L G Q HH.out).mono ?_
    rintro e w' ⟨⟨r, rfl⟩, rfl⟩
    cases r with
    | false =>
      go_wp2_with fail
      go_ret
      exact ⟨rfl, Below.refl _ _⟩
    | true =>
      go_wp2_with fail
      go_ret
      exact ⟨rfl, Below.refl _ _⟩
end Go.Proofs.Qxb6603170a
