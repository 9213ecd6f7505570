/-
  symMergeCmpFunc (41): two elements or more on either side: the search, the rotation, the two halves by the induction's hypothesis.
-/
import Derived.Test.Qxb6603170aSym1
import Derived.Deep.DeepCutAuto
namespace Go.Proofs.Qxb6603170a
open Go.RowKit
set_option linter.unusedSimpArgs false
set_option linter.unusedVariables false
set_option maxRecDepth 100000

/-- WHAT symMerge DOES between a and b, from whatever row. -/
def SymOK (w0 : World) (blk off n cap : Nat) (R : Nat → Nat) (key : Nat → Int) (a m b : Nat) : Prop :=
  ∀ (f : Nat → Nat) (w : World), Sw w0 blk off n R f w → Dom n f → Srt key f a m → Srt key f m b → LR f a m b →
    Calls Try.prog 41 #[.slice (some ⟨blk, off, none⟩) n cap, .int .i64 a, .int .i64 m, .int .i64 b, .func (.func 37) #[] #[]] w fun e w' => e = .returned (.tuple #[]) ∧ ∃ g, Sw w0 blk off n R g w' ∧ Sub a b f g ∧ Srt key g a b

theorem rot_triv {s m e : Nat} (f : Nat → Nat) (h1 : s ≤ m) (h2 : m ≤ e) (h : m ≤ s ∨ e ≤ m) : rotF s m e f = f := by
  funext k
  unfold rotF
  rcases h with h | h
  · have : s = m := by omega
    subst this
    by_cases hk : s ≤ k ∧ k < s + (e - s)
    · rw [if_pos hk]; congr 1; omega
    · rw [if_neg hk, if_neg (by omega)]
  · have : e = m := by omega
    subst this
    rw [if_neg (by omega)]
    by_cases hk : s + (e - e) ≤ k ∧ k < e
    · rw [if_pos hk]; congr 1; omega
    · rw [if_neg hk]

set_option maxHeartbeats 4000000 in
theorem sym_wide (w0 : World) (blk off n cap : Nat) (R : Nat → Nat) (key : Nat → Int) (a m b : Nat) (hK : Keyed w0 blk n R key) (hn : n ≤ 1000000) (ham : a + 1 < m) (hmb : m + 1 < b) (hbn : b ≤ n)
    (ih : ∀ a' m' b', b' - a' < b - a → a' < m' → m' < b' → b' ≤ n → SymOK w0 blk off n cap R key a' m' b') : SymOK w0 blk off n cap R key a m b := by
  intro f w h hd hs1 hs2 hlr
  obtain ⟨md, hmd⟩ : ∃ c : Nat, c = (a + b) / 2 := ⟨_, rfl⟩
  have md1 : 2 * md ≤ a + b := by omega
  have md2 : a + b ≤ 2 * md + 1 := by omega
  have ec : ((a : Int) + (b : Int)) / 2 = (md : Int) := by omega
  have EC := hidden ec
  clear hmd ec
  have HS := hidden h
  have HK := hidden hK
  have HD := hidden hd
  have HT1 := hidden hs1
  have HT2 := hidden hs2
  have HL := hidden hlr
  have HI := hidden ih
  clear h hK hd hs1 hs2 hlr ih
  have hne : ((m : Int) - (a : Int) == 1) = false := by rw [beq_eq_false_iff_ne]; omega
  have hne2 : ((b : Int) - (m : Int) == 1) = false := by rw [beq_eq_false_iff_ne]; omega
  go_enter Try.func41, Try.ntmps41
  go_upto_if 140 with (fail)
  rw [EC.out]
  go_cut [20, 21] (fun vs vr wr => ∃ s r : Nat, vs = .int .i64 s ∧ vr = .int .i64 r ∧ s ≤ r ∧ a ≤ s ∧ r ≤ m ∧ r ≤ md ∧ md + m ≤ s + b ∧ (s = a ∨ s + b = md + m) ∧ (r = m ∨ r = md) ∧ wr = w)
  case first =>
    as_aux_lemma =>
      by_cases hmm : md < m
      · have hmz : (md : Int) < (m : Int) := by omega
        go_wp2
        go_meet
        case rel => exact ⟨md + m - b, md, by go_num, rfl, by omega, by omega, by omega, by omega, by omega, by omega, by omega, rfl⟩
      · have hmz : ¬ (md : Int) < (m : Int) := by omega
        go_wp2
        go_meet
        case rel => exact ⟨a, m, rfl, rfl, by omega, by omega, by omega, by omega, by omega, by omega, by omega, rfl⟩
  case rest =>
    obtain ⟨lo, hi, rfl, rfl, g1, g2, g3, g4, g5, g6, g7, rfl⟩ := hcut
    go_wp2
    go_loopw [20, 21] (fun vs vr wr => ∃ s r : Nat, vs = .int .i64 s ∧ vr = .int .i64 r ∧ lo ≤ s ∧ s ≤ r ∧ r ≤ hi ∧ Hid (∀ k, lo ≤ k → k < s → lx key (f k) (f (md + m - 1 - k))) ∧ Hid (∀ k, r ≤ k → k < hi → lx key (f (md + m - 1 - k)) (f k)) ∧ Hid (Sw w0 blk off n R f wr)) (fun i j _ => (intOf j - intOf i).toNat)
    case atStart => exact ⟨lo, hi, rfl, rfl, Nat.le_refl _, by omega, Nat.le_refl _, fun k h1 h2 => by omega, fun k h1 h2 => by omega, HS.out⟩
    case round =>
      clear HS
      obtain ⟨s, r, rfl, rfl, hs, hsr, hr, HA, HB, HS⟩ := hrel
      by_cases hlt : s < r
      · obtain ⟨c, hc⟩ : ∃ c : Nat, c = (s + r) / 2 := ⟨_, rfl⟩
        have hci : s ≤ c := by omega
        have hcj : c < r := by omega
        have ec : ((s : Int) + (r : Int)) / 2 = (c : Int) := by omega
        have E2 := hidden ec
        clear hc ec
        obtain ⟨d, hdd⟩ : ∃ d : Nat, d = md + m - 1 - c := ⟨_, rfl⟩
        have hd1 : m ≤ d := by omega
        have hd2 : d < b := by omega
        have ed : (md : Int) + (m : Int) - 1 - (c : Int) = (d : Int) := by omega
        have E3 := hidden ed
        have HDD := hidden hdd
        clear ed hdd
        have c1 := HS.out.cell c (by omega)
        have c2 := HS.out.cell d (by omega)
        have hcmp := cmpAt HS.out HK.out HD.out (i := d) (j := c) (by omega) (by omega)
        have hx1 : (c : Int) < (n : Int) := by omega
        have hx2 : (d : Int) < (n : Int) := by omega
        have hx3 : (0 : Int) ≤ (c : Int) := by omega
        have hx4 : (0 : Int) ≤ (d : Int) := by omega
        have hx5 : (c : Int) + (d : Int) = (md : Int) + (m : Int) - 1 := by have := HDD.out; omega
        have HX5 := hidden hx5
        clear hx5
        go_wp2_with fail
        rw [E2.out]
        by_cases hlv : key (f d) < key (f c)
        · as_aux_lemma =>
            have hdl : decide (key (f d) - key (f c) < 0) = true := decide_eq_true (by omega)
            have hdl2 : key (f d) - key (f c) < 0 := by omega
            have he3 : (md : Int) + (m : Int) - 1 - (c : Int) = (d : Int) := E3.out
            go_quiet ((go_at_call 37; exact Calls.quiet_of (hcmp _)))
            have HS2 := hidden (HS.out.drewN nq)
            clear HS c1 c2 hcmp he3
            generalize wr.drewN nq = w2 at HS2 ⊢
            go_wp2
            go_roundw
            case rel =>
              refine ⟨s, c, rfl, rfl, hs, hci, by omega, HA.out, fun k h1 h2 => ?_, HS2.out⟩
              by_cases e : k = c
              · rw [e, ← HDD.out]; exact lx_of_key hlv
              · have e1 := HT1.out c k (by omega) (by omega) (by omega)
                have e2 := HT2.out (md + m - 1 - k) d (by omega) (by have := HDD.out; omega) hd2
                exact lx_trans e2 (lx_trans (lx_of_key hlv) e1)
            case measure => simp [intOf]; omega
        · as_aux_lemma =>
            have hdl : decide (key (f d) - key (f c) < 0) = false := decide_eq_false (by omega)
            have hdl2 : ¬ key (f d) - key (f c) < 0 := by omega
            have he3 : (md : Int) + (m : Int) - 1 - (c : Int) = (d : Int) := E3.out
            have HLE := hidden (lx_of_not (HL.out c d (by omega) (by omega) hd1 hd2) hlv)
            go_quiet ((go_at_call 37; exact Calls.quiet_of (hcmp _)))
            have HS2 := hidden (HS.out.drewN nq)
            clear HS c1 c2 hcmp he3
            generalize wr.drewN nq = w2 at HS2 ⊢
            go_wp2
            go_roundw
            case rel =>
              refine ⟨c + 1, r, by go_num, rfl, by omega, by omega, hr, fun k h1 h2 => ?_, HB.out, HS2.out⟩
              by_cases e : k = c
              · rw [e, ← HDD.out]; exact HLE.out
              · have e1 := HT1.out k c (by omega) (by omega) (by omega)
                have e2 := HT2.out d (md + m - 1 - k) (by omega) (by have := HDD.out; omega) (by omega)
                exact lx_trans e1 (lx_trans HLE.out e2)
            case measure => simp [intOf]; omega
      · obtain rfl : s = r := by omega
        have hlo : a < s → md + m - s < b → lx key (f (s - 1)) (f (md + m - s)) := fun q1 q2 => by
          have := HA.out (s - 1) (by omega) (by omega)
          rwa [show md + m - 1 - (s - 1) = md + m - s by omega] at this
        have hhi : s < m → m < md + m - s → lx key (f (md + m - s - 1)) (f s) := fun q1 q2 => by
          have := HB.out s (Nat.le_refl _) (by omega)
          rwa [show md + m - 1 - s = md + m - s - 1 by omega] at this
        obtain ⟨p1, p2, p3, p4, p5, p6, p7⟩ := sym_rot HT1.out HT2.out HL.out (mid := md) (s := s) (by omega) (by omega) (by omega) (by omega) (by omega) (by omega) (by omega) (fun _ => hlo) hhi
        obtain ⟨e, he⟩ : ∃ e : Nat, e = md + m - s := ⟨_, rfl⟩
        have ee : (md : Int) + (m : Int) - (s : Int) = (e : Int) := by omega
        rw [← he] at p1 p2 p3 p4 p5 p6 p7
        have hem : m ≤ e := by omega
        have heb : e ≤ b := by omega
        have hemd : md ≤ e := by omega
        have hsm : s ≤ m := by omega
        have hsmd : s ≤ md := by omega
        have has : a ≤ s := by omega
        have hamd : a < md := by omega
        have hmdb : md < b := by omega
        have hrs : Sub a b f (rotF s m e f) := (rot_sub s m e f hsm hem).wide has heb
        have hrd : Dom n (rotF s m e f) := hrs.dom hbn HD.out
        have HRS := hidden hrs
        have HRD := hidden hrd
        have P1 := hidden p1
        have P2 := hidden p2
        have P3 := hidden p3
        have P4 := hidden p4
        have P5 := hidden p5
        have P6 := hidden p6
        have P7 := hidden p7
        have E4 := hidden ee
        clear hlo hhi p1 p2 p3 p4 p5 p6 p7 ee HA HB HT1 HT2 HL EC he hrs hrd g1 g2 g3 g4 g5 g6 g7 md1 md2 hs hsr hr
        go_upto_region 39 with (fail)
        rw [E4.out]
        go_cut [24, 185] (fun ve vt w1 => ∃ t : Bool, ve = .int .i64 e ∧ vt = .bool t ∧ Hid (t = true ↔ s < m ∧ m < e) ∧ w1 = wr)
        case first =>
          as_aux_lemma =>
            rcases Nat.lt_or_ge s m with q1 | q1
            · have z1 : (s : Int) < (m : Int) := by omega
              go_wp2_with fail
              go_meet
              case rel => exact ⟨_, rfl, rfl, by simp [q1, Hid], rfl⟩
            · have z1 : ¬ (s : Int) < (m : Int) := by omega
              go_wp2_with fail
              go_meet
              case rel => exact ⟨_, rfl, rfl, by simp [Nat.not_lt.2 q1, Hid], rfl⟩
        case rest =>
        obtain ⟨tt, rfl, rfl, HTT, rfl⟩ := hcut
        go_upto_if 185 with (fail)
        go_cut [24] (fun ve wr => ve = .int .i64 e ∧ Hid (Sw w0 blk off n R (rotF s m e f) wr))
        case first =>
          as_aux_lemma =>
            cases tt with
            | true =>
              obtain ⟨q1, q2⟩ := HTT.out.1 rfl
              go_wp2_with fail
              refine (rotate42 w0 blk off n cap R f s m e _ _ HS.out hn q1 q2 (by omega)).mono ?_
              rintro en w3 ⟨rfl, hw3⟩
              have HW3 := hidden hw3
              clear hw3
              go_wp2_with fail
              go_meet
              case rel => exact ⟨rfl, HW3.out⟩
            | false =>
              have hq : m ≤ s ∨ e ≤ m := by
                rcases Nat.lt_or_ge s m with q1 | q1
                · rcases Nat.lt_or_ge m e with q2 | q2
                  · have := HTT.out.2 ⟨q1, q2⟩; cases this
                  · exact Or.inr q2
                · exact Or.inl q1
              have HQ := hidden hq
              clear hq
              go_wp2_with fail
              go_meet
              case rel => exact ⟨rfl, by rw [rot_triv f hsm hem HQ.out]; exact HS.out⟩
        case rest =>
          clear HS
          obtain ⟨rfl, HS⟩ := hcut
          generalize rotF s m e f = g at HS HRS HRD P1 P2 P3 P4 P5 P6 P7
          go_upto_region 41 with (fail)
          go_cut [24, 199] (fun ve vt w1 => ∃ t : Bool, ve = .int .i64 e ∧ vt = .bool t ∧ Hid (t = true ↔ a < s ∧ s < md) ∧ w1 = wc)
          case first =>
            as_aux_lemma =>
              rcases Nat.lt_or_ge a s with q1 | q1
              · have z1 : (a : Int) < (s : Int) := by omega
                go_wp2_with fail
                go_meet
                case rel => exact ⟨_, rfl, rfl, by simp [q1, Hid], rfl⟩
              · have z1 : ¬ (a : Int) < (s : Int) := by omega
                go_wp2_with fail
                go_meet
                case rel => exact ⟨_, rfl, rfl, by simp [Nat.not_lt.2 q1, Hid], rfl⟩
          case rest =>
          obtain ⟨t2, rfl, rfl, HTT2, rfl⟩ := hcut
          go_upto_if 199 with (fail)
          go_cut [24] (fun ve wr => ve = .int .i64 e ∧ Hid (∃ g1, Sw w0 blk off n R g1 wr ∧ Sub a md g g1 ∧ Srt key g1 a md))
          case first =>
            as_aux_lemma =>
              cases t2 with
              | true =>
                obtain ⟨q1, q2⟩ := HTT2.out.1 rfl
                go_wp2_with fail
                refine (HI.out a s md (by omega) q1 q2 (by omega) g _ HS.out HRD.out P1.out P2.out P3.out).mono ?_
                rintro en w3 ⟨rfl, hw3⟩
                have HW3 := hidden hw3
                clear hw3
                go_wp2_with fail
                go_meet
                case rel => exact ⟨rfl, HW3.out⟩
              | false =>
                have hq : Srt key g a md := by
                  rcases Nat.lt_or_ge a s with q1 | q1
                  · rcases Nat.lt_or_ge s md with q2 | q2
                    · have := HTT2.out.2 ⟨q1, q2⟩; cases this
                    · exact P1.out.part (Nat.le_refl _) q2
                  · exact P2.out.part q1 (Nat.le_refl _)
                have HQ := hidden hq
                clear hq
                go_wp2_with fail
                go_meet
                case rel => exact ⟨rfl, g, HS.out, Sub.refl _ _ _, HQ.out⟩
          case rest =>
            obtain ⟨rfl, HE⟩ := hcut
            obtain ⟨g1, hS1, hU1, hT1⟩ := HE.out
            have hd1 : Dom n g1 := hU1.dom (by omega) HRD.out
            have hg1 : ∀ k, md ≤ k → g1 k = g k := fun k hk => hU1.out k (Or.inr hk)
            have Q4 := hidden (P4.out.congr (g := g1) fun k h1 h2 => hg1 k h1)
            have Q5 := hidden (P5.out.congr (g := g1) fun k h1 h2 => hg1 k (by omega))
            have Q6 : Hid (LR g1 md e b) := fun i j i1 i2 j1 j2 => by rw [hg1 i i1, hg1 j (by omega)]; exact P6.out i j i1 i2 j1 j2
            have HS1 := hidden hS1
            have HU1 := hidden hU1
            have HT1 := hidden hT1
            have HD1 := hidden hd1
            have HW : Hid (Sub a b f g1) := HRS.out.trans (hU1.wide (Nat.le_refl _) (by omega))
            clear HE hS1 hU1 hT1 hd1 hg1 HS P1 P2 P3 P4 P5 P6
            rcases Nat.lt_or_ge md e with q1 | q1
            · rcases Nat.lt_or_ge e b with q2 | q2
              · as_aux_lemma =>
                  have z1 : (md : Int) < (e : Int) := by omega
                  have z2 : (e : Int) < (b : Int) := by omega
                  go_wp2_with fail
                  refine (HI.out md e b (by omega) q1 q2 hbn g1 _ HS1.out HD1.out Q4.out Q5.out Q6.out).mono ?_
                  rintro en w3 ⟨rfl, g2, hS2, hU2, hT2⟩
                  have HF := hidden (And.intro hS2 (And.intro (HW.out.trans (hU2.wide (by omega) (Nat.le_refl _))) (sym_done P7.out HU1.out HT1.out hU2 hT2)))
                  clear hS2 hU2 hT2
                  go_wp2_with fail
                  go_end0
                  exact ⟨rfl, g2, HF.out⟩
              · as_aux_lemma =>
                  have z1 : (md : Int) < (e : Int) := by omega
                  have z2 : ¬ (e : Int) < (b : Int) := by omega
                  go_wp2_with fail
                  go_end0
                  exact ⟨rfl, g1, HS1.out, HW.out, sym_done P7.out HU1.out HT1.out (Sub.refl _ _ _) (Q4.out.part (Nat.le_refl _) q2)⟩
            · as_aux_lemma =>
                have z1 : ¬ (md : Int) < (e : Int) := by omega
                go_wp2_with fail
                go_end0
                exact ⟨rfl, g1, HS1.out, HW.out, sym_done P7.out HU1.out HT1.out (Sub.refl _ _ _) (Q5.out.part q1 (Nat.le_refl _))⟩

/-- symMerge, at whatever length. -/
theorem sym41 (w0 : World) (blk off n cap : Nat) (R : Nat → Nat) (key : Nat → Int) (hK : Keyed w0 blk n R key) (hn : n ≤ 1000000) : ∀ (N a m b : Nat), b - a ≤ N → a < m → m < b → b ≤ n → SymOK w0 blk off n cap R key a m b := by
  intro N
  induction N with
  | zero => intro a m b h1 h2 h3; omega
  | succ N ih =>
    intro a m b h1 h2 h3 h4
    by_cases e1 : m = a + 1
    · subst e1
      intro f w h hd hs1 hs2 hlr
      exact sym_left w0 blk off n cap R f key a b w h hK hd hn h3 h4 hs2 hlr
    · by_cases e2 : b = m + 1
      · subst e2
        intro f w h hd hs1 hs2 hlr
        exact sym_right w0 blk off n cap R f key a m w h hK hd hn (by omega) h4 hs1 hlr
      · exact sym_wide w0 blk off n cap R key a m b hK hn (by omega) (by omega) h4 (fun a' m' b' q1 q2 q3 q4 => ih a' m' b' (by omega) q2 q3 q4)
end Go.Proofs.Qxb6603170a
