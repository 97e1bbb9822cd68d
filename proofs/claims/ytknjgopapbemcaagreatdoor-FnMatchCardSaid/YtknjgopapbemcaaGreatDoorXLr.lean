/- Lr: joined by merge.py for the claim. -/
import Derived.Test.YtknjgopapbemcaaGreatDoorXLm
import Derived.Test.YtknjgopapbemcaaGreatDoorXLi
import Derived.Test.YtknjgopapbemcaaGreatDoorXLf
import Derived.Test.YtknjgopapbemcaaGreatDoorXPaPe
import Derived.StillTailTactics
/- Walk of lightstrconv's ParseFloat. -/
namespace Go.Proofs.YtknjgopapbemcaaGreatDoor
open Go.RowKit
set_option linter.unusedVariables false
set_option linter.unusedSimpArgs false
/-- What a reader of floats answers. -/
def PfOut (r : Option Nat) (e : Ending) : Prop :=
  match r with
  | some b => e = .returned (.tuple #[.float .f64 b, .nilIface])
  | none => ∃ x T v, e = .returned (.tuple #[x, .iface T v])
def fNan (l : List Nat) : Bool := fld l wNan
def fInf (l : List Nat) : Bool := fld l wInf
def fInfy (l : List Nat) : Bool := fld l wInfinity
theorem fold_nan (s : ByteArray) (w : World) (hs : s.size ≤ 1000) : Calls Tryz.prog 62 #[.string s, .string ⟨#[110, 97, 110]⟩] w fun e w' => e = .returned (.bool (fNan (tx s))) ∧ w = w' :=
  (fold_any s _ w hs (by decide)).mono fun _ _ h => ⟨h.1, h.2.symm⟩
theorem fold_inf (s : ByteArray) (w : World) (hs : s.size ≤ 1000) : Calls Tryz.prog 62 #[.string s, .string ⟨#[105, 110, 102]⟩] w fun e w' => e = .returned (.bool (fInf (tx s))) ∧ w = w' :=
  (fold_any s _ w hs (by decide)).mono fun _ _ h => ⟨h.1, h.2.symm⟩
theorem fold_infy (s : ByteArray) (w : World) (hs : s.size ≤ 1000) : Calls Tryz.prog 62 #[.string s, .string ⟨#[105, 110, 102, 105, 110, 105, 116, 121]⟩] w fun e w' => e = .returned (.bool (fInfy (tx s))) ∧ w = w' :=
  (fold_any s _ w hs (by decide)).mono fun _ _ h => ⟨h.1, h.2.symm⟩
theorem pf_nan {l : List Nat} (h : fNan l = true) : pf l = some 9221120237041090561 := if_pos h
theorem pf_inf {l : List Nat} (h : fNan l = false) (h2 : fInf (noSgn l) = true ∨ fInfy (noSgn l) = true) : pf l = some (sgnB (isNeg l) + infR) := by
  exact (if_neg (show ¬ fNan l = true by rw [h]; simp)).trans (if_pos h2)
theorem pf_whole {l : List Nat} (h : fNan l = false) (h2 : fInf (noSgn l) = false) (h3 : fInfy (noSgn l) = false) : pf l = match whole l with
    | none => none
    | some (neg, n) => if mag n = infR then none else some (sgnB neg + mag n) := by
  exact (if_neg (show ¬ fNan l = true by rw [h]; simp)).trans (if_neg (show ¬ (fInf (noSgn l) = true ∨ fInfy (noSgn l) = true) by rw [h2, h3]; simp))
theorem pf_none1 {l : List Nat} (h : fNan l = false) (h2 : fInf (noSgn l) = false) (h3 : fInfy (noSgn l) = false) (hr : rdL (noSgn l) = none) : pf l = none := by
  rw [pf_whole h h2 h3, whole_rd, hr]
theorem pf_none2 {l : List Nat} {n : Num} (h : fNan l = false) (h2 : fInf (noSgn l) = false) (h3 : fInfy (noSgn l) = false) (hr : rdL (noSgn l) = some n) (hu : usc l = false) : pf l = none := by
  unfold usc at hu
  rw [pf_whole h h2 h3, whole_rd, hr]
  simp only [hu]
  rfl
theorem pf_num {l : List Nat} {n : Num} (h : fNan l = false) (h2 : fInf (noSgn l) = false) (h3 : fInfy (noSgn l) = false) (hr : rdL (noSgn l) = some n) (hu : usc l = true) :
    pf l = if mag n = infR then none else some (sgnB (isNeg l) + mag n) := by
  unfold usc at hu
  rw [pf_whole h h2 h3, whole_rd, hr]
  simp only [hu]
  rfl
theorem load_form {w : World} {F : Nat} (h : w.heap[F]? = some (.cells #[.int .i64 52, .int .i64 11, .int .i64 (-1023)] 131 (0, 0))) :
    (loadVar 131 ⟨F, 0, none⟩).run Tryz.prog w = .ok (.agg #[.int .i64 52, .int .i64 11, .int .i64 (-1023)]) w :=
  run_loadVar_row w F 131 131 _ _ _ h Tryz.underlying131 rfl (by kernel_rfl)
theorem or_mag (b : Bool) {m : Nat} (hm : m < 9223372036854775808) : bits .or .u64 ((sgnB b : Nat) : Int) (m : Int) = ((sgnB b + m : Nat) : Int) := by
  have e := u64_or_nat (sgnB b) m (by cases b <;> decide) (by omega)
  rw [e]
  cases b
  · show ((0 ||| m : Nat) : Int) = _; rw [Nat.zero_or]; show _ = ((0 + m : Nat) : Int); rw [Nat.zero_add]
  · have e2 := Nat.two_pow_add_eq_or_of_lt (i := 63) (b := m) hm 1
    rw [Nat.mul_one] at e2
    exact congrArg _ e2.symm
theorem us_same (s : ByteArray) (w : World) (hs : s.size ≤ 1000) : Calls Tryz.prog 68 #[.string s] w fun e w' => e = .returned (.bool (usc (tx s))) ∧ w = w' :=
  (us_any s w hs).mono fun _ _ h => ⟨h.1, h.2.symm⟩
theorem pf_some {x b : Nat} (h : x = b) : PfOut (some b) (.returned (.tuple #[.float .f64 x, .nilIface])) := by rw [h]; rfl
theorem below_of_drew {B : Nat} {w w' : World} (h : Below w.drew.heap.size w.drew w') (hB : B ≤ w.heap.size) : Below B w w' :=
  (Below.drew (Below.refl _ _)).trans (h.mono hB)
set_option maxHeartbeats 2000000 in
set_option maxRecDepth 100000 in
theorem lpf_any (s : ByteArray) (w : World) (hs : s.size ≤ 1000) :
    Calls Tryz.prog 48 #[.string s, .int .i64 64] w fun e w' => Below w.heap.size w w' ∧ PfOut (pf (tx s)) e := by
  obtain ⟨R, hR⟩ : ∃ R, R = pf (tx s) := ⟨_, rfl⟩
  rw [← hR]
  have HR := Hd.mk hR
  clear hR
  cases hn : fNan (tx s)
  case true =>
    have HN := Hd.mk hn
    go_enter Tryz.func48, Tryz.ntmps48
    go_wp2_with (first | (go_at_call 62; ((with_reducible refine (fold_nan _ _ hs).mono ?_); rintro e w' ⟨rfl, rfl⟩)) | (go_at_call 64; ((with_reducible refine (nan_any _).mono ?_); rintro e w' ⟨rfl, rfl⟩)))
    go_ret2
    exact ⟨Below.refl _ _, by rw [HR.out, pf_nan HN.out]; rfl⟩
  case false =>
    have HN := Hd.mk hn
    go_enter Tryz.func48, Tryz.ntmps48
    go_upto_if 15 with (go_at_call 62; ((with_reducible refine (fold_nan _ _ hs).mono ?_); rintro e w' ⟨rfl, rfl⟩))
    go_upto_region 6 with (fail)
    clear hn
    go_cut [33] from 22 to 33 (fun v33 wc => v33 = .bool (hasSgn (tx s)) ∧ w = wc)
    case first =>
      rcases Nat.eq_zero_or_pos s.size with h0 | h0
      · have hz := nil_of0 h0
        have hr : hasSgn (tx s) = false := by
          unfold hasSgn; rw [bt_end (by rw [tx_length]; omega)]; rfl
        go_wp2
        go_meet
        exact ⟨by rw [hr], rfl⟩
      · have hz := not_nil_of h0
        have hb := bt_get s 0 h0
        have hr : hasSgn (tx s) = decide (s[0].toNat = 43 ∨ s[0].toNat = 45) := by
          unfold hasSgn; rw [← hb]
        clear hb
        have HSG := Hd.mk hr
        clear hr
        by_cases h1 : s[0].toNat = 45
        · have hb : ((s[0].toNat : Int) == 45) = true := by simp; omega
          go_wp2
          go_meet
          exact ⟨by rw [HSG.out, h1]; rfl, rfl⟩
        · have hb : ((s[0].toNat : Int) == 45) = false := by simp; omega
          by_cases h2 : s[0].toNat = 43
          · have hb2 : ((s[0].toNat : Int) == 43) = true := by simp; omega
            go_wp2
            go_meet
            exact ⟨by rw [HSG.out, h2]; rfl, rfl⟩
          · have hb2 : ((s[0].toNat : Int) == 43) = false := by simp; omega
            go_wp2
            go_meet
            exact ⟨by rw [HSG.out, decide_eq_false (by omega)], rfl⟩
    case rest =>
      obtain ⟨rfl, rfl⟩ := hcut
      go_upto_if 33 with (fail)
      go_cut [6, 7] from 33 to 38 (fun v6 v7 wc => ∃ (t : ByteArray) (n : Nat), v6 = .string t ∧ v7 = .bool (isNeg (tx s)) ∧ tx t = noSgn (tx s) ∧ t.size ≤ 1000 ∧ wc = w.drewN n)
      case first =>
        generalize hg : hasSgn (tx s) = b
        cases b
        case true =>
          have h0 : 0 < s.size := by
            rcases Nat.eq_zero_or_pos s.size with h0 | h0
            · unfold hasSgn at hg; rw [bt_end (by rw [tx_length]; omega)] at hg; simp at hg
            · exact h0
          have h01 : 1 ≤ s.size := h0
          have hng : Hd (isNeg (tx s) = decide (s[0].toNat = 45)) := ⟨by unfold isNeg; rw [← bt_get s 0 h0]⟩
          have hsg := Hd.mk hg
          clear hg
          go_wp2
          go_quiet (fail)
          go_wp2
          go_meet
          exact ⟨_, nq, rfl, by rw [hng.out]; exact congrArg Value.bool (by rw [Bool.eq_iff_iff]; simp; omega), by rw [tx_drop]; unfold noSgn; rw [if_pos hsg.out], by rw [size_drop]; omega, rfl⟩
        case false =>
          have hng : Hd (isNeg (tx s) = false) := ⟨by unfold hasSgn at hg; unfold isNeg; simp at hg ⊢; exact hg.2⟩
          have hsg := Hd.mk hg
          clear hg
          go_wp2
          go_meet
          exact ⟨s, 0, rfl, by rw [hng.out], by unfold noSgn; rw [if_neg (by rw [hsg.out]; simp)], hs, rfl⟩
      case rest =>
        obtain ⟨t, n, rfl, rfl, ht, hts, rfl⟩ := hcut
        have HT := Hd.mk ht
        clear ht
        obtain ⟨ng, hng⟩ : ∃ b, b = isNeg (tx s) := ⟨_, rfl⟩
        rw [← hng]
        have HNG := Hd.mk hng
        clear hng
        obtain ⟨W0, hW0⟩ : ∃ W0, W0 = w.drewN n := ⟨_, rfl⟩
        rw [← hW0]
        have HB0 : Hd (Below w.heap.size w W0) := ⟨by rw [hW0]; exact below_drewN (Below.refl _ _) n⟩
        clear hW0
        go_upto_region 10 with (go_at_call 65; ((with_reducible refine (formOf_any _).mono ?_); rintro e w' ⟨rfl, hb1⟩))
        have hF : (w'.alloc (.cells #[.int .i64 52, .int .i64 11, .int .i64 (-1023)] 131)).heap[w'.heap.size]? = some (.cells #[.int .i64 52, .int .i64 11, .int .i64 (-1023)] 131 (0, 0)) := heap_alloc_new _ _
        have HB1 : Hd (Below w.heap.size w (w'.alloc (.cells #[.int .i64 52, .int .i64 11, .int .i64 (-1023)] 131))) := ⟨(HB0.out.trans (hb1.mono HB0.out.size)).alloc (Nat.le_trans HB0.out.size hb1.size) _⟩
        clear hb1
        generalize w'.alloc (.cells #[.int .i64 52, .int .i64 11, .int .i64 (-1023)] 131) = W1 at *
        generalize w'.heap.size = F at *
        have hFm : Fm W1 F := ⟨by simp [World.cell?, hF], by simp [World.cell?, hF], by simp [World.cell?, hF], lt_of_block hF⟩
        have HF := Hd.mk (And.intro hF hFm)
        clear hF hFm
        go_upto_if 41 with (fail)
        go_cut [9] from 41 to 47 (fun v9 wc => v9 = .int .u64 (sgnB ng : Nat) ∧ W1 = wc)
        case first =>
          have hc0 := HF.out.2.c0
          have hc1 := HF.out.2.c1
          cases ng
          case true =>
            go_wp2
            go_meet
            exact ⟨rfl, rfl⟩
          case false =>
            go_wp2
            go_meet
            exact ⟨rfl, rfl⟩
        case rest =>
          obtain ⟨rfl, rfl⟩ := hcut
          cases hi : fInf (tx t)
          case true =>
            have HI : Hd (fInf (noSgn (tx s)) = true ∨ fInfy (noSgn (tx s)) = true) := ⟨.inl (by rw [← HT.out]; exact hi)⟩
            go_wp2_with (first | (go_at_call 62; ((with_reducible refine (fold_inf _ _ hts).mono ?_); rintro e w' ⟨rfl, rfl⟩)) | fail)
            have hc0 := HF.out.2.c0
            have hc1 := HF.out.2.c1
            have hc2 := HF.out.2.c2
            go_still_tail 10, (by kernel_rfl)
            go_wp2_with fail
            refine (float_any _ _).mono ?_
            rintro e w3 ⟨rfl, hb⟩
            go_wp2_with fail
            go_ret2
            exact ⟨HB1.out.trans (below_of_drew hb HB1.out.size), by rw [HR.out, pf_inf HN.out HI.out, ← HNG.out]; exact pf_some (by cases ng <;> decide)⟩
          case false =>
          cases hi2 : fInfy (tx t)
          case true =>
            have HI : Hd (fInf (noSgn (tx s)) = true ∨ fInfy (noSgn (tx s)) = true) := ⟨.inr (by rw [← HT.out]; exact hi2)⟩
            go_wp2_with (first | (go_at_call 62; (first | ((with_reducible refine (fold_inf _ _ hts).mono ?_); rintro e w' ⟨rfl, rfl⟩) | ((with_reducible refine (fold_infy _ _ hts).mono ?_); rintro e w' ⟨rfl, rfl⟩))) | fail)
            have hc0 := HF.out.2.c0
            have hc1 := HF.out.2.c1
            have hc2 := HF.out.2.c2
            go_still_tail 10, (by kernel_rfl)
            go_wp2_with fail
            refine (float_any _ _).mono ?_
            rintro e w3 ⟨rfl, hb⟩
            go_wp2_with fail
            go_ret2
            exact ⟨HB1.out.trans (below_of_drew hb HB1.out.size), by rw [HR.out, pf_inf HN.out HI.out, ← HNG.out]; exact pf_some (by cases ng <;> decide)⟩
          case false =>
            have HI : Hd (fInf (noSgn (tx s)) = false ∧ fInfy (noSgn (tx s)) = false) := ⟨by rw [← HT.out]; exact ⟨hi, hi2⟩⟩
            go_wp2_with (first | (go_at_call 62; (first | ((with_reducible refine (fold_inf _ _ hts).mono ?_); rintro e w' ⟨rfl, rfl⟩) | ((with_reducible refine (fold_infy _ _ hts).mono ?_); rintro e w' ⟨rfl, rfl⟩))) | fail)
            refine (read_any _ _ hts).mono ?_
            rintro e w2 ⟨hb2, (⟨hr, rfl⟩ | ⟨nm, g, hr, rfl, hgw, hout⟩)⟩
            · go_wp2_with fail
              refine (fail_any _ _ _ _).mono ?_
              rintro e w3 ⟨⟨v, rfl⟩, hb⟩
              go_wp2_with fail
              go_ret2
              exact ⟨(HB1.out.trans (hb2.mono HB1.out.size)).trans (hb.mono (Nat.le_trans HB1.out.size hb2.size)), by rw [HR.out, pf_none1 HN.out HI.out.1 HI.out.2 (by rw [← HT.out]; exact hr)]; exact ⟨_, _, _, rfl⟩⟩
            · have HO := Hd.mk hout
              have HRD : Hd (rdL (noSgn (tx s)) = some nm) := ⟨by rw [← HT.out]; exact hr⟩
              have HB2 : Hd (Below w.heap.size w w2) := ⟨HB1.out.trans (hb2.mono HB1.out.size)⟩
              have hF2 : w2.heap[F]? = some (.cells #[.int .i64 52, .int .i64 11, .int .i64 (-1023)] 131 (0, 0)) := by rw [hb2.block F HF.out.2.lt]; exact HF.out.1
              have HF2 := Hd.mk hF2
              have hFg : F ≠ g := by have := HF.out.2.lt; omega
              have HFm : Hd (Fm w2 F) := ⟨⟨by simp [World.cell?, hF2], by simp [World.cell?, hF2], by simp [World.cell?, hF2], lt_of_block hF2⟩⟩
              have HGB : Hd (∀ w3, Bel g w2 w3 → Below w.heap.size w w3) := ⟨fun w3 h => (HB1.out.trans (hb2.mono HB1.out.size)).trans (h.below.mono (by have h1 := HB1.out.size; have h2 := hb2.size; omega))⟩
              clear hout hr hb2 hF2 HF HB1 HB0
              cases hu : usc (tx s)
              case false =>
                have HU := Hd.mk hu
                go_wp2_with (go_at_call 68; ((with_reducible refine (us_same _ _ hs).mono ?_); rintro e w3 ⟨rfl, rfl⟩))
                refine (fail_any _ _ _ _).mono ?_
                rintro e w3 ⟨⟨v, rfl⟩, hb⟩
                go_wp2_with fail
                go_ret2
                exact ⟨HB2.out.trans (hb.mono HB2.out.size), by rw [HR.out, pf_none2 HN.out HI.out.1 HI.out.2 HRD.out HU.out]; exact ⟨_, _, _, rfl⟩⟩
              case true =>
                have HU := Hd.mk hu
                have hc0 := HFm.out.c0
                have hc1 := HFm.out.c1
                have hc2 := HFm.out.c2
                go_wp2_with (go_at_call 68; ((with_reducible refine (us_same _ _ hs).mono ?_); rintro e w3 ⟨rfl, rfl⟩))
                clear hu
                clear hc0 hc1 hc2
                rcases HO.out.val with ⟨⟨A, c, dp, hg0⟩, hm⟩ | ⟨ds, dp, N, M, hd, hgd, hv, hM, hm⟩
                · refine (bits_zero hg0).mono ?_
                  rintro e w3 ⟨rfl, hb3⟩
                  have HF3 := HFm.out.bel hb3 hFg
                  have hc0 := HF3.c0
                  have hc1 := HF3.c1
                  have hc2 := HF3.c2
                  have HB3 := Hd.mk (HGB.out _ hb3)
                  have HM := Hd.mk hm
                  clear hm hb3 HF3
                  have hor : bits .or .u64 ((sgnB ng : Nat) : Int) 0 = ((sgnB ng : Nat) : Int) := or_mag ng (m := 0) (by omega)
                  go_wp2_with (go_at_call 66; ((with_reducible refine (float_any _ _).mono ?_); rintro e w4 ⟨rfl, hb4⟩))
                  go_ret2
                  exact ⟨HB3.out.trans (hb4.mono HB3.out.size), by rw [HR.out, pf_num HN.out HI.out.1 HI.out.2 HRD.out HU.out, HM.out, if_neg (by decide), ← HNG.out]; exact pf_some rfl⟩
                · refine (bits_any hd hgd (by omega) hM hv).mono ?_
                  rintro e w3 ⟨rfl, hb3⟩
                  have HF3 := HFm.out.bel hb3 hFg
                  have hc0 := HF3.c0
                  have hc1 := HF3.c1
                  have hc2 := HF3.c2
                  have HB3 := Hd.mk (HGB.out _ hb3)
                  have HM := Hd.mk hm
                  have HV := Hd.mk (And.intro hv hM)
                  clear hm hb3 HF3 hd hgd hv hM
                  obtain ⟨mg0, hmg0⟩ : ∃ m, m = rung N M := ⟨_, rfl⟩
                  rw [← hmg0]
                  have hml : mg0 < 9223372036854775808 := by rw [hmg0]; exact Nat.lt_of_le_of_lt (rung_le _ _) infR_lt
                  rw [← hmg0] at HM
                  clear HV hmg0
                  obtain ⟨R0, hR0⟩ : ∃ r, r = sgnB ng + mg0 := ⟨_, rfl⟩
                  have hor : bits .or .u64 ((sgnB ng : Nat) : Int) (mg0 : Int) = ((R0 : Nat) : Int) := by rw [hR0]; exact or_mag ng hml
                  have HR0 := Hd.mk hR0
                  clear hR0
                  cases hov : decide (mg0 = infR)
                  · have HOV := Hd.mk (of_decide_eq_false hov)
                    clear hov
                    go_wp2_with (go_at_call 66; ((with_reducible refine (float_any _ _).mono ?_); rintro e w4 ⟨rfl, hb4⟩))
                    go_ret2
                    exact ⟨HB3.out.trans (hb4.mono HB3.out.size), by rw [HR.out, pf_num HN.out HI.out.1 HI.out.2 HRD.out HU.out, ← HM.out, if_neg HOV.out, ← HNG.out]; exact pf_some HR0.out⟩
                  · have HOV := Hd.mk (of_decide_eq_true hov)
                    clear hov
                    go_wp2_with (first | (go_at_call 66; ((with_reducible refine (float_any _ _).mono ?_); rintro e w4 ⟨rfl, hb4⟩)) | (go_at_call 69; ((with_reducible refine (fail_any _ _ _ _).mono ?_); rintro e w5 ⟨⟨v5, rfl⟩, hb5⟩)))
                    go_ret2
                    exact ⟨(HB3.out.trans (hb4.mono HB3.out.size)).trans (hb5.mono (Nat.le_trans HB3.out.size hb4.size)), by rw [HR.out, pf_num HN.out HI.out.1 HI.out.2 HRD.out HU.out, ← HM.out, if_pos HOV.out]; exact ⟨_, _, _, rfl⟩⟩
end Go.Proofs.YtknjgopapbemcaaGreatDoor
