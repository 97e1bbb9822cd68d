/- Dp: joined by merge.py for the claim. -/
import Derived.Test.YtknjgopapbemcaaGreatDoorXDaDb
import Derived.Test.YtknjgopapbemcaaGreatDoorXGj
import Derived.StillTailTactics
/- Walk of internal/strconv's decimal.set, on the text of a decimal number. -/
namespace Go.Proofs.YtknjgopapbemcaaGreatDoor
open Go.RowKit
set_option linter.unusedVariables false
set_option linter.unusedSimpArgs false
theorem set_cases {t0 l : List Nat} {i : Nat} {st : St} {nm : Num} (hs : scan false st0 t0 = (st, l.drop i)) (hi : i ≤ l.length) (hb : body false t0 = some (nm, [])) :
    st.dig = true ∧ nm.ds = st.ds ∧ nm.frac = st.frac ∧ ((lw (bt l i) ≠ 101 ∧ i = l.length ∧ nm.e = 0) ∨ (lw (bt l i) = 101 ∧ ∃ u, ex (l.drop (i + 1)) = some (nm.e, u, []))) := by
  cases hd : st.dig with
  | false => rw [bodyG_nodig hs hd] at hb; cases hb
  | true =>
    by_cases hm : lw (bt l i) = mark false
    · cases he : ex (l.drop (i + 1)) with
      | none => rw [bodyG_exno hs hd hm he] at hb; cases hb
      | some p =>
        obtain ⟨e, u, r⟩ := p
        rw [bodyG_exyes hs hd hm he] at hb
        injection hb with hb
        injection hb with h1 h2
        subst h1 h2
        exact ⟨rfl, rfl, rfl, .inr ⟨hm, u, rfl⟩⟩
    · rw [bodyG_dec hs hd hm] at hb
      injection hb with hb
      injection hb with h1 h2
      subst h1
      refine ⟨rfl, rfl, rfl, .inl ⟨hm, ?_, rfl⟩⟩
      have := congrArg List.length h2
      rw [List.length_drop, List.length_nil] at this
      omega
theorem set_ex {l : List Nat} {k : Nat} {e : Int} {u : Bool} (h : ex (l.drop k) = some (e, u, [])) :
    (48 ≤ bt l (sk l k) ∧ bt l (sk l k) ≤ 57) ∧ sk l k < l.length ∧ ∃ E : Nat, eg 0 false (l.drop (sk l k)) = (E, u, []) ∧ e = (E : Int) * (if bt l k = 45 then -1 else 1) := by
  by_cases hd : 48 ≤ bt l (sk l k) ∧ bt l (sk l k) ≤ 57
  · refine ⟨hd, bt_in (by omega), ?_⟩
    unfold ex at h
    rw [exHd_drop, bt_drop0, bt_drop0, if_pos hd] at h
    injection h with h
    injection h with h1 h2
    injection h2 with h2 h3
    refine ⟨(eg 0 false (l.drop (sk l k))).1, by rw [← h2, ← h3], ?_⟩
    rw [← h1]
    split
    · omega
    · omega
  · rw [ex_no hd] at h; cases h
theorem eg_stop {l : List Nat} {E e q : Nat} {u v : Bool} (h : eg e u (l.drop q) = (E, v, [])) (h1 : ¬ (48 ≤ bt l q ∧ bt l q ≤ 57)) (h2 : bt l q ≠ 95) : l.length ≤ q ∧ e = E := by
  rw [eg_end h1 h2] at h
  injection h with h3 h4
  injection h4 with h4 h5
  have := congrArg List.length h5
  rw [List.length_drop, List.length_nil] at this
  exact ⟨by omega, h3⟩
theorem dgs_push {f : Nat → Nat} {ds : List Nat} {d : Nat} (h : Dgs f ds) : Dgs (upd f ds.length (48 + d)) (ds ++ [d]) := by
  intro i hi
  rw [List.length_append, List.length_singleton] at hi
  unfold upd
  by_cases he : i = ds.length
  · subst he
    rw [if_pos rfl, dg_append, if_neg (by omega), Nat.sub_self]; rfl
  · rw [if_neg he, dg_append, if_pos (by omega)]
    exact h i (by omega)
theorem RfInv.digF {t0 l : List Nat} {i c d : Nat} {ds : List Nat} {frac : Nat} {dot dig und : Bool} {dp : Int} (h : RfInv false t0 l i ⟨ds, frac, dot, dig, und⟩ (mv false ds) (nz (ds.drop (mkx false))) dp) (hi : i < l.length) (hc : c = bt l i) (h95 : c ≠ 95)
    (hv : dval false c = some d) (hn : 0 < ds.length ∨ d ≠ 0) : RfInv false t0 l (i + 1) ⟨ds ++ [d], if dot then frac + 1 else frac, dot, true, und⟩ (mv false (ds ++ [d])) (nz ((ds ++ [d]).drop (mkx false))) dp := by
  by_cases hl : ds.length < mkx false
  · exact h.digS hi hc h95 hv hn (.inl ⟨hl, mv_push hl, by rw [nz_lo (by rw [List.length_append, List.length_singleton]; omega), nz_lo (by omega)]⟩)
  · exact h.digS hi hc h95 hv hn (.inr ⟨by omega, mv_full (by omega), by rw [List.drop_append_of_le_length (by omega), nz_snoc]⟩)
/-- The decimal while its text is read. -/
structure SetI (g : Nat) (w0 w : World) (t0 l : List Nat) (i : Nat) (st : St) (ng : Bool) (dp : Int) : Prop where
  inv : RfInv false t0 l i st (mv false st.ds) (nz (st.ds.drop (mkx false))) dp
  ex : ∃ f, Rw w g f (st.ds.length : Nat) dp ng false ∧ Dgs f st.ds
  bel : Bel g w0 w
/-- The decimal that a text is read into. -/
structure SetP (g : Nat) (nm : Num) (ng : Bool) (w : World) : Prop where
  ex : ∃ f, Rw w g f (nm.ds.length : Nat) ((nm.ds.length : Int) - nm.frac + nm.e) ng false ∧ Dgs f nm.ds
set_option maxHeartbeats 2000000 in
set_option maxRecDepth 100000 in
theorem set_any (g : Nat) (s : ByteArray) (w : World) (f0 : Nat → Nat) (b0 b1 : Bool) (nm : Num) (hs : s.size ≤ 800) (hu : uns (noSgn (tx s)) = some (nm, [])) (hx : nm.hex = false) (hr : Rw w g f0 0 0 b0 b1) :
    Calls Tryz.prog 97 #[.pointer (some ⟨g, 0, none⟩), .string s] w fun e w' => e = .returned (.bool true) ∧ SetP g nm (isNeg (tx s)) w' ∧ Bel g w w' := by
  have hb : body false (noSgn (tx s)) = some (nm, []) := by
    unfold uns at hu
    split at hu
    · exfalso
      obtain ⟨c, h1, h2⟩ := scan_eat true ((noSgn (tx s)).drop 2) st0
      unfold body at hu
      split at hu
      · cases hu
      · split at hu
        · split at hu
          · cases hu
          · injection hu with hu
            injection hu with h3 h4
            rw [← h3] at hx; cases hx
        · cases hu
    · exact hu
  clear hu hx
  have HBD := Hd.mk hb
  have h0 : 0 < s.size := by
    rcases Nat.eq_zero_or_pos s.size with h | h
    · exfalso
      have hl : tx s = [] := List.eq_nil_of_length_eq_zero (by rw [tx_length]; exact h)
      rw [hl] at hb
      cases hb
    · exact h
  clear hb
  have hbt := Hd.mk (bt_get s 0 h0)
  have h01 : 1 ≤ s.size := h0
  have hne : (s = ByteArray.empty) = False := eq_false (fun e => by rw [e] at h0; exact absurd h0 (by decide))
  have hf := hr.fz
  have HR : Hd (∀ b c, Rw ((w.setCell ⟨g, 802, none⟩ (.bool b)).setCell ⟨g, 803, none⟩ (.bool c)) g f0 0 0 b c) := ⟨fun b c => (hr.setG b).setT c⟩
  have hc2 := hr.cng
  have hc3 := hr.ctr
  clear hr
  obtain ⟨ng, hng⟩ : ∃ ng, ng = isNeg (tx s) := ⟨_, rfl⟩
  rw [← hng]
  have HNG := Hd.mk hng
  clear hng
  go_enter Tryz.func97, Tryz.ntmps97
  go_upto_region 4 with (fail)
  go_upto_block 0 with (fail)
  obtain ⟨w1, hw1⟩ : ∃ w1, w1 = (w.setCell ⟨g, 802, none⟩ (.bool false)).setCell ⟨g, 803, none⟩ (.bool false) := ⟨_, rfl⟩
  rw [← hw1]
  have hr1 : Rw w1 g f0 0 0 false false := by rw [hw1]; exact HR.out false false
  have HB1 : Hd (Bel g w w1) := ⟨by rw [hw1]; exact ((Bel.refl g w).set _ _).set _ _⟩
  have hf1 := hr1.fz
  have hg1 := hr1.cng
  have HR1 := Hd.mk hr1
  clear hw1 HR hc2 hc3 hf hr1
  go_cut [5] from 20 to 33 (fun v5 wc => ∃ n0 : Nat, v5 = .int .i64 (n0 : Int) ∧ noSgn (tx s) = (tx s).drop n0 ∧ n0 ≤ s.size ∧ n0 ≤ 1 ∧ Rw wc g f0 0 0 ng false ∧ Bel g w wc)
  case first =>
    have hng : Hd (ng = decide (s[0].toNat = 45)) := ⟨by rw [HNG.out]; unfold isNeg; rw [← hbt.out]⟩
    by_cases h43 : s[0].toNat = 43
    · have hb1 : ((s[0].toNat : Int) == 43) = true := beq_iff_eq.2 (by omega)
      go_wp2
      go_meet
      exact ⟨1, rfl, noSgn_drop (.inl (by rw [← hbt.out]; exact h43)), h0, Nat.le_refl _, by rw [hng.out, decide_eq_false (by omega)]; exact HR1.out, HB1.out⟩
    · have hb1 : ((s[0].toNat : Int) == 43) = false := beq_eq_false_iff_ne.2 (by omega)
      by_cases h45 : s[0].toNat = 45
      · have hb2 : ((s[0].toNat : Int) == 45) = true := beq_iff_eq.2 (by omega)
        go_wp2
        go_meet
        exact ⟨1, rfl, noSgn_drop (.inr (by rw [← hbt.out]; exact h45)), h0, Nat.le_refl _, by rw [hng.out, decide_eq_true h45]; exact HR1.out.setG true, HB1.out.set _ _⟩
      · have hb2 : ((s[0].toNat : Int) == 45) = false := beq_eq_false_iff_ne.2 (by omega)
        go_wp2
        go_meet
        exact ⟨0, rfl, by rw [List.drop_zero]; exact noSgn_same (by rw [← hbt.out]; exact h43) (by rw [← hbt.out]; exact h45), Nat.zero_le _, Nat.zero_le _, by rw [hng.out, decide_eq_false h45]; exact HR1.out, HB1.out⟩
  case rest =>
    obtain ⟨n0, rfl, hns, hn0, hn1, hr2, hb2⟩ := hcut
    have HU : Hd (body false ((tx s).drop n0) = some (nm, [])) := ⟨by rw [← hns]; exact HBD.out⟩
    have HR2 := Hd.mk (And.intro hr2 hb2)
    clear hns hr2 hb2 HR1 HB1 hg1 hf1 HBD hne
    go_upto_block 1 with (fail)
    go_cut [5, 6, 7] from 34 to 116 (fun v5 v6 v7 wc => ∃ (i : Nat) (st : St) (dp : Int), v5 = .int .i64 (i : Int) ∧ v6 = .bool st.dot ∧ v7 = .bool st.dig ∧ SetI g w wc ((tx s).drop n0) (tx s) i st ng dp ∧ RfEnd false ((tx s).drop n0) (tx s) i st (mv false st.ds) (nz (st.ds.drop (mkx false))) dp)
    case first => as_aux_lemma =>
      go_wp2
      go_loopg [5, 6, 7] (s.size - n0) (fun m v5 v6 v7 wr => ∃ (i : Nat) (st : St) (dp : Int), v5 = .int .i64 (i : Int) ∧ v6 = .bool st.dot ∧ v7 = .bool st.dig ∧ i + m = s.size ∧ SetI g w wr ((tx s).drop n0) (tx s) i st ng dp)
      case atStart => exact ⟨n0, st0, 0, rfl, rfl, rfl, by omega, ⟨rf_start (by rw [tx_length]; exact hn0), ⟨f0, HR2.out.1, fun i hi => absurd hi (by simp [st0])⟩, HR2.out.2⟩⟩
      case round =>
        clear HR2 hn0 hn1
        obtain ⟨i, st, dp, rfl, rfl, rfl, him, HS⟩ := hrel
        have HSS := Hd.mk HS
        obtain ⟨f, hr, hdg⟩ := HS.ex
        have HI := HS.inv
        have HB := Hd.mk HS.bel
        have HDG := Hd.mk hdg
        have hdpb := HI.dpb
        have hdsl := HI.len
        have hcn := hr.cnd
        have hcp := hr.cdp
        have hct := hr.ctr
        have hf := hr.fz
        have HRW := Hd.mk hr
        clear HS hr hdg
        obtain ⟨ds, frac, dot, dig, und⟩ := st
        simp only at hcn hdsl
        cases gk with
        | zero =>
          obtain rfl : i = s.size := by omega
          clear HI
          go_wp2
          go_meet
          case rel => exact ⟨s.size, ⟨ds, frac, dot, dig, und⟩, dp, rfl, rfl, rfl, HSS.out, HSS.out.inv.fin (by rw [tx_length])⟩
        | succ m =>
          have hlt : i < s.size := by omega
          have h256 := UInt8.toNat_lt s[i]
          have HBT := Hd.mk (bt_get s i hlt)
          have HII := Hd.mk HI
          clear HI
          by_cases h95 : s[i].toNat = 95
          · have hb1 : ((s[i].toNat : Int) == 95) = true := beq_iff_eq.2 (by omega)
            go_wp2
            go_roundg m
            case measure => omega
            case rel => exact ⟨i + 1, ⟨ds, frac, dot, dig, true⟩, dp, by go_num, rfl, rfl, by omega, ⟨HII.out.undS (by rw [tx_length]; exact hlt) HBT.out h95, ⟨f, HRW.out, HDG.out⟩, HB.out⟩⟩
          · have hb1 : ((s[i].toNat : Int) == 95) = false := beq_eq_false_iff_ne.2 (by omega)
            by_cases h46 : s[i].toNat = 46
            · have hb2 : ((s[i].toNat : Int) == 46) = true := beq_iff_eq.2 (by omega)
              cases dot
              case true =>
                exfalso
                have h1 := HII.out.stopS (by rw [tx_length]; exact hlt) HBT.out h95 (fun _ => rfl) (by rw [h46]; exact dval_46 false)
                have h2 := set_cases h1.stop h1.inv.il HU.out
                rw [← HBT.out, h46, tx_length] at h2
                rcases h2.2.2.2 with h3 | h3
                · omega
                · exact absurd h3.1 (by decide)
              case false =>
                go_wp2
                go_roundg m
                case measure => omega
                case rel => exact ⟨i + 1, ⟨ds, frac, true, dig, und⟩, (ds.length : Int), by go_num, rfl, rfl, by omega, ⟨HII.out.dotS (by rw [tx_length]; exact hlt) HBT.out h46 rfl, ⟨f, HRW.out.setP _, HDG.out⟩, HB.out.set _ _⟩⟩
            · have hb2 : ((s[i].toNat : Int) == 46) = false := beq_eq_false_iff_ne.2 (by omega)
              by_cases hd : 48 ≤ s[i].toNat ∧ s[i].toNat ≤ 57
              · have hb3 : (48 : Int) ≤ (s[i].toNat : Int) := by omega
                have hb4 : (s[i].toNat : Int) ≤ 57 := by omega
                have hdv : Hd (dval false s[i].toNat = some (s[i].toNat - 48)) := ⟨dval_c hd⟩
                by_cases hlead : s[i].toNat = 48 ∧ ds = []
                · obtain ⟨h48, hnil⟩ := hlead
                  subst hnil
                  have hb48 : ((s[i].toNat : Int) == 48) = true := beq_iff_eq.2 (by omega)
                  go_wp2
                  go_roundg m
                  case measure => omega
                  case rel => exact ⟨i + 1, ⟨[], if dot then frac + 1 else frac, dot, true, und⟩, dp - 1, by go_num, rfl, rfl, by omega, ⟨HII.out.zero (by rw [tx_length]; exact hlt) HBT.out h48, ⟨f, HRW.out.setP _, HDG.out⟩, HB.out.set _ _⟩⟩
                · have HNZ : Hd (0 < ds.length ∨ s[i].toNat - 48 ≠ 0) := ⟨by
                    by_cases hnil : ds = []
                    · right; have : s[i].toNat ≠ 48 := fun h => hlead ⟨h, hnil⟩
                      omega
                    · left; exact List.length_pos_iff.2 hnil⟩
                  clear hlead
                  have hlz : (((s[i].toNat : Int) == 48) = false) ∨ (((s[i].toNat : Int) == 48) = true ∧ ((ds.length : Int) == 0) = false) := by
                    by_cases h48 : s[i].toNat = 48
                    · right; exact ⟨beq_iff_eq.2 (by omega), beq_eq_false_iff_ne.2 (by have := HNZ.out; omega)⟩
                    · left; exact beq_eq_false_iff_ne.2 (by omega)
                  have hl8 : decide ((ds.length : Int) < 800) = true := decide_eq_true (by omega)
                  have hl8i : (ds.length : Int) < 800 := by omega
                  have hl0i : (0 : Int) ≤ (ds.length : Int) := by omega
                  rcases hlz with hb48 | ⟨hb48, hbn0⟩
                  all_goals
                    go_wp2
                    go_still_tail 11, (by kernel_rfl)
                    change wpList _ _ _ _ _ wr.drew
                    generalize hw2 : wr.drew = w2
                    have hr2 : Rw w2 g f (ds.length : Nat) dp ng false := by rw [← hw2]; exact HRW.out.drew
                    have hr3 := hr2.setD ds.length s[i].toNat (by omega)
                    have HR3 := Hd.mk hr3
                    have HB3 : Hd (Bel g w w2) := ⟨by rw [← hw2]; exact HB.out.drew⟩
                    have hc2 := hr2.cell ds.length (by omega)
                    have hf2 := hr2.fz ds.length
                    have hcn3 := hr3.cnd
                    have hf3 := hr3.fz 800
                    obtain ⟨y, hy⟩ : ∃ y, y = f ds.length := ⟨_, rfl⟩
                    rw [← hy] at hc2
                    clear hw2 hr2 hr3 hcn hf hcp hct hy
                    go_wp2
                    go_roundg m
                    case measure => omega
                    case rel => exact ⟨i + 1, ⟨ds ++ [s[i].toNat - 48], if dot then frac + 1 else frac, dot, true, und⟩, dp, by go_num, rfl, rfl, by omega, ⟨HII.out.digF (by rw [tx_length]; exact hlt) HBT.out h95 hdv.out HNZ.out, ⟨_, by rw [List.length_append, List.length_singleton]; exact HR3.out.setN _, by have := dgs_push (d := s[i].toNat - 48) HDG.out; rw [show 48 + (s[i].toNat - 48) = s[i].toNat by omega] at this; exact this⟩, (HB3.out.set _ _).set _ _⟩⟩
              · have hdv : dval false s[i].toNat = none := dval_n hd (by simp)
                have hst : Hd (RfEnd false ((tx s).drop n0) (tx s) i ⟨ds, frac, dot, dig, und⟩ (mv false ds) (nz (ds.drop (mkx false))) dp) := ⟨HII.out.stopS (by rw [tx_length]; exact hlt) HBT.out h95 (fun h => absurd h h46) hdv⟩
                clear hdv
                by_cases h48 : (48 : Int) ≤ (s[i].toNat : Int)
                · have h57 : ¬ (s[i].toNat : Int) ≤ 57 := by omega
                  go_wp2
                  go_meet
                  case rel => exact ⟨i, ⟨ds, frac, dot, dig, und⟩, dp, rfl, rfl, rfl, HSS.out, hst.out⟩
                · go_wp2
                  go_meet
                  case rel => exact ⟨i, ⟨ds, frac, dot, dig, und⟩, dp, rfl, rfl, rfl, HSS.out, hst.out⟩
    case rest => as_aux_lemma =>
      obtain ⟨i, st, dp, rfl, rfl, rfl, HS, HE⟩ := hcut
      obtain ⟨f, hr, hdg⟩ := HS.ex
      have HB := Hd.mk HS.bel
      have HDG := Hd.mk hdg
      have HEE := Hd.mk HE
      obtain ⟨c1, c2, c3, c4⟩ := set_cases HE.stop HE.inv.il HU.out
      have hil : i ≤ s.size := by have := HE.inv.il; rw [tx_length] at this; exact this
      have hdpb := HE.inv.dpb
      have hfr := HE.inv.fr
      have hdsl := HE.inv.len
      have hcn := hr.cnd
      have hcp := hr.cdp
      have hf := hr.fz
      have HRW := Hd.mk hr
      have HN := Hd.mk (And.intro c2 c3)
      have HC4 := Hd.mk c4
      clear HS HE hr hdg c2 c3 c4 HR2 hn0 hn1
      obtain ⟨ds, frac, dot, dig, und⟩ := st
      simp only at hcn hdsl hfr c1
      subst c1
      obtain ⟨dp2, hdp2⟩ : ∃ d : Int, d = (ds.length : Int) - frac := ⟨_, rfl⟩
      have HDP2 := Hd.mk hdp2
      have hdp2b : -1000 ≤ dp2 ∧ dp2 ≤ 1000 := by omega
      clear hdp2
      go_upto_if 120 with (fail)
      go_cut [] from 121 to 127 (fun wc => Rw wc g f (ds.length : Nat) dp2 ng false ∧ Bel g w wc)
      case first =>
        have hd1 := HEE.out.inv.dpd
        have hd2 := HEE.out.inv.dpn
        simp only at hd1 hd2
        cases dot
        case true =>
          have h1 : Hd (dp = dp2) := ⟨by rw [HDP2.out]; exact hd1 rfl⟩
          clear hd1 hd2
          go_wp2
          go_meet
          exact ⟨by rw [← h1.out]; exact HRW.out, HB.out⟩
        case false =>
          have h1 : Hd ((ds.length : Int) = dp2) := ⟨by rw [HDP2.out]; have := hd2 rfl; omega⟩
          clear hd1 hd2
          go_wp2
          go_meet
          exact ⟨by have := HRW.out.setP (ds.length : Int); rw [h1.out] at this ⊢; exact this, HB.out.set _ _⟩
      case rest =>
        obtain ⟨hr4, hb4⟩ := hcut
        have HR4 := Hd.mk (And.intro hr4 hb4)
        have hcp4 := hr4.cdp
        have hf4 := hr4.fz
        clear hr4 hb4 hcn hcp hf
        have HDS : Hd (nm.ds = ds ∧ nm.frac = frac) := HN
        have HDG2 : Hd (Dgs f ds) := HDG
        clear HN HDG HRW HEE HB
        rcases HC4.out with ⟨hA1, hA2, hA3⟩ | ⟨hB1, u, hB2⟩
        · obtain rfl : i = s.size := by rw [hA2, tx_length]
          have HE0 := Hd.mk hA3
          have HR5 : Hd (SetP g nm ng wc ∧ Bel g w wc) := ⟨⟨⟨f, by rw [HDS.out.1, HDS.out.2, HE0.out, Int.add_zero, ← HDP2.out]; exact HR4.out.1, by rw [HDS.out.1]; exact HDG2.out⟩⟩, HR4.out.2⟩
          clear hA1 hA2 hA3 HC4
          go_wp2
          go_ret
          exact ⟨rfl, HR5.out.1, HR5.out.2⟩
        · have hlt : i < s.size := by
            have := bt_in (l := tx s) (k := i) (by intro e; rw [e] at hB1; exact absurd hB1 (by decide))
            rw [tx_length] at this; exact this
          have h256 := UInt8.toNat_lt s[i]
          have HBT := Hd.mk (bt_get s i hlt)
          have hmb : ((lw s[i].toNat : Int) == 101) = true := beq_iff_eq.2 (by rw [HBT.out]; omega)
          obtain ⟨k, hk⟩ : ∃ k, k = i + 1 := ⟨_, rfl⟩
          rw [← hk] at hB2
          have hik : (i : Int) + 1 = (k : Int) := by omega
          obtain ⟨hd1, hd2, E, hE1, hE2⟩ := set_ex hB2
          rw [tx_length] at hd2
          have hkl : k < s.size := by unfold sk at hd2; split at hd2 <;> omega
          have hle : decide (s.size ≤ k) = false := decide_eq_false (by omega)
          have HE := Hd.mk (And.intro hE1 hE2)
          have HD := Hd.mk hd1
          have HD2 := Hd.mk hd2
          clear hk hB1 hB2 hd1 hd2 hE1 hE2 HC4
          have HBK := Hd.mk (bt_get s k hkl)
          have h256k := UInt8.toNat_lt s[k]
          go_upto_region 35 with (go_at_call 110; ((with_reducible refine (slow_any _ _ h256).mono ?_); rintro e' w' ⟨rfl, rfl⟩))
          go_upto_block 4 with (fail)
          go_cut [5, 8] from 148 to 155 (fun v5 v8 w5 => v5 = .int .i64 (sk (tx s) k : Nat) ∧ v8 = .int .i64 (if bt (tx s) k = 45 then -1 else 1) ∧ wc = w5)
          case first =>
            by_cases h43 : s[k].toNat = 43
            · have hb1 : ((s[k].toNat : Int) == 43) = true := beq_iff_eq.2 (by omega)
              have hs1 : Hd (sk (tx s) k = k + 1) := ⟨by unfold sk; rw [if_pos (.inl (by rw [← HBK.out]; exact h43))]⟩
              go_wp2
              go_meet
              exact ⟨by rw [hs1.out]; go_num, by rw [if_neg (by rw [← HBK.out]; omega)], rfl⟩
            · have hb1 : ((s[k].toNat : Int) == 43) = false := beq_eq_false_iff_ne.2 (by omega)
              by_cases h45 : s[k].toNat = 45
              · have hb2 : ((s[k].toNat : Int) == 45) = true := beq_iff_eq.2 (by omega)
                have hs1 : Hd (sk (tx s) k = k + 1) := ⟨by unfold sk; rw [if_pos (.inr (by rw [← HBK.out]; exact h45))]⟩
                go_wp2
                go_meet
                exact ⟨by rw [hs1.out]; go_num, by rw [if_pos (by rw [← HBK.out]; exact h45)], rfl⟩
              · have hb2 : ((s[k].toNat : Int) == 45) = false := beq_eq_false_iff_ne.2 (by omega)
                have hs1 : Hd (sk (tx s) k = k) := ⟨by unfold sk; rw [if_neg (by rw [← HBK.out]; omega)]⟩
                go_wp2
                go_meet
                exact ⟨by rw [hs1.out], by rw [if_neg (by rw [← HBK.out]; exact h45)], rfl⟩
          case rest =>
            obtain ⟨rfl, rfl, rfl⟩ := hcut
            clear HBT HBK h256 h256k hmb
            obtain ⟨j, hj⟩ : ∃ j, j = sk (tx s) k := ⟨_, rfl⟩
            obtain ⟨es, hes⟩ : ∃ es : Int, es = if bt (tx s) k = 45 then -1 else 1 := ⟨_, rfl⟩
            rw [← hj, ← hes]
            rw [← hj, ← hes] at HE
            rw [← hj] at HD HD2
            have hes1 : Hd (es = -1 ∨ es = 1) := ⟨by rw [hes]; split <;> simp⟩
            clear hj hes
            have hlj := HD2.out
            have HBJ := Hd.mk (bt_get s j hlj)
            have hlej : decide (s.size ≤ j) = false := decide_eq_false (by omega)
            have hj48 : decide ((s[j].toNat : Int) < 48) = false := decide_eq_false (by rw [HBJ.out]; have := HD.out.1; omega)
            have hj57 : decide ((57 : Int) < (s[j].toNat : Int)) = false := decide_eq_false (by rw [HBJ.out]; have := HD.out.2; omega)
            go_wp2
            go_loopg [5, 9] (s.size - j) (fun m v5 v9 wr => ∃ (q e : Nat) (u : Bool), v5 = .int .i64 (q : Int) ∧ v9 = .int .i64 (e : Int) ∧ q + m = s.size ∧ e ≤ 99999 ∧ Hd (eg 0 false ((tx s).drop j) = eg e u ((tx s).drop q)) ∧ wc = wr)
            case atStart => exact ⟨j, 0, false, rfl, rfl, by omega, by omega, ⟨rfl⟩, rfl⟩
            case round =>
              obtain ⟨q, e, u, rfl, rfl, hqm, he, HQ, rfl⟩ := hrel
              cases gk with
              | zero =>
                obtain rfl : q = s.size := by omega
                have heE : e = E := by
                  have := HQ.out
                  rw [HE.out.1, List.drop_of_length_le (by rw [tx_length]; exact Nat.le_refl _), eg] at this
                  injection this with h1 h2
                  exact h1.symm
                have hesb : -99999 ≤ (e : Int) * es ∧ (e : Int) * es ≤ 99999 := by rcases hes1.out with h | h <;> rw [h] <;> omega
                obtain ⟨ee, hee⟩ : ∃ ee : Int, ee = (e : Int) * es := ⟨_, rfl⟩
                have hee2 : (e : Int) * es = ee := hee.symm
                rw [hee2] at hesb
                have HR5 : Hd (SetP g nm ng (wc.setCell ⟨g, 801, none⟩ (.int .i64 (dp2 + ee))) ∧ Bel g w (wc.setCell ⟨g, 801, none⟩ (.int .i64 (dp2 + ee)))) := ⟨⟨⟨f, by
                  rw [HDS.out.1, HDS.out.2, HE.out.2, ← heE, hee2, ← HDP2.out]; exact HR4.out.1.setP _, by rw [HDS.out.1]; exact HDG2.out⟩⟩, HR4.out.2.set _ _⟩
                clear heE hee
                go_wp2
                go_ret
                exact ⟨rfl, HR5.out.1, HR5.out.2⟩
              | succ m =>
                have hlq : q < s.size := by omega
                have HBT := Hd.mk (bt_get s q hlq)
                have h256 := UInt8.toNat_lt s[q]
                by_cases h95 : s[q].toNat = 95
                · have hb : ((s[q].toNat : Int) == 95) = true := beq_iff_eq.2 (by omega)
                  have hb3 : (48 : Int) ≤ (s[q].toNat : Int) := by omega
                  have hb4 : ¬ (s[q].toNat : Int) ≤ 57 := by omega
                  go_wp2_with fail
                  go_roundg m
                  case measure => omega
                  case rel => exact ⟨q + 1, e, true, by go_num, rfl, by omega, by omega, ⟨by rw [HQ.out, eg_und (by rw [tx_length]; exact hlq) (by rw [← HBT.out]; exact h95)]⟩, rfl⟩
                · have hb : ((s[q].toNat : Int) == 95) = false := beq_eq_false_iff_ne.2 (by omega)
                  by_cases hdg : 48 ≤ s[q].toNat ∧ s[q].toNat ≤ 57
                  · have hb3 : (48 : Int) ≤ (s[q].toNat : Int) := by omega
                    have hb4 : (s[q].toNat : Int) ≤ 57 := by omega
                    have HDG3 : Hd (48 ≤ bt (tx s) q ∧ bt (tx s) q ≤ 57) := ⟨by rw [← HBT.out]; exact hdg⟩
                    by_cases he4 : (e : Int) < 10000
                    · go_wp2_with fail
                      go_roundg m
                      case measure => omega
                      case rel => exact ⟨q + 1, e * 10 + (s[q].toNat - 48), u, by go_num, by go_num, by omega, by omega, ⟨by rw [HQ.out, eg_dig (by rw [tx_length]; exact hlq) HDG3.out, ← HBT.out, if_pos (by omega)]⟩, rfl⟩
                    · go_wp2_with fail
                      go_roundg m
                      case measure => omega
                      case rel => exact ⟨q + 1, e, u, by go_num, rfl, by omega, by omega, ⟨by rw [HQ.out, eg_dig (by rw [tx_length]; exact hlq) HDG3.out, if_neg (by omega)]⟩, rfl⟩
                  · exfalso
                    have h1 := HQ.out
                    rw [HE.out.1] at h1
                    have h2 := eg_stop h1.symm (by rw [← HBT.out]; exact hdg) (by rw [← HBT.out]; exact h95)
                    rw [tx_length] at h2
                    omega
end Go.Proofs.YtknjgopapbemcaaGreatDoor
