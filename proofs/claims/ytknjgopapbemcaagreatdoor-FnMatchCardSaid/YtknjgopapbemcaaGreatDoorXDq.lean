/- Dq: joined by merge.py for the claim. -/
import Derived.Test.YtknjgopapbemcaaGreatDoorXPhPj
/- Walk of internal/strconv's atof64. -/
namespace Go.Proofs.YtknjgopapbemcaaGreatDoor
open Go.RowKit
set_option linter.unusedVariables false
set_option linter.unusedSimpArgs false
set_option maxHeartbeats 2000000 in
set_option maxRecDepth 100000 in
theorem at_any (s : ByteArray) (w : World) (hG : Gl w) (hs : s.size ≤ 400) :
    Calls Tryz.prog 76 #[.string s] w fun e w' => AtOut (tx s) e ∧ Below w.heap.size w w' := by
  have HG := Hd.mk hG
  have hopt := hG.opt
  have hfb := fb2_run
  clear hG
  go_enter Tryz.func76, Tryz.ntmps76
  go_wp2_with fail
  refine (special_any s w (by omega)).mono ?_
  rintro e w' ⟨(⟨x, n, rfl, hs1, hs2, hs3⟩ | ⟨x, n, rfl, hsp⟩), rfl⟩
  · have HSP := Hd.mk (NoSp.mk hs1 hs2 hs3)
    clear hs1 hs2 hs3
    go_wp2_with fail
    refine (rf_any s w (by omega)).mono ?_
    rintro e w' ⟨(⟨a, b, c, d, f, i, rfl, hw⟩ | ⟨m, x, neg, tr, hex, i, n, rfl, ho⟩), rfl⟩
    · have HW := Hd.mk hw
      clear hw
      go_wp2_with fail
      go_ret3
      exact ⟨at_syntax (at_none HSP.out HW.out), Below.refl _ _⟩
    · have HO := Hd.mk ho
      have his : i ≤ s.size := by have := ho.il; rw [tx_length] at this; exact this
      clear ho
      cases hex
      case true =>
        obtain ⟨h1, h2, h3, h4, h5⟩ := at_hex HO.out
        obtain ⟨R, hR⟩ : ∃ R, R = rg (if tr then m ||| 1 else m) x := ⟨_, rfl⟩
        obtain ⟨er, her⟩ : ∃ er : Value, er = if decide (R = infR) then .iface 115 (.int .i64 1) else .nilIface := ⟨_, rfl⟩
        obtain ⟨y, hy⟩ : ∃ y, y = sgnB neg + R := ⟨_, rfl⟩
        have HA : ∀ (t : ByteArray), Calls Tryz.prog 92 #[.string t, .pointer (some ⟨11, 0, none⟩), .int .u64 (m : Int), .int .i64 x, .bool neg, .bool tr] w fun e w' => e = .returned (.tuple #[.float .f64 y, er]) ∧ ∃ n, w' = w.drewN n := by
          intro t; rw [her, hy, hR]; exact hex_any t m x neg tr w HG.out h5 h3 h4 h2
        have HY := Hd.mk (And.intro her hy)
        have HAH := Hd.mk HA
        have HM : Hd (mag n = R) := ⟨by rw [hR]; exact h1⟩
        clear h1 h2 h3 h4 h5 HA hR her hy
        have HE : Hd (∀ y bad, bad = decide (R = infR) → y = sgnB neg + R → AtE (tx s) y (i : Int) bad) := ⟨fun y bad hb hy => at_num HSP.out HO.out (by rw [HM.out]; exact hb) (fun _ => by rw [HM.out]; exact hy)⟩
        go_wp2_with (go_at_call 92; ((with_reducible refine (HAH.out _).mono ?_); rintro e' w' ⟨rfl, nq, rfl⟩))
        go_ret3
        exact ⟨by rw [HY.out.1]; exact at_erv (HE.out _ _ rfl HY.out.2), below_drewN (Below.refl _ _) _⟩
      case false =>
        obtain ⟨N, M, hok⟩ := decOk HO.out
        have HK := Hd.mk hok
        have hxb := hok.xb
        have hm19 := hok.m19
        have hm64 : m < 18446744073709551615 := by omega
        clear hok hm19
        have HE : Hd (∀ y bad, bad = decide (rung N M = infR) → (bad = false → y = sgnB neg + rung N M) → AtE (tx s) y (i : Int) bad) := ⟨fun y bad hb hy => at_num HSP.out HO.out (by rw [HK.out.mag]; exact hb) (fun h => by rw [HK.out.mag]; exact hy h)⟩
        go_upto_region 11 with (fail)
        go_cut [16] from 65 to 67 (fun v16 wc => v16 = .int .u64 (sgnB neg : Nat) ∧ w = wc)
        case first =>
          cases neg
          case true =>
            go_wp2_with (go_at_call 99; ((with_reducible refine (b2_any _ _).mono ?_); rintro e' w' ⟨rfl, rfl⟩))
            go_meet
            exact ⟨rfl, rfl⟩
          case false =>
            go_wp2_with (go_at_call 99; ((with_reducible refine (b2_any _ _).mono ?_); rintro e' w' ⟨rfl, rfl⟩))
            go_meet
            exact ⟨rfl, rfl⟩
        case rest =>
          obtain ⟨rfl, rfl⟩ := hcut
          have hor0 : bits .or .u64 ((sgnB neg : Nat) : Int) 0 = ((sgnB neg : Nat) : Int) := or_mag neg (m := 0) (by omega)
          have horI : bits .or .u64 ((sgnB neg : Nat) : Int) 9218868437227405312 = ((sgnB neg + infR : Nat) : Int) := or_mag neg (m := infR) infR_lt
          have HOR := Hd.mk (And.intro hor0 horI)
          clear horI
          by_cases hm0 : m = 0
          · have hb : ((m : Int) == 0) = true := beq_iff_eq.2 (by omega)
            have HR : Hd (rung N M = 0) := ⟨by rw [← HK.out.mag]; exact HK.out.zero hm0⟩
            clear hm0
            go_wp2_with fail
            go_ret3
            exact ⟨at_good (HE.out _ _ (by rw [HR.out]; rfl) (fun _ => by rw [HR.out]; rfl)), Below.refl _ _⟩
          · have hb : ((m : Int) == 0) = false := beq_eq_false_iff_ne.2 (by omega)
            have hmp : 0 < m := by omega
            have HV := Hd.mk (HK.out.val hmp)
            by_cases hx1 : 310 < x
            · have hxb1 : decide ((310 : Int) < x) = true := decide_eq_true hx1
              have HR : Hd (rung N M = infR) := ⟨HV.out.over hmp hx1⟩
              have horI := HOR.out.2
              clear hor0
              go_wp2_with fail
              go_ret3
              exact ⟨at_range (HE.out _ _ (by rw [HR.out]; rfl) (fun h => by cases h)), Below.refl _ _⟩
            · have hxb1 : decide ((310 : Int) < x) = false := decide_eq_false hx1
              by_cases hx2 : x < -345
              · have hxb2 : decide (x < (-345 : Int)) = true := decide_eq_true hx2
                have HR : Hd (rung N M = 0) := ⟨HV.out.under HK.out.m19 hx2⟩
                go_wp2_with fail
                go_ret3
                exact ⟨at_good (HE.out _ _ (by rw [HR.out]; rfl) (fun _ => by rw [HR.out]; rfl)), Below.refl _ _⟩
              · have hxb2 : decide (x < (-345 : Int)) = false := decide_eq_false hx2
                clear hor0 hopt
                have HF : ∀ (m1 : Nat) (v : Int) (W : World), Below w.heap.size w W → v = (m1 : Int) → 0 < m1 → m1 < 18446744073709551616 → Calls Tryz.prog 102 #[.int .u64 v, .int .i64 x, .int .u64 ((sgnB neg : Nat) : Int)] W fun e w' =>
                    e = .returned (.tuple #[.float .f64 (sgnB neg + rung (nN m1 x) (nD x)), if decide (rung (nN m1 x) (nD x) = infR) then .iface 115 (.int .i64 1) else .nilIface]) ∧ Below w.heap.size w w' := by
                  intro m1 v W hB hv h1 h2
                  rw [hv]
                  exact (pf64_any neg m1 x W (HG.out.below hB) h1 h2 (by omega) (by omega)).mono fun e w' h => ⟨h.1, hB.trans (h.2.mono hB.size)⟩
                obtain ⟨R1, hR1⟩ : ∃ R, R = rung (nN m x) (nD x) := ⟨_, rfl⟩
                obtain ⟨er, her⟩ : ∃ er : Value, er = if decide (R1 = infR) then .iface 115 (.int .i64 1) else .nilIface := ⟨_, rfl⟩
                obtain ⟨y1, hy1⟩ : ∃ y, y = sgnB neg + R1 := ⟨_, rfl⟩
                have HF1 : Hd (∀ W, Below w.heap.size w W → Calls Tryz.prog 102 #[.int .u64 (m : Int), .int .i64 x, .int .u64 ((sgnB neg : Nat) : Int)] W fun e w' => e = .returned (.tuple #[.float .f64 y1, er]) ∧ Below w.heap.size w w') := by
                  refine ⟨fun W hB => ?_⟩
                  rw [hy1, her, hR1]
                  exact HF m m W hB rfl hmp (by omega)
                cases tr
                case false =>
                  have HEX : Hd (Calls Tryz.prog 101 #[.int .u64 (m : Int), .int .i64 x, .bool neg] w fun e w' => ExOut neg R1 e ∧ w = w') := ⟨by rw [hR1]; exact exact_any neg m x w HG.out hmp (by omega) (by omega) (by omega)⟩
                  have HQ : Hd (rung N M = R1) := ⟨by rw [hR1]; exact HV.out.exact⟩
                  have HY := Hd.mk (And.intro her hy1)
                  clear HF her hy1 hR1
                  go_wp2_with fail
                  refine HEX.out.mono ?_
                  rintro e w' ⟨⟨xx, ok, rfl, hok⟩, rfl⟩
                  have HOK := Hd.mk hok
                  clear hok
                  cases ok
                  case true =>
                    obtain ⟨o1, o2⟩ := HOK.out rfl
                    have HO2 := Hd.mk (And.intro o1 o2)
                    clear o1 o2
                    go_wp2_with fail
                    go_ret3
                    exact ⟨at_good (HE.out _ _ (by rw [HQ.out, decide_eq_false (Nat.ne_of_lt HO2.out.2)]) (fun _ => by rw [HQ.out]; exact HO2.out.1)), Below.refl _ _⟩
                  case false =>
                    go_wp2_with fail
                    refine (HF1.out w (Below.refl _ _)).mono ?_
                    rintro e w' ⟨rfl, hb⟩
                    have HB := Hd.mk hb
                    clear hb
                    go_wp2_with fail
                    go_ret3
                    exact ⟨by rw [HY.out.1]; exact at_erv (HE.out _ _ (by rw [HQ.out]) (fun _ => by rw [HQ.out]; exact HY.out.2)), HB.out⟩
                case true =>
                  obtain ⟨R2, hR2⟩ : ∃ R, R = rung (nN (m + 1) x) (nD x) := ⟨_, rfl⟩
                  obtain ⟨er2, her2⟩ : ∃ er : Value, er = if decide (R2 = infR) then .iface 115 (.int .i64 1) else .nilIface := ⟨_, rfl⟩
                  obtain ⟨y2, hy2⟩ : ∃ y, y = sgnB neg + R2 := ⟨_, rfl⟩
                  have HF2 : Hd (∀ W, Below w.heap.size w W → Calls Tryz.prog 102 #[.int .u64 ((m : Int) + 1), .int .i64 x, .int .u64 ((sgnB neg : Nat) : Int)] W fun e w' => e = .returned (.tuple #[.float .f64 y2, er2]) ∧ Below w.heap.size w w') := by
                    refine ⟨fun W hB => ?_⟩
                    rw [hy2, her2, hR2]
                    exact HF (m + 1) _ W hB (by omega) (by omega) (by omega)
                  have hq : (FloatKind.f64.format.order y1 y2 == some Ordering.eq) = decide (R1 = R2) := by
                    rw [hy1, hy2]; exact feq_iff neg (by rw [hR1]; exact rung_le _ _) (by rw [hR2]; exact rung_le _ _)
                  have HY := Hd.mk (And.intro her hy1)
                  have HR := Hd.mk (And.intro hR1 hR2)
                  clear HF her hy1 hR1 her2 hy2 hR2
                  by_cases h12 : R1 = R2
                  · rw [decide_eq_true h12] at hq
                    have HQ : Hd (rung N M = R1) := ⟨by rw [HR.out.1]; exact HV.out.squeeze (by rw [← HR.out.1, ← HR.out.2]; exact h12)⟩
                    clear h12
                    go_wp2_with fail
                    refine (HF1.out w (Below.refl _ _)).mono ?_
                    rintro e w' ⟨rfl, hb⟩
                    have HB := Hd.mk hb
                    clear hb
                    go_wp2_with fail
                    refine (HF2.out _ HB.out).mono ?_
                    rintro e w2 ⟨rfl, hb⟩
                    have HB2 := Hd.mk hb
                    clear hb
                    go_wp2_with fail
                    go_ret3
                    exact ⟨by rw [HY.out.1]; exact at_erv (HE.out _ _ (by rw [HQ.out]) (fun _ => by rw [HQ.out]; exact HY.out.2)), HB2.out⟩
                  · rw [decide_eq_false h12] at hq
                    have HSL : Hd (R1 ≠ infR) := ⟨fun e => h12 (by
                      have h1 : R1 ≤ R2 := by rw [HR.out.1, HR.out.2]; exact rung_mono (nD_pos x) (nD_pos x) (Nat.mul_le_mul_right _ (nN_le (by omega) x))
                      have h2 : R2 ≤ infR := by rw [HR.out.2]; exact rung_le _ _
                      omega)⟩
                    clear h12
                    go_wp2_with fail
                    refine (HF1.out w (Below.refl _ _)).mono ?_
                    rintro e w' ⟨rfl, hb⟩
                    have HB := Hd.mk hb
                    clear hb
                    go_wp2_with fail
                    refine (HF2.out _ HB.out).mono ?_
                    rintro e w2 ⟨rfl, hb⟩
                    have HB2 := Hd.mk hb
                    clear hb
                    obtain ⟨K, hK⟩ : ∃ K : Nat, K = 10 ^ 799 := ⟨_, rfl⟩
                    have HSET : Hd (Calls Tryz.prog 97 #[.pointer (some ⟨w2.heap.size, 0, none⟩), .string (s.extract 0 i)] (w2.alloc (.cells Tryz.zeroCells173 173)) fun e w' => e = .returned (.bool true) ∧ Below w.heap.size w w' ∧
                        ∃ dp, Dst K w w2.heap.size neg N M w' 0 n.ds dp 0 false ∧ -330 ≤ dp ∧ dp ≤ 310) := by
                      have htk : tx (s.extract 0 i) = (tx s).take i := by rw [tx_extract, List.drop_zero]
                      have hsz : (s.extract 0 i).size ≤ 800 := by rw [← tx_length, htk, List.length_take, tx_length]; omega
                      have hnh : n.hex = false := HO.out.eh.symm
                      obtain ⟨u1, u2, u3⟩ := uns_take HO.out.un hnh HO.out.il
                      refine ⟨(set_any w2.heap.size (s.extract 0 i) (w2.alloc (.cells Tryz.zeroCells173 173)) (fun _ => 0) false false n hsz (by rw [htk]; exact u1) hnh (rw_zero w2)).mono ?_⟩
                      rintro e w' ⟨rfl, hsp, hbl⟩
                      rw [htk, u2, ← HO.out.en] at hsp
                      have hbw : Below w.heap.size w w' := Bel.toBelow (HB2.out.alloc HB2.out.size _) HB2.out.size hbl
                      obtain ⟨_, _, dp, hd, h1, h2⟩ := slow_dst HO.out (by rw [tx_length]; exact hs) HK.out hmp (by omega) (by rw [← HR.out.1]; exact HSL.out) hsp u3 hbw HB2.out.size
                      exact ⟨rfl, hbw, dp, by rw [hK]; exact hd, h1, h2⟩
                    obtain ⟨R, hR⟩ : ∃ R, R = rung N M := ⟨_, rfl⟩
                    have hSL : SlowOk N M ∧ 0 < M := by
                      obtain ⟨u1, u2, u3⟩ := uns_take HO.out.un HO.out.eh.symm HO.out.il
                      exact slow_ok HO.out (by rw [tx_length]; exact hs) HK.out hmp (by omega) (by rw [← HR.out.1]; exact HSL.out) u3
                    have HFB : Hd (∀ W dp, Dst K w w2.heap.size neg N M W 0 n.ds dp 0 false → -330 ≤ dp → dp ≤ 310 → Calls Tryz.prog 98 #[.pointer (some ⟨w2.heap.size, 0, none⟩), .pointer (some ⟨11, 0, none⟩)] W fun r w' =>
                        r = .returned (.tuple #[.int .u64 ((sgnB neg + R : Nat) : Int), .bool (decide (R = infR))]) ∧ Below w.heap.size w w') := ⟨fun W dp hd h1 h2 => by
                      rw [hR]; exact fb_any hd HG.out hK hSL.2 hSL.1.gap hSL.1.n hSL.1.xl h1 h2⟩
                    have HRR := Hd.mk hR
                    clear hR hSL hK
                    go_wp2_with fail
                    refine HSET.out.mono ?_
                    rintro e w3 ⟨rfl, hb3, dp, hd, hd1, hd2⟩
                    have HD := Hd.mk (HFB.out w3 dp hd hd1 hd2)
                    clear hb3 hd hd1 hd2
                    go_wp2_with fail
                    refine HD.out.mono ?_
                    obtain ⟨y, hy⟩ : ∃ y, y = sgnB neg + R := ⟨_, rfl⟩
                    rw [← hy]
                    have HY3 := Hd.mk hy
                    clear hy
                    cases hov : decide (R = infR)
                    · have HOV := Hd.mk hov
                      clear hov
                      rintro e w4 ⟨rfl, hb4⟩
                      have HB4 := Hd.mk hb4
                      clear hb4
                      go_wp2_with fail
                      go_ret3
                      exact ⟨at_good (HE.out _ _ (by rw [← HRR.out, HOV.out]) (fun _ => by rw [← HRR.out]; exact HY3.out)), HB4.out⟩
                    · have HOV := Hd.mk hov
                      clear hov
                      rintro e w4 ⟨rfl, hb4⟩
                      have HB4 := Hd.mk hb4
                      clear hb4
                      go_wp2_with fail
                      go_ret3
                      exact ⟨at_range (HE.out _ _ (by rw [← HRR.out, HOV.out]) (fun h => by cases h)), HB4.out⟩
  · have HSP : Hd (AtE (tx s) x (n : Int) false) := ⟨⟨fun h => by rcases hsp with h1 | h1; exact h1.2; exact absurd (by omega) h1.1, fun h => by rcases hsp with h1 | h1; exact absurd (by rw [h1.1]) h; exact h1.2⟩⟩
    clear hsp
    go_wp2_with fail
    go_ret3
    exact ⟨at_good HSP.out, Below.refl _ _⟩
end Go.Proofs.YtknjgopapbemcaaGreatDoor
