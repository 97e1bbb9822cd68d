/- Gd: joined by merge.py for the claim. -/
import Derived.Test.YtknjgopapbemcaaGreatDoorXGbGc
import Derived.Test.YtknjgopapbemcaaGreatDoorXLr
/- Walk of internal/strconv's parseFloat64. -/
namespace Go.Proofs.YtknjgopapbemcaaGreatDoor
open Go.RowKit
set_option linter.unusedVariables false
set_option linter.unusedSimpArgs false
theorem len_any (d : Nat) (w : World) (hd : d < 18446744073709551616) : Calls Tryz.prog 112 #[.int .u64 (d : Int)] w fun e w' => e = .returned (.int .i64 ((Lib.bitLen d : Nat) : Int)) ∧ w = w' :=
  (Tryz.bits_Len64 (d : Int) w (by omega) (by omega)).mono fun _ _ h => ⟨h.1, h.2.symm⟩

theorem usc_of {p lp : Int} {hi0 lo0 x s : Nat} (hc : Cert p lp hi0 lo0) (hx1 : 9223372036854775808 ≤ x) (hx2 : x < 18446744073709551616) (hs8 : 8 ≤ s) :
    ∀ hi mid mid2, hi = x * hi0 / 18446744073709551616 → mid = x * hi0 % 18446744073709551616 → mid2 = x * lo0 / 18446744073709551616 → USc x hi0 lo0 (pN p lp) (pD p lp) s hi mid mid2 := by
  rintro _ _ _ rfl rfl rfl
  exact uscale_spec (r := x * lo0 % 18446744073709551616) hx1 hx2 hc.lo (pD_pos p lp) hc.b1 hc.b2 (by omega) (Nat.mod_lt _ (by omega)) (by omega) (Nat.mod_lt _ (by omega)) hc.gap hs8
theorem uscale_T (x hi0 lo0 Pn Pd s P g : Nat) (w : World) (T : Nat) (hx63 : 9223372036854775808 ≤ x) (hx : x < 18446744073709551616) (hhi : hi0 < 18446744073709551616) (hlo : lo0 < 18446744073709551616) (hs8 : 8 ≤ s) (hs : s < 64)
    (hP : P = 2 ^ s) (HU : ∀ hi mid mid2, hi = x * hi0 / 18446744073709551616 → mid = x * hi0 % 18446744073709551616 → mid2 = x * lo0 / 18446744073709551616 → USc x hi0 lo0 Pn Pd s hi mid mid2)
    (hg : w.heap[g]? = some (.cells #[.int .u64 (hi0 : Int), .int .u64 (lo0 : Int), .int .i64 (s : Int)] 189 (0, 0))) (hT : T = stk (x * Pn) (2 ^ 128 * Pd * 2 ^ s)) :
    Calls Tryz.prog 115 #[.int .u64 (x : Int), .pointer (some ⟨g, 0, none⟩)] w fun e w' => e = .returned (.int .u64 ((T : Nat) : Int)) ∧ ∃ n, w' = w.drewN n := by
  rw [hT]; exact uscale_any x hi0 lo0 Pn Pd s P g w hx63 hx hhi hlo hs8 hs hP HU hg
theorem pack_Z (b : Bool) (m Z : Nat) (e : Int) (w : World) (hZ : Z = sgnB b + m) (hm : m < 9007199254740992) (he1 : -1074 ≤ e) (he2 : e ≤ 3000) (hlo : e = -1074 ∨ 4503599627370496 ≤ m) :
    Calls Tryz.prog 122 #[.int .u64 (Z : Int), .int .i64 e] w fun r w' => r = erv (sgnB b + min ((e + 1074).toNat * C + m) infR) (decide (min ((e + 1074).toNat * C + m) infR = infR)) ∧ w = w' := by
  rw [hZ]; exact pack_any b m e w hm he1 he2 hlo
theorem erv_parts {x : Nat} {b : Bool} : erv x b = .returned (.tuple #[.float .f64 x, if b then .iface 115 (.int .i64 1) else .nilIface]) := rfl
theorem or_low (T : Nat) : T ||| T % 2 = T := by
  rw [or_bit _ _ (by omega)]; split <;> omega
set_option maxHeartbeats 1000000 in
set_option maxRecDepth 100000 in
theorem pf64_any (neg : Bool) (d : Nat) (p : Int) (w : World) (hG : Gl w) (hd0 : 0 < d) (hd : d < 18446744073709551616) (hp1 : -348 ≤ p) (hp2 : p ≤ 347) :
    Calls Tryz.prog 102 #[.int .u64 (d : Int), .int .i64 p, .int .u64 ((sgnB neg : Nat) : Int)] w fun e w' => e = erv (sgnB neg + rung (nN d p) (nD p)) (decide (rung (nN d p) (nD p) = infR)) ∧ Below w.heap.size w w' := by
  obtain ⟨b1, b2, b3, b4⟩ := bitLen_spec hd hd0
  have HL := Hd.mk (fun w => len_any d w hd)
  generalize Lib.bitLen d = b at *
  have hlg : -1200 ≤ lgp p ∧ lgp p ≤ 1200 := by unfold lgp; omega
  have HLG := Hd.mk (fun w => lgp_any p w (by omega) (by omega))
  obtain ⟨i, hi⟩ : ∃ i : Nat, (i : Int) = p + 348 := ⟨(p + 348).toNat, by omega⟩
  have hi696 : i < Go.Pinned.pow10Rows.length := by rw [rows_length]; omega
  have HC := Hd.mk (cert_of i hi696 p (by omega))
  generalize lgp p = lp at *
  obtain ⟨R, hR⟩ : ∃ R, R = rung (nN d p) (nD p) := ⟨_, rfl⟩
  rw [← hR]
  have HR := Hd.mk hR
  obtain ⟨sg, hsg⟩ : ∃ s, s = sgnB neg := ⟨_, rfl⟩
  rw [← hsg]
  have HSG := Hd.mk hsg
  have HB := Hd.mk (And.intro b3 b4)
  clear hR hsg b3 b4
  go_enter Tryz.func102, Tryz.ntmps102
  go_upto_region 5 with (first | (go_at_call 112; ((with_reducible refine (HL.out _).mono ?_); rintro e w' ⟨rfl, rfl⟩)) | (go_at_call 113; ((with_reducible refine (HLG.out _).mono ?_); rintro e w' ⟨rfl, rfl⟩)))
  obtain ⟨e, he⟩ : ∃ e : Int, e = min 1074 (53 - (b : Int) - lp) := ⟨_, rfl⟩
  rw [← he]
  have heb : -1300 ≤ e ∧ e ≤ 1074 := by omega
  obtain ⟨s, hs⟩ : ∃ s : Nat, (s : Int) = -(e - (64 - (b : Int)) + lp + 3) := ⟨(-(e - (64 - (b : Int)) + lp + 3)).toNat, by omega⟩
  have HLaw := Hd.mk (parse64_law HC.out b1 b2 HB.out.1 HB.out.2 he hs)
  have hs8 : 8 ≤ s := by omega
  have hs2000 : s ≤ 3000 := by omega
  have hGW : Hd (Gl (w.alloc (.cells #[.int .u64 0, .int .u64 0, .int .i64 0] 189))) := ⟨hG.below ((Below.refl _ _).alloc (Nat.le_refl _) _)⟩
  have hBW : Hd (Below w.heap.size w (w.alloc (.cells #[.int .u64 0, .int .u64 0, .int .i64 0] 189))) := ⟨(Below.refl _ _).alloc (Nat.le_refl _) _⟩
  have hgn : Hd ((w.alloc (.cells #[.int .u64 0, .int .u64 0, .int .i64 0] 189)).heap[w.heap.size]? = some (.cells #[.int .u64 0, .int .u64 0, .int .i64 0] 189 (0, 0))) := ⟨heap_alloc_new _ _⟩
  have hw40 := hG.sz
  generalize w.alloc (.cells #[.int .u64 0, .int .u64 0, .int .i64 0] 189) = W1 at *
  have hgS : Hd (w.heap.size < W1.heap.size) := ⟨lt_of_block hgn.out⟩
  generalize hgw : w.heap.size = g at *
  have HGW := Hd.mk hgw
  clear hgw
  have HS := Hd.mk hs
  clear he hs
  have hls : ((e - (64 - (b : Int)) + lp + 3)) = -(s : Int) := by have := HS.out; omega
  go_upto_region 6 with (go_at_call 114; ((with_reducible refine (prescale_any g i _ p lp _ _ _ _ hGW.out hi696 (by omega) (by omega) (by omega) (by omega) (by omega) (by omega) hgn.out).mono ?_); rintro r w' ⟨rfl, hg1, hb1⟩))
  rw [hls, Int.neg_neg] at hg1
  have HG1 := Hd.mk hg1
  have HB1 : Hd (Below g w w') := ⟨hBW.out.trans (hb1.below.mono (by have := hgS.out; omega))⟩
  have hc2 : w'.cell? ⟨g, 2, none⟩ = some (.int .i64 (s : Int)) := by simp [World.cell?, hg1]
  clear hg1 hb1
  by_cases h64 : 64 ≤ s
  · have h64b : decide ((64 : Int) ≤ (s : Int)) = true := decide_eq_true (by omega)
    have hor : bits .or .u64 (sg : Int) 0 = (sg : Int) := (u64_or_nat sg 0 (by rw [HSG.out]; cases neg <;> decide) (by omega)).trans (by rw [Nat.or_zero])
    have hfb := fb2_run
    go_wp2_with fail
    go_ret2
    have hR0 : R = 0 := by rw [HR.out]; exact HLaw.out.2.1 h64
    refine ⟨?_, by rw [HGW.out]; exact HB1.out⟩
    rw [hR0, decide_eq_false (by decide)]
    exact erv_eq (b := false) (by rw [Nat.add_zero])
  · have h64b : decide ((64 : Int) ≤ (s : Int)) = false := decide_eq_false (by omega)
    obtain ⟨x, hx⟩ : ∃ x, x = d * 2 ^ (64 - b) := ⟨_, rfl⟩
    have hx1 : 9223372036854775808 ≤ x := by
      rw [hx]
      refine Nat.le_trans (Nat.le_of_eq ?_) (Nat.mul_le_mul_right _ HB.out.1)
      rw [← Nat.pow_add, show b - 1 + (64 - b) = 63 by omega]
    have hx2 : x < 18446744073709551616 := by
      rw [hx]
      refine Nat.lt_of_lt_of_eq (Nat.mul_lt_mul_of_pos_right HB.out.2 (Nat.two_pow_pos _)) ?_
      rw [← Nat.pow_add, show b + (64 - b) = 64 by omega]
    have hxe : IntKind.u64.wrap ((d : Int) * 2 ^ (64 - b)) = (x : Int) := by
      have : ((d : Int) * 2 ^ (64 - b)) = ((x : Nat) : Int) := by rw [hx, Int.natCast_mul, Int.natCast_pow]; rfl
      rw [this, IntKind.wrap_u64]; omega
    have HLaw2 := Hd.mk HLaw.out.2.2
    rw [← hx] at HLaw2
    have HU := Hd.mk (usc_of HC.out hx1 hx2 hs8)
    have HX := Hd.mk hx
    clear hx
    obtain ⟨T, hT⟩ : ∃ T, T = stk (x * pN p lp) (2 ^ 128 * pD p lp * 2 ^ s) := ⟨_, rfl⟩
    rw [← hT] at HLaw2
    have hTb : T < 72057594037927940 := by
      have h53 := HLaw2.out.m53
      unfold urd at h53
      by_cases hb : 36028797018963966 ≤ T
      · rw [if_pos hb] at h53
        have : T / 2 ≤ T / 2 ||| T % 2 := Nat.left_le_or
        omega
      · omega
    have HT := Hd.mk hT
    clear hT
    go_upto_region 9 with (go_at_call 115; ((with_reducible refine (uscale_T x _ _ _ _ s _ g _ T hx1 hx2 HC.out.hi HC.out.lo hs8 (by omega) rfl HU.out HG1.out HT.out).mono ?_); rintro r w2 ⟨rfl, nu, rfl⟩))
    have hr : bits .and .u64 (T : Int) 1 = (T : Int) % 2 := (u64_and_nat T 1 (by omega) (by omega)).trans (by rw [Nat.and_one_is_mod]; rfl)
    by_cases hbig : 36028797018963966 ≤ T
    · have hbb : decide ((36028797018963966 : Int) ≤ (T : Int)) = true := decide_eq_true (by omega)
      obtain ⟨y, hy⟩ : ∃ y, y = T / 2 ||| T % 2 := ⟨_, rfl⟩
      have hor : bits .or .u64 ((T : Int) / 2) ((T : Int) % 2) = (y : Int) := by rw [hy]; exact u64_or_nat (T / 2) (T % 2) (by omega) (by omega)
      have hyl : y < 9223372036854775808 := by rw [hy]; exact Nat.or_lt_two_pow (n := 63) (by omega) (by omega)
      obtain ⟨h53, h52, hrg⟩ := HLaw2.out
      rw [if_pos hbig, ← hy] at h53 h52 hrg
      rw [if_pos hbig] at h52 hrg
      obtain ⟨m, hm⟩ : ∃ m, m = urd y := ⟨_, rfl⟩
      rw [← hm] at h53 h52 hrg
      obtain ⟨Z, hZ⟩ : ∃ Z, Z = sgnB neg + m := ⟨_, rfl⟩
      have hor2 : bits .or .u64 (sg : Int) (m : Int) = (Z : Int) := by rw [HSG.out, hZ]; exact or_mag neg (by omega)
      have HRo := Hd.mk (fun w => round_any y w hyl)
      rw [← hm] at HRo
      have HFIN := Hd.mk (And.intro hZ hrg)
      have H52 := Hd.mk h52
      clear hy hm hZ hrg h52
      have hne : -(e - 1) = 1 - e := by omega
      go_upto_region 12 with (first | (go_at_call 117; ((with_reducible refine (unmin_any _).mono ?_); rintro r w3 ⟨rfl, rfl⟩)) | (go_at_call 116; ((with_reducible refine (b3_any true _).mono ?_); rintro r w3 ⟨rfl, rfl⟩)))
      go_wp2_with (first | (go_at_call 119; ((with_reducible refine (HRo.out _).mono ?_); rintro r w3 ⟨rfl, rfl⟩)) | fail)
      refine (pack_Z neg m Z _ _ HFIN.out.1 h53 (by omega) (by omega) (by have := H52.out; omega)).mono ?_
      rintro r w3 ⟨rfl, rfl⟩
      unfold erv
      rw [show (1 - e + 1074).toNat = (1074 - (e - 1)).toNat by omega, ← HFIN.out.2, ← HR.out]
      have HB3 : Hd (Below g w (w'.drewN nu)) := ⟨below_drewN HB1.out nu⟩
      cases hov : decide (R = infR)
      all_goals
        have HOV := Hd.mk hov
        go_wp2_with fail
        go_ret2
        refine ⟨?_, by rw [HGW.out]; exact HB3.out⟩
        rw [HSG.out, HOV.out]
        rfl
    · have hbb : decide ((36028797018963966 : Int) ≤ (T : Int)) = false := decide_eq_false (by omega)
      have hor : bits .or .u64 (T : Int) ((T : Int) % 2) = (T : Int) := (u64_or_nat T (T % 2) (by omega) (by omega)).trans (by rw [or_low])
      have hyl : T < 9223372036854775808 := by omega
      obtain ⟨h53, h52, hrg⟩ := HLaw2.out
      rw [if_neg hbig] at h53 h52 hrg
      rw [if_neg hbig] at h52 hrg
      obtain ⟨m, hm⟩ : ∃ m, m = urd T := ⟨_, rfl⟩
      rw [← hm] at h53 h52 hrg
      obtain ⟨Z, hZ⟩ : ∃ Z, Z = sgnB neg + m := ⟨_, rfl⟩
      have hor2 : bits .or .u64 (sg : Int) (m : Int) = (Z : Int) := by rw [HSG.out, hZ]; exact or_mag neg (by omega)
      have HRo := Hd.mk (fun w => round_any T w hyl)
      rw [← hm] at HRo
      have HFIN := Hd.mk (And.intro hZ hrg)
      have H52 := Hd.mk h52
      clear hm hZ hrg h52
      go_upto_region 12 with (first | (go_at_call 117; ((with_reducible refine (unmin_any _).mono ?_); rintro r w3 ⟨rfl, rfl⟩)) | (go_at_call 116; ((with_reducible refine (b3_any false _).mono ?_); rintro r w3 ⟨rfl, rfl⟩)))
      go_wp2_with (first | (go_at_call 119; ((with_reducible refine (HRo.out _).mono ?_); rintro r w3 ⟨rfl, rfl⟩)) | fail)
      refine (pack_Z neg m Z _ _ HFIN.out.1 h53 (by omega) (by omega) (by have := H52.out; omega)).mono ?_
      rintro r w3 ⟨rfl, rfl⟩
      unfold erv
      rw [show (-e + 1074).toNat = (1074 - e).toNat by omega, ← HFIN.out.2, ← HR.out]
      have HB3 : Hd (Below g w (w'.drewN nu)) := ⟨below_drewN HB1.out nu⟩
      cases hov : decide (R = infR)
      all_goals
        have HOV := Hd.mk hov
        go_wp2_with fail
        go_ret2
        refine ⟨?_, by rw [HGW.out]; exact HB3.out⟩
        rw [HSG.out, HOV.out]
        rfl
end Go.Proofs.YtknjgopapbemcaaGreatDoor
