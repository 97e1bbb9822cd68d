/- Gg: joined by merge.py for the claim. -/
import Derived.Test.YtknjgopapbemcaaGreatDoorXGd
import Derived.Laws.FloatArith
/- Walk of internal/strconv's atof64exact. -/
namespace Go.Proofs.YtknjgopapbemcaaGreatDoor
open Go.RowKit
set_option linter.unusedVariables false
set_option linter.unusedSimpArgs false
/-- A float's bits. -/
def fw (b : Bool) (r : Nat) : Nat := sgnB b + r
theorem fw_word (b : Bool) (r : Nat) : fw b r = Ieee.double.word b r := by
  unfold fw; rw [word_double]; cases b
  · exact Nat.zero_add r
  · rfl
theorem near_int (d : Nat) : floatOfInt .f64 (d : Int) = fw false (rung d 1) := by
  have e1 : floatOfInt .f64 (d : Int) = Ieee.double.nearest false d 0 := by
    show Ieee.double.nearest (decide ((d : Int) < 0)) (Int.natAbs d) 0 = Ieee.double.nearest false d 0
    rw [decide_eq_false (by omega), Int.natAbs_natCast]
  rw [e1, nearest_rg, fw_word]
  unfold rg
  simp
theorem xor_sign {r : Nat} (h : r < 9223372036854775808) : r ^^^ 9223372036854775808 = 9223372036854775808 + r := by
  apply Nat.eq_of_testBit_eq
  intro j
  have e := Nat.testBit_two_pow_mul_add (i := 63) 1 (b := r) h j
  rw [show (2 : Nat) ^ 63 * 1 + r = 9223372036854775808 + r from rfl] at e
  have e2 : Nat.testBit 9223372036854775808 j = decide (63 = j) := Nat.testBit_two_pow (n := 63) (m := j)
  rw [Nat.testBit_xor, e, e2]
  by_cases hj : j < 63
  · rw [if_pos hj, decide_eq_false (by omega)]; simp
  · rw [if_neg hj]
    have h3 : r.testBit j = false := Nat.testBit_lt_two_pow (Nat.lt_of_lt_of_le (show r < 2 ^ 63 from h) (two_pow_le (by omega)))
    rw [h3]
    by_cases h63 : 63 = j
    · subst h63; rfl
    · rw [decide_eq_false h63]
      obtain ⟨k, hk⟩ : ∃ k, j - 63 = k + 1 := ⟨j - 64, by omega⟩
      rw [hk]; simp [Nat.testBit_succ]
theorem neg_fw {r : Nat} (h : r < infR) : Op.negFloat .f64 (fw false r) = fw true r := by
  have h1 := infR_lt
  have e : fw false r = r := Nat.zero_add r
  rw [e]
  exact xor_sign (by omega)
theorem neg_run {r : Nat} (h : r < infR) (w : World) : (Op.unary .neg (.float .f64 (fw false r))).run Tryz.prog w = .ok (.float .f64 (fw true r)) w := by
  rw [← neg_fw h]; rfl
theorem mul_fw (b : Bool) {a c N1 N2 : Nat} (ha : a < infR) (hc : c < infR) (h1 : vl a = N1 * S) (h2 : vl c = N2 * S) (t : TypeId) (w : World) :
    (binOp .mul t (.float .f64 (fw b a)) (.float .f64 (fw false c))).run Tryz.prog w = .ok (.float .f64 (fw b (rung (N1 * N2) 1))) w := by
  refine run_float_arith w .mul t .f64 _ _ _ ?_
  show Ieee.double.mul _ _ = _
  rw [fw_word, fw_word, mul_words b false ha hc (N1 := N1) (M1 := 1) (N2 := N2) (M2 := 1) Nat.one_pos Nat.one_pos (by rw [Nat.mul_one]; exact h1) (by rw [Nat.mul_one]; exact h2), Bool.xor_false, fw_word]
theorem div_fw (b : Bool) {a c N1 N2 : Nat} (ha : a < infR) (hc : c < infR) (hN1 : 0 < N1) (hN2 : 0 < N2) (h1 : vl a = N1 * S) (h2 : vl c = N2 * S) (t : TypeId) (w : World) :
    (binOp .quo t (.float .f64 (fw b a)) (.float .f64 (fw false c))).run Tryz.prog w = .ok (.float .f64 (fw b (rung N1 N2))) w := by
  have ha0 : mg a ≠ 0 := by
    intro h
    have h3 : 0 < N1 * S := Nat.mul_pos hN1 S_pos
    rw [← h1] at h3
    unfold vl at h3
    rw [h] at h3
    simp at h3
  refine run_float_arith w .quo t .f64 _ _ _ ?_
  show Ieee.double.div _ _ = _
  rw [fw_word, fw_word, div_words b false ha hc (N1 := N1) (M1 := 1) (N2 := N2) (M2 := 1) Nat.one_pos Nat.one_pos hN2 ha0 (by rw [Nat.mul_one]; exact h1) (by rw [Nat.mul_one]; exact h2), Bool.xor_false, fw_word, Nat.mul_one, Nat.one_mul]

def ExOut (b : Bool) (R : Nat) (e : Ending) : Prop := ∃ x ok, e = .returned (.tuple #[.float .f64 x, .bool ok]) ∧ (ok = true → x = fw b R ∧ R < infR)
theorem tests_le (neg : Bool) {F : Nat} (hF : F < infR) (h1 : (FloatKind.f64.format.order (fw neg F) 4831355200913801216 == some Ordering.gt) = false) (h2 : (FloatKind.f64.format.order (fw neg F) 14054727237768577024 == some Ordering.lt) = false) :
    vl F ≤ 1000000000000000 * S := by
  have hc := pw10_at (k := 15) (by omega)
  have hp : pw10.getD 15 0 = 4831355200913801216 := rfl
  rw [hp] at hc
  obtain ⟨hc1, hc2⟩ := hc
  have e1 : (4831355200913801216 : Nat) = Ieee.double.word false 4831355200913801216 := rfl
  have e2 : (14054727237768577024 : Nat) = Ieee.double.word true 4831355200913801216 := rfl
  have o1 : FloatKind.f64.format.order (fw neg F) 4831355200913801216 = some (compare (sgv neg (vl F)) (sgv false (vl 4831355200913801216))) := by
    rw [fw_word]; exact order_words neg false hF hc2
  have o2 : FloatKind.f64.format.order (fw neg F) 14054727237768577024 = some (compare (sgv neg (vl F)) (sgv true (vl 4831355200913801216))) := by
    rw [fw_word]; exact order_words neg true hF hc2
  rw [o1, hc1] at h1
  rw [o2, hc1] at h2
  have hten : (10 : Nat) ^ 15 = 1000000000000000 := rfl
  rw [hten] at h1 h2
  generalize S = s at *
  generalize vl F = v at *
  have c1 : ∀ a b : Int, (some (compare a b) == some Ordering.gt) = false → a ≤ b := by
    intro a b h
    apply Int.not_lt.1
    intro hlt
    have : compare a b = Ordering.gt := by
      show compareOfLessAndEq a b = _
      unfold compareOfLessAndEq
      rw [if_neg (by omega), if_neg (by omega)]
    rw [this] at h; simp at h
  have c2 : ∀ a b : Int, (some (compare a b) == some Ordering.lt) = false → b ≤ a := by
    intro a b h
    apply Int.not_lt.1
    intro hlt
    have : compare a b = Ordering.lt := by
      show compareOfLessAndEq a b = _
      unfold compareOfLessAndEq
      rw [if_pos hlt]
    rw [this] at h; simp at h
  have h3 := c1 _ _ h1
  have h4 := c2 _ _ h2
  unfold sgv at h3 h4
  cases neg
  · simp only [Bool.false_eq_true, if_false] at h3; omega
  · simp only [if_true] at h4; omega
theorem ex_ok {b : Bool} {x R : Nat} (h : x = fw b R) (hf : R < infR) : ExOut b R (.returned (.tuple #[.float .f64 x, .bool true])) := ⟨x, true, rfl, fun _ => ⟨h, hf⟩⟩
theorem ex_no' {b : Bool} {x R : Nat} : ExOut b R (.returned (.tuple #[.float .f64 x, .bool false])) := ⟨x, false, rfl, fun h => by cases h⟩
set_option maxHeartbeats 2000000 in
set_option maxRecDepth 100000 in
theorem exact_any (neg : Bool) (d : Nat) (p : Int) (w : World) (hG : Gl w) (hd0 : 0 < d) (hd : d < 18446744073709551616) (hp1 : -100000 ≤ p) (hp2 : p ≤ 100000) :
    Calls Tryz.prog 101 #[.int .u64 (d : Int), .int .i64 p, .bool neg] w fun e w' => ExOut neg (rung (nN d p) (nD p)) e ∧ w = w' := by
  have hf0 := hG.fi0
  obtain ⟨P, o, c, hPw, h14, hc23, hP⟩ := hG.f10
  have HP := Hd.mk hP
  clear hP
  obtain ⟨R, hR⟩ : ∃ R, R = rung (nN d p) (nD p) := ⟨_, rfl⟩
  rw [← hR]
  have HR := Hd.mk hR
  clear hR
  by_cases h52 : d < 4503599627370496
  · have hsh : ((d : Int) / 4503599627370496 != 0) = false := by simp; omega
    obtain ⟨hv, hfin⟩ := int_exact (n := d) (by omega)
    have HV := Hd.mk (And.intro hv hfin)
    have hni := near_int d
    have hng := neg_run hfin
    obtain ⟨F, hF⟩ : ∃ F, F = rung d 1 := ⟨_, rfl⟩
    rw [← hF] at HV hni hng
    have HF := Hd.mk hF
    clear hF hv hfin
    go_enter Tryz.func101, Tryz.ntmps101
    go_upto_if 15 with (fail)
    go_outline
    go_cut [6] from 15 to 17 (fun v6 wc => v6 = .float .f64 (fw neg F) ∧ w = wc)
    case first =>
      cases neg
      case true =>
        go_wp2
        go_meet
        exact ⟨rfl, rfl⟩
      case false =>
        go_wp2
        go_meet
        exact ⟨rfl, rfl⟩
    case rest =>
      obtain ⟨rfl, rfl⟩ := hcut
      clear hni hng hsh
      by_cases hp0 : p = 0
      · obtain rfl := hp0
        have HRF : Hd (R = F) := ⟨by rw [HR.out, HF.out]; unfold nN nD; simp⟩
        go_wp2
        go_ret2
        exact ⟨ex_ok (by rw [HRF.out]) (by rw [HRF.out]; exact HV.out.2), rfl⟩
      · have hp0b : (p == 0) = false := by simp; exact hp0
        by_cases hpos : 0 < p
        · by_cases h37 : p ≤ 37
          · by_cases h22 : p ≤ 22
            · obtain ⟨k, rfl⟩ : ∃ k : Nat, p = (k : Int) := ⟨p.toNat, by omega⟩
              have hcl := pw10_at (k := k) (by omega)
              have hce := HP.out k (by omega)
              obtain ⟨c10, hc10⟩ : ∃ c, c = pw10.getD k 0 := ⟨_, rfl⟩
              rw [← hc10] at hcl hce
              have hfc : c10 = fw false c10 := (Nat.zero_add _).symm
              rw [hfc] at hce
              have hmul := mul_fw neg HV.out.2 hcl.2 HV.out.1 hcl.1 37
              have h22b : decide ((22 : Int) < (k : Int)) = false := decide_eq_false (by omega)
              have hk1 : (1 : Int) ≤ (k : Int) := by omega
              have hk23 : (k : Int) < 23 := by omega
              have HK : Hd (R = rung (d * 10 ^ k) 1 ∧ R < infR) := by
                refine ⟨?_⟩
                have e : R = rung (d * 10 ^ k) 1 := by rw [HR.out]; unfold nN nD; rw [Int.toNat_natCast, show (-(k : Int)).toNat = 0 by omega, Nat.pow_zero]
                refine ⟨e, ?_⟩
                rw [e]
                refine rung_fin (k := 128) Nat.one_pos (by omega) ?_
                have h1 : 10 ^ k ≤ 10 ^ 22 := Nat.pow_le_pow_right (by omega) (by omega)
                have h2 : d * 10 ^ k ≤ 4503599627370496 * 10 ^ 22 := Nat.mul_le_mul (by omega) h1
                omega
              clear hc10 hfc hcl h22 h37 hpos hp1 hp2 hp0
              cases hg1 : (FloatKind.f64.format.order (fw neg F) 4831355200913801216 == some Ordering.gt)
              · cases hg2 : (FloatKind.f64.format.order (fw neg F) 14054727237768577024 == some Ordering.lt)
                · go_wp2
                  go_ret2
                  exact ⟨ex_ok (by rw [HK.out.1]) HK.out.2, rfl⟩
                · go_wp2
                  go_ret2
                  exact ⟨ex_no', rfl⟩
              · go_wp2
                go_ret2
                exact ⟨ex_no', rfl⟩
            · obtain ⟨k, hk⟩ : ∃ k : Nat, p - 22 = (k : Int) := ⟨(p - 22).toNat, by omega⟩
              have hcl := pw10_at (k := k) (by omega)
              have hce := HP.out k (by omega)
              obtain ⟨c10, hc10⟩ : ∃ c, c = pw10.getD k 0 := ⟨_, rfl⟩
              rw [← hc10] at hcl hce
              have hfc : c10 = fw false c10 := (Nat.zero_add _).symm
              rw [hfc] at hce
              have hmul := mul_fw neg HV.out.2 hcl.2 HV.out.1 hcl.1 37
              have hcl2 := pw10_at (k := 22) (by omega)
              have hce2 := HP.out 22 (by omega)
              obtain ⟨c22, hc22⟩ : ∃ c, c = pw10.getD 22 0 := ⟨_, rfl⟩
              rw [← hc22] at hcl2 hce2
              have hfc2 : c22 = fw false c22 := (Nat.zero_add _).symm
              rw [hfc2] at hce2
              have hF1f : rung (d * 10 ^ k) 1 < infR := by
                refine rung_fin (k := 128) Nat.one_pos (by omega) ?_
                have h1 : 10 ^ k ≤ 10 ^ 22 := Nat.pow_le_pow_right (by omega) (by omega)
                have h2 : d * 10 ^ k ≤ 4503599627370496 * 10 ^ 22 := Nat.mul_le_mul (by omega) h1
                omega
              obtain ⟨F1, hF1⟩ : ∃ F1, F1 = rung (d * 10 ^ k) 1 := ⟨_, rfl⟩
              rw [← hF1] at hmul hF1f
              have h22b : decide ((22 : Int) < p) = true := decide_eq_true (by omega)
              have hk1 : (1 : Int) ≤ p := by omega
              have hk15 : (k : Int) < 23 := by omega
              have hk0 : (0 : Int) ≤ (k : Int) := by omega
              have HK : Hd (R = rung (d * 10 ^ k * 10 ^ 22) 1) := by
                refine ⟨?_⟩
                rw [HR.out]; unfold nN nD; rw [show p.toNat = k + 22 by omega, show (-p).toNat = 0 by omega, Nat.pow_zero, Nat.pow_add, Nat.mul_assoc]
              have HF1 := Hd.mk hF1
              have HCL2 := Hd.mk hcl2
              clear hc10 hfc hcl hc22 hfc2 hcl2 hF1 hp1 hp2 hp0 hpos
              cases hg1 : (FloatKind.f64.format.order (fw neg F1) 4831355200913801216 == some Ordering.gt)
              · cases hg2 : (FloatKind.f64.format.order (fw neg F1) 14054727237768577024 == some Ordering.lt)
                · have hle := tests_le neg hF1f hg1 hg2
                  rw [HF1.out] at hle
                  have hn := int_le15 hle
                  have hex := int_exact (n := d * 10 ^ k) (by omega)
                  rw [← HF1.out] at hex
                  have hmul2 := mul_fw neg hex.2 HCL2.out.2 hex.1 HCL2.out.1 37
                  have hfin : R < infR := by
                    rw [HK.out]
                    refine rung_fin (k := 200) Nat.one_pos (by omega) ?_
                    have : d * 10 ^ k * 10 ^ 22 ≤ 1000000000000000 * 10 ^ 22 := Nat.mul_le_mul_right _ hn
                    omega
                  have HFI := Hd.mk hfin
                  clear hle hn hex hfin
                  go_wp2
                  go_ret2
                  exact ⟨ex_ok (by rw [HK.out]) HFI.out, rfl⟩
                · go_wp2
                  go_ret2
                  exact ⟨ex_no', rfl⟩
              · go_wp2
                go_ret2
                exact ⟨ex_no', rfl⟩
          · have hb : decide (p ≤ 37) = false := decide_eq_false h37
            have hb2 : decide (p < 0) = false := decide_eq_false (by omega)
            go_wp2
            go_ret2
            exact ⟨ex_no', rfl⟩
        · have hb : decide (0 < p) = false := decide_eq_false hpos
          by_cases hm : -22 ≤ p
          · obtain ⟨k, hk⟩ : ∃ k : Nat, -p = (k : Int) := ⟨(-p).toNat, by omega⟩
            have hcl := pw10_at (k := k) (by omega)
            have hce := HP.out k (by omega)
            obtain ⟨c10, hc10⟩ : ∃ c, c = pw10.getD k 0 := ⟨_, rfl⟩
            rw [← hc10] at hcl hce
            have hfc : c10 = fw false c10 := (Nat.zero_add _).symm
            rw [hfc] at hce
            have hdiv := div_fw neg HV.out.2 hcl.2 hd0 (Nat.pow_pos (by omega)) HV.out.1 hcl.1 37
            have HK : Hd (R = rung d (10 ^ k) ∧ R < infR) := by
              refine ⟨?_⟩
              have e : R = rung d (10 ^ k) := by rw [HR.out]; unfold nN nD; rw [hk, Int.toNat_natCast, show p.toNat = 0 by omega, Nat.pow_zero, Nat.mul_one]
              refine ⟨e, ?_⟩
              rw [e]
              refine rung_fin (k := 60) (Nat.pow_pos (by omega)) (by omega) ?_
              have h1 : 1 ≤ 10 ^ k := Nat.pow_pos (by omega)
              have h2 : 2 ^ 60 * 1 ≤ 2 ^ 60 * 10 ^ k := Nat.mul_le_mul_left _ h1
              omega
            have hkl : (k : Int) < 23 := by omega
            have hk0 : (0 : Int) ≤ (k : Int) := by omega
            have hlt : decide (p < 0) = true := decide_eq_true (by omega)
            clear hc10 hfc hcl
            go_wp2
            go_ret2
            exact ⟨ex_ok (by rw [HK.out.1]) HK.out.2, rfl⟩
          · have hlt : decide (p < 0) = true := decide_eq_true (by omega)
            have hlt2 : decide (-22 ≤ p) = false := decide_eq_false hm
            go_wp2
            go_ret2
            exact ⟨ex_no', rfl⟩
  · have hsh : ((d : Int) / 4503599627370496 != 0) = true := by simp; omega
    go_enter Tryz.func101, Tryz.ntmps101
    go_wp2
    go_ret2
    exact ⟨⟨_, _, rfl, fun h => by cases h⟩, rfl⟩
end Go.Proofs.YtknjgopapbemcaaGreatDoor
